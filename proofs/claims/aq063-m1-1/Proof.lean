import JvmDerived
import JvmDerived.Pilot.@@N@@Statement
import JvmDerived.Pilot.@@N@@Code
set_option linter.unusedVariables false
set_option linter.unusedSimpArgs false

/- laws to paste: Road.backV, Road.chN, Road.codOf (cut by pick.py; bodies as the Statement names them) -/
namespace Jvm.Pilot.@@N@@
namespace StrChars
open Jvm Sem ClassFile Op Lib Jvm.Stand Jvm.Free.XT Jvm.Free.ALB Jvm.Free.JM Jvm.Free
open Jvm.Lib.Cold (StaticIs)
/-- a char array whose places are chars -/
def Ch (a : Addr) (A : Cell) (U : State) : Prop := Arr .char a A U ∧ Typed .char A
theorem Ch.mv {a : Addr} {A : Cell} {U U' : State} (h : Ch a A U) (hal : U.vm.Alike U'.vm) (hh : U'.heap = U.heap) : Ch a A U' := ⟨h.1.mv hal hh, h.2⟩
theorem Ch.keep {a : Addr} {A : Cell} {U U' : State} (h : Ch a A U) (hal : U.vm.Alike U'.vm) (hk : U'.heap[a]? = some A) : Ch a A U' := ⟨h.1.keep hal hk, h.2⟩
/-- what place i of a char[]'s cell holds -/
def cv (A : Cell) (i : Nat) : Int32 := match A.slots[i]? with | some (.int x) => x | _ => 0
theorem Ch.get {a : Addr} {A : Cell} {U : State} (h : Ch a A U) {i : Nat} (hi : i < A.slots.size) : A.slots[i]? = some (.int (cv A i)) := by
  have e := Array.getElem?_eq_getElem hi
  have f := h.2 i _ e
  unfold cv; rw [e]
  generalize A.slots[i] = v at f
  cases v <;> simp [fits] at f ⊢
/-- the byte that i2b leaves of a char -/
def lo8 (x : Int32) : Int32 := x.toInt8.toInt32
theorem fits_lo8 (y : Int32) : fits .byte (.int (lo8 y)) = true := by
  have h1 := y.toInt8.le_toInt
  have h2 := y.toInt8.toInt_lt
  simp only [lo8, fits, Bool.and_eq_true, decide_eq_true_eq, Int32.le_iff_toInt_le, Int8.toInt_toInt32, show (-128 : Int32).toInt = -128 from by decide, show (127 : Int32).toInt = 127 from by decide]
  omega
/-- A' is A but that each place j of lo .. hi - 1 holds f j -/
def Laid (A A' : Cell) (lo hi : Nat) (f : Nat → Value) : Prop := A'.cls = A.cls ∧ A'.vm = A.vm ∧ A'.slots.size = A.slots.size ∧ ∀ i, A'.slots[i]? = if lo ≤ i ∧ i < hi then some (f i) else A.slots[i]?
theorem Laid.zero (A : Cell) (lo : Nat) (f : Nat → Value) : Laid A A lo (lo + 0) f := ⟨rfl, rfl, rfl, fun i => by rw [if_neg (by omega)]⟩
theorem Laid.step {A Ak : Cell} {lo k : Nat} {f : Nat → Value} {v : Value} (h : Laid A Ak lo k f) (hlo : lo ≤ k) (hk : k < Ak.slots.size) (hv : v = f k) : Laid A (Ak.setSlot k v) lo (k + 1) f := by
  refine ⟨h.1, h.2.1, by simpa [Cell.setSlot] using h.2.2.1, fun i => ?_⟩
  by_cases e : k = i
  · subst e; rw [Cell.slots_setSlot_self v hk, if_pos (by omega), hv]
  · rw [Cell.slots_setSlot_ne v e, h.2.2.2 i]
    by_cases q : lo ≤ i ∧ i < k
    · rw [if_pos q, if_pos (by omega)]
    · rw [if_neg q, if_neg (by omega)]
def U16 : String := "java/lang/StringUTF16"
namespace Cmp5
def yN : MethodName := ⟨"java/lang/StringUTF16", "compress", "([CI[BII)I"⟩
abbrev yB : ByteArray := jdk_52_method_21_code
theorem d0 : decode yB 0 = .ok (.iconst 0, 1) := by decide +kernel
theorem d1 : decode yB 1 = .ok (.istore 5, 2) := by decide +kernel
theorem d3 : decode yB 3 = .ok (.iload 5, 2) := by decide +kernel
theorem d5 : decode yB 5 = .ok (.iload 4, 2) := by decide +kernel
theorem d7 : decode yB 7 = .ok (.if_icmp (.ge) 37, 3) := by decide +kernel
theorem d10 : decode yB 10 = .ok (.aload_n 0, 1) := by decide +kernel
theorem d11 : decode yB 11 = .ok (.iload_n 1, 1) := by decide +kernel
theorem d12 : decode yB 12 = .ok (.caload, 1) := by decide +kernel
theorem d13 : decode yB 13 = .ok (.istore 6, 2) := by decide +kernel
theorem d15 : decode yB 15 = .ok (.iload 6, 2) := by decide +kernel
theorem d17 : decode yB 17 = .ok (.sipush 255, 3) := by decide +kernel
theorem d20 : decode yB 20 = .ok (.if_icmp (.le) 6, 3) := by decide +kernel
theorem d26 : decode yB 26 = .ok (.aload_n 2, 1) := by decide +kernel
theorem d27 : decode yB 27 = .ok (.iload_n 3, 1) := by decide +kernel
theorem d28 : decode yB 28 = .ok (.iload 6, 2) := by decide +kernel
theorem d30 : decode yB 30 = .ok (.i2b, 1) := by decide +kernel
theorem d31 : decode yB 31 = .ok (.bastore, 1) := by decide +kernel
theorem d32 : decode yB 32 = .ok (.iinc 1 1, 3) := by decide +kernel
theorem d35 : decode yB 35 = .ok (.iinc 3 1, 3) := by decide +kernel
theorem d38 : decode yB 38 = .ok (.iinc 5 1, 3) := by decide +kernel
theorem d41 : decode yB 41 = .ok (.goto (-38), 3) := by decide +kernel
theorem d44 : decode yB 44 = .ok (.iload 4, 2) := by decide +kernel
theorem d46 : decode yB 46 = .ok (.ireturn, 1) := by decide +kernel
def site : List Cond := []
def tab : Cond := tabOf yN yB 7 (some .int) site
def P (b : Addr) (A : Cell) (d : Addr) (B : Cell) (o q len : Nat) (args : Array Value) (s : State) : Prop := args = #[.ref b, .int (Int32.ofNat o), .ref d, .int (Int32.ofNat q), .int (Int32.ofNat len)] ∧ Ch b A s ∧ Arr .byte d B s ∧ b ≠ d ∧ o + len ≤ A.slots.size ∧ q + len ≤ B.slots.size ∧ ∀ i, i < len → ¬ 255 < cv A (o + i)
def E (b : Addr) (A : Cell) (d : Addr) (B : Cell) (o q len : Nat) (r : Option Value) (s u : State) : Prop := r = some (.int (Int32.ofNat len)) ∧ ∃ B', Put d B' s u ∧ Laid B B' q (q + len) (fun j => Value.int (lo8 (cv A (o + (j - q)))))
/-- no char of the range above 255: len; the places written hold each char's low byte -/
theorem law (l : Launch) (b : Addr) (A : Cell) (d : Addr) (B : Cell) (o q len : Nat) : Law l yN 5 5 0 0 yB 7 (some .int) site (P b A d B o q len) (E b A d B o q len) (copyLocs d q len) 0 0 := by
  refine Law.of_walk (plainFor_of_name (by decide +kernel)) (by decide +kernel) (by decide +kernel) (by decide) (fun _ _ h => by rw [h.1]; rfl) (fun _ U U' hal hh h => ⟨h.1, h.2.1.mv hal hh, h.2.2.1.mv hal hh, h.2.2.2⟩) (fun r U U' V V' h1 hal h2 h => ⟨h.1, h.2.elim fun B' q => ⟨B', q.1.mv h1 h2, q.2⟩⟩) ?_
  intro p e s m args below meth c s₁ X0 hexec hbytes hml hret hlk hnm hown hh0 W hP
  obtain ⟨rfl, hA, hB, hne, l1, l2, hp⟩ := hP
  have c1 : Steps p.tables e below (s₁.setTop (entryFrame m #[.ref b, .int (Int32.ofNat o), .ref d, .int (Int32.ofNat q), .int (Int32.ofNat len)] 7)) (s₁.setTop (mkF m 0 #[.val (.ref b), .val (.int (Int32.ofNat o)), .val (.ref d), .val (.int (Int32.ofNat q)), .val (.int (Int32.ofNat len)), .unset, .unset] [])) := entry rfl
  have hA0 := hA.1.mv X0.warmed.alike hh0
  have hB0 := hB.mv X0.warmed.alike hh0
  have a31 := hA.1.2.2.2
  have c2 : Steps p.tables e below (s₁.setTop (entryFrame m #[.ref b, .int (Int32.ofNat o), .ref d, .int (Int32.ofNat q), .int (Int32.ofNat len)] 7)) (s₁.setTop (mkF m 3 #[.val (.ref b), .val (.int (Int32.ofNat o)), .val (.ref d), .val (.int (Int32.ofNat q)), .val (.int (Int32.ofNat len)), .val (.int 0), .unset] [])) := c1.trans (by
    refine iconstV X0.here hexec rfl 0 (hb hbytes d0) (by decide) ?_
    refine XS.istore X0.here hexec rfl (hb hbytes d1) rfl rfl ?_
    exact Steps.refl _)
  have loop : ∀ (r i : Nat), i + r = len → ∀ (z : Slot), (z = .unset ∨ ∃ w, z = .val w ∧ w.category = 1) → ∀ (Tl : State) (Bk : Cell), Stand p l e { frames := 0, locals := 0, cells := 0, slots := 0 } s m #[.ref b, .int (Int32.ofNat o), .ref d, .int (Int32.ofNat q), .int (Int32.ofNat len)] below meth c Tl ([] ++ copyLocs d q i) 0 0 → Put d Bk s₁ Tl → Laid B Bk q (q + i) (fun j => Value.int (lo8 (cv A (o + (j - q))))) →
      Steps p.tables e below (s₁.setTop (entryFrame m #[.ref b, .int (Int32.ofNat o), .ref d, .int (Int32.ofNat q), .int (Int32.ofNat len)] 7)) (Tl.setTop (mkF m 3 #[.val (.ref b), .val (.int (Int32.ofNat (o + i))), .val (.ref d), .val (.int (Int32.ofNat (q + i))), .val (.int (Int32.ofNat len)), .val (.int (Int32.ofNat i)), z] [])) → ∃ (T' : State) (B' : Cell) (z' : Slot), Stand p l e { frames := 0, locals := 0, cells := 0, slots := 0 } s m #[.ref b, .int (Int32.ofNat o), .ref d, .int (Int32.ofNat q), .int (Int32.ofNat len)] below meth c T' ([] ++ copyLocs d q len) 0 0 ∧ Put d B' s₁ T' ∧ Laid B B' q (q + len) (fun j => Value.int (lo8 (cv A (o + (j - q))))) ∧
      Steps p.tables e below (s₁.setTop (entryFrame m #[.ref b, .int (Int32.ofNat o), .ref d, .int (Int32.ofNat q), .int (Int32.ofNat len)] 7)) (T'.setTop (mkF m 3 #[.val (.ref b), .val (.int (Int32.ofNat (o + len))), .val (.ref d), .val (.int (Int32.ofNat (q + len))), .val (.int (Int32.ofNat len)), .val (.int (Int32.ofNat len)), z'] [])) := by
    intro r
    induction r with
    | zero =>
      intro i hi z hz Tl Bk Xl pl fl cl
      have hil : i = len := by omega
      rw [hil] at Xl fl cl
      exact ⟨Tl, Bk, z, Xl, pl, fl, cl⟩
    | succ r ih =>
      intro i hi z hz Tl Bk Xl pl fl cl
      have all := X0.warmed.alike.symm.trans Xl.warmed.alike
      have hAl := hA0.keep all (pl.other hne hA0.1)
      have hBk := hB0.like all pl.1 fl.1 fl.2.1 fl.2.2.1
      have hlt : q + i < Bk.slots.size := by rw [fl.2.2.1]; omega
      have c3 : Steps p.tables e below (s₁.setTop (entryFrame m #[.ref b, .int (Int32.ofNat o), .ref d, .int (Int32.ofNat q), .int (Int32.ofNat len)] 7)) (Tl.setTop (mkF m 12 #[.val (.ref b), .val (.int (Int32.ofNat (o + i))), .val (.ref d), .val (.int (Int32.ofNat (q + i))), .val (.int (Int32.ofNat len)), .val (.int (Int32.ofNat i)), z] [.int (Int32.ofNat (o + i)), .ref b])) := cl.trans (by
        refine XS.iload Xl.here hexec rfl (hb hbytes d3) rfl ?_
        refine XS.iload Xl.here hexec rfl (hb hbytes d5) rfl ?_
        refine XS.icmpNo Xl.here hexec rfl (hb hbytes d7) rfl (ii_ge_f (lt32 (by omega) (by omega))) ?_
        refine XS.aloadN Xl.here hexec rfl (hb hbytes d10) rfl rfl ?_
        refine XS.iloadN Xl.here hexec rfl (hb hbytes d11) rfl ?_
        exact Steps.refl _)
      have c4 : Steps p.tables e below (s₁.setTop (entryFrame m #[.ref b, .int (Int32.ofNat o), .ref d, .int (Int32.ofNat q), .int (Int32.ofNat len)] 7)) (Tl.setTop (mkF m 13 #[.val (.ref b), .val (.int (Int32.ofNat (o + i))), .val (.ref d), .val (.int (Int32.ofNat (q + i))), .val (.int (Int32.ofNat len)), .val (.int (Int32.ofNat i)), z] [.int (cv A (o + i))])) := c3.trans (by
        refine Xl.aget hexec hAl rfl (hA.get (i := o + i) (by omega)) rfl rfl (hb hbytes d12) ?_
        exact Steps.refl _)
      have c5 : Steps p.tables e below (s₁.setTop (entryFrame m #[.ref b, .int (Int32.ofNat o), .ref d, .int (Int32.ofNat q), .int (Int32.ofNat len)] 7)) (Tl.setTop (mkF m 15 #[.val (.ref b), .val (.int (Int32.ofNat (o + i))), .val (.ref d), .val (.int (Int32.ofNat (q + i))), .val (.int (Int32.ofNat len)), .val (.int (Int32.ofNat i)), .val (.int (cv A (o + i)))] [])) := c4.trans (by
        refine XS.istoreS Xl.here hexec rfl (hb hbytes d13) rfl rfl hz ?_
        exact Steps.refl _)
      have c6 : Steps p.tables e below (s₁.setTop (entryFrame m #[.ref b, .int (Int32.ofNat o), .ref d, .int (Int32.ofNat q), .int (Int32.ofNat len)] 7)) (Tl.setTop (mkF m 31 #[.val (.ref b), .val (.int (Int32.ofNat (o + i))), .val (.ref d), .val (.int (Int32.ofNat (q + i))), .val (.int (Int32.ofNat len)), .val (.int (Int32.ofNat i)), .val (.int (cv A (o + i)))] [.int (lo8 (cv A (o + i))), .int (Int32.ofNat (q + i)), .ref d])) := c5.trans (by
        refine XS.iload Xl.here hexec rfl (hb hbytes d15) rfl ?_
        refine sipushV Xl.here hexec rfl 255 (hb hbytes d17) (by decide) ?_
        refine XS.icmpYes Xl.here hexec rfl (pc0 := 20) rfl (hb hbytes d20) rfl (ii_le_t (hp i (by omega))) (by decide) rfl ?_
        refine XS.aloadN Xl.here hexec rfl (hb hbytes d26) rfl rfl ?_
        refine XS.iloadN Xl.here hexec rfl (hb hbytes d27) rfl ?_
        refine XS.iload Xl.here hexec rfl (hb hbytes d28) rfl ?_
        refine i2b Xl.here hexec rfl (hb hbytes d30) rfl ?_
        exact Steps.refl _)
      obtain ⟨T7, X7, p7, st7⟩ := Xl.aput hexec hBk rfl hlt rfl (fits_lo8 (cv A (o + i))) (g := (mkF m 31 #[.val (.ref b), .val (.int (Int32.ofNat (o + i))), .val (.ref d), .val (.int (Int32.ofNat (q + i))), .val (.int (Int32.ofNat len)), .val (.int (Int32.ofNat i)), .val (.int (cv A (o + i)))] [.int (lo8 (cv A (o + i))), .int (Int32.ofNat (q + i)), .ref d])) rfl (rest := []) rfl (hb hbytes d31)
      have c8 : Steps p.tables e below (s₁.setTop (entryFrame m #[.ref b, .int (Int32.ofNat o), .ref d, .int (Int32.ofNat q), .int (Int32.ofNat len)] 7)) (T7.setTop (mkF m 32 #[.val (.ref b), .val (.int (Int32.ofNat (o + i))), .val (.ref d), .val (.int (Int32.ofNat (q + i))), .val (.int (Int32.ofNat len)), .val (.int (Int32.ofNat i)), .val (.int (cv A (o + i)))] [])) := c6.trans (st7 _ (Steps.refl _))
      have c9 : Steps p.tables e below (s₁.setTop (entryFrame m #[.ref b, .int (Int32.ofNat o), .ref d, .int (Int32.ofNat q), .int (Int32.ofNat len)] 7)) (T7.setTop (mkF m 3 #[.val (.ref b), .val (.int (Int32.ofNat (o + i) + 1)), .val (.ref d), .val (.int (Int32.ofNat (q + i) + 1)), .val (.int (Int32.ofNat len)), .val (.int (Int32.ofNat i + 1)), .val (.int (cv A (o + i)))] [])) := c8.trans (by
        refine iincV X7.here hexec rfl 1 (hb hbytes d32) (by decide) rfl rfl ?_
        refine iincV X7.here hexec rfl 1 (hb hbytes d35) (by decide) rfl rfl ?_
        refine iincV X7.here hexec rfl 1 (hb hbytes d38) (by decide) rfl rfl ?_
        refine XS.goto X7.here hexec rfl (pc0 := 41) rfl (hb hbytes d41) (by decide) rfl ?_
        exact Steps.refl _)
      have c10 : Steps p.tables e below (s₁.setTop (entryFrame m #[.ref b, .int (Int32.ofNat o), .ref d, .int (Int32.ofNat q), .int (Int32.ofNat len)] 7)) (T7.setTop (mkF m 3 #[.val (.ref b), .val (.int (Int32.ofNat (o + (i + 1)))), .val (.ref d), .val (.int (Int32.ofNat (q + (i + 1)))), .val (.int (Int32.ofNat len)), .val (.int (Int32.ofNat (i + 1))), .val (.int (cv A (o + i)))] [])) := by
        have := c9
        rw [succ32, succ32, succ32] at this
        exact this
      exact ih (i + 1) (by omega) _ (Or.inr ⟨_, rfl, rfl⟩) T7 _ (by rw [copyLocs_step, ← List.append_assoc]; exact X7) (pl.trans p7) (fl.step (by omega) hlt (by simp)) c10
  obtain ⟨T9, B9, z9, X9, p9, f9, g9⟩ := loop len 0 (by omega) .unset (Or.inl rfl) s₁ B (by simpa [copyLocs] using X0) ⟨hB0.1, fun _ _ => rfl, rfl⟩ (Laid.zero _ _ _) c2
  have c11 : Steps p.tables e below (s₁.setTop (entryFrame m #[.ref b, .int (Int32.ofNat o), .ref d, .int (Int32.ofNat q), .int (Int32.ofNat len)] 7)) (T9.setTop (mkF m 46 #[.val (.ref b), .val (.int (Int32.ofNat (o + len))), .val (.ref d), .val (.int (Int32.ofNat (q + len))), .val (.int (Int32.ofNat len)), .val (.int (Int32.ofNat len)), z9] [.int (Int32.ofNat len)])) := g9.trans (by
    refine XS.iload X9.here hexec rfl (hb hbytes d3) rfl ?_
    refine XS.iload X9.here hexec rfl (hb hbytes d5) rfl ?_
    refine XS.icmpYes X9.here hexec rfl (pc0 := 7) rfl (hb hbytes d7) rfl (ii_ge_t (nlt32 (by omega) (Nat.le_refl _))) (by decide) rfl ?_
    refine XS.iload X9.here hexec rfl (hb hbytes d44) rfl ?_
    exact Steps.refl _)
  exact ⟨T9, some (.int (Int32.ofNat len)), _, _, _, X9, by simp, rfl, rfl, (fun h => by cases h), ⟨rfl, B9, p9.from hh0, f9⟩, fun fs hl => c11.trans (X9.ireturnOut hexec hret rfl (Or.inl rfl) (hb hbytes d46) hl)⟩
end Cmp5
namespace Cmp3
def yN : MethodName := ⟨"java/lang/StringUTF16", "compress", "([CII)[B"⟩
abbrev yB : ByteArray := jdk_52_method_16_code
theorem d0 : decode yB 0 = .ok (.iload_n 2, 1) := by decide +kernel
theorem d1 : decode yB 1 = .ok (.newarray .byte, 2) := by decide +kernel
theorem d3 : decode yB 3 = .ok (.astore_n 3, 1) := by decide +kernel
theorem d4 : decode yB 4 = .ok (.aload_n 0, 1) := by decide +kernel
theorem d5 : decode yB 5 = .ok (.iload_n 1, 1) := by decide +kernel
theorem d6 : decode yB 6 = .ok (.aload_n 3, 1) := by decide +kernel
theorem d7 : decode yB 7 = .ok (.iconst 0, 1) := by decide +kernel
theorem d8 : decode yB 8 = .ok (.iload_n 2, 1) := by decide +kernel
theorem d9 : decode yB 9 = .ok (.invokestatic 115, 3) := by decide +kernel
theorem d12 : decode yB 12 = .ok (.istore 4, 2) := by decide +kernel
theorem d14 : decode yB 14 = .ok (.iload 4, 2) := by decide +kernel
theorem d16 : decode yB 16 = .ok (.iload_n 2, 1) := by decide +kernel
theorem d17 : decode yB 17 = .ok (.if_icmp (.eq) 40, 3) := by decide +kernel
theorem d57 : decode yB 57 = .ok (.aload_n 3, 1) := by decide +kernel
theorem d58 : decode yB 58 = .ok (.areturn, 1) := by decide +kernel
def site : List Cond := [.arrayClass .byte, Cmp5.tab] ++ staticW U16 115 Cmp5.yN
def tab : Cond := tabOf yN yB 6 (some (.array .byte)) site
def P (b : Addr) (A : Cell) (o len : Nat) (args : Array Value) (s : State) : Prop := args = #[.ref b, .int (Int32.ofNat o), .int (Int32.ofNat len)] ∧ Ch b A s ∧ o + len ≤ A.slots.size ∧ len ≤ 536870912 ∧ ∀ i, i < len → ¬ 255 < cv A (o + i)
def E (b : Addr) (A : Cell) (o len : Nat) (r : Option Value) (s u : State) : Prop := NewArr .byte "[B" len (fun j => .int (lo8 (cv A (o + j)))) r s u ∧ u.heap.size = s.heap.size + 1
/-- no char of the range above 255: a new byte[] of their low bytes -/
theorem law (l : Launch) (b : Addr) (A : Cell) (o len : Nat) : Law l yN 3 3 1 18 yB 6 (some (.array .byte)) site (P b A o len) (E b A o len) [] 1 len := by
  refine Law.of_walk (plainFor_of_name (by decide +kernel)) (by decide +kernel) (by decide +kernel) (by decide) (fun _ _ h => by rw [h.1]; rfl) (fun _ U U' hal hh h => ⟨h.1, h.2.1.mv hal hh, h.2.2⟩) (fun r U U' V V' h1 hal h2 h => ⟨NewArr.mv r U U' V V' h1 hal h2 h.1, by rw [h1, h2]; exact h.2⟩) ?_
  intro p e s m args below meth c s₁ X0 hexec hbytes hml hret hlk hnm hown hh0 W hP
  obtain ⟨rfl, hA, l1, l2, hp⟩ := hP
  have a31 := hA.1.2.2.2
  have c1 : Steps p.tables e below (s₁.setTop (entryFrame m #[.ref b, .int (Int32.ofNat o), .int (Int32.ofNat len)] 6)) (s₁.setTop (mkF m 0 #[.val (.ref b), .val (.int (Int32.ofNat o)), .val (.int (Int32.ofNat len)), .unset, .unset, .unset] [])) := entry rfl
  have c2 : Steps p.tables e below (s₁.setTop (entryFrame m #[.ref b, .int (Int32.ofNat o), .int (Int32.ofNat len)] 6)) (s₁.setTop (mkF m 1 #[.val (.ref b), .val (.int (Int32.ofNat o)), .val (.int (Int32.ofNat len)), .unset, .unset, .unset] [.int (Int32.ofNat len)])) := c1.trans (by
    refine XS.iloadN X0.here hexec rfl (hb hbytes d0) rfl ?_
    exact Steps.refl _)
  obtain ⟨T3, B3, X3, ba3, bs3, bv3, bh3, bf3, st3⟩ := X0.anew hexec (atype := .byte) (wk W (.arrayClass .byte)) rfl (by show len * 1 ≤ _; omega) (by omega) (g := (mkF m 1 #[.val (.ref b), .val (.int (Int32.ofNat o)), .val (.int (Int32.ofNat len)), .unset, .unset, .unset] [.int (Int32.ofNat len)])) rfl (hb hbytes d1) (rest := []) rfl (Nat.le_refl _) (by show 0 + len ≤ len; omega)
  rw [hh0] at ba3 st3
  have kp3 : XT.Kept s T3 := (XT.Kept.of_eq hh0).push bh3
  have hA3 := hA.keep X3.warmed.alike (kp3 _ _ hA.1.1)
  have hne : b ≠ s.heap.size := hA.1.ne
  have c4 : Steps p.tables e below (s₁.setTop (entryFrame m #[.ref b, .int (Int32.ofNat o), .int (Int32.ofNat len)] 6)) (T3.setTop (mkF m 3 #[.val (.ref b), .val (.int (Int32.ofNat o)), .val (.int (Int32.ofNat len)), .unset, .unset, .unset] [.ref s.heap.size])) := c2.trans (st3 _ (Steps.refl _))
  have c5 : Steps p.tables e below (s₁.setTop (entryFrame m #[.ref b, .int (Int32.ofNat o), .int (Int32.ofNat len)] 6)) (T3.setTop (mkF m 9 #[.val (.ref b), .val (.int (Int32.ofNat o)), .val (.int (Int32.ofNat len)), .val (.ref s.heap.size), .unset, .unset] [.int (Int32.ofNat len), .int 0, .ref s.heap.size, .int (Int32.ofNat o), .ref b])) := c4.trans (by
    refine XS.astoreN X3.here hexec rfl (hb hbytes d3) rfl rfl rfl ?_
    refine XS.aloadN X3.here hexec rfl (hb hbytes d4) rfl rfl ?_
    refine XS.iloadN X3.here hexec rfl (hb hbytes d5) rfl ?_
    refine XS.aloadN X3.here hexec rfl (hb hbytes d6) rfl rfl ?_
    refine iconstV X3.here hexec rfl 0 (hb hbytes d7) (by decide) ?_
    refine XS.iloadN X3.here hexec rfl (hb hbytes d8) rfl ?_
    exact Steps.refl _)
  obtain ⟨v6, T6, X6, E6, g6⟩ := X3.callS hexec (Cmp5.law l b A s.heap.size B3 o 0 len) hown (wks W (staticW U16 115 Cmp5.yN)) (wk W Cmp5.tab) (W := 0) (Nat.le_of_ble_eq_true rfl) (Nat.le_of_ble_eq_true rfl) (Nat.le_refl _) (by show 0 + len + 0 ≤ len; omega) (g := (mkF m 9 #[.val (.ref b), .val (.int (Int32.ofNat o)), .val (.int (Int32.ofNat len)), .val (.ref s.heap.size), .unset, .unset] [.int (Int32.ofNat len), .int (Int32.ofNat 0), .ref s.heap.size, .int (Int32.ofNat o), .ref b])) rfl (by rw [hml]; rfl) c5 (argsL := [.ref b, .int (Int32.ofNat o), .ref s.heap.size, .int (Int32.ofNat 0), .int (Int32.ofNat len)]) (rest := []) rfl rfl (by show 2 * 0 + 0 ≤ _; decide) (hb hbytes d9) (⟨rfl, hA3, ba3, hne, l1, by rw [bs3]; simp, hp⟩)
  obtain ⟨rfl, B6, p6, f6⟩ := E6
  have c7 : Steps p.tables e below (s₁.setTop (entryFrame m #[.ref b, .int (Int32.ofNat o), .int (Int32.ofNat len)] 6)) (T6.setTop (mkF m 12 #[.val (.ref b), .val (.int (Int32.ofNat o)), .val (.int (Int32.ofNat len)), .val (.ref s.heap.size), .unset, .unset] [.int (Int32.ofNat len)])) := g6
  have c8 : Steps p.tables e below (s₁.setTop (entryFrame m #[.ref b, .int (Int32.ofNat o), .int (Int32.ofNat len)] 6)) (T6.setTop (mkF m 58 #[.val (.ref b), .val (.int (Int32.ofNat o)), .val (.int (Int32.ofNat len)), .val (.ref s.heap.size), .val (.int (Int32.ofNat len)), .unset] [.ref s.heap.size])) := c7.trans (by
    refine XS.istore X6.here hexec rfl (hb hbytes d12) rfl rfl ?_
    refine XS.iload X6.here hexec rfl (hb hbytes d14) rfl ?_
    refine XS.iloadN X6.here hexec rfl (hb hbytes d16) rfl ?_
    refine XS.icmpYes X6.here hexec rfl (pc0 := 17) rfl (hb hbytes d17) rfl (ii_eq_t rfl) (by decide) rfl ?_
    refine XS.aloadN X6.here hexec rfl (hb hbytes d57) rfl rfl ?_
    exact Steps.refl _)
  have X8 := X6.wide (L' := []) (cells' := 1) (slots' := len) (fun x hx hlt => by
    simp only [List.nil_append, copyLocs, List.mem_map, List.mem_range] at hx
    obtain ⟨i, -, rfl⟩ := hx
    exact absurd hlt (Nat.lt_irrefl _)) (Nat.le_refl _) (by omega)
  exact ⟨T6, some (.ref s.heap.size), _, _, _, X8, rfl, rfl, rfl, (fun h => by cases h), ⟨⟨rfl, B6, ba3.like (X3.warmed.alike.symm.trans X6.warmed.alike) p6.1 f6.1 f6.2.1 f6.2.2.1, f6.2.1.trans bv3, by rw [X6.warmed.alike.findClass, f6.1]; exact bf3, by rw [f6.2.2.1, bs3]; simp, fun j hj => by rw [f6.2.2.2 j, if_pos (by omega)]; rfl, kp3.put p6 (Nat.le_refl _)⟩, by rw [p6.2.2, bh3, hh0]; simp⟩, fun fs hl => c8.trans (X8.areturnOut hexec rfl hret rfl (hb hbytes d58) hl)⟩
end Cmp3
namespace CodL
def yN : MethodName := ⟨"java/lang/StringUTF16", "coderFromArrayLen", "([BI)B"⟩
abbrev yB : ByteArray := jdk_52_method_15_code
theorem d0 : decode yB 0 = .ok (.iload_n 1, 1) := by decide +kernel
theorem d1 : decode yB 1 = .ok (.aload_n 0, 1) := by decide +kernel
theorem d2 : decode yB 2 = .ok (.arraylength, 1) := by decide +kernel
theorem d3 : decode yB 3 = .ok (.isub, 1) := by decide +kernel
theorem d4 : decode yB 4 = .ok (.bipush 31, 2) := by decide +kernel
theorem d6 : decode yB 6 = .ok (.iushr, 1) := by decide +kernel
theorem d7 : decode yB 7 = .ok (.i2b, 1) := by decide +kernel
theorem d8 : decode yB 8 = .ok (.ireturn, 1) := by decide +kernel
def site : List Cond := []
def tab : Cond := tabOf yN yB 2 (some .byte) site
def P (d : Addr) (B : Cell) (args : Array Value) (s : State) : Prop := args = #[.ref d, .int (Int32.ofNat B.slots.size)] ∧ Arr .byte d B s
def E (r : Option Value) (s u : State) : Prop := XT.PureE (some (.int 0)) r s u
/-- an array as long as the number of chars: LATIN1 -/
theorem law (l : Launch) (d : Addr) (B : Cell) : Law l yN 2 2 0 0 yB 2 (some .byte) site (P d B) E [] 0 0 := by
  refine Law.of_walk (plainFor_of_name (by decide +kernel)) (by decide +kernel) (by decide +kernel) (by decide) (fun _ _ h => by rw [h.1]; rfl) (fun _ U U' hal hh h => ⟨h.1, h.2.mv hal hh⟩) (fun r U U' V V' h1 hal h2 h => XT.PureE.mv r U U' V V' h1 hal h2 h) ?_
  intro p e s m args below meth c s₁ X0 hexec hbytes hml hret hlk hnm hown hh0 W hP
  obtain ⟨rfl, hB⟩ := hP
  have hB0 := hB.mv X0.warmed.alike hh0
  have c1 : Steps p.tables e below (s₁.setTop (entryFrame m #[.ref d, .int (Int32.ofNat B.slots.size)] 2)) (s₁.setTop (mkF m 0 #[.val (.ref d), .val (.int (Int32.ofNat B.slots.size))] [])) := entry rfl
  have c2 : Steps p.tables e below (s₁.setTop (entryFrame m #[.ref d, .int (Int32.ofNat B.slots.size)] 2)) (s₁.setTop (mkF m 2 #[.val (.ref d), .val (.int (Int32.ofNat B.slots.size))] [.ref d, .int (Int32.ofNat B.slots.size)])) := c1.trans (by
    refine XS.iloadN X0.here hexec rfl (hb hbytes d0) rfl ?_
    refine XS.aloadN X0.here hexec rfl (hb hbytes d1) rfl rfl ?_
    exact Steps.refl _)
  have c3 : Steps p.tables e below (s₁.setTop (entryFrame m #[.ref d, .int (Int32.ofNat B.slots.size)] 2)) (s₁.setTop (mkF m 8 #[.val (.ref d), .val (.int (Int32.ofNat B.slots.size))] [.int (lo8 (ushr (Int32.ofNat B.slots.size - Int32.ofNat B.slots.size) 31))])) := c2.trans (by
    refine X0.alen hexec hB0 rfl rfl (hb hbytes d2) ?_
    refine XS.isub X0.here hexec rfl (hb hbytes d3) rfl ?_
    refine bipushV X0.here hexec rfl 31 (hb hbytes d4) (by decide) ?_
    refine iushr X0.here hexec rfl (hb hbytes d6) rfl ?_
    refine i2b X0.here hexec rfl (hb hbytes d7) rfl ?_
    exact Steps.refl _)
  have e0 : lo8 (ushr (Int32.ofNat B.slots.size - Int32.ofNat B.slots.size) 31) = 0 := by rw [Int32.sub_self]; decide
  rw [e0] at c3
  exact ⟨s₁, some (.int 0), _, _, _, X0, rfl, rfl, rfl, (fun h => by cases h), ⟨rfl, hh0⟩, fun fs hl => c3.trans (X0.ireturnOut hexec hret rfl (Or.inr (Or.inr (Or.inl rfl))) (hb hbytes d8) hl)⟩
end CodL
/-- the String at a is Latin-1 over a new byte[] (the heap's one new cell): the low bytes of the len chars of A from o on; every cell but a is kept -/
def Got (a : Addr) (D : Cell) (fV fC : Field) (A : Cell) (o len : Nat) (r : Option Value) (s u : State) : Prop := r = none ∧ ∃ D' V : Cell, Blank "java/lang/String" a D' u ∧ Same D D' [fV.slot, fC.slot] ∧ D'.slots[fV.slot]? = some (.ref s.heap.size) ∧ D'.slots[fC.slot]? = some (.int 0) ∧ Arr .byte s.heap.size V u ∧ V.vm = .none ∧ u.vm.findClass "[B" = some V.cls ∧ V.slots.size = len ∧ (∀ j, j < len → V.slots[j]? = some (.int (lo8 (cv A (o + j))))) ∧ (∀ (y : Addr) (c : Cell), y ≠ a → s.heap[y]? = some c → u.heap[y]? = some c) ∧ u.heap.size = s.heap.size + 1
theorem Got.mv {a : Addr} {D A : Cell} {fV fC : Field} {o len : Nat} : ∀ r (U U' V V' : State), U'.heap = U.heap → V.vm.Alike V'.vm → V'.heap = V.heap → Got a D fV fC A o len r U V → Got a D fV fC A o len r U' V' :=
  fun r U U' V V' h1 hal h2 ⟨e0, D', X, a1, a2, a3, a4, a5, a6, a7, a8, a9, a10, a11⟩ => ⟨e0, D', X, a1.mv hal h2, a2, by rw [h1]; exact a3, a4, by rw [h1]; exact a5.mv hal h2, a6, by rw [hal.findClass]; exact a7, a8, a9, by rw [h1, h2]; exact a10, by rw [h1, h2]; exact a11⟩
namespace New4
def yN : MethodName := ⟨"java/lang/String", "<init>", "([CIILjava/lang/Void;)V"⟩
abbrev yB : ByteArray := jdk_42_method_149_code
theorem d0 : decode yB 0 = .ok (.aload_n 0, 1) := by decide +kernel
theorem d1 : decode yB 1 = .ok (.invokespecial 1, 3) := by decide +kernel
theorem d4 : decode yB 4 = .ok (.iload_n 3, 1) := by decide +kernel
theorem d5 : decode yB 5 = .ok (.ifCond (.ne) 22, 3) := by decide +kernel
theorem d27 : decode yB 27 = .ok (.getstatic 38, 3) := by decide +kernel
theorem d30 : decode yB 30 = .ok (.ifCond (.eq) 28, 3) := by decide +kernel
theorem d33 : decode yB 33 = .ok (.aload_n 1, 1) := by decide +kernel
theorem d34 : decode yB 34 = .ok (.iload_n 2, 1) := by decide +kernel
theorem d35 : decode yB 35 = .ok (.iload_n 3, 1) := by decide +kernel
theorem d36 : decode yB 36 = .ok (.invokestatic 177, 3) := by decide +kernel
theorem d39 : decode yB 39 = .ok (.astore 5, 2) := by decide +kernel
theorem d41 : decode yB 41 = .ok (.aload_n 0, 1) := by decide +kernel
theorem d42 : decode yB 42 = .ok (.aload 5, 2) := by decide +kernel
theorem d44 : decode yB 44 = .ok (.iload_n 3, 1) := by decide +kernel
theorem d45 : decode yB 45 = .ok (.invokestatic 47, 3) := by decide +kernel
theorem d48 : decode yB 48 = .ok (.putfield 15, 3) := by decide +kernel
theorem d51 : decode yB 51 = .ok (.aload_n 0, 1) := by decide +kernel
theorem d52 : decode yB 52 = .ok (.aload 5, 2) := by decide +kernel
theorem d54 : decode yB 54 = .ok (.putfield 9, 3) := by decide +kernel
theorem d57 : decode yB 57 = .ok (.return_, 1) := by decide +kernel
def site : List Cond := [.fieldLink "java/lang/String" 38 "java/lang/String" "COMPACT_STRINGS" "Z", Cmp3.tab, CodL.tab, .laysFinal "java/lang/String" "java/lang/String" "value" "[B", .fieldLink "java/lang/String" 9 "java/lang/String" "value" "[B", .laysFinal "java/lang/String" "java/lang/String" "coder" "B", .fieldLink "java/lang/String" 15 "java/lang/String" "coder" "B"] ++ objW "java/lang/String" 1 ++ staticW "java/lang/String" 177 Cmp3.yN ++ staticW "java/lang/String" 47 CodL.yN
def tab : Cond := tabOf yN yB 6 none site
def P (a : Addr) (D : Cell) (fV fC : Field) (b : Addr) (A : Cell) (z : Int32) (o len : Nat) (args : Array Value) (s : State) : Prop := args = #[.ref a, .ref b, .int (Int32.ofNat o), .int (Int32.ofNat len), .null] ∧ Blank "java/lang/String" a D s ∧ Found "java/lang/String" "value" "[B" fV s ∧ Found "java/lang/String" "coder" "B" fC s ∧ Ch b A s ∧ StaticIs s "java/lang/String" "COMPACT_STRINGS" "Z" (.int z) ∧ ¬ z = 0 ∧ 0 < len ∧ o + len ≤ A.slots.size ∧ len ≤ 536870912 ∧ ∀ i, i < len → ¬ 255 < cv A (o + i)
def E (a : Addr) (D : Cell) (fV fC : Field) (A : Cell) (o len : Nat) (r : Option Value) (s u : State) : Prop := Got a D fV fC A o len r s u
/-- len > 0, no char of the range above 255: a Latin-1 String of their low bytes -/
theorem law (l : Launch) (a : Addr) (D : Cell) (fV fC : Field) (b : Addr) (A : Cell) (z : Int32) (o len : Nat) : Law l yN 5 4 2 35 yB 6 none site (P a D fV fC b A z o len) (E a D fV fC A o len) [⟨a, fC.slot⟩, ⟨a, fV.slot⟩] 1 len := by
  refine Law.of_walk (plainFor_of_name (by decide +kernel)) (by decide +kernel) (by decide +kernel) (by decide) (fun _ _ h => by rw [h.1]; rfl) (fun _ U U' hal hh h => ⟨h.1, h.2.1.mv hal hh, h.2.2.1.al hal, h.2.2.2.1.al hal, h.2.2.2.2.1.mv hal hh, h.2.2.2.2.2.1.there hal hh, h.2.2.2.2.2.2⟩) (fun r U U' V V' h1 hal h2 h => Got.mv r U U' V V' h1 hal h2 h) ?_
  intro p e s m args below meth c s₁ X0 hexec hbytes hml hret hlk hnm hown hh0 W hP
  obtain ⟨rfl, hB, f1, f2, hA, s1, hz, l0, l1, l2, hp⟩ := hP
  have a31 := hA.1.2.2.2
  have c1 : Steps p.tables e below (s₁.setTop (entryFrame m #[.ref a, .ref b, .int (Int32.ofNat o), .int (Int32.ofNat len), .null] 6)) (s₁.setTop (mkF m 0 #[.val (.ref a), .val (.ref b), .val (.int (Int32.ofNat o)), .val (.int (Int32.ofNat len)), .val .null, .unset] [])) := entry rfl
  have c2 : Steps p.tables e below (s₁.setTop (entryFrame m #[.ref a, .ref b, .int (Int32.ofNat o), .int (Int32.ofNat len), .null] 6)) (s₁.setTop (mkF m 1 #[.val (.ref a), .val (.ref b), .val (.int (Int32.ofNat o)), .val (.int (Int32.ofNat len)), .val .null, .unset] [.ref a])) := c1.trans (by
    refine XS.aloadN X0.here hexec rfl (hb hbytes d0) rfl rfl ?_
    exact Steps.refl _)
  obtain ⟨T3, X3, q3, st3⟩ := X0.oinit hexec hown (wks W (objW "java/lang/String" 1)) (g := (mkF m 1 #[.val (.ref a), .val (.ref b), .val (.int (Int32.ofNat o)), .val (.int (Int32.ofNat len)), .val .null, .unset] [.ref a])) rfl (by rw [hml]; rfl) (rest := []) rfl (hb hbytes d1) (W := 0) (by show 2 * 0 + 0 ≤ _; decide) (Nat.le_of_ble_eq_true rfl) (Nat.le_of_ble_eq_true rfl)
  have hh3 := q3.trans hh0
  have c4 : Steps p.tables e below (s₁.setTop (entryFrame m #[.ref a, .ref b, .int (Int32.ofNat o), .int (Int32.ofNat len), .null] 6)) (T3.setTop (mkF m 27 #[.val (.ref a), .val (.ref b), .val (.int (Int32.ofNat o)), .val (.int (Int32.ofNat len)), .val .null, .unset] [])) := (c2.trans (st3 _ (Steps.refl _))).trans (by
    refine XS.iloadN X3.here hexec rfl (hb hbytes d4) rfl ?_
    refine XS.ifYes X3.here hexec rfl (pc0 := 5) rfl (hb hbytes d5) rfl (i0_ne_t (nz32 (by omega) l0)) (by decide) rfl ?_
    exact Steps.refl _)
  obtain ⟨T5, X5, q5, st5⟩ := X3.sget hexec hown (wk W (.fieldLink "java/lang/String" 38 "java/lang/String" "COMPACT_STRINGS" "Z")) s1 (fun _ _ h => by rw [hh3]; exact h) (g := (mkF m 27 #[.val (.ref a), .val (.ref b), .val (.int (Int32.ofNat o)), .val (.int (Int32.ofNat len)), .val .null, .unset] [])) rfl (hb hbytes d27)
  have hh5 := q5.trans hh3
  have c6 : Steps p.tables e below (s₁.setTop (entryFrame m #[.ref a, .ref b, .int (Int32.ofNat o), .int (Int32.ofNat len), .null] 6)) (T5.setTop (mkF m 30 #[.val (.ref a), .val (.ref b), .val (.int (Int32.ofNat o)), .val (.int (Int32.ofNat len)), .val .null, .unset] [.int z])) := c4.trans (st5 _ (Steps.refl _))
  have c7 : Steps p.tables e below (s₁.setTop (entryFrame m #[.ref a, .ref b, .int (Int32.ofNat o), .int (Int32.ofNat len), .null] 6)) (T5.setTop (mkF m 36 #[.val (.ref a), .val (.ref b), .val (.int (Int32.ofNat o)), .val (.int (Int32.ofNat len)), .val .null, .unset] [.int (Int32.ofNat len), .int (Int32.ofNat o), .ref b])) := c6.trans (by
    refine XS.ifNo X5.here hexec rfl (hb hbytes d30) rfl (i0_eq_f hz) ?_
    refine XS.aloadN X5.here hexec rfl (hb hbytes d33) rfl rfl ?_
    refine XS.iloadN X5.here hexec rfl (hb hbytes d34) rfl ?_
    refine XS.iloadN X5.here hexec rfl (hb hbytes d35) rfl ?_
    exact Steps.refl _)
  obtain ⟨v8, T8, X8, E8, g8⟩ := X5.callS hexec (Cmp3.law l b A o len) hown (wks W (staticW "java/lang/String" 177 Cmp3.yN)) (wk W Cmp3.tab) (W := 0) (Nat.le_of_ble_eq_true rfl) (Nat.le_of_ble_eq_true rfl) (Nat.le_refl _) (by show 0 + len ≤ len; omega) (g := (mkF m 36 #[.val (.ref a), .val (.ref b), .val (.int (Int32.ofNat o)), .val (.int (Int32.ofNat len)), .val .null, .unset] [.int (Int32.ofNat len), .int (Int32.ofNat o), .ref b])) rfl (by rw [hml]; rfl) c7 (argsL := [.ref b, .int (Int32.ofNat o), .int (Int32.ofNat len)]) (rest := []) rfl rfl (by show 2 * 0 + 0 ≤ _; decide) (hb hbytes d36) (⟨rfl, hA.mv X5.warmed.alike hh5, l1, l2, hp⟩)
  obtain ⟨e8, z8⟩ := E8
  obtain ⟨rfl, N, n1, n2, n3, n4, n5, n6⟩ := NewArr.mv _ T5 s _ _ hh5.symm (Vm.Alike.refl _) rfl e8
  rw [hh5] at z8
  have hB1 := hB.keep X8.warmed.alike (n6 _ _ hB.1)
  have hne : s.heap.size ≠ a := (Nat.ne_of_lt (Array.getElem?_eq_some_iff.mp hB.1).1).symm
  have c9 : Steps p.tables e below (s₁.setTop (entryFrame m #[.ref a, .ref b, .int (Int32.ofNat o), .int (Int32.ofNat len), .null] 6)) (T8.setTop (mkF m 39 #[.val (.ref a), .val (.ref b), .val (.int (Int32.ofNat o)), .val (.int (Int32.ofNat len)), .val .null, .unset] [.ref s.heap.size])) := g8
  have c10 : Steps p.tables e below (s₁.setTop (entryFrame m #[.ref a, .ref b, .int (Int32.ofNat o), .int (Int32.ofNat len), .null] 6)) (T8.setTop (mkF m 45 #[.val (.ref a), .val (.ref b), .val (.int (Int32.ofNat o)), .val (.int (Int32.ofNat len)), .val .null, .val (.ref s.heap.size)] [.int (Int32.ofNat N.slots.size), .ref s.heap.size, .ref a])) := by
    have hc : Steps p.tables e below (s₁.setTop (entryFrame m #[.ref a, .ref b, .int (Int32.ofNat o), .int (Int32.ofNat len), .null] 6)) (T8.setTop (mkF m 45 #[.val (.ref a), .val (.ref b), .val (.int (Int32.ofNat o)), .val (.int (Int32.ofNat len)), .val .null, .val (.ref s.heap.size)] [.int (Int32.ofNat len), .ref s.heap.size, .ref a])) := c9.trans (by
      refine XS.astore X8.here hexec rfl (hb hbytes d39) rfl rfl rfl ?_
      refine XS.aloadN X8.here hexec rfl (hb hbytes d41) rfl rfl ?_
      refine XS.aload X8.here hexec rfl (hb hbytes d42) rfl rfl ?_
      refine XS.iloadN X8.here hexec rfl (hb hbytes d44) rfl ?_
      exact Steps.refl _)
    rw [n4]; exact hc
  obtain ⟨v11, T11, X11, E11, g11⟩ := X8.callS hexec (CodL.law l s.heap.size N) hown (wks W (staticW "java/lang/String" 47 CodL.yN)) (wk W CodL.tab) (W := 1) (Nat.le_of_ble_eq_true rfl) (Nat.le_of_ble_eq_true rfl) (Nat.le_refl _) (by show 0 + len + 0 ≤ len; omega) (g := (mkF m 45 #[.val (.ref a), .val (.ref b), .val (.int (Int32.ofNat o)), .val (.int (Int32.ofNat len)), .val .null, .val (.ref s.heap.size)] [.int (Int32.ofNat N.slots.size), .ref s.heap.size, .ref a])) rfl (by rw [hml]; rfl) c10 (argsL := [.ref s.heap.size, .int (Int32.ofNat N.slots.size)]) (rest := [.ref a]) rfl rfl (by show 2 * 0 + (1 + 0) ≤ _; decide) (hb hbytes d45) (⟨rfl, n1⟩)
  obtain ⟨rfl, q11⟩ := E11
  have hB11 := hB1.mv (X8.warmed.alike.symm.trans X11.warmed.alike) q11
  have c12 : Steps p.tables e below (s₁.setTop (entryFrame m #[.ref a, .ref b, .int (Int32.ofNat o), .int (Int32.ofNat len), .null] 6)) (T11.setTop (mkF m 48 #[.val (.ref a), .val (.ref b), .val (.int (Int32.ofNat o)), .val (.int (Int32.ofNat len)), .val .null, .val (.ref s.heap.size)] [.int 0, .ref a])) := g11
  obtain ⟨T13, X13, p13, bl13, sl13, st13⟩ := X11.finit hexec hown (wk W (.fieldLink "java/lang/String" 15 "java/lang/String" "coder" "B")) (Or.inr ⟨_, (wk W (.laysFinal "java/lang/String" "java/lang/String" "coder" "B"))⟩) (Or.inl ⟨rfl, hnm⟩) f2 (Or.inl rfl) hB11 (t := .byte) (by decide +kernel) rfl (g := (mkF m 48 #[.val (.ref a), .val (.ref b), .val (.int (Int32.ofNat o)), .val (.int (Int32.ofNat len)), .val .null, .val (.ref s.heap.size)] [.int 0, .ref a])) rfl (rest := []) rfl (hb hbytes d48)
  have c14 : Steps p.tables e below (s₁.setTop (entryFrame m #[.ref a, .ref b, .int (Int32.ofNat o), .int (Int32.ofNat len), .null] 6)) (T13.setTop (mkF m 54 #[.val (.ref a), .val (.ref b), .val (.int (Int32.ofNat o)), .val (.int (Int32.ofNat len)), .val .null, .val (.ref s.heap.size)] [.ref s.heap.size, .ref a])) := (c12.trans (st13 _ (Steps.refl _))).trans (by
    refine XS.aloadN X13.here hexec rfl (hb hbytes d51) rfl rfl ?_
    refine XS.aload X13.here hexec rfl (hb hbytes d52) rfl rfl ?_
    exact Steps.refl _)
  obtain ⟨T15, X15, p15, bl15, sl15, st15⟩ := X13.finit hexec hown (wk W (.fieldLink "java/lang/String" 9 "java/lang/String" "value" "[B")) (Or.inr ⟨_, (wk W (.laysFinal "java/lang/String" "java/lang/String" "value" "[B"))⟩) (Or.inl ⟨rfl, hnm⟩) f1 (Or.inl rfl) bl13 (t := (.array .byte)) (by decide +kernel) rfl (g := (mkF m 54 #[.val (.ref a), .val (.ref b), .val (.int (Int32.ofNat o)), .val (.int (Int32.ofNat len)), .val .null, .val (.ref s.heap.size)] [.ref s.heap.size, .ref a])) rfl (rest := []) rfl (hb hbytes d54)
  have c16 : Steps p.tables e below (s₁.setTop (entryFrame m #[.ref a, .ref b, .int (Int32.ofNat o), .int (Int32.ofNat len), .null] 6)) (T15.setTop (mkF m 57 #[.val (.ref a), .val (.ref b), .val (.int (Int32.ofNat o)), .val (.int (Int32.ofNat len)), .val .null, .val (.ref s.heap.size)] [])) := c14.trans (st15 _ (Steps.refl _))
  have ap := apart (Or.inr ⟨_, (wk W (.laysFinal "java/lang/String" "java/lang/String" "value" "[B"))⟩) (Or.inr ⟨_, (wk W (.laysFinal "java/lang/String" "java/lang/String" "coder" "B"))⟩) f1 f2 (t₁ := .array .byte) (t₂ := .byte) (by decide +kernel) (by decide +kernel) (by decide)
  have al := X8.warmed.alike.symm.trans X15.warmed.alike
  have n7 : T11.heap[s.heap.size]? = some N := by rw [q11]; exact n1.1
  exact ⟨T15, none, _, _, _, X15, by simp, rfl, by omega, (fun _ => rfl), ⟨rfl, _, N, bl15, ((Same.refl D _).set _ (by simp)).set _ (by simp), sl15, (Cell.slots_setSlot_ne _ ap).trans sl13, n1.keep al (p15.other hne (p13.other hne n7)), n2, by rw [al.findClass]; exact n3, n4, n5, fun y c h1 h2 => p15.other h1 (p13.other h1 (by rw [q11]; exact n6 y c h2)), by rw [p15.2.2, p13.2.2, q11]; exact z8⟩, fun fs hl => c16.trans (X15.returnOut hexec hret (hb hbytes d57) hl)⟩
end New4
namespace New1
def yN : MethodName := ⟨"java/lang/String", "<init>", "([C)V"⟩
abbrev yB : ByteArray := jdk_42_method_3_code
theorem d0 : decode yB 0 = .ok (.aload_n 0, 1) := by decide +kernel
theorem d1 : decode yB 1 = .ok (.aload_n 1, 1) := by decide +kernel
theorem d2 : decode yB 2 = .ok (.iconst 0, 1) := by decide +kernel
theorem d3 : decode yB 3 = .ok (.aload_n 1, 1) := by decide +kernel
theorem d4 : decode yB 4 = .ok (.arraylength, 1) := by decide +kernel
theorem d5 : decode yB 5 = .ok (.aconst_null, 1) := by decide +kernel
theorem d6 : decode yB 6 = .ok (.invokespecial 27, 3) := by decide +kernel
theorem d9 : decode yB 9 = .ok (.return_, 1) := by decide +kernel
def site : List Cond := [New4.tab] ++ initW "java/lang/String" 27 New4.yN
def tab : Cond := tabOf yN yB 2 none site
def P (a : Addr) (D : Cell) (fV fC : Field) (b : Addr) (A : Cell) (z : Int32) (args : Array Value) (s : State) : Prop := args = #[.ref a, .ref b] ∧ Blank "java/lang/String" a D s ∧ Found "java/lang/String" "value" "[B" fV s ∧ Found "java/lang/String" "coder" "B" fC s ∧ Ch b A s ∧ StaticIs s "java/lang/String" "COMPACT_STRINGS" "Z" (.int z) ∧ ¬ z = 0 ∧ 0 < A.slots.size ∧ A.slots.size ≤ 536870912 ∧ ∀ i, i < A.slots.size → ¬ 255 < cv A i
def E (a : Addr) (D : Cell) (fV fC : Field) (A : Cell) (r : Option Value) (s u : State) : Prop := Got a D fV fC A 0 A.slots.size r s u
/-- new String(chars), not empty, no char above 255: a Latin-1 String of their low bytes -/
theorem law (l : Launch) (a : Addr) (D : Cell) (fV fC : Field) (b : Addr) (A : Cell) (z : Int32) : Law l yN 2 1 3 52 yB 2 none site (P a D fV fC b A z) (E a D fV fC A) [⟨a, fC.slot⟩, ⟨a, fV.slot⟩] 1 A.slots.size := by
  refine Law.of_walk (plainFor_of_name (by decide +kernel)) (by decide +kernel) (by decide +kernel) (by decide) (fun _ _ h => by rw [h.1]; rfl) (fun _ U U' hal hh h => ⟨h.1, h.2.1.mv hal hh, h.2.2.1.al hal, h.2.2.2.1.al hal, h.2.2.2.2.1.mv hal hh, h.2.2.2.2.2.1.there hal hh, h.2.2.2.2.2.2⟩) (fun r U U' V V' h1 hal h2 h => Got.mv r U U' V V' h1 hal h2 h) ?_
  intro p e s m args below meth c s₁ X0 hexec hbytes hml hret hlk hnm hown hh0 W hP
  obtain ⟨rfl, hB, f1, f2, hA, s1, hz, l0, l2, hp⟩ := hP
  have c1 : Steps p.tables e below (s₁.setTop (entryFrame m #[.ref a, .ref b] 2)) (s₁.setTop (mkF m 0 #[.val (.ref a), .val (.ref b)] [])) := entry rfl
  have c2 : Steps p.tables e below (s₁.setTop (entryFrame m #[.ref a, .ref b] 2)) (s₁.setTop (mkF m 6 #[.val (.ref a), .val (.ref b)] [.null, .int (Int32.ofNat A.slots.size), .int 0, .ref b, .ref a])) := c1.trans (by
    refine XS.aloadN X0.here hexec rfl (hb hbytes d0) rfl rfl ?_
    refine XS.aloadN X0.here hexec rfl (hb hbytes d1) rfl rfl ?_
    refine iconstV X0.here hexec rfl 0 (hb hbytes d2) (by decide) ?_
    refine XS.aloadN X0.here hexec rfl (hb hbytes d3) rfl rfl ?_
    refine X0.alen hexec (hA.1.mv X0.warmed.alike hh0) rfl rfl (hb hbytes d4) ?_
    refine XS.aconstNull X0.here hexec rfl (hb hbytes d5) ?_
    exact Steps.refl _)
  obtain ⟨v3, T3, X3, E3, g3⟩ := X0.callN hexec (New4.law l a D fV fC b A z 0 A.slots.size) rfl hown (wks W (initW "java/lang/String" 27 New4.yN)) (W New4.tab (by simp only [site, List.mem_cons, List.mem_append, true_or, or_true])) (W := 0) (Nat.le_of_ble_eq_true rfl) (Nat.le_of_ble_eq_true rfl) (Nat.le_refl _) (by show 0 + A.slots.size ≤ A.slots.size; omega) (g := (mkF m 6 #[.val (.ref a), .val (.ref b)] [.null, .int (Int32.ofNat A.slots.size), .int (Int32.ofNat 0), .ref b, .ref a])) rfl (by rw [hml]; rfl) c2 (argsL := [.ref b, .int (Int32.ofNat 0), .int (Int32.ofNat A.slots.size), .null]) (rest := []) rfl rfl (by show 2 * 0 + 0 ≤ _; decide) (hb hbytes d6) (⟨rfl, hB.mv X0.warmed.alike hh0, f1.al X0.warmed.alike, f2.al X0.warmed.alike, hA.mv X0.warmed.alike hh0, s1.there X0.warmed.alike hh0, hz, l0, by omega, l2, fun i hi => by rw [Nat.zero_add]; exact hp i hi⟩)
  have e0 := Got.mv _ s₁ s _ _ hh0.symm (Vm.Alike.refl _) rfl E3
  obtain rfl := e0.1
  have c4 : Steps p.tables e below (s₁.setTop (entryFrame m #[.ref a, .ref b] 2)) (T3.setTop (mkF m 9 #[.val (.ref a), .val (.ref b)] [])) := g3
  exact ⟨T3, none, _, _, _, X3, by simp, rfl, by omega, (fun _ => rfl), e0, fun fs hl => c4.trans (X3.returnOut hexec hret (hb hbytes d9) hl)⟩
theorem pays {l : Launch} {R : Room} {p : Program} {e : Env} {below : List Frame} {s : State} {sargs : Array Value} {len W : Nat} (a : Addr) (D : Cell) (fV fC : Field) (b : Addr) (A : Cell) (z : Int32) (htab : tab.before sargs s = true) (hfr : 4 ≤ R.frames) (hlo : W + 65 ≤ R.locals) :
    Back l R p e below s sargs yN len W (fun A₁ a₁ => A₁.cells + 1 ≤ R.cells ∧ A₁.slots + A.slots.size ≤ R.slots ∧ P a D fV fC b A z a₁ A₁.U) (fun A₁ _ v₁ B₁ => E a D fV fC A v₁ A₁.U B₁.U ∧ B₁.locs = A₁.locs ++ [⟨a, fC.slot⟩, ⟨a, fV.slot⟩] ∧ B₁.cells = A₁.cells + 1 ∧ B₁.slots = A₁.slots + A.slots.size) :=
  (law l a D fV fC b A z).pays htab hfr (by omega)
end New1
/-- the byte, read back as charAt reads it, is the char -/
theorem lo8_mask {x : Int32} (h0 : ¬ x < 0) (h1 : ¬ 255 < x) : lo8 x &&& 255 = x := by
  have t : ∀ k : Fin 256, lo8 (Int32.ofNat k.val) &&& 255 = Int32.ofNat k.val := by decide +kernel
  rw [Int32.lt_iff_toInt_lt] at h0 h1
  have e0 : (0 : Int32).toInt = 0 := rfl
  have e1 : (255 : Int32).toInt = 255 := rfl
  obtain ⟨k, hk⟩ : ∃ k : Nat, x.toInt = k := ⟨x.toInt.toNat, by omega⟩
  have hx : x = Int32.ofNat k := Int32.toInt_inj.mp (by rw [hk, Int32.toInt_ofNat_small (by omega)])
  rw [hx]
  exact t ⟨k, by omega⟩
end StrChars
namespace StrChars.Road
open Jvm Sem ClassFile Op Lib Jvm.Stand Jvm.Free Jvm.Free.XT
open Jvm.Lib.Cold (StaticIs)
abbrev ST : String := "java/lang/String"
/-- every table word that New1's law asks, flat -/
abbrev words : List Jvm.Cond := [.code New1.yN New1.yB 2 none, .initialized ST, .methodLink ST 27 New4.yN, .instanceMethod New4.yN,
  .code New4.yN New4.yB 6 none, .fieldLink ST 38 ST "COMPACT_STRINGS" "Z", .laysFinal ST ST "value" "[B", .fieldLink ST 9 ST "value" "[B", .laysFinal ST ST "coder" "B", .fieldLink ST 15 ST "coder" "B",
  .methodLink ST 1 Lib.objectInit, .instanceMethod Lib.objectInit, .code Lib.objectInit ⟨#[0xb1]⟩ 1 none, .methodLink ST 177 Cmp3.yN, .static Cmp3.yN, .methodLink ST 47 CodL.yN, .static CodL.yN,
  .code Cmp3.yN Cmp3.yB 6 (some (.array .byte)), .initialized U16, .arrayClass .byte, .methodLink U16 115 Cmp5.yN, .static Cmp5.yN, .code Cmp5.yN Cmp5.yB 7 (some .int), .code CodL.yN CodL.yB 2 (some .byte)]
theorem tab_of {a : Array Value} {s : State} (h : ∀ w ∈ words, w.before a s = true) : New1.tab.before a s = true := by
  have h5 : Cmp5.tab.before a s = true := unparts (wk h (.code Cmp5.yN Cmp5.yB 7 (some .int))) (wks h (.initialized Cmp5.yN.cls :: Cmp5.site))
  have hc : CodL.tab.before a s = true := unparts (wk h (.code CodL.yN CodL.yB 2 (some .byte))) (wks h (.initialized CodL.yN.cls :: CodL.site))
  have q5 : ∀ w ∈ Cmp5.tab :: words, w.before a s = true := fun w hw => (List.mem_cons.mp hw).elim (fun e => e ▸ h5) (h w)
  have h3 : Cmp3.tab.before a s = true := unparts (wk q5 (.code Cmp3.yN Cmp3.yB 6 (some (.array .byte)))) (wks q5 (.initialized Cmp3.yN.cls :: Cmp3.site))
  have q3 : ∀ w ∈ Cmp3.tab :: CodL.tab :: words, w.before a s = true := fun w hw => (List.mem_cons.mp hw).elim (fun e => e ▸ h3) fun hw => (List.mem_cons.mp hw).elim (fun e => e ▸ hc) (h w)
  have h4 : New4.tab.before a s = true := unparts (wk q3 (.code New4.yN New4.yB 6 none)) (wks q3 (.initialized New4.yN.cls :: New4.site))
  have q4 : ∀ w ∈ New4.tab :: words, w.before a s = true := fun w hw => (List.mem_cons.mp hw).elim (fun e => e ▸ h4) (h w)
  exact unparts (wk q4 (.code New1.yN New1.yB 2 none)) (wks q4 (.initialized New1.yN.cls :: New1.site))
/-- the words ride from the start Z to the walk's own state -/
theorem moved {Z s : State} {a0 args : Array Value} (hZ : Z.Warmed39 s.vm) (hw : ∀ d ∈ words, d.before a0 Z = true) : ∀ d ∈ words, d.before args s = true := fun d hd => by
  have q := hw d hd
  have t : ∀ d ∈ words, d = .arrayClass .byte ∨ (d.onTables && d.keepsFace) = true := by decide +kernel
  rcases t d hd with rfl | t
  · exact RoadKit.mvA hZ q
  · exact RoadKit.mv hZ q t
/-- WHAT COMES BACK, over the tables of the start Z: h the heap at the call, h' behind it -/
def Q (Z : State) (x : Addr) (A : Cell) (h : Heap) (v : Option Value) (h' : Heap) (L : List Loc) : Prop := v = none ∧ (∀ y ∈ L, y.base = x) ∧ RoadKit.Keep h h' [x] ∧ h'.size = h.size + 1 ∧ RoadKit.Exa Z h' x ST ∧ RoadKit.Fld Z h' x ST "value" "[B" (.ref h.size) ∧ RoadKit.Fld Z h' x ST "coder" "B" (.int 0) ∧
  (∃ V : Cell, RoadKit.Arr Z h' h.size V .byte ∧ V.vm = .none ∧ Z.vm.findClass "[B" = some V.cls ∧ V.slots.size = A.slots.size ∧ ∀ j, j < A.slots.size → V.slots[j]? = some (.int (lo8 (cv A j)))) ∧
  ∀ (O n d : String) (w : Value), RoadKit.Fld Z h x O n d w → RoadKit.slotOf Z O n d ≠ RoadKit.slotOf Z ST "value" "[B" → RoadKit.slotOf Z O n d ≠ RoadKit.slotOf Z ST "coder" "B" → RoadKit.Fld Z h' x O n d w
/-- **new String(chars) AT A CALL, IN THE ROAD'S FORM**: for specialBack behind newO: x the fresh String, b the char[] with the cell A -/
theorem back {p : Program} {l : Launch} {e : Env} {R : Room} {s : State} {args : Array Value} {below : List Frame} {len W : Nat} {Z : State} {a0 : Array Value} {h : Heap} (hZ : Z.Warmed39 s.vm) (hw : ∀ d ∈ words, d.before a0 Z = true) {kI : Nat} (wi : (Jvm.Cond.instantiable ST kI).before a0 Z = true)
    {x b : Addr} {A : Cell} {z : Int32} {v0 c0 : Value} (E : RoadKit.Exa Z h x ST) (V : RoadKit.Fld Z h x ST "value" "[B" v0) (C : RoadKit.Fld Z h x ST "coder" "B" c0) (K : RoadKit.Arr Z h b A .char) (hty : Typed .char A) (S : RoadKit.Sta Z h ST "COMPACT_STRINGS" "Z" (.int z)) (hz : ¬ z = 0)
    (l0 : 0 < A.slots.size) (l2 : A.slots.size ≤ 536870912) (hp : ∀ i, i < A.slots.size → ¬ 255 < cv A i) (hfr : 4 ≤ R.frames) (hlo : W + 65 ≤ R.locals) :
    Back l R p e below s args New1.yN len W (fun P a => a = #[.ref x, .ref b] ∧ P.U.heap = h ∧ P.cells + 1 ≤ R.cells ∧ P.slots + A.slots.size ≤ R.slots)
      (fun P _ v B => ∃ L, Q Z x A h v B.U.heap L ∧ B.locs = P.locs ++ L ∧ B.cells = P.cells + 1 ∧ B.slots = P.slots + A.slots.size) := by
  intro m meth c P g ig mk a X hg hsize hdg hW hn hp'
  obtain ⟨rfl, rfl, r1, r2⟩ := hp'
  have al : Z.vm.Alike P.U.vm := hZ.alike.trans X.warmed.alike
  obtain ⟨D, cfV, kV, iV, fV, hD, gV, stV, knV, obV, asV, slV⟩ := id V
  obtain ⟨D', cfC, kC, iC, fC, hD', gC, stC, -, -, asC, slC⟩ := id C
  cases hD.symm.trans hD'
  obtain ⟨D2, kD, e1, e2, e3, e4, e5⟩ := id E
  cases hD.symm.trans e1
  obtain ⟨c2, k2, i1, i2, i3, -⟩ := Cond.instantiable_spec wi
  cases e2.symm.trans i1
  cases e3.symm.trans i2
  obtain ⟨kU, u1, u2⟩ := al.2.2 _ _ e3
  have hB : Blank ST x D P.U := ⟨hD, ⟨knV, fun q hq => by rw [hq] at obV; cases obV⟩, by rw [al.findClass]; exact e2, kU, u1, by rw [u2]; exact i3, by rw [u2]; exact e5 i3⟩
  have F1 : Found ST "value" "[B" fV P.U := ⟨SBG.found_only al ⟨cfV, kV, iV, gV⟩, stV⟩
  have F2 : Found ST "coder" "B" fC P.U := ⟨SBG.found_only al ⟨cfC, kC, iC, gC⟩, stC⟩
  have hA : Ch b A P.U := ⟨⟨K.1, State.isArrayOf_alike al K.2.1, K.2.2, by omega⟩, hty⟩
  have hS : StaticIs P.U ST "COMPACT_STRINGS" "Z" (.int z) := by
    obtain ⟨cfS, iS, kS, fS, st, cS, t1, t2, t3, t4, t5, t6, t7⟩ := S
    exact StaticIs.there (s := { Z with heap := P.U.heap }) ⟨cfS, iS, kS, fS, st, cS, t1, t2, t3, t4, t5, (fun q => by rw [q] at t6; cases t6), t7⟩ al rfl
  obtain ⟨v, B, X', ⟨⟨hv, E', V', q1, q2, q3, q4, q5, q6, q7, q8, q9, q10, q11⟩, hl, hc, hs⟩, st⟩ := New1.pays x D fV fC b A z (tab_of (moved hZ hw)) hfr hlo m meth c P g ig mk _ X hg hsize hdg hW hn ⟨r1, r2, rfl, hB, F1, F2, hA, hS, hz, l0, l2, hp⟩
  have al' : Z.vm.Alike B.U.vm := hZ.alike.trans X'.warmed.alike
  have hsz : E'.slots.size = D.slots.size := by
    obtain ⟨-, -, -, kB, w1, w2, w3⟩ := q1
    obtain ⟨kB', y1, y2⟩ := al'.2.2 _ _ e3
    rw [q2.2.1] at w1
    cases w1.symm.trans y1
    rw [w3, e5 i3, y2]
  refine ⟨v, B, X', ⟨_, ⟨hv, ?_, ⟨by omega, fun y cy hy hn' => q10 y cy (by simpa using hn') hy, fun y cy hy => ?_⟩, q11, ⟨E', _, q1.1, by rw [q2.2.1]; exact e2, by rw [q2.2.1]; exact e3, by rw [q2.1]; exact obV, fun _ => by rw [hsz]; exact e5 i3⟩,
    ⟨E', cfV, kV, iV, fV, q1.1, gV, stV, by rw [q2.1]; exact knV, by rw [q2.1]; exact obV, by rw [q2.2.1]; exact asV, q3⟩, ⟨E', cfC, kC, iC, fC, q1.1, gC, stC, by rw [q2.1]; exact knV, by rw [q2.1]; exact obV, by rw [q2.2.1]; exact asC, q4⟩,
    ⟨V', ⟨q5.1, State.isArrayOf_alike al'.symm q5.2.1, q5.2.2.1⟩, q6, by rw [← al'.findClass]; exact q7, q8, fun j hj => by have := q9 j hj; rwa [Nat.zero_add] at this⟩, fun O n d w F n1 n2 => ?_⟩, hl, hc, hs⟩, st⟩
  · intro y hy
    simp only [List.mem_cons, List.not_mem_nil, or_false] at hy
    rcases hy with rfl | rfl <;> rfl
  · by_cases q : y = x
    · subst q
      cases hD.symm.trans hy
      exact ⟨E', q1.1, q2.2.1, q2.1, hsz⟩
    · exact ⟨cy, q10 y cy q hy, rfl, rfl, rfl⟩
  · obtain ⟨D3, cf, k, i, f, g1, g2, g3, g4, g5, g6, g7⟩ := F
    cases hD.symm.trans g1
    simp only [RoadKit.slotOf, g2, gV, gC, Option.map_some, Option.getD_some] at n1 n2
    exact ⟨E', cf, k, i, f, q1.1, g2, g3, by rw [q2.1]; exact g4, by rw [q2.1]; exact g5, by rw [q2.2.1]; exact g6, by rw [q2.2.2 f.slot (by simp [n1, n2])]; exact g7⟩
end StrChars.Road
namespace StrChars.Road
open Jvm Sem ClassFile Op Lib Jvm.Stand Jvm.Free Jvm.Free.XT
/-- WHAT COMES BACK, the byte[] as a list of values -/
def QA (Z : State) (x : Addr) (zn : Int32) (cs : List Int32) (h : Heap) (v : Option Value) (h' : Heap) (L : List Loc) : Prop := v = none ∧ (∀ y ∈ L, y.base = x) ∧ RoadKit.Keep h h' [x] ∧ h'.size = h.size + 1 ∧ RoadKit.Exa Z h' x ST ∧ RoadKit.Fld Z h' x ST "value" "[B" (.ref h.size) ∧ RoadKit.Fld Z h' x ST "coder" "B" (.int 0) ∧
  (∃ kb, Z.vm.findClass "[B" = some kb ∧ RoadKit.Arv Z h' h.size kb .byte zn (cs.map fun c => .int (lo8 c)) (.int 0)) ∧
  ∀ (O n d : String) (w : Value), RoadKit.Fld Z h x O n d w → RoadKit.slotOf Z O n d ≠ RoadKit.slotOf Z ST "value" "[B" → RoadKit.slotOf Z O n d ≠ RoadKit.slotOf Z ST "coder" "B" → RoadKit.Fld Z h' x O n d w
/-- **new String(chars) AT A CALL, THE ARRAYS AS LISTS**: the char[] at b holds cs, not empty, no char above 255 -/
theorem backArv {p : Program} {l : Launch} {e : Env} {R : Room} {s : State} {args : Array Value} {below : List Frame} {len W : Nat} {Z : State} {a0 : Array Value} {h : Heap} (hZ : Z.Warmed39 s.vm) (hw : ∀ d ∈ words, d.before a0 Z = true) {kI : Nat} (wi : (Jvm.Cond.instantiable ST kI).before a0 Z = true)
    {x b : Addr} {k : ClassId} {zn z : Int32} {cs : List Int32} {dv v0 c0 : Value} (E : RoadKit.Exa Z h x ST) (V : RoadKit.Fld Z h x ST "value" "[B" v0) (C : RoadKit.Fld Z h x ST "coder" "B" c0) (K : RoadKit.Arv Z h b k .char zn (cs.map Value.int) dv) (S : RoadKit.Sta Z h ST "COMPACT_STRINGS" "Z" (.int z)) (hz : ¬ z = 0)
    (hlen : zn.toNatClampNeg = cs.length) (h0 : 0 < cs.length) (hbig : cs.length ≤ 536870912) (hall : ∀ c ∈ cs, ¬ 255 < c) (hfr : 4 ≤ R.frames) (hlo : W + 65 ≤ R.locals) :
    Back l R p e below s args New1.yN len W (fun P a => a = #[.ref x, .ref b] ∧ P.U.heap = h ∧ P.cells + 1 ≤ R.cells ∧ P.slots + cs.length ≤ R.slots)
      (fun P _ v B => ∃ L, QA Z x zn cs h v B.U.heap L ∧ B.locs = P.locs ++ L ∧ B.cells = P.cells + 1 ∧ B.slots = P.slots + cs.length) := by
  obtain ⟨A, K1, K2, K3, K4, K5, K6⟩ := K
  have e : A.slots.size = cs.length := K3.trans hlen
  have hat : ∀ (i : Nat) (hi : i < cs.length), A.slots[i]? = some (.int cs[i]) := fun i hi => by rw [K5 i (by omega)]; simp [List.getD_eq_getElem?_getD, hi]
  have hcv : ∀ (i : Nat) (hi : i < cs.length), cv A i = cs[i] := fun i hi => by unfold cv; rw [hat i hi]
  have hty : Typed .char A := fun i v hv => by
    have hi : i < A.slots.size := (Array.getElem?_eq_some_iff.mp hv).1
    have q := K5 i hi
    rw [hv] at q
    rw [Option.some.inj q]
    exact K6 i hi
  refine Back.mono (back hZ hw wi E V C K1 hty S hz (by omega) (by omega) (fun i hi => by rw [hcv i (by omega)]; exact hall _ (List.getElem_mem _)) hfr hlo) (fun P a hp => ⟨hp.1, hp.2.1, hp.2.2.1, by rw [e]; exact hp.2.2.2⟩) (fun P a v B hp hq => ?_)
  obtain ⟨L, ⟨q1, q2, q3, q4, q5, q6, q7, ⟨V', v1, v2, v3, v4, v5⟩, q9⟩, hl, hc, hs⟩ := hq
  refine ⟨L, ⟨q1, q2, q3, q4, q5, q6, q7, ⟨V'.cls, v3, V', v1, rfl, by rw [v4, e, hlen], K4, fun i hi => ?_, fun i hi => ?_⟩, q9⟩, hl, hc, by rw [hs, e]⟩
  · have hi' : i < cs.length := by omega
    rw [v5 i (by omega), hcv i hi']; simp [List.getD_eq_getElem?_getD, hi']
  · have hi' : i < cs.length := by omega
    simp only [List.getD_eq_getElem?_getD, List.getElem?_map, List.getElem?_eq_getElem hi', Option.map_some, Option.getD_some]
    exact fits_lo8 _
end StrChars.Road
namespace StrChars.Road
open Jvm Sem ClassFile Op Lib Jvm.Stand Jvm.Free Jvm.Free.XT
/-- WHAT COMES BACK, in the writer's own shape -/
def QV (Z : State) (x : Addr) (N : Int32) (bs : List Int32) (h : Heap) (n0 : Nat) (v : Option Value) (h' : Heap) (L : List Loc) : Prop := v = none ∧ RoadKit.Fr n0 L ∧ RoadKit.Keep h h' [x] ∧ RoadKit.Exa Z h' x ST ∧ RoadKit.Fld Z h' x ST "coder" "B" (.int 0) ∧
  ∃ (t : Addr) (kb : ClassId), n0 ≤ t ∧ h.size ≤ t ∧ ¬ t = x ∧ RoadKit.Fld Z h' x ST "value" "[B" (.ref t) ∧ RoadKit.Arv Z h' t kb .byte N (bs.map Value.int) (.int 0)
/-- **new String(chars) AT A CALL, FOR THE WRITER**: a char[] of n known ints, each 0 to 255 -/
theorem backV {p : Program} {l : Launch} {e : Env} {R : Room} {s : State} {args : Array Value} {below : List Frame} {len W : Nat} {Z : State} {a0 : Array Value} {h : Heap} (hZ : Z.Warmed39 s.vm) (hw : ∀ d ∈ words, d.before a0 Z = true) {kI : Nat} (wi : (Jvm.Cond.instantiable ST kI).before a0 Z = true)
    {x b : Addr} {kC : ClassId} {cs bs : List Int32} {d v0 c0 : Value} {z N : Int32} {n n0 : Nat} (hx0 : n0 ≤ x) (hh0 : n0 ≤ h.size) (E : RoadKit.Exa Z h x ST) (V : RoadKit.Fld Z h x ST "value" "[B" v0) (C : RoadKit.Fld Z h x ST "coder" "B" c0) (K : RoadKit.Arv Z h b kC .char N (cs.map Value.int) d) (S : RoadKit.Sta Z h ST "COMPACT_STRINGS" "Z" (.int z)) (hz : ¬ z = 0)
    (hn : cs.length = n) (hN : N = Int32.ofNat n) (l0 : 0 < n) (l2 : n ≤ 4000) (hp : ∀ c ∈ cs, ¬ c < 0 ∧ ¬ (255 : Int32) < c) (hb : bs = cs.map (fun c => c.toInt8.toInt32)) (hfr : 4 ≤ R.frames) (hlo : W + 65 ≤ R.locals) :
    Back l R p e below s args (⟨"java/lang/String", "<init>", "([C)V"⟩ : MethodName) len W (fun P a => a = #[.ref x, .ref b] ∧ P.U.heap = h ∧ P.cells + 1 ≤ R.cells ∧ P.slots + n ≤ R.slots)
      (fun P _ v B => ∃ L, QV Z x N bs h n0 v B.U.heap L ∧ B.locs = P.locs ++ L ∧ B.cells = P.cells + 1 ∧ B.slots = P.slots + n) := by
  subst hn hN hb
  refine Back.mono (backArv hZ hw wi E V C K S hz (n32 (by omega)) l0 (by omega) (fun c hc => (hp c hc).2) hfr hlo) (fun P a hp => hp) (fun P a v B hp hq => ?_)
  obtain ⟨L, ⟨q1, q2, q3, q4, q5, q6, q7, ⟨kb, v1, v2⟩, q9⟩, hl, hc, hs⟩ := hq
  exact ⟨L, ⟨q1, fun y hy => by rw [q2 y hy]; exact hx0, q3, q5, q7, h.size, kb, hh0, Nat.le_refl _, Nat.ne_of_gt E.lt, q6, by rw [List.map_map]; exact v2⟩, hl, hc, hs⟩
end StrChars.Road
namespace StrChars
open Jvm Sem ClassFile Op Lib Jvm.Stand Jvm.Free.XT Jvm.Free.ALB Jvm.Free.JM Jvm.Free
open Jvm.Lib.Cold (StaticIs)
def hi8 (x : Int32) : Int32 := lo8 (x >>> ((8 : Int32) &&& 31))
/-- what StringUTF16.getChar makes of two bytes -/
def pairCh (u v : Int32) : Int32 := (((u &&& 255) <<< ((0 : Int32) &&& 31)) ||| ((v &&& 255) <<< ((8 : Int32) &&& 31))).toUInt32.toUInt16.toUInt32.toInt32
theorem lo8_and (x : Int32) : (lo8 x &&& 255).toBitVec.toNat = x.toBitVec.toNat % 256 := by
  have h : (lo8 x).toBitVec = (x.toBitVec.signExtend 8).signExtend 32 := by rw [lo8, Int8.toBitVec_toInt32, Int32.toBitVec_toInt8]
  rw [Int32.toBitVec_and, BitVec.toNat_and, h]
  have e : ((x.toBitVec.signExtend 8).signExtend 32).toNat % 256 = x.toBitVec.toNat % 256 := by
    rw [BitVec.toNat_signExtend]
    have hlt := x.toBitVec.isLt
    simp only [BitVec.toNat_setWidth, BitVec.toNat_signExtend]
    split <;> split <;> omega
  rw [← e]
  exact Nat.and_two_pow_sub_one_eq_mod _ 8
theorem pair_says {c : Int32} (h0 : ¬ c < 0) (h1 : ¬ 65535 < c) : pairCh (lo8 c) (hi8 c) = c := by
  rw [Int32.lt_iff_toInt_lt] at h0 h1
  have e0 : (0 : Int32).toInt = 0 := rfl
  have e1 : (65535 : Int32).toInt = 65535 := rfl
  have hc : c.toInt = c.toBitVec.toNat := by
    have := c.toBitVec.isLt
    have e : c.toInt = c.toBitVec.toInt := rfl
    rw [e] at h0 h1
    rw [e]
    rw [BitVec.toInt_eq_toNat_cond] at h0 h1 ⊢
    split at h0 <;> split <;> omega
  have hn : c.toBitVec.toNat < 65536 := by omega
  have a1 := lo8_and c
  have a2 : (hi8 c &&& 255).toBitVec.toNat = c.toBitVec.toNat / 256 := by
    rw [hi8, lo8_and]
    have e : ((8 : Int32) &&& 31) = 8 := by decide
    rw [e, Int32.toBitVec_shiftRight]
    have e2 : ((8 : Int32).toBitVec.smod 32) = 8#32 := by decide
    rw [e2, BitVec.sshiftRight_eq', BitVec.toNat_sshiftRight_of_msb_false (by rw [BitVec.msb_eq_false_iff_two_mul_lt]; omega)]
    show c.toBitVec.toNat >>> 8 % 256 = _
    rw [Nat.shiftRight_eq_div_pow]
    omega
  unfold pairCh
  apply Int32.toBitVec_inj.mp
  apply BitVec.eq_of_toNat_eq
  have f0 : ((0 : Int32) &&& 31) = 0 := by decide
  have f8 : ((8 : Int32) &&& 31) = 8 := by decide
  rw [f0, f8]
  have g : (((lo8 c &&& 255) <<< (0 : Int32)) ||| ((hi8 c &&& 255) <<< (8 : Int32))).toBitVec.toNat = c.toBitVec.toNat := by
    rw [Int32.toBitVec_or, Int32.toBitVec_shiftLeft, Int32.toBitVec_shiftLeft]
    have s0 : ((0 : Int32).toBitVec.smod 32) = 0#32 := by decide
    have s8 : ((8 : Int32).toBitVec.smod 32) = 8#32 := by decide
    rw [s0, s8, BitVec.toNat_or]
    simp only [BitVec.shiftLeft_eq', BitVec.toNat_shiftLeft, a1, a2]
    show (c.toBitVec.toNat % 256) <<< 0 % 2 ^ 32 ||| (c.toBitVec.toNat / 256) <<< 8 % 2 ^ 32 = _
    rw [Nat.shiftLeft_zero, Nat.mod_eq_of_lt (show c.toBitVec.toNat % 256 < 2 ^ 32 by omega), Nat.mod_eq_of_lt (show (c.toBitVec.toNat / 256) <<< 8 < 2 ^ 32 by rw [Nat.shiftLeft_eq]; omega), Nat.or_comm, ← Nat.shiftLeft_add_eq_or_of_lt (by omega), Nat.shiftLeft_eq]
    omega
  show BitVec.toNat (((((lo8 c &&& 255) <<< (0 : Int32)) ||| ((hi8 c &&& 255) <<< (8 : Int32))).toBitVec.setWidth 16).setWidth 32) = _
  rw [BitVec.toNat_setWidth, BitVec.toNat_setWidth, g]
  omega
end StrChars
namespace StrChars
open Jvm Sem ClassFile Op Lib Jvm.Stand Jvm.Free.XT Jvm.Free.ALB Jvm.Free.JM Jvm.Free
open Jvm.Lib.Cold (StaticIs)
/-- charAt's cast of a byte read back -/
def chr8 (u : Int32) : Int32 := (u &&& 255).toUInt32.toUInt16.toUInt32.toInt32
theorem chr8_lo8 {c : Int32} (h0 : ¬ c < 0) (h1 : ¬ 255 < c) : chr8 (lo8 c) = c := by
  have t : ∀ k : Fin 256, (Int32.ofNat k.val).toUInt32.toUInt16.toUInt32.toInt32 = Int32.ofNat k.val := by decide +kernel
  unfold chr8
  rw [lo8_mask h0 h1]
  rw [Int32.lt_iff_toInt_lt] at h0 h1
  have e0 : (0 : Int32).toInt = 0 := rfl
  have e1 : (255 : Int32).toInt = 255 := rfl
  obtain ⟨k, hk⟩ : ∃ k : Nat, c.toInt = k := ⟨c.toInt.toNat, by omega⟩
  have hx : c = Int32.ofNat k := Int32.toInt_inj.mp (by rw [hk, Int32.toInt_ofNat_small (by omega)])
  rw [hx]
  exact t ⟨k, by omega⟩
theorem narrow_ch {c : Int32} (h0 : ¬ c < 0) (h1 : ¬ 65535 < c) : narrow .char (.int c) = .int c := by
  have q : narrow .char (.int (pairCh (lo8 c) (hi8 c))) = .int (pairCh (lo8 c) (hi8 c)) := narrow_c _
  rwa [pair_says h0 h1] at q
/-- the array's cell V codes the n chars f 0 .. f (n - 1) by the coder cd, as the JDK does: coder 1 just where some char is above 255 -/
def Cod (cd : Int32) (n : Nat) (f : Nat → Int32) (V : Cell) : Prop := (cd = 0 ∧ V.slots.size = n ∧ ∀ j, j < n → V.slots[j]? = some (.int (lo8 (f j))) ∧ ¬ 255 < f j) ∨ (cd = 1 ∧ V.slots.size = 2 * n ∧ (∀ j, j < n → V.slots[2 * j]? = some (.int (lo8 (f j))) ∧ V.slots[2 * j + 1]? = some (.int (hi8 (f j)))) ∧ ∃ j, j < n ∧ 255 < f j)
theorem Cod.cd {cd : Int32} {n : Nat} {f : Nat → Int32} {V : Cell} (h : Cod cd n f V) : cd = 0 ∨ cd = 1 := h.imp (fun q => q.1) fun q => q.1
/-- **x is a String of the n chars f 0 .. f (n - 1)**, Latin-1 or UTF-16; its array at t has the cell V -/
def Txt (x t : Addr) (V : Cell) (cd : Int32) (n : Nat) (f : Nat → Int32) (U : State) : Prop := Exact "java/lang/String" x U ∧ Has x "java/lang/String" "value" "[B" (.ref t) U ∧ Has x "java/lang/String" "coder" "B" (.int cd) U ∧ XT.Arr .byte t V U ∧ Cod cd n f V ∧ ∀ j, j < n → ¬ f j < 0 ∧ ¬ 65535 < f j
theorem Txt.mv {x t : Addr} {V : Cell} {cd : Int32} {n : Nat} {f : Nat → Int32} {U U' : State} (h : Txt x t V cd n f U) (hal : U.vm.Alike U'.vm) (hh : U'.heap = U.heap) : Txt x t V cd n f U' := ⟨h.1.mv hal hh, h.2.1.mv hal hh, h.2.2.1.mv hal hh, h.2.2.2.1.mv hal hh, h.2.2.2.2⟩
namespace IsL
def yN : MethodName := ⟨"java/lang/String", "isLatin1", "()Z"⟩
abbrev yB : ByteArray := jdk_42_method_154_code
theorem d0 : decode yB 0 = .ok (.getstatic 38, 3) := by decide +kernel
theorem d3 : decode yB 3 = .ok (.ifCond (.eq) 14, 3) := by decide +kernel
theorem d6 : decode yB 6 = .ok (.aload_n 0, 1) := by decide +kernel
theorem d7 : decode yB 7 = .ok (.getfield 15, 3) := by decide +kernel
theorem d10 : decode yB 10 = .ok (.ifCond (.ne) 7, 3) := by decide +kernel
theorem d13 : decode yB 13 = .ok (.iconst 1, 1) := by decide +kernel
theorem d14 : decode yB 14 = .ok (.goto 4, 3) := by decide +kernel
theorem d17 : decode yB 17 = .ok (.iconst 0, 1) := by decide +kernel
theorem d18 : decode yB 18 = .ok (.ireturn, 1) := by decide +kernel
def site : List Cond := [.fieldLink "java/lang/String" 38 "java/lang/String" "COMPACT_STRINGS" "Z", .fieldLink "java/lang/String" 15 "java/lang/String" "coder" "B"]
def tab : Cond := tabOf yN yB 1 (some .boolean) site
def P (x : Addr) (cd z : Int32) (args : Array Value) (s : State) : Prop := args = #[.ref x] ∧ Has x "java/lang/String" "coder" "B" (.int cd) s ∧ (cd = 0 ∨ cd = 1) ∧ StaticIs s "java/lang/String" "COMPACT_STRINGS" "Z" (.int z) ∧ ¬ z = 0
def E (cd : Int32) (r : Option Value) (s u : State) : Prop := XT.PureE (some (.int (1 - cd))) r s u
theorem law (l : Launch) (x : Addr) (cd z : Int32) : Law l yN 1 0 0 0 yB 1 (some .boolean) site (P x cd z) (E cd) [] 0 0 := by
  refine Law.of_walk (plainFor_of_name (by decide +kernel)) (by decide +kernel) (by decide +kernel) (by decide) (fun _ _ h => by rw [h.1]; rfl) (fun _ U U' hal hh h => ⟨h.1, h.2.1.mv hal hh, h.2.2.1, h.2.2.2.1.there hal hh, h.2.2.2.2⟩) (fun r U U' V V' h1 hal h2 h => XT.PureE.mv r U U' V V' h1 hal h2 h) ?_
  intro p e s m args below meth c s₁ X0 hexec hbytes hml hret hlk hnm hown hh0 W hP
  obtain ⟨rfl, hx, hc, s1, hz⟩ := hP
  have c1 : Steps p.tables e below (s₁.setTop (entryFrame m #[.ref x] 1)) (s₁.setTop (mkF m 0 #[.val (.ref x)] [])) := entry rfl
  obtain ⟨T2, X2, q2, st2⟩ := X0.sget hexec hown (wk W (.fieldLink "java/lang/String" 38 "java/lang/String" "COMPACT_STRINGS" "Z")) s1 (fun _ _ h => by rw [hh0]; exact h) (g := (mkF m 0 #[.val (.ref x)] [])) rfl (hb hbytes d0)
  have hh2 := q2.trans hh0
  have c3 : Steps p.tables e below (s₁.setTop (entryFrame m #[.ref x] 1)) (T2.setTop (mkF m 7 #[.val (.ref x)] [.ref x])) := (c1.trans (st2 _ (Steps.refl _))).trans (by
    refine XS.ifNo X2.here hexec rfl (hb hbytes d3) rfl (i0_eq_f hz) ?_
    refine XS.aloadN X2.here hexec rfl (hb hbytes d6) rfl rfl ?_
    exact Steps.refl _)
  obtain ⟨T4, X4, q4, st4⟩ := X2.hget hexec hown (wk W (.fieldLink "java/lang/String" 15 "java/lang/String" "coder" "B")) (hx.mv X2.warmed.alike hh2) (g := (mkF m 7 #[.val (.ref x)] [.ref x])) rfl (rest := []) rfl (hb hbytes d7)
  have c5 : Steps p.tables e below (s₁.setTop (entryFrame m #[.ref x] 1)) (T4.setTop (mkF m 10 #[.val (.ref x)] [.int cd])) := c3.trans (st4 _ (Steps.refl _))
  have c6 : Steps p.tables e below (s₁.setTop (entryFrame m #[.ref x] 1)) (T4.setTop (mkF m 18 #[.val (.ref x)] [.int (1 - cd)])) := by
    rcases hc with rfl | rfl
    · exact c5.trans (by
        refine XS.ifNo X4.here hexec rfl (hb hbytes d10) rfl (i0_ne_f rfl) ?_
        refine iconstV X4.here hexec rfl 1 (hb hbytes d13) (by decide) ?_
        refine XS.goto X4.here hexec rfl (pc0 := 14) rfl (hb hbytes d14) (by decide) rfl ?_
        exact Steps.refl _)
    · exact c5.trans (by
        refine XS.ifYes X4.here hexec rfl (pc0 := 10) rfl (hb hbytes d10) rfl (i0_ne_t (by decide)) (by decide) rfl ?_
        refine iconstV X4.here hexec rfl 0 (hb hbytes d17) (by decide) ?_
        exact Steps.refl _)
  exact ⟨T4, some (.int (1 - cd)), _, _, _, X4, rfl, rfl, rfl, (fun h => by cases h), ⟨rfl, q4.trans hh2⟩, fun fs hl => c6.trans (X4.ireturnOut hexec hret (by rcases hc with rfl | rfl <;> rfl) (Or.inr (Or.inl rfl)) (hb hbytes d18) hl)⟩
end IsL
namespace LChA
def yN : MethodName := ⟨"java/lang/StringLatin1", "charAt", "([BI)C"⟩
abbrev yB : ByteArray := jdk_43_method_2_code
theorem d0 : decode yB 0 = .ok (.iload_n 1, 1) := by decide +kernel
theorem d1 : decode yB 1 = .ok (.aload_n 0, 1) := by decide +kernel
theorem d2 : decode yB 2 = .ok (.arraylength, 1) := by decide +kernel
theorem d3 : decode yB 3 = .ok (.invokestatic 9, 3) := by decide +kernel
theorem d6 : decode yB 6 = .ok (.aload_n 0, 1) := by decide +kernel
theorem d7 : decode yB 7 = .ok (.iload_n 1, 1) := by decide +kernel
theorem d8 : decode yB 8 = .ok (.baload, 1) := by decide +kernel
theorem d9 : decode yB 9 = .ok (.sipush 255, 3) := by decide +kernel
theorem d12 : decode yB 12 = .ok (.iand, 1) := by decide +kernel
theorem d13 : decode yB 13 = .ok (.i2c, 1) := by decide +kernel
theorem d14 : decode yB 14 = .ok (.ireturn, 1) := by decide +kernel
def site : List Cond := [JO.Str_checkIndex.tab] ++ staticW "java/lang/StringLatin1" 9 JO.Str_checkIndex.yN
def tab : Cond := tabOf yN yB 2 (some .char) site
def P (t : Addr) (V : Cell) (i : Nat) (u : Int32) (fm : Value) (args : Array Value) (s : State) : Prop := args = #[.ref t, .int (Int32.ofNat i)] ∧ XT.Arr .byte t V s ∧ V.slots[i]? = some (.int u) ∧ (StaticIs s "jdk/internal/util/Preconditions" "SIOOBE_FORMATTER" "Ljava/util/function/BiFunction;" fm ∧ fm.isRef = true)
def E (u : Int32) (r : Option Value) (s w : State) : Prop := XT.PureE (some (.int (chr8 u))) r s w
theorem law (l : Launch) (t : Addr) (V : Cell) (i : Nat) (u : Int32) (fm : Value) : Law l yN 2 2 2 27 yB 2 (some .char) site (P t V i u fm) (E u) [] 0 0 := by
  refine Law.of_walk (plainFor_of_name (by decide +kernel)) (by decide +kernel) (by decide +kernel) (by decide) (fun _ _ h => by rw [h.1]; rfl) (fun _ U U' hal hh h => ⟨h.1, h.2.1.mv hal hh, h.2.2.1, h.2.2.2.1.there hal hh, h.2.2.2.2⟩) (fun r U U' V V' h1 hal h2 h => XT.PureE.mv r U U' V V' h1 hal h2 h) ?_
  intro p e s m args below meth c s₁ X0 hexec hbytes hml hret hlk hnm hown hh0 W hP
  obtain ⟨rfl, hV, hu, s1, rf⟩ := hP
  have v31 := hV.2.2.2
  have hi : i < V.slots.size := (Array.getElem?_eq_some_iff.mp hu).1
  have c1 : Steps p.tables e below (s₁.setTop (entryFrame m #[.ref t, .int (Int32.ofNat i)] 2)) (s₁.setTop (mkF m 0 #[.val (.ref t), .val (.int (Int32.ofNat i))] [])) := entry rfl
  have c2 : Steps p.tables e below (s₁.setTop (entryFrame m #[.ref t, .int (Int32.ofNat i)] 2)) (s₁.setTop (mkF m 3 #[.val (.ref t), .val (.int (Int32.ofNat i))] [.int (Int32.ofNat V.slots.size), .int (Int32.ofNat i)])) := c1.trans (by
    refine XS.iloadN X0.here hexec rfl (hb hbytes d0) rfl ?_
    refine XS.aloadN X0.here hexec rfl (hb hbytes d1) rfl rfl ?_
    refine X0.alen hexec (hV.mv X0.warmed.alike hh0) rfl rfl (hb hbytes d2) ?_
    exact Steps.refl _)
  obtain ⟨v3, T3, X3, E3, g3⟩ := X0.callS hexec (JO.Str_checkIndex.law l (Int32.ofNat i) (Int32.ofNat V.slots.size) fm) hown (wks W (staticW "java/lang/StringLatin1" 9 JO.Str_checkIndex.yN)) (wk W JO.Str_checkIndex.tab) (W := 0) (Nat.le_of_ble_eq_true rfl) (Nat.le_of_ble_eq_true rfl) (Nat.le_refl _) (Nat.le_refl _) (g := (mkF m 3 #[.val (.ref t), .val (.int (Int32.ofNat i))] [.int (Int32.ofNat V.slots.size), .int (Int32.ofNat i)])) rfl (by rw [hml]; rfl) c2 (argsL := [.int (Int32.ofNat i), .int (Int32.ofNat V.slots.size)]) (rest := []) rfl rfl (by show 2 * 0 + 0 ≤ _; decide) (hb hbytes d3) (⟨rfl, rf, s1.there X0.warmed.alike hh0, Int32.ofNat_not_neg (by omega), lt32 v31 hi⟩)
  obtain ⟨rfl, q3⟩ := E3
  have hh3 := q3.trans hh0
  have c4 : Steps p.tables e below (s₁.setTop (entryFrame m #[.ref t, .int (Int32.ofNat i)] 2)) (T3.setTop (mkF m 14 #[.val (.ref t), .val (.int (Int32.ofNat i))] [.int (chr8 u)])) := Steps.trans g3 (by
    refine XS.aloadN X3.here hexec rfl (hb hbytes d6) rfl rfl ?_
    refine XS.iloadN X3.here hexec rfl (hb hbytes d7) rfl ?_
    refine X3.aget hexec (hV.mv X3.warmed.alike hh3) rfl hu rfl rfl (hb hbytes d8) ?_
    refine sipushV X3.here hexec rfl 255 (hb hbytes d9) (by decide) ?_
    refine XS.iand X3.here hexec rfl (hb hbytes d12) rfl ?_
    refine i2c X3.here hexec rfl (hb hbytes d13) rfl ?_
    exact Steps.refl _)
  exact ⟨T3, some (.int (chr8 u)), _, _, _, X3, rfl, rfl, rfl, (fun h => by cases h), ⟨rfl, hh3⟩, fun fs hl => c4.trans (X3.ireturnOut hexec hret (narrow_c _) (Or.inr (Or.inr (Or.inr (Or.inl rfl)))) (hb hbytes d14) hl)⟩
end LChA
end StrChars
namespace StrChars.Road
open Jvm Sem ClassFile Op Lib Jvm.Stand Jvm.Free Jvm.Free.XT
open Jvm.Lib.Cold (StaticIs)
theorem consq {a : Array Value} {s : State} {c : Jvm.Cond} {L : List Jvm.Cond} (h0 : c.before a s = true) (h : ∀ w ∈ L, w.before a s = true) : ∀ w ∈ c :: L, w.before a s = true := fun w hw => (List.mem_cons.mp hw).elim (fun e => e ▸ h0) (h w)
/-- the bytes of the chars cs, low before high -/
def wideBytes : List Int32 → List Value
  | [] => []
  | c :: cs => .int (lo8 c) :: .int (hi8 c) :: wideBytes cs
theorem wide_lo (d : Value) : ∀ (cs : List Int32) (j : Nat), j < cs.length → (wideBytes cs).getD (2 * j) d = .int (lo8 (cs.getD j 0))
  | [], j, h => absurd h (Nat.not_lt_zero j)
  | c :: cs, 0, _ => rfl
  | c :: cs, j + 1, h => by
    have q := wide_lo d cs j (by simpa using h)
    rw [show 2 * (j + 1) = 2 * j + 1 + 1 from by omega]
    simpa [wideBytes] using q
theorem wide_hi (d : Value) : ∀ (cs : List Int32) (j : Nat), j < cs.length → (wideBytes cs).getD (2 * j + 1) d = .int (hi8 (cs.getD j 0))
  | [], j, h => absurd h (Nat.not_lt_zero j)
  | c :: cs, 0, _ => rfl
  | c :: cs, j + 1, h => by
    have q := wide_hi d cs j (by simpa using h)
    rw [show 2 * (j + 1) + 1 = 2 * j + 1 + 1 + 1 from by omega]
    simpa [wideBytes] using q
theorem low_at (d : Value) (cs : List Int32) (j : Nat) (h : j < cs.length) : (cs.map fun c => Value.int (lo8 c)).getD j d = .int (lo8 (cs.getD j 0)) := by
  simp [List.getD_eq_getElem?_getD, h]
/-- an array of N2 bytes vs codes the chars cs by the coder cd -/
def CodA (cs : List Int32) (cd N2 : Int32) (vs : List Value) : Prop := (cd = 0 ∧ N2 = Int32.ofNat cs.length ∧ vs = (cs.map fun c => Value.int (lo8 c)) ∧ ∀ c ∈ cs, ¬ 255 < c) ∨ (cd = 1 ∧ N2 = Int32.ofNat (2 * cs.length) ∧ vs = wideBytes cs ∧ ∃ c ∈ cs, 255 < c)
theorem CodA.cod {cs : List Int32} {cd N2 : Int32} {vs : List Value} {V : Cell} (h : CodA cs cd N2 vs) (hn : 2 * cs.length < 2 ^ 31) (hs : V.slots.size = N2.toNatClampNeg) (hv : RoadKit.Has V vs (.int 0)) : Cod cd cs.length (fun j => cs.getD j 0) V := by
  rcases h with ⟨rfl, rfl, rfl, h⟩ | ⟨rfl, rfl, rfl, c, hc, hw⟩
  · rw [n32 (by omega)] at hs
    exact Or.inl ⟨rfl, hs, fun j hj => ⟨by rw [hv j (by omega), low_at _ _ _ hj], by
      have e : cs.getD j 0 = cs[j] := by simp [List.getD_eq_getElem?_getD, hj]
      show ¬ 255 < cs.getD j 0
      rw [e]; exact h _ (List.getElem_mem _)⟩⟩
  · rw [n32 (by omega)] at hs
    obtain ⟨j, hj, rfl⟩ := List.getElem_of_mem hc
    exact Or.inr ⟨rfl, hs, fun j hj => ⟨by rw [hv _ (by omega), wide_lo _ _ _ hj], by rw [hv _ (by omega), wide_hi _ _ _ hj]⟩, j, hj, by
      have e : cs.getD j 0 = cs[j] := by simp [List.getD_eq_getElem?_getD, hj]
      show 255 < cs.getD j 0
      rw [e]; exact hw⟩
/-- an object of exactly java/lang/String, its two fields found: as the laws ask it -/
theorem strObj {Z U : State} {a0 : Array Value} {kI : Nat} (wi : (Jvm.Cond.instantiable ST kI).before a0 Z = true) (al : Z.vm.Alike U.vm) {x : Addr} {v0 c0 : Value} (E : RoadKit.Exa Z U.heap x ST) (V : RoadKit.Fld Z U.heap x ST "value" "[B" v0) (C : RoadKit.Fld Z U.heap x ST "coder" "B" c0) :
    ∃ (D : Cell) (fV fC : Field), Blank ST x D U ∧ Found ST "value" "[B" fV U ∧ Found ST "coder" "B" fC U ∧ D.slots[fV.slot]? = some v0 ∧ D.slots[fC.slot]? = some c0 ∧ RoadKit.slotOf Z ST "value" "[B" = fV.slot ∧ RoadKit.slotOf Z ST "coder" "B" = fC.slot := by
  obtain ⟨D, cfV, kV, iV, fV, hD, gV, stV, knV, obV, asV, slV⟩ := V
  obtain ⟨D', cfC, kC, iC, fC, hD', gC, stC, -, -, asC, slC⟩ := C
  cases hD.symm.trans hD'
  obtain ⟨D2, kD, e1, e2, e3, e4, e5⟩ := E
  cases hD.symm.trans e1
  obtain ⟨c2, k2, i1, i2, i3, -⟩ := Cond.instantiable_spec wi
  cases e2.symm.trans i1
  cases e3.symm.trans i2
  obtain ⟨kU, u1, u2⟩ := al.2.2 _ _ e3
  exact ⟨D, fV, fC, ⟨hD, ⟨knV, fun q hq => by rw [hq] at obV; cases obV⟩, by rw [al.findClass]; exact e2, kU, u1, by rw [u2]; exact i3, by rw [u2]; exact e5 i3⟩, ⟨SBG.found_only al ⟨cfV, kV, iV, gV⟩, stV⟩, ⟨SBG.found_only al ⟨cfC, kC, iC, gC⟩, stC⟩, slV, slC, by simp [RoadKit.slotOf, gV], by simp [RoadKit.slotOf, gC]⟩
theorem sta_is {Z U : State} (al : Z.vm.Alike U.vm) {C n d : String} {v : Value} (S : RoadKit.Sta Z U.heap C n d v) : StaticIs U C n d v := by
  obtain ⟨cfS, iS, kS, fS, st, cS, t1, t2, t3, t4, t5, t6, t7⟩ := S
  exact StaticIs.there (s := { Z with heap := U.heap }) ⟨cfS, iS, kS, fS, st, cS, t1, t2, t3, t4, t5, (fun q => by rw [q] at t6; cases t6), t7⟩ al rfl
end StrChars.Road
namespace StrChars.Road
open Jvm Sem ClassFile Op Lib Jvm.Stand Jvm.Free Jvm.Free.XT
open Jvm.Lib.Cold (StaticIs)
/-- the road's facts of a String, as the laws ask it -/
theorem txt_of {Z U : State} {a0 : Array Value} {kI : Nat} (wi : (Jvm.Cond.instantiable ST kI).before a0 Z = true) (al : Z.vm.Alike U.vm) {x t : Addr} {kb : ClassId} {cs : List Int32} {cd N2 : Int32} {vs : List Value} (E : RoadKit.Exa Z U.heap x ST) (V : RoadKit.Fld Z U.heap x ST "value" "[B" (.ref t)) (C : RoadKit.Fld Z U.heap x ST "coder" "B" (.int cd)) (K : RoadKit.Arv Z U.heap t kb .byte N2 vs (.int 0)) (hc : CodA cs cd N2 vs) (hb : ∀ c ∈ cs, ¬ c < 0 ∧ ¬ (65535 : Int32) < c) (l2 : cs.length ≤ 4000) :
    ∃ A, Txt x t A cd cs.length (fun j => cs.getD j 0) U := by
  obtain ⟨A, K1, K2, K3, K4, K5, K6⟩ := K
  have hcod := hc.cod (by omega) K3 K5
  obtain ⟨D, fV, fC, hB, F1, F2, g1, g2, -, -⟩ := strObj wi al E V C
  exact ⟨A, ⟨_, hB.2.2.1, D, hB.1, rfl, by cases q : D.vm <;> first | rfl | exact absurd q (hB.2.1.2 _)⟩, Has.of hB F1 g1, Has.of hB F2 g2, ⟨K1.1, State.isArrayOf_alike al K1.2.1, K1.2.2, by rcases hcod with ⟨-, q, -⟩ | ⟨-, q, -⟩ <;> omega⟩, hcod, fun j hj => by
    have e : cs.getD j 0 = cs[j] := by simp [List.getD_eq_getElem?_getD, hj]
    show ¬ cs.getD j 0 < 0 ∧ ¬ 65535 < cs.getD j 0
    rw [e]; exact hb _ (List.getElem_mem _)⟩
end StrChars.Road
namespace StrChars
open Jvm Sem ClassFile Op Lib Jvm.Stand Jvm.Free.XT Jvm.Free.ALB Jvm.Free.JM Jvm.Free
open Jvm.Lib.Cold (StaticIs)
namespace ChN
def yN : MethodName := ⟨"java/lang/String", "charAt", "(I)C"⟩
abbrev yB : ByteArray := jdk_42_method_56_code
theorem d0 : decode yB 0 = .ok (.aload_n 0, 1) := by decide +kernel
theorem d1 : decode yB 1 = .ok (.invokevirtual 492, 3) := by decide +kernel
theorem d4 : decode yB 4 = .ok (.ifCond (.eq) 12, 3) := by decide +kernel
theorem d7 : decode yB 7 = .ok (.aload_n 0, 1) := by decide +kernel
theorem d8 : decode yB 8 = .ok (.getfield 9, 3) := by decide +kernel
theorem d11 : decode yB 11 = .ok (.iload_n 1, 1) := by decide +kernel
theorem d12 : decode yB 12 = .ok (.invokestatic 495, 3) := by decide +kernel
theorem d15 : decode yB 15 = .ok (.ireturn, 1) := by decide +kernel
def site : List Cond := [.fieldLink "java/lang/String" 9 "java/lang/String" "value" "[B", IsL.tab, LChA.tab] ++ virtW "java/lang/String" 492 "java/lang/String" IsL.yN IsL.yN ++ staticW "java/lang/String" 495 LChA.yN
def tab : Cond := tabOf yN yB 2 (some .char) site
def P (x t : Addr) (V : Cell) (n : Nat) (f : Nat → Int32) (z : Int32) (fm : Value) (i : Nat) (args : Array Value) (s : State) : Prop := args = #[.ref x, .int (Int32.ofNat i)] ∧ Txt x t V 0 n f s ∧ i < n ∧ StaticIs s "java/lang/String" "COMPACT_STRINGS" "Z" (.int z) ∧ ¬ z = 0 ∧ StaticIs s "jdk/internal/util/Preconditions" "SIOOBE_FORMATTER" "Ljava/util/function/BiFunction;" fm ∧ fm.isRef = true
def E (f : Nat → Int32) (i : Nat) (r : Option Value) (s u : State) : Prop := XT.PureE (some (.int (f i))) r s u
/-- charAt(i) of a Latin-1 String of n chars, i < n: f i -/
theorem law (l : Launch) (x t : Addr) (V : Cell) (n : Nat) (f : Nat → Int32) (z : Int32) (fm : Value) (i : Nat) : Law l yN 2 1 3 40 yB 2 (some .char) site (P x t V n f z fm i) (E f i) [] 0 0 := by
  refine Law.of_walk (plainFor_of_name (by decide +kernel)) (by decide +kernel) (by decide +kernel) (by decide) (fun _ _ h => by rw [h.1]; rfl) (fun _ U U' hal hh h => ⟨h.1, h.2.1.mv hal hh, h.2.2.1, h.2.2.2.1.there hal hh, h.2.2.2.2.1, h.2.2.2.2.2.1.there hal hh, h.2.2.2.2.2.2⟩) (fun r U U' V V' h1 hal h2 h => XT.PureE.mv r U U' V V' h1 hal h2 h) ?_
  intro p e s m args below meth c s₁ X0 hexec hbytes hml hret hlk hnm hown hh0 W hP
  obtain ⟨rfl, hx, hi, s1, hz, s3, rf⟩ := hP
  have v31 := hx.2.2.2.1.2.2.2
  have hr := hx.2.2.2.2.2 i hi
  have hx0 := hx.mv X0.warmed.alike hh0
  have c1 : Steps p.tables e below (s₁.setTop (entryFrame m #[.ref x, .int (Int32.ofNat i)] 2)) (s₁.setTop (mkF m 1 #[.val (.ref x), .val (.int (Int32.ofNat i))] [.ref x])) := Steps.trans (entry rfl) (by
    show Steps p.tables e below (s₁.setTop (mkF m 0 #[.val (.ref x), .val (.int (Int32.ofNat i))] [])) _
    refine XS.aloadN X0.here hexec rfl (hb hbytes d0) rfl rfl ?_
    exact Steps.refl _)
  obtain ⟨v2, T2, X2, E2, g2⟩ := X0.callV hexec (IsL.law l x 0 z) hown (wks W (virtW "java/lang/String" 492 "java/lang/String" IsL.yN IsL.yN)) rfl (by decide) (wk W IsL.tab) (W := 0) (Nat.le_of_ble_eq_true rfl) (Nat.le_of_ble_eq_true rfl) (Nat.le_refl _) (Nat.le_refl _) (hx0.1.fc X0.warmed.alike) hx0.1.is (g := (mkF m 1 #[.val (.ref x), .val (.int (Int32.ofNat i))] [.ref x])) rfl (by rw [hml]; rfl) c1 (argsL := []) (rest := []) rfl rfl (by show 2 * 0 + 0 ≤ _; decide) (hb hbytes d1) (⟨rfl, hx0.2.2.1, hx.2.2.2.2.1.cd, s1.there X0.warmed.alike hh0, hz⟩)
  obtain ⟨rfl, q2⟩ := E2
  have hh2 := q2.trans hh0
  have hx2 := hx.mv X2.warmed.alike hh2
  obtain ⟨-, k1, k2⟩ | ⟨k0, -⟩ := hx.2.2.2.2.1
  · have c3 : Steps p.tables e below (s₁.setTop (entryFrame m #[.ref x, .int (Int32.ofNat i)] 2)) (T2.setTop (mkF m 8 #[.val (.ref x), .val (.int (Int32.ofNat i))] [.ref x])) := Steps.trans g2 (by
      refine XS.ifNo X2.here hexec rfl (hb hbytes d4) rfl (i0_eq_f (by decide)) ?_
      refine XS.aloadN X2.here hexec rfl (hb hbytes d7) rfl rfl ?_
      exact Steps.refl _)
    obtain ⟨T4, X4, q4, st4⟩ := X2.hget hexec hown (wk W (.fieldLink "java/lang/String" 9 "java/lang/String" "value" "[B")) hx2.2.1 (g := (mkF m 8 #[.val (.ref x), .val (.int (Int32.ofNat i))] [.ref x])) rfl (rest := []) rfl (hb hbytes d8)
    have hh4 := q4.trans hh2
    have c5 : Steps p.tables e below (s₁.setTop (entryFrame m #[.ref x, .int (Int32.ofNat i)] 2)) (T4.setTop (mkF m 12 #[.val (.ref x), .val (.int (Int32.ofNat i))] [.int (Int32.ofNat i), .ref t])) := (c3.trans (st4 _ (Steps.refl _))).trans (by
      refine XS.iloadN X4.here hexec rfl (hb hbytes d11) rfl ?_
      exact Steps.refl _)
    obtain ⟨v6, T6, X6, E6, g6⟩ := X4.callS hexec (LChA.law l t V i (lo8 (f i)) fm) hown (wks W (staticW "java/lang/String" 495 LChA.yN)) (wk W LChA.tab) (W := 0) (Nat.le_of_ble_eq_true rfl) (Nat.le_of_ble_eq_true rfl) (Nat.le_refl _) (Nat.le_refl _) (g := (mkF m 12 #[.val (.ref x), .val (.int (Int32.ofNat i))] [.int (Int32.ofNat i), .ref t])) rfl (by rw [hml]; rfl) c5 (argsL := [.ref t, .int (Int32.ofNat i)]) (rest := []) rfl rfl (by show 2 * 0 + 0 ≤ _; decide) (hb hbytes d12) (⟨rfl, hx.2.2.2.1.mv X4.warmed.alike hh4, (k2 i hi).1, s3.there X4.warmed.alike hh4, rf⟩)
    obtain ⟨rfl, q6⟩ := E6
    rw [chr8_lo8 hr.1 (k2 i hi).2] at g6
    exact ⟨T6, some (.int (f i)), _, _, _, X6, rfl, rfl, rfl, (fun h => by cases h), ⟨rfl, q6.trans hh4⟩, fun fs hl => Steps.trans g6 (X6.ireturnOut hexec hret (narrow_ch hr.1 hr.2) (Or.inr (Or.inr (Or.inr (Or.inl rfl)))) (hb hbytes d15) hl)⟩
  · exact absurd k0 (by decide)
theorem pays {l : Launch} {R : Room} {p : Program} {e : Env} {below : List Frame} {s : State} {sargs : Array Value} {len W : Nat} (x t : Addr) (V : Cell) (n : Nat) (f : Nat → Int32) (z : Int32) (fm : Value) (i : Nat) (htab : tab.before sargs s = true) (hfr : 4 ≤ R.frames) (hlo : W + 53 ≤ R.locals) :
    Back l R p e below s sargs yN len W (fun A₁ a₁ => A₁.cells + 0 ≤ R.cells ∧ A₁.slots + 0 ≤ R.slots ∧ P x t V n f z fm i a₁ A₁.U) (fun A₁ _ v₁ B₁ => E f i v₁ A₁.U B₁.U ∧ B₁.locs = A₁.locs ++ [] ∧ B₁.cells = A₁.cells + 0 ∧ B₁.slots = A₁.slots + 0) :=
  (law l x t V n f z fm i).pays htab hfr (by omega)
end ChN
end StrChars
namespace StrChars.Road
open Jvm Sem ClassFile Op Lib Jvm.Stand Jvm.Free Jvm.Free.XT
open Jvm.Lib.Cold (StaticIs)
/-- the words of String.charAt(int), the Latin-1 road alone -/
abbrev wordsChN : List Jvm.Cond := [.code ChN.yN ChN.yB 2 (some .char), .initialized ST, .fieldLink ST 9 ST "value" "[B", .fieldLink ST 38 ST "COMPACT_STRINGS" "Z", .fieldLink ST 15 ST "coder" "B", .code IsL.yN IsL.yB 1 (some .boolean), .methodLink ST 492 IsL.yN, .declares IsL.yN, .selects ST IsL.yN IsL.yN, .instanceMethod IsL.yN,
  .methodLink ST 495 LChA.yN, .static LChA.yN, .code LChA.yN LChA.yB 2 (some .char), .initialized "java/lang/StringLatin1", .methodLink "java/lang/StringLatin1" 9 JO.Str_checkIndex.yN, .static JO.Str_checkIndex.yN, .code JO.Str_checkIndex.yN JO.Str_checkIndex.yB 2 none,
  .fieldLink ST 1053 "jdk/internal/util/Preconditions" "SIOOBE_FORMATTER" "Ljava/util/function/BiFunction;", .methodLink ST 1059 JC.PreCheck.yN, .static JC.PreCheck.yN, .code JC.PreCheck.yN JC.PreCheck.yB 3 (some .int), .initialized "jdk/internal/util/Preconditions"]
theorem tabChN_of {a : Array Value} {s : State} (h : ∀ w ∈ wordsChN, w.before a s = true) : ChN.tab.before a s = true := by
  have hp : JC.PreCheck.tab.before a s = true := unparts (wk h (.code JC.PreCheck.yN JC.PreCheck.yB 3 (some .int))) (wks h (.initialized JC.PreCheck.yN.cls :: JC.PreCheck.site))
  have qk := consq hp h
  have hk : JO.Str_checkIndex.tab.before a s = true := unparts (wk qk (.code JO.Str_checkIndex.yN JO.Str_checkIndex.yB 2 none)) (wks qk (.initialized JO.Str_checkIndex.yN.cls :: JO.Str_checkIndex.site))
  have ql := consq hk h
  have hl : LChA.tab.before a s = true := unparts (wk ql (.code LChA.yN LChA.yB 2 (some .char))) (wks ql (.initialized LChA.yN.cls :: LChA.site))
  have hi : IsL.tab.before a s = true := unparts (wk h (.code IsL.yN IsL.yB 1 (some .boolean))) (wks h (.initialized IsL.yN.cls :: IsL.site))
  have q := consq hi (consq hl h)
  exact unparts (wk q (.code ChN.yN ChN.yB 2 (some .char))) (wks q (.initialized ChN.yN.cls :: ChN.site))
theorem movedChN {Z s : State} {a0 args : Array Value} (hZ : Z.Warmed39 s.vm) (hw : ∀ d ∈ wordsChN, d.before a0 Z = true) : ∀ d ∈ wordsChN, d.before args s = true := fun d hd => by
  have t : ∀ d ∈ wordsChN, (d.onTables && d.keepsFace) = true := by decide +kernel
  exact RoadKit.mv hZ (hw d hd) (t d hd)
/-- **charAt(i) OF A LATIN-1 STRING**, i < n: the char -/
theorem chN {p : Program} {l : Launch} {e : Env} {R : Room} {s : State} {args : Array Value} {below : List Frame} {len W : Nat} {Z : State} {a0 : Array Value} {h : Heap} (hZ : Z.Warmed39 s.vm) (hw : ∀ d ∈ wordsChN, d.before a0 Z = true) {kI : Nat} (wi : (Jvm.Cond.instantiable ST kI).before a0 Z = true)
    {x t : Addr} {kb : ClassId} {cs : List Int32} {N2 z : Int32} {vs : List Value} {fm : Value} {i : Nat} {j : Int32} (E : RoadKit.Exa Z h x ST) (V : RoadKit.Fld Z h x ST "value" "[B" (.ref t)) (C : RoadKit.Fld Z h x ST "coder" "B" (.int 0)) (K : RoadKit.Arv Z h t kb .byte N2 vs (.int 0)) (hc : CodA cs 0 N2 vs) (hb : ∀ c ∈ cs, ¬ c < 0 ∧ ¬ (65535 : Int32) < c)
    (S : RoadKit.Sta Z h ST "COMPACT_STRINGS" "Z" (.int z)) (hz : ¬ z = 0) (F : RoadKit.Sta Z h "jdk/internal/util/Preconditions" "SIOOBE_FORMATTER" "Ljava/util/function/BiFunction;" fm) (rf : fm.isRef = true) (l2 : cs.length ≤ 4000) (hi : i < cs.length) (hj : j = Int32.ofNat i) (hfr : 4 ≤ R.frames) (hlo : W + 53 ≤ R.locals) :
    Back l R p e below s args (⟨"java/lang/String", "charAt", "(I)C"⟩ : MethodName) len W (fun P a => a = #[.ref x, .int j] ∧ P.U.heap = h ∧ P.cells + 0 ≤ R.cells ∧ P.slots + 0 ≤ R.slots)
      (fun P _ v B => ∃ L, (v = some (.int (cs.getD i 0)) ∧ L = [] ∧ B.U.heap = h) ∧ B.locs = P.locs ++ L ∧ B.cells = P.cells + 0 ∧ B.slots = P.slots + 0) := by
  subst hj
  intro m meth c P g ig mk a X hg hsize hdg hW hn hp'
  obtain ⟨rfl, rfl, r1, r2⟩ := hp'
  have al : Z.vm.Alike P.U.vm := hZ.alike.trans X.warmed.alike
  obtain ⟨A, hx⟩ := txt_of wi al E V C K hc hb l2
  obtain ⟨v, B, X', ⟨⟨hv, hh⟩, hl, hk, hs⟩, st⟩ := ChN.pays x t A cs.length (fun j => cs.getD j 0) z fm i (tabChN_of (movedChN hZ hw)) hfr hlo m meth c P g ig mk _ X hg hsize hdg hW hn ⟨r1, r2, rfl, hx, hi, sta_is al S, hz, sta_is al F, rf⟩
  exact ⟨v, B, X', ⟨[], ⟨hv, rfl, hh⟩, hl, hk, hs⟩, st⟩
/-- what backV says of its String, as the contracts of this text ask it: cs's low bytes, coder 0 -/
theorem codOf {cs : List Int32} {n : Nat} (hn : cs.length = n) (hb : ∀ c ∈ cs, ¬ 255 < c) : CodA cs 0 (Int32.ofNat n) ((cs.map lo8).map Value.int) := Or.inl ⟨rfl, by rw [hn], by simp [List.map_map, Function.comp_def], hb⟩
end StrChars.Road
end Jvm.Pilot.@@N@@

namespace Jvm.Pilot.@@N@@
open Jvm Jvm.ClassFile Sem Op Lib Jvm.Free Jvm.Stand Jvm.LawKit Jvm.RoadKit Bundle Jvm.Pilot.@@N@@.Jvm.D

/-! A small layer of this proof's own: a goal 'the run from here ends well' (own_G), in continuation style, and one rule a step over the library's laws. -/
section OwnKit
variable {p : Program} {l : Launch} {e : Env} {R : Room} {s : State} {m : MethodId} {args : Array Value} {below : List Frame} {meth : Method} {c : Code} {T : State} {locs : List Loc} {cells slots : Nat} {Z : State} {a0 : Array Value} {h : Heap} {F : Outcome → State → Prop} {pc pc' : Nat} {Ls : Array Slot} {st stk : List Value}
/-- from st the run ends, and F holds of its end -/
def own_G (p : Program) (e : Env) (below : List Frame) (F : Outcome → State → Prop) (st : State) : Prop := ∃ U o, Steps p.tables e below st U ∧ U.status = .running ∧ Ended U below o ∧ F o U
theorem own_step {a b : State} (hs : ∀ t, Steps p.tables e below b t → Steps p.tables e below a t) (g : own_G p e below F b) : own_G p e below F a := by
  obtain ⟨U, o, h1, h2⟩ := g; exact ⟨U, o, hs _ h1, h2⟩
theorem own_go {a b : State} (hs : Steps p.tables e below a b) (g : own_G p e below F b) : own_G p e below F a := own_step (fun _ k => hs.trans k) g
/-- it returned v, with Q of v, the heap and the places written -/
def own_F (s : State) (Q : Option Value → Heap → List Loc → Prop) (k n : Nat) (o : Outcome) (U : State) : Prop := ∃ v L, o = .returned v ∧ Q v U.heap L ∧ FrameEnd s o U L k n
abbrev own_Met (l : Launch) (Z : State) (y : MethodName) (bytes : ByteArray) (maxL : Nat) (ret : Option FieldType) (ws : List Jvm.Cond) (rm : Room) (as : Array Value) (h : Heap) (Q : Option Value → Heap → List Loc → Prop) : Prop :=
  MetFree l y (head1 (Jvm.Cond.code y bytes maxL ret :: ws) rm) (fun a U => a = as ∧ Z.Warmed39 U.vm ∧ U.heap = h) (fun _ _ _ _ _ => True) (fun _ U o U' => ∃ v L, o = .returned v ∧ Q v U'.heap L ∧ FrameEnd U o U' L rm.cells rm.slots)
/-- a body that returns r, writes nothing and makes nothing -/
def own_P (r : Option Value) (h0 : Heap) (v : Option Value) (h : Heap) (L : List Loc) : Prop := v = r ∧ L = [] ∧ h = h0
theorem own_enter {y : MethodName} {bytes : ByteArray} {maxL : Nat} {ret : Option FieldType} {ws : List Jvm.Cond} {rm : Room} {as : Array Value} {Q : Option Value → Heap → List Loc → Prop} (hp : plainFor y = true) {fr : Array Slot} (hfr : ∀ m, entryFrame m as maxL = mkF m 0 fr [])
    (body : ∀ (p : Program) (e : Env) (s : State) (m : MethodId) (below : List Frame) (meth : Method) (c : Code) (T : State), p.tables.exec = Jvm.exec → c.code = bytes → c.maxLocals = maxL → Z.Warmed39 s.vm → s.vm.findClass y.cls = some m.cls → meth.name = y.name → meth.sig.returnType = ret → meth.locks = false →
      Stand p l e rm s m as below meth c T [] 0 0 → T.heap = h → own_G p e below (own_F s Q rm.cells rm.slots) (T.setTop (mkF m 0 fr []))) : own_Met l Z y bytes maxL ret ws rm as h Q := by
  refine MetFree.of_bodySF hp hisR ?_
  intro p e s m args below meth c s₁ Bd hml0 hP hK
  obtain ⟨rfl, hZ, hh⟩ := hP
  have q := body p e s m below meth c s₁ Bd.exec Bd.bytes hml0 hZ (findClass_of_methodNamed Bd.named) (name_of_methodNamed Bd.named Bd.method).1 Bd.returns (BodyLoose.notSynchronized Bd) (Stand.of_body Bd) (by rw [← hh, Bd.state]; rfl)
  rw [hfr m]; exact q
theorem own_w {a0 : Array Value} {Z : State} {ts : List Jvm.Cond} (hw : ∀ d ∈ ts, d.before a0 Z = true) (i : Nat) {d : Jvm.Cond} (h : ts[i]? = some d) : d.before a0 Z = true := hw d (List.mem_of_getElem? h)
/-! returns -/
theorem own_ret {Q : Option Value → Heap → List Loc → Prop} {k n : Nat} {v : Option Value} {fr : JFrame} (X : Stand p l e R s m args below meth c T locs cells slots) (hv : meth.sig.returnType = none → v = none) (hlk : meth.locks = false)
    (hst : ∀ fs, (∀ (f : JFrame) (acts : List Action), f.method = m → f.locked = none → f.entered = [] → (doReturn e (T.setTop f) acts v).1 = T.setFrames fs) → Steps p.tables e below (T.setTop fr) (T.setFrames fs)) (hQ : Q v T.heap locs) (hc : cells ≤ k) (hn : slots ≤ n) : own_G p e below (own_F s Q k n) (T.setTop fr) := by
  obtain ⟨fs, hr, hrun, hended, hW, hsame⟩ := X.leave (v := v) hv hlk
  exact ⟨_, _, hst fs hr, hrun, hended, v, locs, rfl, hQ, ⟨_, rfl⟩, hW, hsame.mono hc hn⟩
theorem own_stepI (X : Stand p l e R s m args below meth c T locs cells slots) (hx : p.tables.exec = Jvm.exec) {z : Int32} (hret : meth.sig.returnType = some .int) (hd : decode c.code pc = .ok (.ireturn, 1)) {fs : List Frame}
    (hl : ∀ (f : JFrame) (acts : List Action), f.method = m → f.locked = none → f.entered = [] → (doReturn e (T.setTop f) acts (some (.int z))).1 = T.setFrames fs) : Steps p.tables e below (T.setTop (mkF m pc Ls (.int z :: st))) (T.setFrames fs) :=
  retOut X hx (w := .int z) (t := .int) (i := .ireturn) hret rfl (Or.inl ⟨rfl, Or.inl rfl, z, rfl⟩) hd hl
theorem own_retI {Q : Option Value → Heap → List Loc → Prop} {k n : Nat} {z : Int32} (X : Stand p l e R s m args below meth c T locs cells slots) (hx : p.tables.exec = Jvm.exec) (hret : meth.sig.returnType = some .int) (hlk : meth.locks = false) (hd : decode c.code pc = .ok (.ireturn, 1))
    (hQ : Q (some (.int z)) T.heap locs) (hc : cells ≤ k) (hn : slots ≤ n) : own_G p e below (own_F s Q k n) (T.setTop (mkF m pc Ls (.int z :: st))) :=
  own_ret X (fun q => by rw [hret] at q; cases q) hlk (fun _ hr => own_stepI X hx hret hd hr) hQ hc hn
theorem own_retN {Q : Option Value → Heap → List Loc → Prop} {k n : Nat} {z : Int32} {t : FieldType} (X : Stand p l e R s m args below meth c T locs cells slots) (hx : p.tables.exec = Jvm.exec) (hret : meth.sig.returnType = some t) (ht : t = .boolean ∨ t = .byte ∨ t = .char ∨ t = .short) (hlk : meth.locks = false) (hd : decode c.code pc = .ok (.ireturn, 1))
    (hQ : Q (some (.int (nar t z))) T.heap locs) (hc : cells ≤ k) (hn : slots ≤ n) : own_G p e below (own_F s Q k n) (T.setTop (mkF m pc Ls (.int z :: st))) :=
  own_ret X (fun q => by rw [hret] at q; cases q) hlk (fun _ hr => retN X hx hret ht hd hr) hQ hc hn
theorem own_retR {Q : Option Value → Heap → List Loc → Prop} {k n : Nat} {w : Value} {t : FieldType} (X : Stand p l e R s m args below meth c T locs cells slots) (hx : p.tables.exec = Jvm.exec) (hret : meth.sig.returnType = some t) (ht : t.isReference = true) (hnw : narrow t w = w) (hwr : w.isRef = true) (hlk : meth.locks = false) (hd : decode c.code pc = .ok (.areturn, 1))
    (hQ : Q (some w) T.heap locs) (hc : cells ≤ k) (hn : slots ≤ n) : own_G p e below (own_F s Q k n) (T.setTop (mkF m pc Ls (w :: st))) :=
  own_ret X (fun q => by rw [hret] at q; cases q) hlk (fun _ hr => retOut X hx (t := t) (i := .areturn) hret hnw (Or.inr (Or.inr (Or.inr (Or.inr ⟨rfl, ht, hwr⟩)))) hd hr) hQ hc hn
theorem own_retV {Q : Option Value → Heap → List Loc → Prop} {k n : Nat} (X : Stand p l e R s m args below meth c T locs cells slots) (hx : p.tables.exec = Jvm.exec) (hret : meth.sig.returnType = none) (hlk : meth.locks = false) (hd : decode c.code pc = .ok (.return_, 1))
    (hQ : Q none T.heap locs) (hc : cells ≤ k) (hn : slots ≤ n) : own_G p e below (own_F s Q k n) (T.setTop (mkF m pc Ls [])) :=
  own_ret X (fun _ => rfl) hlk (fun _ hr => X.returnOut hx hret hd hr) hQ hc hn
/-! branches -/
theorem own_icmp {P : Prop} {cd : ClassFile.Cond} {x y : Int32} {o : Int} (X : Stand p l e R s m args below meth c T locs cells slots) (hx : p.tables.exec = Jvm.exec) (hd : decode c.code pc = .ok (.if_icmp cd o, 3)) (ho : 0 ≤ (pc : Int) + o) (hp : ((pc : Int) + o).toNat = pc')
    (h1 : P → if_icmp.holds cd x y = true) (h2 : ¬ P → if_icmp.holds cd x y = false) (yes : P → own_G p e below F (T.setTop (mkF m pc' Ls st))) (no : ¬ P → own_G p e below F (T.setTop (mkF m (pc + 3) Ls st))) : own_G p e below F (T.setTop (mkF m pc Ls (.int y :: .int x :: st))) := by
  by_cases q : P
  · exact own_step (fun t k => XS.icmpYes X.here hx rfl (pc0 := pc) (pc' := pc') rfl hd rfl (h1 q) ho hp k) (yes q)
  · exact own_step (fun t k => XS.icmpNo X.here hx rfl hd rfl (h2 q) k) (no q)
theorem own_ifc {P : Prop} {cd : ClassFile.Cond} {x : Int32} {o : Int} (X : Stand p l e R s m args below meth c T locs cells slots) (hx : p.tables.exec = Jvm.exec) (hd : decode c.code pc = .ok (.ifCond cd o, 3)) (ho : 0 ≤ (pc : Int) + o) (hp : ((pc : Int) + o).toNat = pc')
    (h1 : P → ifCond.holds cd x = true) (h2 : ¬ P → ifCond.holds cd x = false) (yes : P → own_G p e below F (T.setTop (mkF m pc' Ls st))) (no : ¬ P → own_G p e below F (T.setTop (mkF m (pc + 3) Ls st))) : own_G p e below F (T.setTop (mkF m pc Ls (.int x :: st))) := by
  by_cases q : P
  · exact own_step (fun t k => XS.ifYes X.here hx rfl (pc0 := pc) (pc' := pc') rfl hd rfl (h1 q) ho hp k) (yes q)
  · exact own_step (fun t k => XS.ifNo X.here hx rfl hd rfl (h2 q) k) (no q)
theorem own_icmp_eq {x y : Int32} {o : Int} (X : Stand p l e R s m args below meth c T locs cells slots) (hx : p.tables.exec = Jvm.exec) (hd : decode c.code pc = .ok (.if_icmp .eq o, 3)) (ho : 0 ≤ (pc : Int) + o) (hp : ((pc : Int) + o).toNat = pc')
    (yes : x = y → own_G p e below F (T.setTop (mkF m pc' Ls st))) (no : ¬ x = y → own_G p e below F (T.setTop (mkF m (pc + 3) Ls st))) : own_G p e below F (T.setTop (mkF m pc Ls (.int y :: .int x :: st))) :=
  own_icmp (P := x = y) X hx hd ho hp (fun q => by have q' := q; simp [if_icmp.holds, Int32.not_lt, Int32.not_le] at q' ⊢; exact q') (fun q => by have q' := q; simp [if_icmp.holds, Int32.not_lt, Int32.not_le] at q' ⊢; exact q') yes (fun q => no (by first | exact q | exact Classical.not_not.mp q))
theorem own_if_eq {x : Int32} {o : Int} (X : Stand p l e R s m args below meth c T locs cells slots) (hx : p.tables.exec = Jvm.exec) (hd : decode c.code pc = .ok (.ifCond .eq o, 3)) (ho : 0 ≤ (pc : Int) + o) (hp : ((pc : Int) + o).toNat = pc')
    (yes : x = 0 → own_G p e below F (T.setTop (mkF m pc' Ls st))) (no : ¬ x = 0 → own_G p e below F (T.setTop (mkF m (pc + 3) Ls st))) : own_G p e below F (T.setTop (mkF m pc Ls (.int x :: st))) :=
  own_ifc (P := x = 0) X hx hd ho hp (fun q => by have q' := q; simp [ifCond.holds, Int32.not_lt, Int32.not_le] at q' ⊢; exact q') (fun q => by have q' := q; simp [ifCond.holds, Int32.not_lt, Int32.not_le] at q' ⊢; exact q') yes (fun q => no (by first | exact q | exact Classical.not_not.mp q))
theorem own_icmp_ne {x y : Int32} {o : Int} (X : Stand p l e R s m args below meth c T locs cells slots) (hx : p.tables.exec = Jvm.exec) (hd : decode c.code pc = .ok (.if_icmp .ne o, 3)) (ho : 0 ≤ (pc : Int) + o) (hp : ((pc : Int) + o).toNat = pc')
    (yes : ¬ x = y → own_G p e below F (T.setTop (mkF m pc' Ls st))) (no : x = y → own_G p e below F (T.setTop (mkF m (pc + 3) Ls st))) : own_G p e below F (T.setTop (mkF m pc Ls (.int y :: .int x :: st))) :=
  own_icmp (P := ¬ x = y) X hx hd ho hp (fun q => by have q' := q; simp [if_icmp.holds, Int32.not_lt, Int32.not_le] at q' ⊢; exact q') (fun q => by have q' := q; simp [if_icmp.holds, Int32.not_lt, Int32.not_le] at q' ⊢; exact q') yes (fun q => no (by first | exact q | exact Classical.not_not.mp q))
theorem own_if_ne {x : Int32} {o : Int} (X : Stand p l e R s m args below meth c T locs cells slots) (hx : p.tables.exec = Jvm.exec) (hd : decode c.code pc = .ok (.ifCond .ne o, 3)) (ho : 0 ≤ (pc : Int) + o) (hp : ((pc : Int) + o).toNat = pc')
    (yes : ¬ x = 0 → own_G p e below F (T.setTop (mkF m pc' Ls st))) (no : x = 0 → own_G p e below F (T.setTop (mkF m (pc + 3) Ls st))) : own_G p e below F (T.setTop (mkF m pc Ls (.int x :: st))) :=
  own_ifc (P := ¬ x = 0) X hx hd ho hp (fun q => by have q' := q; simp [ifCond.holds, Int32.not_lt, Int32.not_le] at q' ⊢; exact q') (fun q => by have q' := q; simp [ifCond.holds, Int32.not_lt, Int32.not_le] at q' ⊢; exact q') yes (fun q => no (by first | exact q | exact Classical.not_not.mp q))
theorem own_icmp_lt {x y : Int32} {o : Int} (X : Stand p l e R s m args below meth c T locs cells slots) (hx : p.tables.exec = Jvm.exec) (hd : decode c.code pc = .ok (.if_icmp .lt o, 3)) (ho : 0 ≤ (pc : Int) + o) (hp : ((pc : Int) + o).toNat = pc')
    (yes : x < y → own_G p e below F (T.setTop (mkF m pc' Ls st))) (no : ¬ x < y → own_G p e below F (T.setTop (mkF m (pc + 3) Ls st))) : own_G p e below F (T.setTop (mkF m pc Ls (.int y :: .int x :: st))) :=
  own_icmp (P := x < y) X hx hd ho hp (fun q => by have q' := q; simp [if_icmp.holds, Int32.not_lt, Int32.not_le] at q' ⊢; exact q') (fun q => by have q' := q; simp [if_icmp.holds, Int32.not_lt, Int32.not_le] at q' ⊢; exact q') yes (fun q => no (by first | exact q | exact Classical.not_not.mp q))
theorem own_if_lt {x : Int32} {o : Int} (X : Stand p l e R s m args below meth c T locs cells slots) (hx : p.tables.exec = Jvm.exec) (hd : decode c.code pc = .ok (.ifCond .lt o, 3)) (ho : 0 ≤ (pc : Int) + o) (hp : ((pc : Int) + o).toNat = pc')
    (yes : x < 0 → own_G p e below F (T.setTop (mkF m pc' Ls st))) (no : ¬ x < 0 → own_G p e below F (T.setTop (mkF m (pc + 3) Ls st))) : own_G p e below F (T.setTop (mkF m pc Ls (.int x :: st))) :=
  own_ifc (P := x < 0) X hx hd ho hp (fun q => by have q' := q; simp [ifCond.holds, Int32.not_lt, Int32.not_le] at q' ⊢; exact q') (fun q => by have q' := q; simp [ifCond.holds, Int32.not_lt, Int32.not_le] at q' ⊢; exact q') yes (fun q => no (by first | exact q | exact Classical.not_not.mp q))
theorem own_icmp_ge {x y : Int32} {o : Int} (X : Stand p l e R s m args below meth c T locs cells slots) (hx : p.tables.exec = Jvm.exec) (hd : decode c.code pc = .ok (.if_icmp .ge o, 3)) (ho : 0 ≤ (pc : Int) + o) (hp : ((pc : Int) + o).toNat = pc')
    (yes : ¬ x < y → own_G p e below F (T.setTop (mkF m pc' Ls st))) (no : x < y → own_G p e below F (T.setTop (mkF m (pc + 3) Ls st))) : own_G p e below F (T.setTop (mkF m pc Ls (.int y :: .int x :: st))) :=
  own_icmp (P := ¬ x < y) X hx hd ho hp (fun q => by have q' := q; simp [if_icmp.holds, Int32.not_lt, Int32.not_le] at q' ⊢; exact q') (fun q => by have q' := q; simp [if_icmp.holds, Int32.not_lt, Int32.not_le] at q' ⊢; exact q') yes (fun q => no (by first | exact q | exact Classical.not_not.mp q))
theorem own_if_ge {x : Int32} {o : Int} (X : Stand p l e R s m args below meth c T locs cells slots) (hx : p.tables.exec = Jvm.exec) (hd : decode c.code pc = .ok (.ifCond .ge o, 3)) (ho : 0 ≤ (pc : Int) + o) (hp : ((pc : Int) + o).toNat = pc')
    (yes : ¬ x < 0 → own_G p e below F (T.setTop (mkF m pc' Ls st))) (no : x < 0 → own_G p e below F (T.setTop (mkF m (pc + 3) Ls st))) : own_G p e below F (T.setTop (mkF m pc Ls (.int x :: st))) :=
  own_ifc (P := ¬ x < 0) X hx hd ho hp (fun q => by have q' := q; simp [ifCond.holds, Int32.not_lt, Int32.not_le] at q' ⊢; exact q') (fun q => by have q' := q; simp [ifCond.holds, Int32.not_lt, Int32.not_le] at q' ⊢; exact q') yes (fun q => no (by first | exact q | exact Classical.not_not.mp q))
theorem own_icmp_gt {x y : Int32} {o : Int} (X : Stand p l e R s m args below meth c T locs cells slots) (hx : p.tables.exec = Jvm.exec) (hd : decode c.code pc = .ok (.if_icmp .gt o, 3)) (ho : 0 ≤ (pc : Int) + o) (hp : ((pc : Int) + o).toNat = pc')
    (yes : y < x → own_G p e below F (T.setTop (mkF m pc' Ls st))) (no : ¬ y < x → own_G p e below F (T.setTop (mkF m (pc + 3) Ls st))) : own_G p e below F (T.setTop (mkF m pc Ls (.int y :: .int x :: st))) :=
  own_icmp (P := y < x) X hx hd ho hp (fun q => by have q' := q; simp [if_icmp.holds, Int32.not_lt, Int32.not_le] at q' ⊢; exact q') (fun q => by have q' := q; simp [if_icmp.holds, Int32.not_lt, Int32.not_le] at q' ⊢; exact q') yes (fun q => no (by first | exact q | exact Classical.not_not.mp q))
theorem own_if_gt {x : Int32} {o : Int} (X : Stand p l e R s m args below meth c T locs cells slots) (hx : p.tables.exec = Jvm.exec) (hd : decode c.code pc = .ok (.ifCond .gt o, 3)) (ho : 0 ≤ (pc : Int) + o) (hp : ((pc : Int) + o).toNat = pc')
    (yes : 0 < x → own_G p e below F (T.setTop (mkF m pc' Ls st))) (no : ¬ 0 < x → own_G p e below F (T.setTop (mkF m (pc + 3) Ls st))) : own_G p e below F (T.setTop (mkF m pc Ls (.int x :: st))) :=
  own_ifc (P := 0 < x) X hx hd ho hp (fun q => by have q' := q; simp [ifCond.holds, Int32.not_lt, Int32.not_le] at q' ⊢; exact q') (fun q => by have q' := q; simp [ifCond.holds, Int32.not_lt, Int32.not_le] at q' ⊢; exact q') yes (fun q => no (by first | exact q | exact Classical.not_not.mp q))
theorem own_icmp_le {x y : Int32} {o : Int} (X : Stand p l e R s m args below meth c T locs cells slots) (hx : p.tables.exec = Jvm.exec) (hd : decode c.code pc = .ok (.if_icmp .le o, 3)) (ho : 0 ≤ (pc : Int) + o) (hp : ((pc : Int) + o).toNat = pc')
    (yes : ¬ y < x → own_G p e below F (T.setTop (mkF m pc' Ls st))) (no : y < x → own_G p e below F (T.setTop (mkF m (pc + 3) Ls st))) : own_G p e below F (T.setTop (mkF m pc Ls (.int y :: .int x :: st))) :=
  own_icmp (P := ¬ y < x) X hx hd ho hp (fun q => by have q' := q; simp [if_icmp.holds, Int32.not_lt, Int32.not_le] at q' ⊢; exact q') (fun q => by have q' := q; simp [if_icmp.holds, Int32.not_lt, Int32.not_le] at q' ⊢; exact q') yes (fun q => no (by first | exact q | exact Classical.not_not.mp q))
theorem own_if_le {x : Int32} {o : Int} (X : Stand p l e R s m args below meth c T locs cells slots) (hx : p.tables.exec = Jvm.exec) (hd : decode c.code pc = .ok (.ifCond .le o, 3)) (ho : 0 ≤ (pc : Int) + o) (hp : ((pc : Int) + o).toNat = pc')
    (yes : ¬ 0 < x → own_G p e below F (T.setTop (mkF m pc' Ls st))) (no : 0 < x → own_G p e below F (T.setTop (mkF m (pc + 3) Ls st))) : own_G p e below F (T.setTop (mkF m pc Ls (.int x :: st))) :=
  own_ifc (P := ¬ 0 < x) X hx hd ho hp (fun q => by have q' := q; simp [ifCond.holds, Int32.not_lt, Int32.not_le] at q' ⊢; exact q') (fun q => by have q' := q; simp [ifCond.holds, Int32.not_lt, Int32.not_le] at q' ⊢; exact q') yes (fun q => no (by first | exact q | exact Classical.not_not.mp q))
theorem own_nonnull_ref {b : Addr} {o : Int} (X : Stand p l e R s m args below meth c T locs cells slots) (hx : p.tables.exec = Jvm.exec) (hd : decode c.code pc = .ok (.ifnonnull o, 3)) (ho : 0 ≤ (pc : Int) + o) (hp : ((pc : Int) + o).toNat = pc')
    (yes : own_G p e below F (T.setTop (mkF m pc' Ls st))) : own_G p e below F (T.setTop (mkF m pc Ls (.ref b :: st))) := own_step (fun t k => XT.ifnonnullYes X.here hx rfl (pc0 := pc) (pc' := pc') rfl hd rfl ho hp k) yes
theorem own_nonnull_null {o : Int} (X : Stand p l e R s m args below meth c T locs cells slots) (hx : p.tables.exec = Jvm.exec) (hd : decode c.code pc = .ok (.ifnonnull o, 3))
    (no : own_G p e below F (T.setTop (mkF m (pc + 3) Ls st))) : own_G p e below F (T.setTop (mkF m pc Ls (.null :: st))) := own_step (fun t k => XT.ifnonnullNo X.here hx rfl hd rfl k) no
/-! the heap -/
theorem own_getF (X : Stand p l e R s m args below meth c T locs cells slots) (hx : p.tables.exec = Jvm.exec) (hZ : Z.Warmed39 s.vm) {own O n d : String} {index : Nat} (hown : s.vm.findClass own = some m.cls) (w : (Jvm.Cond.fieldLink own index O n d).before a0 Z = true) (eT : T.heap = h) {a : Addr} {v : Value} (Fd : Fld Z h a O n d v) (hd : decode c.code pc = .ok (.getfield index, 3))
    (k : ∀ T', Stand p l e R s m args below meth c T' locs cells slots → T'.heap = h → own_G p e below F (T'.setTop (mkF m (pc + 3) Ls (v :: st)))) : own_G p e below F (T.setTop (mkF m pc Ls (.ref a :: st))) := by
  obtain ⟨T', X', e', st'⟩ := getF X hx hZ hown (host := "") (Or.inl w) Via.refl eT Fd (g := mkF m pc Ls (.ref a :: st)) rfl rfl hd
  exact own_step st' (k T' X' e')
theorem own_getS (X : Stand p l e R s m args below meth c T locs cells slots) (hx : p.tables.exec = Jvm.exec) (hZ : Z.Warmed39 s.vm) {own O n d : String} {index : Nat} (hown : s.vm.findClass own = some m.cls) (w : (Jvm.Cond.fieldLink own index O n d).before a0 Z = true) (eT : T.heap = h) {v : Value} (Fd : Sta Z h O n d v) (hd : decode c.code pc = .ok (.getstatic index, 3))
    (k : ∀ T', Stand p l e R s m args below meth c T' locs cells slots → T'.heap = h → own_G p e below F (T'.setTop (mkF m (pc + 3) Ls (v :: st)))) : own_G p e below F (T.setTop (mkF m pc Ls st)) := by
  obtain ⟨T', X', e', st'⟩ := getS X hx hZ (host := "") hown w Via.refl eT Fd (g := mkF m pc Ls st) rfl hd
  exact own_step st' (k T' X' e')
theorem own_putF (X : Stand p l e R s m args below meth c T locs cells slots) (hx : p.tables.exec = Jvm.exec) (hZ : Z.Warmed39 s.vm) {own O n d C : String} {index kk : Nat} {ty : FieldType} (hown : s.vm.findClass own = some m.cls) (w : (Jvm.Cond.fieldLink own index O n d).before a0 Z = true) (eT : T.heap = h) {a : Addr} {v old : Value} (Fd : Fld Z h a O n d old) (E : Exa Z h a C)
    (L : (Jvm.Cond.lays C O n d).before a0 Z = true ∨ ((Jvm.Cond.laysFinal C O n d).before a0 Z = true ∧ own = O ∧ meth.name = "<init>")) (wi : (Jvm.Cond.instantiable C kk).before a0 Z = true) (hty : parseFieldDescriptor d = some ty) (hn : narrow ty v = v) (hf : fits ty v = true) (N : Fr Z.heap.size locs) (ha : Z.heap.size ≤ a) (hd : decode c.code pc = .ok (.putfield index, 3))
    (k : ∀ T' h', Stand p l e R s m args below meth c T' (locs ++ [⟨a, Jvm.RoadKit.slotOf Z O n d⟩]) cells slots → T'.heap = h' → Fr Z.heap.size (locs ++ [⟨a, Jvm.RoadKit.slotOf Z O n d⟩]) → Wr h h' a (Jvm.RoadKit.slotOf Z O n d) v → h'.size = h.size → Fld Z h' a O n d v → Exa Z h' a C → own_G p e below F (T'.setTop (mkF m (pc + 3) Ls st))) : own_G p e below F (T.setTop (mkF m pc Ls (v :: .ref a :: st))) := by
  obtain ⟨T', h', X', e', W', st'⟩ := putF X hx hZ hown (host := "") (Or.inl w) Via.refl eT Fd E L wi hty hn hf (g := mkF m pc Ls (v :: .ref a :: st)) rfl rfl hd
  exact own_step st' (k T' h' X' e' (Fr.snoc X' N ha) W' W'.size (Fd.same W') (E.wr W'))
theorem own_newO (X : Stand p l e R s m args below meth c T locs cells slots) (hx : p.tables.exec = Jvm.exec) (hZ : Z.Warmed39 s.vm) {own C : String} {index n : Nat} (hown : s.vm.findClass own = some m.cls) (w : (Jvm.Cond.classLink own index C).before a0 Z = true) (wi : (Jvm.Cond.instantiable C n).before a0 Z = true) (wz : (Jvm.Cond.initialized C).before a0 Z = true) (eT : T.heap = h)
    (hd : decode c.code pc = .ok (.new index, 3)) (hc : cells + 1 ≤ R.cells) (hl : slots + n ≤ R.slots)
    (k : ∀ T' h' a, Stand p l e R s m args below meth c T' locs (cells + 1) (slots + n) → T'.heap = h' → a = h.size → a < h'.size → Ext h h' → Exa Z h' a C → (∀ {O nm d : String} {ty : FieldType}, Laid Z a0 C O nm d → parseFieldDescriptor d = some ty → Fld Z h' a O nm d (defaultValue ty)) →
      own_G p e below F (T'.setTop (mkF m (pc + 3) Ls (.ref a :: st)))) : own_G p e below F (T.setTop (mkF m pc Ls st)) := by
  obtain ⟨T', h', X', e', E', A', D', -, st'⟩ := newO X hx hZ hown w wi wz eT (g := mkF m pc Ls st) rfl hd hc hl
  exact own_step st' (k T' h' h.size X' e' rfl A'.lt E' A' D')
/-- newarray, its places said one by one -/
theorem own_newP (X : Stand p l e R s m args below meth c T locs cells slots) (hx : p.tables.exec = Jvm.exec) (hZ : Z.Warmed39 s.vm) {aty : ArrayType} (w : (Jvm.Cond.arrayClass (newarray.typeOf aty)).before a0 Z = true) (eT : T.heap = h) (hd : decode c.code pc = .ok (.newarray aty, 2)) {n : Int32} (hn : ¬ n < 0) (cap : Nat) (hcap : n.toNatClampNeg ≤ cap) (hb : cap * 8 ≤ 536870912) (hc : cells + 1 ≤ R.cells) (hl : slots + cap ≤ R.slots)
    (k : ∀ T' h' a kA, Stand p l e R s m args below meth c T' locs (cells + 1) (slots + cap) → T'.heap = h' → a = h.size → a < h'.size → Ext h h' → Arv Z h' a kA (newarray.typeOf aty) n (List.replicate n.toNatClampNeg (defaultValue (newarray.typeOf aty))) (defaultValue (newarray.typeOf aty)) →
      own_G p e below F (T'.setTop (mkF m (pc + 2) Ls (.ref a :: st)))) : own_G p e below F (T.setTop (mkF m pc Ls (.int n :: st))) := by
  obtain ⟨T', h', cA, X', e', E', A', st'⟩ := newP X hx hZ w eT (g := mkF m pc Ls (.int n :: st)) rfl hd rfl hn (cap := cap) hcap hb hc hl
  exact own_step st' (k T' h' h.size cA X' e' rfl A'.lt E' ((Arv.new A' hn).pad (by have q := pad_rep [] (defaultValue (newarray.typeOf aty)) n.toNatClampNeg; simpa using q)))
theorem own_inb {n : Int32} {i : Nat} {j : Int32} (hj0 : ¬ j < 0) (hj : j.toNatClampNeg = i) (hi : i < n.toNatClampNeg) : ¬ j < 0 ∧ j < n := by
  refine ⟨hj0, ?_⟩
  rw [Int32.lt_iff_toInt_lt]
  simp only [Int32.toNatClampNeg] at hj hi
  rw [Int32.lt_iff_toInt_lt] at hj0
  simp only [Int32.reduceToInt] at hj0
  omega
theorem own_stC (X : Stand p l e R s m args below meth c T locs cells slots) (hx : p.tables.exec = Jvm.exec) (hZ : Z.Warmed39 s.vm) (eT : T.heap = h) {a : Addr} {kA : ClassId} {n : Int32} {vs : List Value} {dv : Value} (V : Arv Z h a kA .char n vs dv) {j x : Int32} (i : Nat) (hj0 : ¬ j < 0) (hj : j.toNatClampNeg = i) (hi : i < n.toNatClampNeg) (hi' : i < vs.length) (N : Fr Z.heap.size locs) (ha : Z.heap.size ≤ a) (hd : decode c.code pc = .ok (.castore, 1))
    (k : ∀ T' h', Stand p l e R s m args below meth c T' (locs ++ [⟨a, j.toNatClampNeg⟩]) cells slots → T'.heap = h' → Fr Z.heap.size (locs ++ [⟨a, j.toNatClampNeg⟩]) → Wr h h' a j.toNatClampNeg (.int (nar .char x)) → h'.size = h.size → Arv Z h' a kA .char n (vs.set i (.int (nar .char x))) dv → own_G p e below F (T'.setTop (mkF m (pc + 1) Ls st))) :
    own_G p e below F (T.setTop (mkF m pc Ls (.int x :: .int j :: .ref a :: st))) := by
  obtain ⟨cl, A, q1, S, q3, H, G⟩ := V
  obtain ⟨T', h', X', e', W', st'⟩ := stC X hx hZ eT A (j := j) (inb_of S (own_inb hj0 hj hi)) (g := mkF m pc Ls (.int x :: .int j :: .ref a :: st)) rfl rfl hd
  exact own_step st' (k T' h' X' e' (Fr.snoc X' N ha) W' W'.size (Arv.set A q1 S q3 H G (fits_nar_char _) W' i hj hi'))
theorem own_stI (X : Stand p l e R s m args below meth c T locs cells slots) (hx : p.tables.exec = Jvm.exec) (hZ : Z.Warmed39 s.vm) (eT : T.heap = h) {a : Addr} {kA : ClassId} {n : Int32} {vs : List Value} {dv : Value} (V : Arv Z h a kA .int n vs dv) {j x : Int32} (i : Nat) (hj0 : ¬ j < 0) (hj : j.toNatClampNeg = i) (hi : i < n.toNatClampNeg) (hi' : i < vs.length) (N : Fr Z.heap.size locs) (ha : Z.heap.size ≤ a) (hd : decode c.code pc = .ok (.iastore, 1))
    (k : ∀ T' h', Stand p l e R s m args below meth c T' (locs ++ [⟨a, j.toNatClampNeg⟩]) cells slots → T'.heap = h' → Fr Z.heap.size (locs ++ [⟨a, j.toNatClampNeg⟩]) → Wr h h' a j.toNatClampNeg (.int x) → h'.size = h.size → Arv Z h' a kA .int n (vs.set i (.int x)) dv → own_G p e below F (T'.setTop (mkF m (pc + 1) Ls st))) :
    own_G p e below F (T.setTop (mkF m pc Ls (.int x :: .int j :: .ref a :: st))) := by
  obtain ⟨cl, A, q1, S, q3, H, G⟩ := V
  obtain ⟨T', h', X', e', W', st'⟩ := stI X hx hZ eT A (j := j) (inb_of S (own_inb hj0 hj hi)) (g := mkF m pc Ls (.int x :: .int j :: .ref a :: st)) rfl rfl hd
  exact own_step st' (k T' h' X' e' (Fr.snoc X' N ha) W' W'.size (Arv.set A q1 S q3 H G rfl W' i hj hi'))
theorem own_stB (X : Stand p l e R s m args below meth c T locs cells slots) (hx : p.tables.exec = Jvm.exec) (hZ : Z.Warmed39 s.vm) (eT : T.heap = h) {a : Addr} {kA : ClassId} {n : Int32} {vs : List Value} {dv : Value} (V : Arv Z h a kA .byte n vs dv) {j x : Int32} (i : Nat) (hj0 : ¬ j < 0) (hj : j.toNatClampNeg = i) (hi : i < n.toNatClampNeg) (hi' : i < vs.length) (N : Fr Z.heap.size locs) (ha : Z.heap.size ≤ a) (hd : decode c.code pc = .ok (.bastore, 1))
    (k : ∀ T' h', Stand p l e R s m args below meth c T' (locs ++ [⟨a, j.toNatClampNeg⟩]) cells slots → T'.heap = h' → Fr Z.heap.size (locs ++ [⟨a, j.toNatClampNeg⟩]) → Wr h h' a j.toNatClampNeg (.int (nar .byte x)) → h'.size = h.size → Arv Z h' a kA .byte n (vs.set i (.int (nar .byte x))) dv → own_G p e below F (T'.setTop (mkF m (pc + 1) Ls st))) :
    own_G p e below F (T.setTop (mkF m pc Ls (.int x :: .int j :: .ref a :: st))) := by
  obtain ⟨cl, A, q1, S, q3, H, G⟩ := V
  obtain ⟨T', h', X', e', W', st'⟩ := stB X hx hZ eT A (j := j) (inb_of S (own_inb hj0 hj hi)) (g := mkF m pc Ls (.int x :: .int j :: .ref a :: st)) rfl rfl hd
  exact own_step st' (k T' h' X' e' (Fr.snoc X' N ha) W' W'.size (Arv.set A q1 S q3 H G (fits_nar_byte _) W' i hj hi'))
theorem own_ldC (X : Stand p l e R s m args below meth c T locs cells slots) (hx : p.tables.exec = Jvm.exec) (hZ : Z.Warmed39 s.vm) (eT : T.heap = h) {a : Addr} {kA : ClassId} {n : Int32} {vs : List Value} {dv v : Value} (V : Arv Z h a kA .char n vs dv) {j : Int32} (i : Nat) (hj0 : ¬ j < 0) (hj : j.toNatClampNeg = i) (hi : i < n.toNatClampNeg) (hv : vs.getD i dv = v) (hd : decode c.code pc = .ok (.caload, 1))
    (k : own_G p e below F (T.setTop (mkF m (pc + 1) Ls (v :: st)))) : own_G p e below F (T.setTop (mkF m pc Ls (.int j :: .ref a :: st))) := by
  obtain ⟨cl, A, q1, S, q3, H, G⟩ := V
  have hin := inb_of S (own_inb hj0 hj hi)
  exact own_step (X.caload hx (by rw [eT]; exact A.1) (State.isArrayOf_alike hZ.alike A.2.1) A.2.2 hin (Has.at H hin (by rw [hj]; exact hv)) (g := mkF m pc Ls (.int j :: .ref a :: st)) rfl rfl hd) k
theorem own_ldI (X : Stand p l e R s m args below meth c T locs cells slots) (hx : p.tables.exec = Jvm.exec) (hZ : Z.Warmed39 s.vm) (eT : T.heap = h) {a : Addr} {kA : ClassId} {n : Int32} {vs : List Value} {dv v : Value} (V : Arv Z h a kA .int n vs dv) {j : Int32} (i : Nat) (hj0 : ¬ j < 0) (hj : j.toNatClampNeg = i) (hi : i < n.toNatClampNeg) (hv : vs.getD i dv = v) (hd : decode c.code pc = .ok (.iaload, 1))
    (k : own_G p e below F (T.setTop (mkF m (pc + 1) Ls (v :: st)))) : own_G p e below F (T.setTop (mkF m pc Ls (.int j :: .ref a :: st))) := by
  obtain ⟨cl, A, q1, S, q3, H, G⟩ := V
  have hin := inb_of S (own_inb hj0 hj hi)
  exact own_step (X.iaload hx (by rw [eT]; exact A.1) (State.isArrayOf_alike hZ.alike A.2.1) A.2.2 hin (Has.at H hin (by rw [hj]; exact hv)) (g := mkF m pc Ls (.int j :: .ref a :: st)) rfl rfl hd) k
theorem own_ldB (X : Stand p l e R s m args below meth c T locs cells slots) (hx : p.tables.exec = Jvm.exec) (hZ : Z.Warmed39 s.vm) (eT : T.heap = h) {a : Addr} {kA : ClassId} {n : Int32} {vs : List Value} {dv v : Value} (V : Arv Z h a kA .byte n vs dv) {j : Int32} (i : Nat) (hj0 : ¬ j < 0) (hj : j.toNatClampNeg = i) (hi : i < n.toNatClampNeg) (hv : vs.getD i dv = v) (hd : decode c.code pc = .ok (.baload, 1))
    (k : own_G p e below F (T.setTop (mkF m (pc + 1) Ls (v :: st)))) : own_G p e below F (T.setTop (mkF m pc Ls (.int j :: .ref a :: st))) := by
  obtain ⟨cl, A, q1, S, q3, H, G⟩ := V
  have hin := inb_of S (own_inb hj0 hj hi)
  exact own_step (X.baloadBytes hx (by rw [eT]; exact A.1) (State.isArrayOf_alike hZ.alike A.2.1) A.2.2 hin (Has.at H hin (by rw [hj]; exact hv)) (g := mkF m pc Ls (.int j :: .ref a :: st)) rfl rfl hd) k
theorem own_len (X : Stand p l e R s m args below meth c T locs cells slots) (hx : p.tables.exec = Jvm.exec) (hZ : Z.Warmed39 s.vm) (eT : T.heap = h) {a : Addr} {kA : ClassId} {ty : FieldType} {n : Int32} {vs : List Value} {dv : Value} (V : Arv Z h a kA ty n vs dv) (hd : decode c.code pc = .ok (.arraylength, 1))
    (k : own_G p e below F (T.setTop (mkF m (pc + 1) Ls (.int n :: st)))) : own_G p e below F (T.setTop (mkF m pc Ls (.ref a :: st))) := by
  obtain ⟨cl, A, q1, S, q3, H, G⟩ := V
  exact own_step (fun t q => X.arraylength hx (by rw [eT]; exact A.1) (State.isArrayOf_alike hZ.alike A.2.1) (g := mkF m pc Ls (.ref a :: st)) rfl rfl hd t (by rw [len_of S q3]; exact q)) k
/-! calls; a callee's law in the shape that backOf gives -/
abbrev own_B (l : Launch) (R : Room) (p : Program) (e : Env) (below : List Frame) (s : State) (args : Array Value) (y : MethodName) (W : Nat) (as : Array Value) (h : Heap) (kc kn : Nat) (Q : Option Value → Heap → List Loc → Prop) : Prop :=
  Back l R p e below s args y 3 W (fun A a => a = as ∧ A.U.heap = h ∧ A.cells + kc ≤ R.cells ∧ A.slots + kn ≤ R.slots) (fun A _ v B => ∃ L, Q v B.U.heap L ∧ B.locs = A.locs ++ L ∧ B.cells = A.cells + kc ∧ B.slots = A.slots + kn)
theorem own_static {Q : Option Value → Heap → List Loc → Prop} {kc kn W : Nat} {argsL : List Value} (X : Stand p l e R s m args below meth c T locs cells slots) (hx : p.tables.exec = Jvm.exec) (hZ : Z.Warmed39 s.vm) {own : String} {index : Nat} {y : MethodName} {bytes : ByteArray} {maxL : Nat} {ret : Option FieldType} (hown : s.vm.findClass own = some m.cls)
    (w1 : (Jvm.Cond.methodLink own index y).before a0 Z = true) (w2 : (Jvm.Cond.static y).before a0 Z = true) (w3 : (Jvm.Cond.initialized y.cls).before a0 Z = true) (w4 : (Jvm.Cond.code y bytes maxL ret).before a0 Z = true) (hy : y.cls ≠ "java/lang/invoke/MethodHandle" ∧ y.cls ≠ "java/lang/invoke/VarHandle") (eT : T.heap = h)
    (hK : own_B l R p e below s args y W argsL.toArray h kc kn Q) (hc : cells + kc ≤ R.cells) (hs : slots + kn ≤ R.slots) (hsz : Ls.size = c.maxLocals) (hlen : ∀ sig, parseMethodDescriptor y.desc = some sig → argsL.length = sig.parameters.length) (hstk : stk = argsL.reverse ++ st) (hW : (st.map fun v => v.category).sum ≤ W)
    (hd : decode c.code pc = .ok (.invokestatic index, 3)) (k : ∀ v T' L, Stand p l e R s m args below meth c T' (locs ++ L) (cells + kc) (slots + kn) → Q v T'.heap L → own_G p e below F (T'.setTop (mkF m (pc + 3) Ls (v.toList ++ st)))) : own_G p e below F (T.setTop (mkF m pc Ls stk)) := by
  obtain ⟨v, _, ⟨T', L', k', n'⟩, -, X', ⟨L, hQ, l1, y1, z1⟩, st'⟩ := Jvm.LawKit.callS X hx hown (mvT hZ w1) (mvT hZ w2) (mvT hZ w3) (mvT hZ w4) hy hK (g := mkF m pc Ls stk) rfl hsz (argsL := argsL) (rest := st) hlen hstk (by show 2 * 0 + _ ≤ _; omega) hd (fun _ _ => ⟨rfl, eT, hc, hs⟩)
  dsimp only [Pt.U, Pt.locs, Pt.cells, Pt.slots] at X' l1 y1 z1 st' hQ
  subst l1 y1 z1
  exact own_step st' (k v T' L X' hQ)
theorem own_special {Q : Option Value → Heap → List Loc → Prop} {kc kn W : Nat} {argsL : List Value} {a : Addr} (X : Stand p l e R s m args below meth c T locs cells slots) (hx : p.tables.exec = Jvm.exec) (hZ : Z.Warmed39 s.vm) {own : String} {index : Nat} {y : MethodName} {bytes : ByteArray} {maxL : Nat} (hown : s.vm.findClass own = some m.cls) (hy1 : y.name = "<init>")
    (w1 : (Jvm.Cond.methodLink own index y).before a0 Z = true) (w2 : (Jvm.Cond.instanceMethod y).before a0 Z = true) (w4 : (Jvm.Cond.code y bytes maxL none).before a0 Z = true) (hy : y.cls ≠ "java/lang/invoke/MethodHandle" ∧ y.cls ≠ "java/lang/invoke/VarHandle") (eT : T.heap = h)
    (hK : own_B l R p e below s args y W (.ref a :: argsL).toArray h kc kn Q) (hc : cells + kc ≤ R.cells) (hs : slots + kn ≤ R.slots) (hsz : Ls.size = c.maxLocals) (hlen : ∀ sig, parseMethodDescriptor y.desc = some sig → argsL.length = sig.parameters.length) (hstk : stk = argsL.reverse ++ .ref a :: st) (hW : (st.map fun v => v.category).sum ≤ W)
    (hd : decode c.code pc = .ok (.invokespecial index, 3)) (k : ∀ v T' L, Stand p l e R s m args below meth c T' (locs ++ L) (cells + kc) (slots + kn) → Q v T'.heap L → own_G p e below F (T'.setTop (mkF m (pc + 3) Ls (v.toList ++ st)))) : own_G p e below F (T.setTop (mkF m pc Ls stk)) := by
  obtain ⟨v, _, ⟨T', L', k', n'⟩, -, X', ⟨L, hQ, l1, y1, z1⟩, st'⟩ := X.specialBack hx hy1 hown (mvT hZ w1) (mvT hZ w2) (mvT hZ w4) hy hK (g := mkF m pc Ls stk) rfl hsz (Steps.refl _) (a := a) (argsL := argsL) (rest := st) hlen hstk (by show 2 * 0 + _ ≤ _; omega) hd (fun _ _ => ⟨rfl, eT, hc, hs⟩)
  dsimp only [Pt.U, Pt.locs, Pt.cells, Pt.slots] at X' l1 y1 z1 st' hQ
  subst l1 y1 z1
  exact own_go st' (k v T' L X' hQ)
theorem own_virtual {Q : Option Value → Heap → List Loc → Prop} {kc kn W : Nat} {argsL : List Value} {a : Addr} {C : String} (X : Stand p l e R s m args below meth c T locs cells slots) (hx : p.tables.exec = Jvm.exec) (hZ : Z.Warmed39 s.vm) {own : String} {index : Nat} {y : MethodName} (hown : s.vm.findClass own = some m.cls)
    (w1 : (Jvm.Cond.methodLink own index y).before a0 Z = true) (w2 : (Jvm.Cond.declares y).before a0 Z = true) (w3 : (Jvm.Cond.selects C y y).before a0 Z = true) (hCy : C = y.cls) (w4 : (Jvm.Cond.instanceMethod y).before a0 Z = true) (hy : y.cls ≠ "java/lang/invoke/MethodHandle" ∧ y.cls ≠ "java/lang/invoke/VarHandle") (eT : T.heap = h) (E : Exa Z h a C)
    (hK : own_B l R p e below s args y W (.ref a :: argsL).toArray h kc kn Q) (hc : cells + kc ≤ R.cells) (hs : slots + kn ≤ R.slots) (hsz : Ls.size = c.maxLocals) (hlen : ∀ sig, parseMethodDescriptor y.desc = some sig → argsL.length = sig.parameters.length) (hstk : stk = argsL.reverse ++ .ref a :: st) (hW : (st.map fun v => v.category).sum ≤ W)
    (hd : decode c.code pc = .ok (.invokevirtual index, 3)) (k : ∀ v T' L, Stand p l e R s m args below meth c T' (locs ++ L) (cells + kc) (slots + kn) → Q v T'.heap L → own_G p e below F (T'.setTop (mkF m (pc + 3) Ls (v.toList ++ st)))) : own_G p e below F (T.setTop (mkF m pc Ls stk)) := by
  subst hCy
  obtain ⟨cB, kB, q1, q2, q3⟩ := isOf hZ eT E
  obtain ⟨v, _, ⟨T', L', k', n'⟩, -, X', ⟨L, hQ, l1, y1, z1⟩, st'⟩ := X.virtualBack hx hown (mvT hZ w1) (mvT hZ w2) (notFace_of_selects (args := #[]) (mvT hZ w3)) (mvT hZ w3) (mvT hZ w4) hy hK q1 q3 (g := mkF m pc Ls stk) rfl hsz (Steps.refl _) (argsL := argsL) (rest := st) hlen hstk (by show 2 * 0 + _ ≤ _; omega) hd (fun _ _ => ⟨rfl, eT, hc, hs⟩)
  dsimp only [Pt.U, Pt.locs, Pt.cells, Pt.slots] at X' l1 y1 z1 st' hQ
  subst l1 y1 z1
  exact own_go st' (k v T' L X' hQ)
theorem own_back {y : MethodName} {bytes : ByteArray} {maxL : Nat} {ret : Option FieldType} {rm : Room} {W : Nat} {as' : Array Value} {Q : Option Value → Heap → List Loc → Prop} (hM : own_Met l Z y bytes maxL ret [] rm as' h Q) (hZ : Z.Warmed39 s.vm) (wc : (Jvm.Cond.code y bytes maxL ret).before a0 Z = true) (wz : (Jvm.Cond.initialized y.cls).before a0 Z = true) (hf : rm.frames + 1 ≤ R.frames) (hl : W + (maxL + 11) + rm.locals ≤ R.locals) :
    own_B l R p e below s args y W as' h rm.cells rm.slots Q := backOf hM hZ wc wz hf hl
/-- a static call of a body that changes nothing -/
theorem own_staticP {r : Option Value} {fr lo W : Nat} {argsL : List Value} (X : Stand p l e R s m args below meth c T locs cells slots) (hx : p.tables.exec = Jvm.exec) (hZ : Z.Warmed39 s.vm) {own : String} {index : Nat} {y : MethodName} {bytes : ByteArray} {maxL : Nat} {ret : Option FieldType} (hown : s.vm.findClass own = some m.cls)
    (w1 : (Jvm.Cond.methodLink own index y).before a0 Z = true) (w2 : (Jvm.Cond.static y).before a0 Z = true) (w3 : (Jvm.Cond.initialized y.cls).before a0 Z = true) (w4 : (Jvm.Cond.code y bytes maxL ret).before a0 Z = true) (hy : y.cls ≠ "java/lang/invoke/MethodHandle" ∧ y.cls ≠ "java/lang/invoke/VarHandle") (eT : T.heap = h)
    (hM : own_Met l Z y bytes maxL ret [] ⟨fr, 0, 0, lo⟩ argsL.toArray h (own_P r h)) (hf : fr + 1 ≤ R.frames) (hl : W + (maxL + 11) + lo ≤ R.locals) (hc : cells ≤ R.cells) (hs : slots ≤ R.slots) (hsz : Ls.size = c.maxLocals) (hlen : ∀ sig, parseMethodDescriptor y.desc = some sig → argsL.length = sig.parameters.length) (hstk : stk = argsL.reverse ++ st) (hW : (st.map fun v => v.category).sum ≤ W)
    (hd : decode c.code pc = .ok (.invokestatic index, 3)) (k : ∀ T', Stand p l e R s m args below meth c T' locs cells slots → T'.heap = h → own_G p e below F (T'.setTop (mkF m (pc + 3) Ls (r.toList ++ st)))) : own_G p e below F (T.setTop (mkF m pc Ls stk)) :=
  own_static X hx hZ hown w1 w2 w3 w4 hy eT (own_back hM hZ w4 w3 hf hl) hc hs hsz hlen hstk hW hd fun v T' L X' hQ => by
    obtain ⟨rfl, rfl, hh⟩ := hQ
    rw [List.append_nil] at X'
    exact k T' X' hh
theorem own_virtualP {r : Option Value} {fr lo W : Nat} {argsL : List Value} {a : Addr} {C : String} (X : Stand p l e R s m args below meth c T locs cells slots) (hx : p.tables.exec = Jvm.exec) (hZ : Z.Warmed39 s.vm) {own : String} {index : Nat} {y : MethodName} {bytes : ByteArray} {maxL : Nat} {ret : Option FieldType} (hown : s.vm.findClass own = some m.cls)
    (w1 : (Jvm.Cond.methodLink own index y).before a0 Z = true) (w2 : (Jvm.Cond.declares y).before a0 Z = true) (w3 : (Jvm.Cond.selects C y y).before a0 Z = true) (hCy : C = y.cls) (w4 : (Jvm.Cond.instanceMethod y).before a0 Z = true) (hy : y.cls ≠ "java/lang/invoke/MethodHandle" ∧ y.cls ≠ "java/lang/invoke/VarHandle") (eT : T.heap = h) (E : Exa Z h a C)
    (hM : own_Met l Z y bytes maxL ret [] ⟨fr, 0, 0, lo⟩ (.ref a :: argsL).toArray h (own_P r h)) (wc : (Jvm.Cond.code y bytes maxL ret).before a0 Z = true) (wz : (Jvm.Cond.initialized y.cls).before a0 Z = true) (hf : fr + 1 ≤ R.frames) (hl : W + (maxL + 11) + lo ≤ R.locals) (hc : cells ≤ R.cells) (hs : slots ≤ R.slots) (hsz : Ls.size = c.maxLocals) (hlen : ∀ sig, parseMethodDescriptor y.desc = some sig → argsL.length = sig.parameters.length) (hstk : stk = argsL.reverse ++ .ref a :: st) (hW : (st.map fun v => v.category).sum ≤ W)
    (hd : decode c.code pc = .ok (.invokevirtual index, 3)) (k : ∀ T', Stand p l e R s m args below meth c T' locs cells slots → T'.heap = h → own_G p e below F (T'.setTop (mkF m (pc + 3) Ls (r.toList ++ st)))) : own_G p e below F (T.setTop (mkF m pc Ls stk)) :=
  own_virtual X hx hZ hown w1 w2 w3 hCy w4 hy eT E (own_back hM hZ wc wz hf hl) hc hs hsz hlen hstk hW hd fun v T' L X' hQ => by
    obtain ⟨rfl, rfl, hh⟩ := hQ
    rw [List.append_nil] at X'
    exact k T' X' hh
theorem own_initO (X : Stand p l e R s m args below meth c T locs cells slots) (hx : p.tables.exec = Jvm.exec) (hZ : Z.Warmed39 s.vm) {own : String} {index W : Nat} {a : Addr} (hown : s.vm.findClass own = some m.cls) (w1 : (Jvm.Cond.methodLink own index Lib.objectInit).before a0 Z = true) (w2 : (Jvm.Cond.instanceMethod Lib.objectInit).before a0 Z = true) (w3 : (Jvm.Cond.code Lib.objectInit ⟨#[0xb1]⟩ 1 none).before a0 Z = true) (eT : T.heap = h)
    (hsz : Ls.size = c.maxLocals) (hd : decode c.code pc = .ok (.invokespecial index, 3)) (hf : 1 ≤ R.frames) (hW : (st.map fun v => v.category).sum ≤ W) (hl : W + 12 ≤ R.locals)
    (k : ∀ T', Stand p l e R s m args below meth c T' locs cells slots → T'.heap = h → own_G p e below F (T'.setTop (mkF m (pc + 3) Ls st))) : own_G p e below F (T.setTop (mkF m pc Ls (.ref a :: st))) := by
  obtain ⟨T', X', e', st'⟩ := initO X hx hZ hown w1 w2 w3 eT (g := mkF m pc Ls (.ref a :: st)) rfl hsz rfl hd hf (W := W) (by show 2 * 0 + _ ≤ _; omega) hl
  exact own_step st' (k T' X' e')
theorem own_specialP {r : Option Value} {fr lo W : Nat} {argsL : List Value} {a : Addr} (X : Stand p l e R s m args below meth c T locs cells slots) (hx : p.tables.exec = Jvm.exec) (hZ : Z.Warmed39 s.vm) {own : String} {index : Nat} {y : MethodName} {bytes : ByteArray} {maxL : Nat} (hown : s.vm.findClass own = some m.cls) (hy1 : y.name = "<init>")
    (w1 : (Jvm.Cond.methodLink own index y).before a0 Z = true) (w2 : (Jvm.Cond.instanceMethod y).before a0 Z = true) (w4 : (Jvm.Cond.code y bytes maxL none).before a0 Z = true) (hy : y.cls ≠ "java/lang/invoke/MethodHandle" ∧ y.cls ≠ "java/lang/invoke/VarHandle") (eT : T.heap = h)
    (hM : own_Met l Z y bytes maxL none [] ⟨fr, 0, 0, lo⟩ (.ref a :: argsL).toArray h (own_P r h)) (wz : (Jvm.Cond.initialized y.cls).before a0 Z = true) (hf : fr + 1 ≤ R.frames) (hl : W + (maxL + 11) + lo ≤ R.locals) (hc : cells ≤ R.cells) (hs : slots ≤ R.slots) (hsz : Ls.size = c.maxLocals) (hlen : ∀ sig, parseMethodDescriptor y.desc = some sig → argsL.length = sig.parameters.length) (hstk : stk = argsL.reverse ++ .ref a :: st) (hW : (st.map fun v => v.category).sum ≤ W)
    (hd : decode c.code pc = .ok (.invokespecial index, 3)) (k : ∀ T', Stand p l e R s m args below meth c T' locs cells slots → T'.heap = h → own_G p e below F (T'.setTop (mkF m (pc + 3) Ls (r.toList ++ st)))) : own_G p e below F (T.setTop (mkF m pc Ls stk)) :=
  own_special X hx hZ hown hy1 w1 w2 w4 hy eT (own_back hM hZ w4 wz hf hl) hc hs hsz hlen hstk hW hd fun v T' L X' hQ => by
    obtain ⟨rfl, rfl, hh⟩ := hQ
    rw [List.append_nil] at X'
    exact k T' X' hh
theorem own_cat {v : Value} (q : v.isRef = true) : v.category = 1 := by cases v <;> first | rfl | simp [Value.isRef] at q
theorem own_narR {v : Value} {C : String} (q : v.isRef = true) : narrow (.object C) v = v := by cases v <;> first | rfl | simp [Value.isRef] at q
theorem own_fitR {v : Value} {C : String} (q : v.isRef = true) : fits (.object C) v = true := by cases v <;> first | rfl | simp [Value.isRef] at q
theorem own_ne {a b : Addr} (h : @LT.lt Nat instLTNat a b ∨ @LT.lt Nat instLTNat b a) : a ≠ b := fun q => by subst q; rcases h with h | h <;> exact Nat.lt_irrefl _ h
theorem own_ext {h0 h : Heap} (K : Keep h0 h []) : Ext h0 h := ⟨K.1, fun a c q => K.2.1 a c q nin0⟩
end OwnKit

theorem own_and255 (x : Int32) : ¬ nar .char ((x &&& (255 : Int32)).toUInt32.toUInt16.toUInt32.toInt32) < 0 ∧ ¬ (255 : Int32) < nar .char ((x &&& (255 : Int32)).toUInt32.toUInt16.toUInt32.toInt32) := by
  have t : ∀ k : Fin 256, ¬ nar .char ((Int32.ofNat k.val).toUInt32.toUInt16.toUInt32.toInt32) < 0 ∧ ¬ (255 : Int32) < nar .char ((Int32.ofNat k.val).toUInt32.toUInt16.toUInt32.toInt32) := by decide +kernel
  have h : (x &&& 255).toBitVec.toNat < 256 := by
    simp only [Int32.toBitVec_and, BitVec.toNat_and]
    exact Nat.lt_succ_of_le Nat.and_le_right
  have e : (x &&& 255) = Int32.ofNat (x &&& 255).toBitVec.toNat := by
    apply Int32.toBitVec_inj.mp
    show _ = BitVec.ofNat 32 _
    rw [BitVec.ofNat_toNat]; simp
  rw [e]
  exact t ⟨_, h⟩
theorem d1_0 : decode method_3_code 0 = .ok (.iload_n 0, 1) := by decide +kernel
theorem d1_1 : decode method_3_code 1 = .ok (.iconst 3, 1) := by decide +kernel
theorem d1_2 : decode method_3_code 2 = .ok (.iand, 1) := by decide +kernel
theorem d1_3 : decode method_3_code 3 = .ok (.istore_n 1, 1) := by decide +kernel
theorem d1_4 : decode method_3_code 4 = .ok (.iload_n 0, 1) := by decide +kernel
theorem d1_5 : decode method_3_code 5 = .ok (.iconst 2, 1) := by decide +kernel
theorem d1_6 : decode method_3_code 6 = .ok (.iushr, 1) := by decide +kernel
theorem d1_7 : decode method_3_code 7 = .ok (.sipush 255, 3) := by decide +kernel
theorem d1_10 : decode method_3_code 10 = .ok (.iand, 1) := by decide +kernel
theorem d1_11 : decode method_3_code 11 = .ok (.istore_n 2, 1) := by decide +kernel
theorem d1_12 : decode method_3_code 12 = .ok (.iload_n 1, 1) := by decide +kernel
theorem d1_13 : decode method_3_code 13 = .ok (.ifCond .ne 12, 3) := by decide +kernel
theorem d1_16 : decode method_3_code 16 = .ok (.bipush 48, 2) := by decide +kernel
theorem d1_18 : decode method_3_code 18 = .ok (.iload_n 2, 1) := by decide +kernel
theorem d1_19 : decode method_3_code 19 = .ok (.bipush 10, 2) := by decide +kernel
theorem d1_21 : decode method_3_code 21 = .ok (.irem, 1) := by decide +kernel
theorem d1_22 : decode method_3_code 22 = .ok (.iadd, 1) := by decide +kernel
theorem d1_23 : decode method_3_code 23 = .ok (.i2c, 1) := by decide +kernel
theorem d1_24 : decode method_3_code 24 = .ok (.ireturn, 1) := by decide +kernel
theorem d1_25 : decode method_3_code 25 = .ok (.iload_n 1, 1) := by decide +kernel
theorem d1_26 : decode method_3_code 26 = .ok (.iconst 1, 1) := by decide +kernel
theorem d1_27 : decode method_3_code 27 = .ok (.if_icmp .ne 6, 3) := by decide +kernel
theorem d1_30 : decode method_3_code 30 = .ok (.bipush 46, 2) := by decide +kernel
theorem d1_32 : decode method_3_code 32 = .ok (.ireturn, 1) := by decide +kernel
theorem d1_33 : decode method_3_code 33 = .ok (.iload_n 1, 1) := by decide +kernel
theorem d1_34 : decode method_3_code 34 = .ok (.iconst 2, 1) := by decide +kernel
theorem d1_35 : decode method_3_code 35 = .ok (.if_icmp .ne 6, 3) := by decide +kernel
theorem d1_38 : decode method_3_code 38 = .ok (.bipush 48, 2) := by decide +kernel
theorem d1_40 : decode method_3_code 40 = .ok (.ireturn, 1) := by decide +kernel
theorem d1_41 : decode method_3_code 41 = .ok (.iload_n 2, 1) := by decide +kernel
theorem d1_42 : decode method_3_code 42 = .ok (.i2c, 1) := by decide +kernel
theorem d1_43 : decode method_3_code 43 = .ok (.ireturn, 1) := by decide +kernel
theorem d8_0 : decode method_6_code 0 = .ok (.iload_n 1, 1) := by decide +kernel
theorem d8_1 : decode method_6_code 1 = .ok (.iconst 1, 1) := by decide +kernel
theorem d8_2 : decode method_6_code 2 = .ok (.if_icmp .lt 29, 3) := by decide +kernel
theorem d8_5 : decode method_6_code 5 = .ok (.aload_n 0, 1) := by decide +kernel
theorem d8_6 : decode method_6_code 6 = .ok (.iconst 0, 1) := by decide +kernel
theorem d8_7 : decode method_6_code 7 = .ok (.iload_n 1, 1) := by decide +kernel
theorem d8_8 : decode method_6_code 8 = .ok (.invokestatic 37, 3) := by decide +kernel
theorem d8_11 : decode method_6_code 11 = .ok (.ifCond .eq 20, 3) := by decide +kernel
theorem d8_14 : decode method_6_code 14 = .ok (.iload_n 1, 1) := by decide +kernel
theorem d8_15 : decode method_6_code 15 = .ok (.iconst 1, 1) := by decide +kernel
theorem d8_16 : decode method_6_code 16 = .ok (.if_icmp .eq 11, 3) := by decide +kernel
theorem d8_19 : decode method_6_code 19 = .ok (.aload_n 0, 1) := by decide +kernel
theorem d8_20 : decode method_6_code 20 = .ok (.iconst 0, 1) := by decide +kernel
theorem d8_21 : decode method_6_code 21 = .ok (.caload, 1) := by decide +kernel
theorem d8_22 : decode method_6_code 22 = .ok (.bipush 48, 2) := by decide +kernel
theorem d8_24 : decode method_6_code 24 = .ok (.if_icmp .eq 7, 3) := by decide +kernel
theorem d8_27 : decode method_6_code 27 = .ok (.iconst 1, 1) := by decide +kernel
theorem d8_28 : decode method_6_code 28 = .ok (.goto 4, 3) := by decide +kernel
theorem d8_31 : decode method_6_code 31 = .ok (.iconst 0, 1) := by decide +kernel
theorem d8_32 : decode method_6_code 32 = .ok (.ireturn, 1) := by decide +kernel
theorem d9_0 : decode method_5_code 0 = .ok (.iconst 0, 1) := by decide +kernel
theorem d9_1 : decode method_5_code 1 = .ok (.iload_n 1, 1) := by decide +kernel
theorem d9_2 : decode method_5_code 2 = .ok (.if_icmp .lt 17, 3) := by decide +kernel
theorem d9_5 : decode method_5_code 5 = .ok (.iconst 0, 1) := by decide +kernel
theorem d9_6 : decode method_5_code 6 = .ok (.iload_n 2, 1) := by decide +kernel
theorem d9_7 : decode method_5_code 7 = .ok (.if_icmp .ge 12, 3) := by decide +kernel
theorem d9_10 : decode method_5_code 10 = .ok (.aload_n 0, 1) := by decide +kernel
theorem d9_11 : decode method_5_code 11 = .ok (.iconst 0, 1) := by decide +kernel
theorem d9_12 : decode method_5_code 12 = .ok (.caload, 1) := by decide +kernel
theorem d9_13 : decode method_5_code 13 = .ok (.invokestatic 33, 3) := by decide +kernel
theorem d9_16 : decode method_5_code 16 = .ok (.ifCond .eq 64, 3) := by decide +kernel
theorem d9_19 : decode method_5_code 19 = .ok (.iconst 1, 1) := by decide +kernel
theorem d9_20 : decode method_5_code 20 = .ok (.iload_n 1, 1) := by decide +kernel
theorem d9_21 : decode method_5_code 21 = .ok (.if_icmp .lt 17, 3) := by decide +kernel
theorem d9_24 : decode method_5_code 24 = .ok (.iconst 1, 1) := by decide +kernel
theorem d9_25 : decode method_5_code 25 = .ok (.iload_n 2, 1) := by decide +kernel
theorem d9_26 : decode method_5_code 26 = .ok (.if_icmp .ge 12, 3) := by decide +kernel
theorem d9_29 : decode method_5_code 29 = .ok (.aload_n 0, 1) := by decide +kernel
theorem d9_30 : decode method_5_code 30 = .ok (.iconst 1, 1) := by decide +kernel
theorem d9_31 : decode method_5_code 31 = .ok (.caload, 1) := by decide +kernel
theorem d9_32 : decode method_5_code 32 = .ok (.invokestatic 33, 3) := by decide +kernel
theorem d9_35 : decode method_5_code 35 = .ok (.ifCond .eq 45, 3) := by decide +kernel
theorem d9_38 : decode method_5_code 38 = .ok (.iconst 2, 1) := by decide +kernel
theorem d9_39 : decode method_5_code 39 = .ok (.iload_n 1, 1) := by decide +kernel
theorem d9_40 : decode method_5_code 40 = .ok (.if_icmp .lt 17, 3) := by decide +kernel
theorem d9_43 : decode method_5_code 43 = .ok (.iconst 2, 1) := by decide +kernel
theorem d9_44 : decode method_5_code 44 = .ok (.iload_n 2, 1) := by decide +kernel
theorem d9_45 : decode method_5_code 45 = .ok (.if_icmp .ge 12, 3) := by decide +kernel
theorem d9_48 : decode method_5_code 48 = .ok (.aload_n 0, 1) := by decide +kernel
theorem d9_49 : decode method_5_code 49 = .ok (.iconst 2, 1) := by decide +kernel
theorem d9_50 : decode method_5_code 50 = .ok (.caload, 1) := by decide +kernel
theorem d9_51 : decode method_5_code 51 = .ok (.invokestatic 33, 3) := by decide +kernel
theorem d9_54 : decode method_5_code 54 = .ok (.ifCond .eq 26, 3) := by decide +kernel
theorem d9_57 : decode method_5_code 57 = .ok (.iconst 3, 1) := by decide +kernel
theorem d9_58 : decode method_5_code 58 = .ok (.iload_n 1, 1) := by decide +kernel
theorem d9_59 : decode method_5_code 59 = .ok (.if_icmp .lt 17, 3) := by decide +kernel
theorem d9_62 : decode method_5_code 62 = .ok (.iconst 3, 1) := by decide +kernel
theorem d9_63 : decode method_5_code 63 = .ok (.iload_n 2, 1) := by decide +kernel
theorem d9_64 : decode method_5_code 64 = .ok (.if_icmp .ge 12, 3) := by decide +kernel
theorem d9_67 : decode method_5_code 67 = .ok (.aload_n 0, 1) := by decide +kernel
theorem d9_68 : decode method_5_code 68 = .ok (.iconst 3, 1) := by decide +kernel
theorem d9_69 : decode method_5_code 69 = .ok (.caload, 1) := by decide +kernel
theorem d9_70 : decode method_5_code 70 = .ok (.invokestatic 33, 3) := by decide +kernel
theorem d9_73 : decode method_5_code 73 = .ok (.ifCond .eq 7, 3) := by decide +kernel
theorem d9_76 : decode method_5_code 76 = .ok (.iconst 1, 1) := by decide +kernel
theorem d9_77 : decode method_5_code 77 = .ok (.goto 4, 3) := by decide +kernel
theorem d9_80 : decode method_5_code 80 = .ok (.iconst 0, 1) := by decide +kernel
theorem d9_81 : decode method_5_code 81 = .ok (.ireturn, 1) := by decide +kernel
theorem d10_0 : decode method_4_code 0 = .ok (.iload_n 0, 1) := by decide +kernel
theorem d10_1 : decode method_4_code 1 = .ok (.bipush 48, 2) := by decide +kernel
theorem d10_3 : decode method_4_code 3 = .ok (.if_icmp .lt 13, 3) := by decide +kernel
theorem d10_6 : decode method_4_code 6 = .ok (.iload_n 0, 1) := by decide +kernel
theorem d10_7 : decode method_4_code 7 = .ok (.bipush 57, 2) := by decide +kernel
theorem d10_9 : decode method_4_code 9 = .ok (.if_icmp .gt 7, 3) := by decide +kernel
theorem d10_12 : decode method_4_code 12 = .ok (.iconst 1, 1) := by decide +kernel
theorem d10_13 : decode method_4_code 13 = .ok (.goto 4, 3) := by decide +kernel
theorem d10_16 : decode method_4_code 16 = .ok (.iconst 0, 1) := by decide +kernel
theorem d10_17 : decode method_4_code 17 = .ok (.ireturn, 1) := by decide +kernel
theorem d11_0 : decode method_7_code 0 = .ok (.iload_n 1, 1) := by decide +kernel
theorem d11_1 : decode method_7_code 1 = .ok (.iconst 1, 1) := by decide +kernel
theorem d11_2 : decode method_7_code 2 = .ok (.iadd, 1) := by decide +kernel
theorem d11_3 : decode method_7_code 3 = .ok (.iload_n 2, 1) := by decide +kernel
theorem d11_4 : decode method_7_code 4 = .ok (.if_icmp .ge 43, 3) := by decide +kernel
theorem d11_7 : decode method_7_code 7 = .ok (.aload_n 0, 1) := by decide +kernel
theorem d11_8 : decode method_7_code 8 = .ok (.iload_n 1, 1) := by decide +kernel
theorem d11_9 : decode method_7_code 9 = .ok (.caload, 1) := by decide +kernel
theorem d11_10 : decode method_7_code 10 = .ok (.bipush 46, 2) := by decide +kernel
theorem d11_12 : decode method_7_code 12 = .ok (.if_icmp .ne 35, 3) := by decide +kernel
theorem d11_15 : decode method_7_code 15 = .ok (.aload_n 0, 1) := by decide +kernel
theorem d11_16 : decode method_7_code 16 = .ok (.iload_n 1, 1) := by decide +kernel
theorem d11_17 : decode method_7_code 17 = .ok (.invokestatic 19, 3) := by decide +kernel
theorem d11_20 : decode method_7_code 20 = .ok (.ifCond .eq 27, 3) := by decide +kernel
theorem d11_23 : decode method_7_code 23 = .ok (.aload_n 0, 1) := by decide +kernel
theorem d11_24 : decode method_7_code 24 = .ok (.iload_n 1, 1) := by decide +kernel
theorem d11_25 : decode method_7_code 25 = .ok (.iconst 1, 1) := by decide +kernel
theorem d11_26 : decode method_7_code 26 = .ok (.iadd, 1) := by decide +kernel
theorem d11_27 : decode method_7_code 27 = .ok (.iload_n 2, 1) := by decide +kernel
theorem d11_28 : decode method_7_code 28 = .ok (.invokestatic 37, 3) := by decide +kernel
theorem d11_31 : decode method_7_code 31 = .ok (.ifCond .eq 16, 3) := by decide +kernel
theorem d11_34 : decode method_7_code 34 = .ok (.iload_n 2, 1) := by decide +kernel
theorem d11_35 : decode method_7_code 35 = .ok (.iload_n 1, 1) := by decide +kernel
theorem d11_36 : decode method_7_code 36 = .ok (.isub, 1) := by decide +kernel
theorem d11_37 : decode method_7_code 37 = .ok (.iconst 1, 1) := by decide +kernel
theorem d11_38 : decode method_7_code 38 = .ok (.isub, 1) := by decide +kernel
theorem d11_39 : decode method_7_code 39 = .ok (.iload_n 3, 1) := by decide +kernel
theorem d11_40 : decode method_7_code 40 = .ok (.if_icmp .gt 7, 3) := by decide +kernel
theorem d11_43 : decode method_7_code 43 = .ok (.iconst 1, 1) := by decide +kernel
theorem d11_44 : decode method_7_code 44 = .ok (.goto 4, 3) := by decide +kernel
theorem d11_47 : decode method_7_code 47 = .ok (.iconst 0, 1) := by decide +kernel
theorem d11_48 : decode method_7_code 48 = .ok (.ireturn, 1) := by decide +kernel
theorem d12_0 : decode prog_8_method_2_code 0 = .ok (.iload_n 1, 1) := by decide +kernel
theorem d12_1 : decode prog_8_method_2_code 1 = .ok (.istore_n 3, 1) := by decide +kernel
theorem d12_2 : decode prog_8_method_2_code 2 = .ok (.iconst 0, 1) := by decide +kernel
theorem d12_3 : decode prog_8_method_2_code 3 = .ok (.istore 4, 2) := by decide +kernel
theorem d12_5 : decode prog_8_method_2_code 5 = .ok (.iload 4, 2) := by decide +kernel
theorem d12_7 : decode prog_8_method_2_code 7 = .ok (.iload_n 1, 1) := by decide +kernel
theorem d12_8 : decode prog_8_method_2_code 8 = .ok (.if_icmp .ge 26, 3) := by decide +kernel
theorem d12_11 : decode prog_8_method_2_code 11 = .ok (.aload_n 0, 1) := by decide +kernel
theorem d12_12 : decode prog_8_method_2_code 12 = .ok (.iload 4, 2) := by decide +kernel
theorem d12_14 : decode prog_8_method_2_code 14 = .ok (.invokevirtual 9, 3) := by decide +kernel
theorem d12_17 : decode prog_8_method_2_code 17 = .ok (.bipush 46, 2) := by decide +kernel
theorem d12_19 : decode prog_8_method_2_code 19 = .ok (.if_icmp .ne 9, 3) := by decide +kernel
theorem d12_22 : decode prog_8_method_2_code 22 = .ok (.iload 4, 2) := by decide +kernel
theorem d12_24 : decode prog_8_method_2_code 24 = .ok (.istore_n 3, 1) := by decide +kernel
theorem d12_25 : decode prog_8_method_2_code 25 = .ok (.goto 9, 3) := by decide +kernel
theorem d12_28 : decode prog_8_method_2_code 28 = .ok (.iinc 4 1, 3) := by decide +kernel
theorem d12_31 : decode prog_8_method_2_code 31 = .ok (.goto (-26), 3) := by decide +kernel
theorem d12_34 : decode prog_8_method_2_code 34 = .ok (.iload_n 3, 1) := by decide +kernel
theorem d12_35 : decode prog_8_method_2_code 35 = .ok (.iload_n 1, 1) := by decide +kernel
theorem d12_36 : decode prog_8_method_2_code 36 = .ok (.if_icmp .ne 7, 3) := by decide +kernel
theorem d12_39 : decode prog_8_method_2_code 39 = .ok (.iconst 0, 1) := by decide +kernel
theorem d12_40 : decode prog_8_method_2_code 40 = .ok (.goto 8, 3) := by decide +kernel
theorem d12_43 : decode prog_8_method_2_code 43 = .ok (.iload_n 1, 1) := by decide +kernel
theorem d12_44 : decode prog_8_method_2_code 44 = .ok (.iload_n 3, 1) := by decide +kernel
theorem d12_45 : decode prog_8_method_2_code 45 = .ok (.isub, 1) := by decide +kernel
theorem d12_46 : decode prog_8_method_2_code 46 = .ok (.iconst 1, 1) := by decide +kernel
theorem d12_47 : decode prog_8_method_2_code 47 = .ok (.isub, 1) := by decide +kernel
theorem d12_48 : decode prog_8_method_2_code 48 = .ok (.istore 4, 2) := by decide +kernel
theorem d12_50 : decode prog_8_method_2_code 50 = .ok (.iload_n 3, 1) := by decide +kernel
theorem d12_51 : decode prog_8_method_2_code 51 = .ok (.iconst 1, 1) := by decide +kernel
theorem d12_52 : decode prog_8_method_2_code 52 = .ok (.if_icmp .le 17, 3) := by decide +kernel
theorem d12_55 : decode prog_8_method_2_code 55 = .ok (.aload_n 0, 1) := by decide +kernel
theorem d12_56 : decode prog_8_method_2_code 56 = .ok (.iconst 0, 1) := by decide +kernel
theorem d12_57 : decode prog_8_method_2_code 57 = .ok (.invokevirtual 9, 3) := by decide +kernel
theorem d12_60 : decode prog_8_method_2_code 60 = .ok (.bipush 48, 2) := by decide +kernel
theorem d12_62 : decode prog_8_method_2_code 62 = .ok (.if_icmp .ne 7, 3) := by decide +kernel
theorem d12_65 : decode prog_8_method_2_code 65 = .ok (.iconst 1, 1) := by decide +kernel
theorem d12_66 : decode prog_8_method_2_code 66 = .ok (.goto 4, 3) := by decide +kernel
theorem d12_69 : decode prog_8_method_2_code 69 = .ok (.iconst 0, 1) := by decide +kernel
theorem d12_70 : decode prog_8_method_2_code 70 = .ok (.istore 5, 2) := by decide +kernel
theorem d12_72 : decode prog_8_method_2_code 72 = .ok (.iload_n 3, 1) := by decide +kernel
theorem d12_73 : decode prog_8_method_2_code 73 = .ok (.ifCond .le 48, 3) := by decide +kernel
theorem d12_76 : decode prog_8_method_2_code 76 = .ok (.iload 5, 2) := by decide +kernel
theorem d12_78 : decode prog_8_method_2_code 78 = .ok (.ifCond .ne 43, 3) := by decide +kernel
theorem d12_81 : decode prog_8_method_2_code 81 = .ok (.aload_n 0, 1) := by decide +kernel
theorem d12_82 : decode prog_8_method_2_code 82 = .ok (.iconst 0, 1) := by decide +kernel
theorem d12_83 : decode prog_8_method_2_code 83 = .ok (.iload_n 3, 1) := by decide +kernel
theorem d12_84 : decode prog_8_method_2_code 84 = .ok (.invokestatic 15, 3) := by decide +kernel
theorem d12_87 : decode prog_8_method_2_code 87 = .ok (.ifCond .eq 34, 3) := by decide +kernel
theorem d12_90 : decode prog_8_method_2_code 90 = .ok (.iload_n 3, 1) := by decide +kernel
theorem d12_91 : decode prog_8_method_2_code 91 = .ok (.iload_n 1, 1) := by decide +kernel
theorem d12_92 : decode prog_8_method_2_code 92 = .ok (.if_icmp .eq 25, 3) := by decide +kernel
theorem d12_95 : decode prog_8_method_2_code 95 = .ok (.iload 4, 2) := by decide +kernel
theorem d12_97 : decode prog_8_method_2_code 97 = .ok (.ifCond .le 24, 3) := by decide +kernel
theorem d12_100 : decode prog_8_method_2_code 100 = .ok (.iload 4, 2) := by decide +kernel
theorem d12_102 : decode prog_8_method_2_code 102 = .ok (.iload_n 2, 1) := by decide +kernel
theorem d12_103 : decode prog_8_method_2_code 103 = .ok (.if_icmp .gt 18, 3) := by decide +kernel
theorem d12_106 : decode prog_8_method_2_code 106 = .ok (.aload_n 0, 1) := by decide +kernel
theorem d12_107 : decode prog_8_method_2_code 107 = .ok (.iload_n 3, 1) := by decide +kernel
theorem d12_108 : decode prog_8_method_2_code 108 = .ok (.iconst 1, 1) := by decide +kernel
theorem d12_109 : decode prog_8_method_2_code 109 = .ok (.iadd, 1) := by decide +kernel
theorem d12_110 : decode prog_8_method_2_code 110 = .ok (.iload_n 1, 1) := by decide +kernel
theorem d12_111 : decode prog_8_method_2_code 111 = .ok (.invokestatic 15, 3) := by decide +kernel
theorem d12_114 : decode prog_8_method_2_code 114 = .ok (.ifCond .eq 7, 3) := by decide +kernel
theorem d12_117 : decode prog_8_method_2_code 117 = .ok (.iconst 1, 1) := by decide +kernel
theorem d12_118 : decode prog_8_method_2_code 118 = .ok (.goto 4, 3) := by decide +kernel
theorem d12_121 : decode prog_8_method_2_code 121 = .ok (.iconst 0, 1) := by decide +kernel
theorem d12_122 : decode prog_8_method_2_code 122 = .ok (.istore 6, 2) := by decide +kernel
theorem d12_124 : decode prog_8_method_2_code 124 = .ok (.iload 6, 2) := by decide +kernel
theorem d12_126 : decode prog_8_method_2_code 126 = .ok (.ireturn, 1) := by decide +kernel
theorem d18_0 : decode prog_8_method_4_code 0 = .ok (.iload_n 1, 1) := by decide +kernel
theorem d18_1 : decode prog_8_method_4_code 1 = .ok (.istore_n 3, 1) := by decide +kernel
theorem d18_2 : decode prog_8_method_4_code 2 = .ok (.iload_n 3, 1) := by decide +kernel
theorem d18_3 : decode prog_8_method_4_code 3 = .ok (.iload_n 2, 1) := by decide +kernel
theorem d18_4 : decode prog_8_method_4_code 4 = .ok (.if_icmp .ge 32, 3) := by decide +kernel
theorem d18_7 : decode prog_8_method_4_code 7 = .ok (.aload_n 0, 1) := by decide +kernel
theorem d18_8 : decode prog_8_method_4_code 8 = .ok (.iload_n 3, 1) := by decide +kernel
theorem d18_9 : decode prog_8_method_4_code 9 = .ok (.invokevirtual 9, 3) := by decide +kernel
theorem d18_12 : decode prog_8_method_4_code 12 = .ok (.istore 4, 2) := by decide +kernel
theorem d18_14 : decode prog_8_method_4_code 14 = .ok (.iload 4, 2) := by decide +kernel
theorem d18_16 : decode prog_8_method_4_code 16 = .ok (.bipush 48, 2) := by decide +kernel
theorem d18_18 : decode prog_8_method_4_code 18 = .ok (.if_icmp .lt 10, 3) := by decide +kernel
theorem d18_21 : decode prog_8_method_4_code 21 = .ok (.iload 4, 2) := by decide +kernel
theorem d18_23 : decode prog_8_method_4_code 23 = .ok (.bipush 57, 2) := by decide +kernel
theorem d18_25 : decode prog_8_method_4_code 25 = .ok (.if_icmp .le 5, 3) := by decide +kernel
theorem d18_28 : decode prog_8_method_4_code 28 = .ok (.iconst 0, 1) := by decide +kernel
theorem d18_29 : decode prog_8_method_4_code 29 = .ok (.ireturn, 1) := by decide +kernel
theorem d18_30 : decode prog_8_method_4_code 30 = .ok (.iinc 3 1, 3) := by decide +kernel
theorem d18_33 : decode prog_8_method_4_code 33 = .ok (.goto (-31), 3) := by decide +kernel
theorem d18_36 : decode prog_8_method_4_code 36 = .ok (.iconst 1, 1) := by decide +kernel
theorem d18_37 : decode prog_8_method_4_code 37 = .ok (.ireturn, 1) := by decide +kernel
theorem pd0 : parseMethodDescriptor "(C)Z" = some ⟨[.char], some .boolean⟩ := by decide +kernel
theorem pd1 : parseMethodDescriptor "([CII)Z" = some ⟨[(.array .char), .int, .int], some .boolean⟩ := by decide +kernel
theorem pd2 : parseMethodDescriptor "([CI)Z" = some ⟨[(.array .char), .int], some .boolean⟩ := by decide +kernel
theorem pd3 : parseMethodDescriptor "(I)C" = some ⟨[.int], some .char⟩ := by decide +kernel
theorem pd4 : parseMethodDescriptor "(Ljava/lang/String;II)Z" = some ⟨[(.object "java/lang/String"), .int, .int], some .boolean⟩ := by decide +kernel
theorem pd5 : parseMethodDescriptor "([C)V" = some ⟨[(.array .char)], none⟩ := by decide +kernel
theorem pd6 : parseMethodDescriptor "([CIII)Z" = some ⟨[(.array .char), .int, .int, .int], some .boolean⟩ := by decide +kernel
theorem pn0 : plainName "com/example/drawdown/drawdown/PlainDecimalMatchesPinLaw" = true := by first | (simp [plainName, overriddenIn]; done) | decide +kernel
theorem pn1 : plainName "com/example/drawdown/drawdown/PlainDecimal" = true := by first | (simp [plainName, overriddenIn]; done) | decide +kernel
def own_bi (b : Bool) : Int32 := if b then 1 else 0
theorem own_bi_t {b : Bool} (h : ¬ own_bi b = 0) : b = true := by cases b <;> simp_all [own_bi]
theorem own_bi_f {b : Bool} (h : own_bi b = 0) : b = false := by cases b <;> simp_all [own_bi]
theorem own_bi_nar (b : Bool) : nar .boolean (own_bi b) = own_bi b := by cases b <;> rfl
def own_dig (c : Int32) : Bool := decide (¬ c < 48) && decide (¬ 57 < c)
theorem own_dig46 : own_dig 46 = false := by decide
theorem own_pick0 (x : Int32) : ¬ nar .char (((48 : Int32) + ((x &&& (255 : Int32)) % (10 : Int32))).toUInt32.toUInt16.toUInt32.toInt32) < 0 ∧ ¬ (255 : Int32) < nar .char (((48 : Int32) + ((x &&& (255 : Int32)) % (10 : Int32))).toUInt32.toUInt16.toUInt32.toInt32) := by
  have t : ∀ k : Fin 256, ¬ nar .char (((48 : Int32) + ((Int32.ofNat k.val) % (10 : Int32))).toUInt32.toUInt16.toUInt32.toInt32) < 0 ∧ ¬ (255 : Int32) < nar .char (((48 : Int32) + ((Int32.ofNat k.val) % (10 : Int32))).toUInt32.toUInt16.toUInt32.toInt32) := by decide +kernel
  have h : (x &&& 255).toBitVec.toNat < 256 := by
    simp only [Int32.toBitVec_and, BitVec.toNat_and]
    exact Nat.lt_succ_of_le Nat.and_le_right
  have e : (x &&& 255) = Int32.ofNat (x &&& 255).toBitVec.toNat := by
    apply Int32.toBitVec_inj.mp
    show _ = BitVec.ofNat 32 _
    rw [BitVec.ofNat_toNat]; simp
  rw [e]
  exact t ⟨_, h⟩
theorem own_narC {c : Int32} (h0 : ¬ c < 0) (h1 : ¬ (255 : Int32) < c) : nar .char c = c := by
  have t : ∀ k : Fin 256, nar .char (Int32.ofNat k.val) = Int32.ofNat k.val := by decide +kernel
  rw [Int32.lt_iff_toInt_lt] at h0 h1
  have e1 : (255 : Int32).toInt = 255 := rfl
  have e0 : (0 : Int32).toInt = 0 := rfl
  have e : c = Int32.ofNat c.toInt.toNat := by
    apply Int32.toInt_inj.mp
    rw [Int32.toInt_ofNat_small (by omega)]; omega
  rw [e]; exact t ⟨c.toInt.toNat, by omega⟩
theorem own_mod5 (x : Int32) : ((x &&& (2147483647 : Int32)) % (5 : Int32)) = 0 ∨ ((x &&& (2147483647 : Int32)) % (5 : Int32)) = 1 ∨ ((x &&& (2147483647 : Int32)) % (5 : Int32)) = 2 ∨ ((x &&& (2147483647 : Int32)) % (5 : Int32)) = 3 ∨ ((x &&& (2147483647 : Int32)) % (5 : Int32)) = 4 := by
  have hn : 0 ≤ (x &&& (2147483647 : Int32)).toInt := by
    have e : (x &&& (2147483647 : Int32)).toInt = (x &&& (2147483647 : Int32)).toBitVec.toInt := rfl
    rw [e, BitVec.toInt_eq_toNat_of_lt]
    · omega
    · simp only [Int32.toBitVec_and, BitVec.toNat_and]
      have q : x.toBitVec.toNat &&& (2147483647 : Int32).toBitVec.toNat ≤ (2147483647 : Int32).toBitVec.toNat := Nat.and_le_right
      have q2 : (2147483647 : Int32).toBitVec.toNat = 2147483647 := rfl
      omega
  have hm : ((x &&& (2147483647 : Int32)) % (5 : Int32)).toInt = (x &&& (2147483647 : Int32)).toInt.tmod 5 := by rw [Int32.toInt_mod]; rfl
  generalize (x &&& (2147483647 : Int32)) % (5 : Int32) = r at *
  have h5 : r.toInt = (x &&& (2147483647 : Int32)).toInt % 5 := by rw [hm, Int.tmod_eq_emod_of_nonneg hn]
  simp only [← Int32.toInt_inj, Int32.reduceToInt]
  omega
theorem ef_pick (m : MethodId) (x : Int32) : entryFrame m #[(.int x)] 3 = mkF m 0 #[.val (.int x), .unset, .unset] [] := by first | (simp [entryFrame, mkF, argsToLocals, Value.category, maxLocals]; done) | rfl
set_option maxRecDepth 65536 in
set_option maxHeartbeats 40000000 in
theorem rmPick (l : Launch) (Z : State) (a0 : Array Value) (hw : ∀ d ∈ tables_1, d.before a0 Z = true) (ws : List Jvm.Cond) (x : Int32) (h0 : Heap) :
    own_Met l Z (⟨"com/example/drawdown/drawdown/PlainDecimalMatchesPinLaw", "pick", "(I)C"⟩ : MethodName) method_3_code 3 (some .char) ws ⟨0, 0, 0, 0⟩ #[(.int x)] h0 (fun v h L => ∃ c : Int32, v = some (.int c) ∧ (¬ c < 0 ∧ ¬ (255 : Int32) < c) ∧ L = [] ∧ h = h0) := by
  refine own_enter (plainFor_of_name pn0) (fun m => ef_pick m x) ?_
  intro p e s m below meth c T0 hx hby hml hZ hown hnm hret hlk X0 e0
  show own_G p e below _ (T0.setTop (mkF m 0 #[.val (.int x), .unset, .unset] []))
  refine own_step (b := T0.setTop (mkF m 1 #[.val (.int x), .unset, .unset] [(.int x)])) (fun t k => XS.iloadN X0.here hx rfl (hb hby d1_0) rfl k) ?_
  refine own_step (b := T0.setTop (mkF m 2 #[.val (.int x), .unset, .unset] [(.int (3 : Int32)), (.int x)])) (fun t k => XS.iconst X0.here hx rfl (hb hby d1_1) k) ?_
  refine own_step (b := T0.setTop (mkF m 3 #[.val (.int x), .unset, .unset] [(.int (x &&& (3 : Int32)))])) (fun t k => XS.iand X0.here hx rfl (hb hby d1_2) rfl k) ?_
  refine own_step (b := T0.setTop (mkF m 4 #[.val (.int x), .val (.int (x &&& (3 : Int32))), .unset] [])) (fun t k => XS.istoreN X0.here hx rfl (hb hby d1_3) rfl (l' := #[.val (.int x), .val (.int (x &&& (3 : Int32))), .unset]) rfl k) ?_
  refine own_step (b := T0.setTop (mkF m 5 #[.val (.int x), .val (.int (x &&& (3 : Int32))), .unset] [(.int x)])) (fun t k => XS.iloadN X0.here hx rfl (hb hby d1_4) rfl k) ?_
  refine own_step (b := T0.setTop (mkF m 6 #[.val (.int x), .val (.int (x &&& (3 : Int32))), .unset] [(.int (2 : Int32)), (.int x)])) (fun t k => XS.iconst X0.here hx rfl (hb hby d1_5) k) ?_
  refine own_step (b := T0.setTop (mkF m 7 #[.val (.int x), .val (.int (x &&& (3 : Int32))), .unset] [(.int (XT.ushr x (2 : Int32)))])) (fun t k => XT.iushr X0.here hx rfl (hb hby d1_6) rfl k) ?_
  refine own_step (b := T0.setTop (mkF m 10 #[.val (.int x), .val (.int (x &&& (3 : Int32))), .unset] [(.int (255 : Int32)), (.int (XT.ushr x (2 : Int32)))])) (fun t k => XS.sipush X0.here hx rfl (hb hby d1_7) k) ?_
  refine own_step (b := T0.setTop (mkF m 11 #[.val (.int x), .val (.int (x &&& (3 : Int32))), .unset] [(.int ((XT.ushr x (2 : Int32)) &&& (255 : Int32)))])) (fun t k => XS.iand X0.here hx rfl (hb hby d1_10) rfl k) ?_
  refine own_step (b := T0.setTop (mkF m 12 #[.val (.int x), .val (.int (x &&& (3 : Int32))), .val (.int ((XT.ushr x (2 : Int32)) &&& (255 : Int32)))] [])) (fun t k => XS.istoreN X0.here hx rfl (hb hby d1_11) rfl (l' := #[.val (.int x), .val (.int (x &&& (3 : Int32))), .val (.int ((XT.ushr x (2 : Int32)) &&& (255 : Int32)))]) rfl k) ?_
  refine own_step (b := T0.setTop (mkF m 13 #[.val (.int x), .val (.int (x &&& (3 : Int32))), .val (.int ((XT.ushr x (2 : Int32)) &&& (255 : Int32)))] [(.int (x &&& (3 : Int32)))])) (fun t k => XS.iloadN X0.here hx rfl (hb hby d1_12) rfl k) ?_
  refine own_if_ne X0 hx (hb hby d1_13) (pc' := 25) (by decide) (by decide) (fun c13_1 => ?_) (fun c13_1 => ?_)
  · show own_G p e below _ (T0.setTop (mkF m 25 #[.val (.int x), .val (.int (x &&& (3 : Int32))), .val (.int ((XT.ushr x (2 : Int32)) &&& (255 : Int32)))] []))
    refine own_step (b := T0.setTop (mkF m 26 #[.val (.int x), .val (.int (x &&& (3 : Int32))), .val (.int ((XT.ushr x (2 : Int32)) &&& (255 : Int32)))] [(.int (x &&& (3 : Int32)))])) (fun t k => XS.iloadN X0.here hx rfl (hb hby d1_25) rfl k) ?_
    refine own_step (b := T0.setTop (mkF m 27 #[.val (.int x), .val (.int (x &&& (3 : Int32))), .val (.int ((XT.ushr x (2 : Int32)) &&& (255 : Int32)))] [(.int (1 : Int32)), (.int (x &&& (3 : Int32)))])) (fun t k => XS.iconst X0.here hx rfl (hb hby d1_26) k) ?_
    refine own_icmp_ne X0 hx (hb hby d1_27) (pc' := 33) (by decide) (by decide) (fun c27_2 => ?_) (fun c27_2 => ?_)
    · show own_G p e below _ (T0.setTop (mkF m 33 #[.val (.int x), .val (.int (x &&& (3 : Int32))), .val (.int ((XT.ushr x (2 : Int32)) &&& (255 : Int32)))] []))
      refine own_step (b := T0.setTop (mkF m 34 #[.val (.int x), .val (.int (x &&& (3 : Int32))), .val (.int ((XT.ushr x (2 : Int32)) &&& (255 : Int32)))] [(.int (x &&& (3 : Int32)))])) (fun t k => XS.iloadN X0.here hx rfl (hb hby d1_33) rfl k) ?_
      refine own_step (b := T0.setTop (mkF m 35 #[.val (.int x), .val (.int (x &&& (3 : Int32))), .val (.int ((XT.ushr x (2 : Int32)) &&& (255 : Int32)))] [(.int (2 : Int32)), (.int (x &&& (3 : Int32)))])) (fun t k => XS.iconst X0.here hx rfl (hb hby d1_34) k) ?_
      refine own_icmp_ne X0 hx (hb hby d1_35) (pc' := 41) (by decide) (by decide) (fun c35_3 => ?_) (fun c35_3 => ?_)
      · show own_G p e below _ (T0.setTop (mkF m 41 #[.val (.int x), .val (.int (x &&& (3 : Int32))), .val (.int ((XT.ushr x (2 : Int32)) &&& (255 : Int32)))] []))
        refine own_step (b := T0.setTop (mkF m 42 #[.val (.int x), .val (.int (x &&& (3 : Int32))), .val (.int ((XT.ushr x (2 : Int32)) &&& (255 : Int32)))] [(.int ((XT.ushr x (2 : Int32)) &&& (255 : Int32)))])) (fun t k => XS.iloadN X0.here hx rfl (hb hby d1_41) rfl k) ?_
        refine own_step (b := T0.setTop (mkF m 43 #[.val (.int x), .val (.int (x &&& (3 : Int32))), .val (.int ((XT.ushr x (2 : Int32)) &&& (255 : Int32)))] [(.int (((XT.ushr x (2 : Int32)) &&& (255 : Int32)).toUInt32.toUInt16.toUInt32.toInt32))])) (fun t k => XT.i2c X0.here hx rfl (hb hby d1_42) rfl k) ?_
        exact own_retN X0 hx hret (by simp) hlk (hb hby d1_43) ⟨_, rfl, own_and255 _, rfl, e0⟩ (by decide) (by decide)
      · show own_G p e below _ (T0.setTop (mkF m 38 #[.val (.int x), .val (.int (x &&& (3 : Int32))), .val (.int ((XT.ushr x (2 : Int32)) &&& (255 : Int32)))] []))
        refine own_step (b := T0.setTop (mkF m 40 #[.val (.int x), .val (.int (x &&& (3 : Int32))), .val (.int ((XT.ushr x (2 : Int32)) &&& (255 : Int32)))] [(.int (48 : Int32))])) (fun t k => XS.bipush X0.here hx rfl (hb hby d1_38) k) ?_
        exact own_retN X0 hx hret (by simp) hlk (hb hby d1_40) ⟨_, rfl, by decide, rfl, e0⟩ (by decide) (by decide)
    · show own_G p e below _ (T0.setTop (mkF m 30 #[.val (.int x), .val (.int (x &&& (3 : Int32))), .val (.int ((XT.ushr x (2 : Int32)) &&& (255 : Int32)))] []))
      refine own_step (b := T0.setTop (mkF m 32 #[.val (.int x), .val (.int (x &&& (3 : Int32))), .val (.int ((XT.ushr x (2 : Int32)) &&& (255 : Int32)))] [(.int (46 : Int32))])) (fun t k => XS.bipush X0.here hx rfl (hb hby d1_30) k) ?_
      exact own_retN X0 hx hret (by simp) hlk (hb hby d1_32) ⟨_, rfl, by decide, rfl, e0⟩ (by decide) (by decide)
  · show own_G p e below _ (T0.setTop (mkF m 16 #[.val (.int x), .val (.int (x &&& (3 : Int32))), .val (.int ((XT.ushr x (2 : Int32)) &&& (255 : Int32)))] []))
    refine own_step (b := T0.setTop (mkF m 18 #[.val (.int x), .val (.int (x &&& (3 : Int32))), .val (.int ((XT.ushr x (2 : Int32)) &&& (255 : Int32)))] [(.int (48 : Int32))])) (fun t k => XS.bipush X0.here hx rfl (hb hby d1_16) k) ?_
    refine own_step (b := T0.setTop (mkF m 19 #[.val (.int x), .val (.int (x &&& (3 : Int32))), .val (.int ((XT.ushr x (2 : Int32)) &&& (255 : Int32)))] [(.int ((XT.ushr x (2 : Int32)) &&& (255 : Int32))), (.int (48 : Int32))])) (fun t k => XS.iloadN X0.here hx rfl (hb hby d1_18) rfl k) ?_
    refine own_step (b := T0.setTop (mkF m 21 #[.val (.int x), .val (.int (x &&& (3 : Int32))), .val (.int ((XT.ushr x (2 : Int32)) &&& (255 : Int32)))] [(.int (10 : Int32)), (.int ((XT.ushr x (2 : Int32)) &&& (255 : Int32))), (.int (48 : Int32))])) (fun t k => XS.bipush X0.here hx rfl (hb hby d1_19) k) ?_
    refine own_step (b := T0.setTop (mkF m 22 #[.val (.int x), .val (.int (x &&& (3 : Int32))), .val (.int ((XT.ushr x (2 : Int32)) &&& (255 : Int32)))] [(.int (((XT.ushr x (2 : Int32)) &&& (255 : Int32)) % (10 : Int32))), (.int (48 : Int32))])) (fun t k => iremM X0 hx rfl (hb hby d1_21) rfl (by decide) k) ?_
    refine own_step (b := T0.setTop (mkF m 23 #[.val (.int x), .val (.int (x &&& (3 : Int32))), .val (.int ((XT.ushr x (2 : Int32)) &&& (255 : Int32)))] [(.int ((48 : Int32) + (((XT.ushr x (2 : Int32)) &&& (255 : Int32)) % (10 : Int32))))])) (fun t k => XS.iadd X0.here hx rfl (hb hby d1_22) rfl k) ?_
    refine own_step (b := T0.setTop (mkF m 24 #[.val (.int x), .val (.int (x &&& (3 : Int32))), .val (.int ((XT.ushr x (2 : Int32)) &&& (255 : Int32)))] [(.int (((48 : Int32) + (((XT.ushr x (2 : Int32)) &&& (255 : Int32)) % (10 : Int32))).toUInt32.toUInt16.toUInt32.toInt32))])) (fun t k => XT.i2c X0.here hx rfl (hb hby d1_23) rfl k) ?_
    exact own_retN X0 hx hret (by simp) hlk (hb hby d1_24) ⟨_, rfl, own_pick0 _, rfl, e0⟩ (by decide) (by decide)
theorem ef_digit (m : MethodId) (x : Int32) : entryFrame m #[(.int x)] 1 = mkF m 0 #[.val (.int x)] [] := by first | (simp [entryFrame, mkF, argsToLocals, Value.category, maxLocals]; done) | rfl
set_option maxRecDepth 65536 in
set_option maxHeartbeats 40000000 in
theorem rmDigit (l : Launch) (Z : State) (a0 : Array Value) (hw : ∀ d ∈ tables_1, d.before a0 Z = true) (ws : List Jvm.Cond) (x : Int32) (h0 : Heap) :
    own_Met l Z (⟨"com/example/drawdown/drawdown/PlainDecimalMatchesPinLaw", "digit", "(C)Z"⟩ : MethodName) method_4_code 1 (some .boolean) ws ⟨0, 0, 0, 0⟩ #[(.int x)] h0 (own_P (some (.int (own_bi (own_dig x)))) h0) := by
  refine own_enter (plainFor_of_name pn0) (fun m => ef_digit m x) ?_
  intro p e s m below meth c T0 hx hby hml hZ hown hnm hret hlk X0 e0
  show own_G p e below _ (T0.setTop (mkF m 0 #[.val (.int x)] []))
  refine own_step (b := T0.setTop (mkF m 1 #[.val (.int x)] [(.int x)])) (fun t k => XS.iloadN X0.here hx rfl (hb hby d10_0) rfl k) ?_
  refine own_step (b := T0.setTop (mkF m 3 #[.val (.int x)] [(.int (48 : Int32)), (.int x)])) (fun t k => XS.bipush X0.here hx rfl (hb hby d10_1) k) ?_
  refine own_icmp_lt X0 hx (hb hby d10_3) (pc' := 16) (by decide) (by decide) (fun c3_1 => ?_) (fun c3_1 => ?_)
  · show own_G p e below _ (T0.setTop (mkF m 16 #[.val (.int x)] []))
    refine own_step (b := T0.setTop (mkF m 17 #[.val (.int x)] [(.int (0 : Int32))])) (fun t k => XS.iconst X0.here hx rfl (hb hby d10_16) k) ?_
    exact own_retN X0 hx hret (by simp) hlk (hb hby d10_17) ⟨by rw [show own_dig x = false by simp [c3_1, own_dig46, own_dig]]; rfl, rfl, e0⟩ (by decide) (by decide)
  · show own_G p e below _ (T0.setTop (mkF m 6 #[.val (.int x)] []))
    refine own_step (b := T0.setTop (mkF m 7 #[.val (.int x)] [(.int x)])) (fun t k => XS.iloadN X0.here hx rfl (hb hby d10_6) rfl k) ?_
    refine own_step (b := T0.setTop (mkF m 9 #[.val (.int x)] [(.int (57 : Int32)), (.int x)])) (fun t k => XS.bipush X0.here hx rfl (hb hby d10_7) k) ?_
    refine own_icmp_gt X0 hx (hb hby d10_9) (pc' := 16) (by decide) (by decide) (fun c9_2 => ?_) (fun c9_2 => ?_)
    · show own_G p e below _ (T0.setTop (mkF m 16 #[.val (.int x)] []))
      refine own_step (b := T0.setTop (mkF m 17 #[.val (.int x)] [(.int (0 : Int32))])) (fun t k => XS.iconst X0.here hx rfl (hb hby d10_16) k) ?_
      exact own_retN X0 hx hret (by simp) hlk (hb hby d10_17) ⟨by rw [show own_dig x = false by simp [c3_1, c9_2, own_dig46, own_dig]]; rfl, rfl, e0⟩ (by decide) (by decide)
    · show own_G p e below _ (T0.setTop (mkF m 12 #[.val (.int x)] []))
      refine own_step (b := T0.setTop (mkF m 13 #[.val (.int x)] [(.int (1 : Int32))])) (fun t k => XS.iconst X0.here hx rfl (hb hby d10_12) k) ?_
      refine own_step (b := T0.setTop (mkF m 17 #[.val (.int x)] [(.int (1 : Int32))])) (fun t k => XS.goto X0.here hx rfl (pc0 := 13) (pc' := 17) rfl (hb hby d10_13) (by decide) (by decide) k) ?_
      exact own_retN X0 hx hret (by simp) hlk (hb hby d10_17) ⟨by rw [show own_dig x = true by simp [c3_1, c9_2, own_dig46, own_dig]]; rfl, rfl, e0⟩ (by decide) (by decide)
theorem ef_digits (m : MethodId) (a : Addr) (f t : Int32) : entryFrame m #[(.ref a), (.int f), (.int t)] 3 = mkF m 0 #[.val (.ref a), .val (.int f), .val (.int t)] [] := by first | (simp [entryFrame, mkF, argsToLocals, Value.category, maxLocals]; done) | rfl
set_option maxRecDepth 65536 in
set_option maxHeartbeats 40000000 in
theorem rmDigs_0_1 (l : Launch) (Z : State) (a0 : Array Value) (hw : ∀ d ∈ tables_1, d.before a0 Z = true) (ws : List Jvm.Cond) (a : Addr) (kA : ClassId) (c0 c1 c2 c3 : Int32) (h0 : Heap) (V : Arv Z h0 a kA .char (4 : Int32) [.int c0, .int c1, .int c2, .int c3] (.int 0)) :
    own_Met l Z (⟨"com/example/drawdown/drawdown/PlainDecimalMatchesPinLaw", "digits", "([CII)Z"⟩ : MethodName) method_5_code 3 (some .boolean) ws ⟨1, 0, 0, 12⟩ #[(.ref a), (.int (0 : Int32)), (.int (1 : Int32))] h0 (own_P (some (.int (own_bi (own_dig c0)))) h0) := by
  refine own_enter (plainFor_of_name pn0) (fun m => ef_digits m a (0 : Int32) (1 : Int32)) ?_
  intro p e s m below meth c T0 hx hby hml hZ hown hnm hret hlk X0 e0
  show own_G p e below _ (T0.setTop (mkF m 0 #[.val (.ref a), .val (.int (0 : Int32)), .val (.int (1 : Int32))] []))
  refine own_step (b := T0.setTop (mkF m 1 #[.val (.ref a), .val (.int (0 : Int32)), .val (.int (1 : Int32))] [(.int (0 : Int32))])) (fun t k => XS.iconst X0.here hx rfl (hb hby d9_0) k) ?_
  refine own_step (b := T0.setTop (mkF m 2 #[.val (.ref a), .val (.int (0 : Int32)), .val (.int (1 : Int32))] [(.int (0 : Int32)), (.int (0 : Int32))])) (fun t k => XS.iloadN X0.here hx rfl (hb hby d9_1) rfl k) ?_
  refine own_icmp_lt X0 hx (hb hby d9_2) (pc' := 19) (by decide) (by decide) (fun c2_1 => absurd c2_1 (by decide)) (fun c2_1 => ?_)
  show own_G p e below _ (T0.setTop (mkF m 5 #[.val (.ref a), .val (.int (0 : Int32)), .val (.int (1 : Int32))] []))
  refine own_step (b := T0.setTop (mkF m 6 #[.val (.ref a), .val (.int (0 : Int32)), .val (.int (1 : Int32))] [(.int (0 : Int32))])) (fun t k => XS.iconst X0.here hx rfl (hb hby d9_5) k) ?_
  refine own_step (b := T0.setTop (mkF m 7 #[.val (.ref a), .val (.int (0 : Int32)), .val (.int (1 : Int32))] [(.int (1 : Int32)), (.int (0 : Int32))])) (fun t k => XS.iloadN X0.here hx rfl (hb hby d9_6) rfl k) ?_
  refine own_icmp_ge X0 hx (hb hby d9_7) (pc' := 19) (by decide) (by decide) (fun c7_2 => absurd c7_2 (by decide)) (fun c7_2 => ?_)
  show own_G p e below _ (T0.setTop (mkF m 10 #[.val (.ref a), .val (.int (0 : Int32)), .val (.int (1 : Int32))] []))
  refine own_step (b := T0.setTop (mkF m 11 #[.val (.ref a), .val (.int (0 : Int32)), .val (.int (1 : Int32))] [(.ref a)])) (fun t k => XS.aloadN X0.here hx rfl (hb hby d9_10) rfl rfl k) ?_
  refine own_step (b := T0.setTop (mkF m 12 #[.val (.ref a), .val (.int (0 : Int32)), .val (.int (1 : Int32))] [(.int (0 : Int32)), (.ref a)])) (fun t k => XS.iconst X0.here hx rfl (hb hby d9_11) k) ?_
  refine own_ldC X0 hx hZ e0 V 0 (by decide) (by decide) (by decide) (v := (.int c0)) rfl (hb hby d9_12) ?_
  show own_G p e below _ (T0.setTop (mkF m 13 #[.val (.ref a), .val (.int (0 : Int32)), .val (.int (1 : Int32))] [(.int c0)]))
  refine own_staticP (W := 0) (argsL := [(.int c0)]) (st := []) X0 hx hZ hown (own_w hw 41 rfl) (own_w hw 42 rfl) (own_w hw 3 rfl) (own_w hw 43 rfl) (by decide) e0 (rmDigit l Z a0 hw [] c0 h0) (by decide) (by decide) (by decide) (by decide) (by rw [hml]; rfl) (lenOf pd0 rfl) rfl (Nat.le_of_ble_eq_true rfl) (hb hby d9_13) (fun T3 X3 e3 => ?_)
  show own_G p e below _ (T3.setTop (mkF m 16 #[.val (.ref a), .val (.int (0 : Int32)), .val (.int (1 : Int32))] [(.int (own_bi (own_dig c0)))]))
  refine own_if_eq X3 hx (hb hby d9_16) (pc' := 80) (by decide) (by decide) (fun c16_4 => ?_) (fun c16_4 => ?_)
  · show own_G p e below _ (T3.setTop (mkF m 80 #[.val (.ref a), .val (.int (0 : Int32)), .val (.int (1 : Int32))] []))
    have c16_4b : (own_dig c0) = false := own_bi_f c16_4
    refine own_step (b := T3.setTop (mkF m 81 #[.val (.ref a), .val (.int (0 : Int32)), .val (.int (1 : Int32))] [(.int (0 : Int32))])) (fun t k => XS.iconst X3.here hx rfl (hb hby d9_80) k) ?_
    exact own_retN X3 hx hret (by simp) hlk (hb hby d9_81) ⟨by rw [show (own_dig c0) = false by simp [c16_4b, own_dig46]]; rfl, rfl, e3⟩ (by decide) (by decide)
  · show own_G p e below _ (T3.setTop (mkF m 19 #[.val (.ref a), .val (.int (0 : Int32)), .val (.int (1 : Int32))] []))
    have c16_4b : (own_dig c0) = true := own_bi_t c16_4
    refine own_step (b := T3.setTop (mkF m 20 #[.val (.ref a), .val (.int (0 : Int32)), .val (.int (1 : Int32))] [(.int (1 : Int32))])) (fun t k => XS.iconst X3.here hx rfl (hb hby d9_19) k) ?_
    refine own_step (b := T3.setTop (mkF m 21 #[.val (.ref a), .val (.int (0 : Int32)), .val (.int (1 : Int32))] [(.int (0 : Int32)), (.int (1 : Int32))])) (fun t k => XS.iloadN X3.here hx rfl (hb hby d9_20) rfl k) ?_
    refine own_icmp_lt X3 hx (hb hby d9_21) (pc' := 38) (by decide) (by decide) (fun c21_5 => absurd c21_5 (by decide)) (fun c21_5 => ?_)
    show own_G p e below _ (T3.setTop (mkF m 24 #[.val (.ref a), .val (.int (0 : Int32)), .val (.int (1 : Int32))] []))
    refine own_step (b := T3.setTop (mkF m 25 #[.val (.ref a), .val (.int (0 : Int32)), .val (.int (1 : Int32))] [(.int (1 : Int32))])) (fun t k => XS.iconst X3.here hx rfl (hb hby d9_24) k) ?_
    refine own_step (b := T3.setTop (mkF m 26 #[.val (.ref a), .val (.int (0 : Int32)), .val (.int (1 : Int32))] [(.int (1 : Int32)), (.int (1 : Int32))])) (fun t k => XS.iloadN X3.here hx rfl (hb hby d9_25) rfl k) ?_
    refine own_icmp_ge X3 hx (hb hby d9_26) (pc' := 38) (by decide) (by decide) (fun c26_6 => ?_) (fun c26_6 => absurd c26_6 (by decide))
    show own_G p e below _ (T3.setTop (mkF m 38 #[.val (.ref a), .val (.int (0 : Int32)), .val (.int (1 : Int32))] []))
    refine own_step (b := T3.setTop (mkF m 39 #[.val (.ref a), .val (.int (0 : Int32)), .val (.int (1 : Int32))] [(.int (2 : Int32))])) (fun t k => XS.iconst X3.here hx rfl (hb hby d9_38) k) ?_
    refine own_step (b := T3.setTop (mkF m 40 #[.val (.ref a), .val (.int (0 : Int32)), .val (.int (1 : Int32))] [(.int (0 : Int32)), (.int (2 : Int32))])) (fun t k => XS.iloadN X3.here hx rfl (hb hby d9_39) rfl k) ?_
    refine own_icmp_lt X3 hx (hb hby d9_40) (pc' := 57) (by decide) (by decide) (fun c40_7 => absurd c40_7 (by decide)) (fun c40_7 => ?_)
    show own_G p e below _ (T3.setTop (mkF m 43 #[.val (.ref a), .val (.int (0 : Int32)), .val (.int (1 : Int32))] []))
    refine own_step (b := T3.setTop (mkF m 44 #[.val (.ref a), .val (.int (0 : Int32)), .val (.int (1 : Int32))] [(.int (2 : Int32))])) (fun t k => XS.iconst X3.here hx rfl (hb hby d9_43) k) ?_
    refine own_step (b := T3.setTop (mkF m 45 #[.val (.ref a), .val (.int (0 : Int32)), .val (.int (1 : Int32))] [(.int (1 : Int32)), (.int (2 : Int32))])) (fun t k => XS.iloadN X3.here hx rfl (hb hby d9_44) rfl k) ?_
    refine own_icmp_ge X3 hx (hb hby d9_45) (pc' := 57) (by decide) (by decide) (fun c45_8 => ?_) (fun c45_8 => absurd c45_8 (by decide))
    show own_G p e below _ (T3.setTop (mkF m 57 #[.val (.ref a), .val (.int (0 : Int32)), .val (.int (1 : Int32))] []))
    refine own_step (b := T3.setTop (mkF m 58 #[.val (.ref a), .val (.int (0 : Int32)), .val (.int (1 : Int32))] [(.int (3 : Int32))])) (fun t k => XS.iconst X3.here hx rfl (hb hby d9_57) k) ?_
    refine own_step (b := T3.setTop (mkF m 59 #[.val (.ref a), .val (.int (0 : Int32)), .val (.int (1 : Int32))] [(.int (0 : Int32)), (.int (3 : Int32))])) (fun t k => XS.iloadN X3.here hx rfl (hb hby d9_58) rfl k) ?_
    refine own_icmp_lt X3 hx (hb hby d9_59) (pc' := 76) (by decide) (by decide) (fun c59_9 => absurd c59_9 (by decide)) (fun c59_9 => ?_)
    show own_G p e below _ (T3.setTop (mkF m 62 #[.val (.ref a), .val (.int (0 : Int32)), .val (.int (1 : Int32))] []))
    refine own_step (b := T3.setTop (mkF m 63 #[.val (.ref a), .val (.int (0 : Int32)), .val (.int (1 : Int32))] [(.int (3 : Int32))])) (fun t k => XS.iconst X3.here hx rfl (hb hby d9_62) k) ?_
    refine own_step (b := T3.setTop (mkF m 64 #[.val (.ref a), .val (.int (0 : Int32)), .val (.int (1 : Int32))] [(.int (1 : Int32)), (.int (3 : Int32))])) (fun t k => XS.iloadN X3.here hx rfl (hb hby d9_63) rfl k) ?_
    refine own_icmp_ge X3 hx (hb hby d9_64) (pc' := 76) (by decide) (by decide) (fun c64_10 => ?_) (fun c64_10 => absurd c64_10 (by decide))
    show own_G p e below _ (T3.setTop (mkF m 76 #[.val (.ref a), .val (.int (0 : Int32)), .val (.int (1 : Int32))] []))
    refine own_step (b := T3.setTop (mkF m 77 #[.val (.ref a), .val (.int (0 : Int32)), .val (.int (1 : Int32))] [(.int (1 : Int32))])) (fun t k => XS.iconst X3.here hx rfl (hb hby d9_76) k) ?_
    refine own_step (b := T3.setTop (mkF m 81 #[.val (.ref a), .val (.int (0 : Int32)), .val (.int (1 : Int32))] [(.int (1 : Int32))])) (fun t k => XS.goto X3.here hx rfl (pc0 := 77) (pc' := 81) rfl (hb hby d9_77) (by decide) (by decide) k) ?_
    exact own_retN X3 hx hret (by simp) hlk (hb hby d9_81) ⟨by rw [show (own_dig c0) = true by simp [c16_4b, own_dig46]]; rfl, rfl, e3⟩ (by decide) (by decide)
set_option maxRecDepth 65536 in
set_option maxHeartbeats 40000000 in
theorem rmDigs_0_2 (l : Launch) (Z : State) (a0 : Array Value) (hw : ∀ d ∈ tables_1, d.before a0 Z = true) (ws : List Jvm.Cond) (a : Addr) (kA : ClassId) (c0 c1 c2 c3 : Int32) (h0 : Heap) (V : Arv Z h0 a kA .char (4 : Int32) [.int c0, .int c1, .int c2, .int c3] (.int 0)) :
    own_Met l Z (⟨"com/example/drawdown/drawdown/PlainDecimalMatchesPinLaw", "digits", "([CII)Z"⟩ : MethodName) method_5_code 3 (some .boolean) ws ⟨1, 0, 0, 12⟩ #[(.ref a), (.int (0 : Int32)), (.int (2 : Int32))] h0 (own_P (some (.int (own_bi (own_dig c0 && own_dig c1)))) h0) := by
  refine own_enter (plainFor_of_name pn0) (fun m => ef_digits m a (0 : Int32) (2 : Int32)) ?_
  intro p e s m below meth c T0 hx hby hml hZ hown hnm hret hlk X0 e0
  show own_G p e below _ (T0.setTop (mkF m 0 #[.val (.ref a), .val (.int (0 : Int32)), .val (.int (2 : Int32))] []))
  refine own_step (b := T0.setTop (mkF m 1 #[.val (.ref a), .val (.int (0 : Int32)), .val (.int (2 : Int32))] [(.int (0 : Int32))])) (fun t k => XS.iconst X0.here hx rfl (hb hby d9_0) k) ?_
  refine own_step (b := T0.setTop (mkF m 2 #[.val (.ref a), .val (.int (0 : Int32)), .val (.int (2 : Int32))] [(.int (0 : Int32)), (.int (0 : Int32))])) (fun t k => XS.iloadN X0.here hx rfl (hb hby d9_1) rfl k) ?_
  refine own_icmp_lt X0 hx (hb hby d9_2) (pc' := 19) (by decide) (by decide) (fun c2_1 => absurd c2_1 (by decide)) (fun c2_1 => ?_)
  show own_G p e below _ (T0.setTop (mkF m 5 #[.val (.ref a), .val (.int (0 : Int32)), .val (.int (2 : Int32))] []))
  refine own_step (b := T0.setTop (mkF m 6 #[.val (.ref a), .val (.int (0 : Int32)), .val (.int (2 : Int32))] [(.int (0 : Int32))])) (fun t k => XS.iconst X0.here hx rfl (hb hby d9_5) k) ?_
  refine own_step (b := T0.setTop (mkF m 7 #[.val (.ref a), .val (.int (0 : Int32)), .val (.int (2 : Int32))] [(.int (2 : Int32)), (.int (0 : Int32))])) (fun t k => XS.iloadN X0.here hx rfl (hb hby d9_6) rfl k) ?_
  refine own_icmp_ge X0 hx (hb hby d9_7) (pc' := 19) (by decide) (by decide) (fun c7_2 => absurd c7_2 (by decide)) (fun c7_2 => ?_)
  show own_G p e below _ (T0.setTop (mkF m 10 #[.val (.ref a), .val (.int (0 : Int32)), .val (.int (2 : Int32))] []))
  refine own_step (b := T0.setTop (mkF m 11 #[.val (.ref a), .val (.int (0 : Int32)), .val (.int (2 : Int32))] [(.ref a)])) (fun t k => XS.aloadN X0.here hx rfl (hb hby d9_10) rfl rfl k) ?_
  refine own_step (b := T0.setTop (mkF m 12 #[.val (.ref a), .val (.int (0 : Int32)), .val (.int (2 : Int32))] [(.int (0 : Int32)), (.ref a)])) (fun t k => XS.iconst X0.here hx rfl (hb hby d9_11) k) ?_
  refine own_ldC X0 hx hZ e0 V 0 (by decide) (by decide) (by decide) (v := (.int c0)) rfl (hb hby d9_12) ?_
  show own_G p e below _ (T0.setTop (mkF m 13 #[.val (.ref a), .val (.int (0 : Int32)), .val (.int (2 : Int32))] [(.int c0)]))
  refine own_staticP (W := 0) (argsL := [(.int c0)]) (st := []) X0 hx hZ hown (own_w hw 41 rfl) (own_w hw 42 rfl) (own_w hw 3 rfl) (own_w hw 43 rfl) (by decide) e0 (rmDigit l Z a0 hw [] c0 h0) (by decide) (by decide) (by decide) (by decide) (by rw [hml]; rfl) (lenOf pd0 rfl) rfl (Nat.le_of_ble_eq_true rfl) (hb hby d9_13) (fun T3 X3 e3 => ?_)
  show own_G p e below _ (T3.setTop (mkF m 16 #[.val (.ref a), .val (.int (0 : Int32)), .val (.int (2 : Int32))] [(.int (own_bi (own_dig c0)))]))
  refine own_if_eq X3 hx (hb hby d9_16) (pc' := 80) (by decide) (by decide) (fun c16_4 => ?_) (fun c16_4 => ?_)
  · show own_G p e below _ (T3.setTop (mkF m 80 #[.val (.ref a), .val (.int (0 : Int32)), .val (.int (2 : Int32))] []))
    have c16_4b : (own_dig c0) = false := own_bi_f c16_4
    refine own_step (b := T3.setTop (mkF m 81 #[.val (.ref a), .val (.int (0 : Int32)), .val (.int (2 : Int32))] [(.int (0 : Int32))])) (fun t k => XS.iconst X3.here hx rfl (hb hby d9_80) k) ?_
    exact own_retN X3 hx hret (by simp) hlk (hb hby d9_81) ⟨by rw [show (own_dig c0 && own_dig c1) = false by simp [c16_4b, own_dig46]]; rfl, rfl, e3⟩ (by decide) (by decide)
  · show own_G p e below _ (T3.setTop (mkF m 19 #[.val (.ref a), .val (.int (0 : Int32)), .val (.int (2 : Int32))] []))
    have c16_4b : (own_dig c0) = true := own_bi_t c16_4
    refine own_step (b := T3.setTop (mkF m 20 #[.val (.ref a), .val (.int (0 : Int32)), .val (.int (2 : Int32))] [(.int (1 : Int32))])) (fun t k => XS.iconst X3.here hx rfl (hb hby d9_19) k) ?_
    refine own_step (b := T3.setTop (mkF m 21 #[.val (.ref a), .val (.int (0 : Int32)), .val (.int (2 : Int32))] [(.int (0 : Int32)), (.int (1 : Int32))])) (fun t k => XS.iloadN X3.here hx rfl (hb hby d9_20) rfl k) ?_
    refine own_icmp_lt X3 hx (hb hby d9_21) (pc' := 38) (by decide) (by decide) (fun c21_5 => absurd c21_5 (by decide)) (fun c21_5 => ?_)
    show own_G p e below _ (T3.setTop (mkF m 24 #[.val (.ref a), .val (.int (0 : Int32)), .val (.int (2 : Int32))] []))
    refine own_step (b := T3.setTop (mkF m 25 #[.val (.ref a), .val (.int (0 : Int32)), .val (.int (2 : Int32))] [(.int (1 : Int32))])) (fun t k => XS.iconst X3.here hx rfl (hb hby d9_24) k) ?_
    refine own_step (b := T3.setTop (mkF m 26 #[.val (.ref a), .val (.int (0 : Int32)), .val (.int (2 : Int32))] [(.int (2 : Int32)), (.int (1 : Int32))])) (fun t k => XS.iloadN X3.here hx rfl (hb hby d9_25) rfl k) ?_
    refine own_icmp_ge X3 hx (hb hby d9_26) (pc' := 38) (by decide) (by decide) (fun c26_6 => absurd c26_6 (by decide)) (fun c26_6 => ?_)
    show own_G p e below _ (T3.setTop (mkF m 29 #[.val (.ref a), .val (.int (0 : Int32)), .val (.int (2 : Int32))] []))
    refine own_step (b := T3.setTop (mkF m 30 #[.val (.ref a), .val (.int (0 : Int32)), .val (.int (2 : Int32))] [(.ref a)])) (fun t k => XS.aloadN X3.here hx rfl (hb hby d9_29) rfl rfl k) ?_
    refine own_step (b := T3.setTop (mkF m 31 #[.val (.ref a), .val (.int (0 : Int32)), .val (.int (2 : Int32))] [(.int (1 : Int32)), (.ref a)])) (fun t k => XS.iconst X3.here hx rfl (hb hby d9_30) k) ?_
    refine own_ldC X3 hx hZ e3 V 1 (by decide) (by decide) (by decide) (v := (.int c1)) rfl (hb hby d9_31) ?_
    show own_G p e below _ (T3.setTop (mkF m 32 #[.val (.ref a), .val (.int (0 : Int32)), .val (.int (2 : Int32))] [(.int c1)]))
    refine own_staticP (W := 0) (argsL := [(.int c1)]) (st := []) X3 hx hZ hown (own_w hw 41 rfl) (own_w hw 42 rfl) (own_w hw 3 rfl) (own_w hw 43 rfl) (by decide) e3 (rmDigit l Z a0 hw [] c1 h0) (by decide) (by decide) (by decide) (by decide) (by rw [hml]; rfl) (lenOf pd0 rfl) rfl (Nat.le_of_ble_eq_true rfl) (hb hby d9_32) (fun T7 X7 e7 => ?_)
    show own_G p e below _ (T7.setTop (mkF m 35 #[.val (.ref a), .val (.int (0 : Int32)), .val (.int (2 : Int32))] [(.int (own_bi (own_dig c1)))]))
    refine own_if_eq X7 hx (hb hby d9_35) (pc' := 80) (by decide) (by decide) (fun c35_8 => ?_) (fun c35_8 => ?_)
    · show own_G p e below _ (T7.setTop (mkF m 80 #[.val (.ref a), .val (.int (0 : Int32)), .val (.int (2 : Int32))] []))
      have c35_8b : (own_dig c1) = false := own_bi_f c35_8
      refine own_step (b := T7.setTop (mkF m 81 #[.val (.ref a), .val (.int (0 : Int32)), .val (.int (2 : Int32))] [(.int (0 : Int32))])) (fun t k => XS.iconst X7.here hx rfl (hb hby d9_80) k) ?_
      exact own_retN X7 hx hret (by simp) hlk (hb hby d9_81) ⟨by rw [show (own_dig c0 && own_dig c1) = false by simp [c16_4b, c35_8b, own_dig46]]; rfl, rfl, e7⟩ (by decide) (by decide)
    · show own_G p e below _ (T7.setTop (mkF m 38 #[.val (.ref a), .val (.int (0 : Int32)), .val (.int (2 : Int32))] []))
      have c35_8b : (own_dig c1) = true := own_bi_t c35_8
      refine own_step (b := T7.setTop (mkF m 39 #[.val (.ref a), .val (.int (0 : Int32)), .val (.int (2 : Int32))] [(.int (2 : Int32))])) (fun t k => XS.iconst X7.here hx rfl (hb hby d9_38) k) ?_
      refine own_step (b := T7.setTop (mkF m 40 #[.val (.ref a), .val (.int (0 : Int32)), .val (.int (2 : Int32))] [(.int (0 : Int32)), (.int (2 : Int32))])) (fun t k => XS.iloadN X7.here hx rfl (hb hby d9_39) rfl k) ?_
      refine own_icmp_lt X7 hx (hb hby d9_40) (pc' := 57) (by decide) (by decide) (fun c40_9 => absurd c40_9 (by decide)) (fun c40_9 => ?_)
      show own_G p e below _ (T7.setTop (mkF m 43 #[.val (.ref a), .val (.int (0 : Int32)), .val (.int (2 : Int32))] []))
      refine own_step (b := T7.setTop (mkF m 44 #[.val (.ref a), .val (.int (0 : Int32)), .val (.int (2 : Int32))] [(.int (2 : Int32))])) (fun t k => XS.iconst X7.here hx rfl (hb hby d9_43) k) ?_
      refine own_step (b := T7.setTop (mkF m 45 #[.val (.ref a), .val (.int (0 : Int32)), .val (.int (2 : Int32))] [(.int (2 : Int32)), (.int (2 : Int32))])) (fun t k => XS.iloadN X7.here hx rfl (hb hby d9_44) rfl k) ?_
      refine own_icmp_ge X7 hx (hb hby d9_45) (pc' := 57) (by decide) (by decide) (fun c45_10 => ?_) (fun c45_10 => absurd c45_10 (by decide))
      show own_G p e below _ (T7.setTop (mkF m 57 #[.val (.ref a), .val (.int (0 : Int32)), .val (.int (2 : Int32))] []))
      refine own_step (b := T7.setTop (mkF m 58 #[.val (.ref a), .val (.int (0 : Int32)), .val (.int (2 : Int32))] [(.int (3 : Int32))])) (fun t k => XS.iconst X7.here hx rfl (hb hby d9_57) k) ?_
      refine own_step (b := T7.setTop (mkF m 59 #[.val (.ref a), .val (.int (0 : Int32)), .val (.int (2 : Int32))] [(.int (0 : Int32)), (.int (3 : Int32))])) (fun t k => XS.iloadN X7.here hx rfl (hb hby d9_58) rfl k) ?_
      refine own_icmp_lt X7 hx (hb hby d9_59) (pc' := 76) (by decide) (by decide) (fun c59_11 => absurd c59_11 (by decide)) (fun c59_11 => ?_)
      show own_G p e below _ (T7.setTop (mkF m 62 #[.val (.ref a), .val (.int (0 : Int32)), .val (.int (2 : Int32))] []))
      refine own_step (b := T7.setTop (mkF m 63 #[.val (.ref a), .val (.int (0 : Int32)), .val (.int (2 : Int32))] [(.int (3 : Int32))])) (fun t k => XS.iconst X7.here hx rfl (hb hby d9_62) k) ?_
      refine own_step (b := T7.setTop (mkF m 64 #[.val (.ref a), .val (.int (0 : Int32)), .val (.int (2 : Int32))] [(.int (2 : Int32)), (.int (3 : Int32))])) (fun t k => XS.iloadN X7.here hx rfl (hb hby d9_63) rfl k) ?_
      refine own_icmp_ge X7 hx (hb hby d9_64) (pc' := 76) (by decide) (by decide) (fun c64_12 => ?_) (fun c64_12 => absurd c64_12 (by decide))
      show own_G p e below _ (T7.setTop (mkF m 76 #[.val (.ref a), .val (.int (0 : Int32)), .val (.int (2 : Int32))] []))
      refine own_step (b := T7.setTop (mkF m 77 #[.val (.ref a), .val (.int (0 : Int32)), .val (.int (2 : Int32))] [(.int (1 : Int32))])) (fun t k => XS.iconst X7.here hx rfl (hb hby d9_76) k) ?_
      refine own_step (b := T7.setTop (mkF m 81 #[.val (.ref a), .val (.int (0 : Int32)), .val (.int (2 : Int32))] [(.int (1 : Int32))])) (fun t k => XS.goto X7.here hx rfl (pc0 := 77) (pc' := 81) rfl (hb hby d9_77) (by decide) (by decide) k) ?_
      exact own_retN X7 hx hret (by simp) hlk (hb hby d9_81) ⟨by rw [show (own_dig c0 && own_dig c1) = true by simp [c16_4b, c35_8b, own_dig46]]; rfl, rfl, e7⟩ (by decide) (by decide)
set_option maxRecDepth 65536 in
set_option maxHeartbeats 40000000 in
theorem rmDigs_0_3 (l : Launch) (Z : State) (a0 : Array Value) (hw : ∀ d ∈ tables_1, d.before a0 Z = true) (ws : List Jvm.Cond) (a : Addr) (kA : ClassId) (c0 c1 c2 c3 : Int32) (h0 : Heap) (V : Arv Z h0 a kA .char (4 : Int32) [.int c0, .int c1, .int c2, .int c3] (.int 0)) :
    own_Met l Z (⟨"com/example/drawdown/drawdown/PlainDecimalMatchesPinLaw", "digits", "([CII)Z"⟩ : MethodName) method_5_code 3 (some .boolean) ws ⟨1, 0, 0, 12⟩ #[(.ref a), (.int (0 : Int32)), (.int (3 : Int32))] h0 (own_P (some (.int (own_bi (own_dig c0 && own_dig c1 && own_dig c2)))) h0) := by
  refine own_enter (plainFor_of_name pn0) (fun m => ef_digits m a (0 : Int32) (3 : Int32)) ?_
  intro p e s m below meth c T0 hx hby hml hZ hown hnm hret hlk X0 e0
  show own_G p e below _ (T0.setTop (mkF m 0 #[.val (.ref a), .val (.int (0 : Int32)), .val (.int (3 : Int32))] []))
  refine own_step (b := T0.setTop (mkF m 1 #[.val (.ref a), .val (.int (0 : Int32)), .val (.int (3 : Int32))] [(.int (0 : Int32))])) (fun t k => XS.iconst X0.here hx rfl (hb hby d9_0) k) ?_
  refine own_step (b := T0.setTop (mkF m 2 #[.val (.ref a), .val (.int (0 : Int32)), .val (.int (3 : Int32))] [(.int (0 : Int32)), (.int (0 : Int32))])) (fun t k => XS.iloadN X0.here hx rfl (hb hby d9_1) rfl k) ?_
  refine own_icmp_lt X0 hx (hb hby d9_2) (pc' := 19) (by decide) (by decide) (fun c2_1 => absurd c2_1 (by decide)) (fun c2_1 => ?_)
  show own_G p e below _ (T0.setTop (mkF m 5 #[.val (.ref a), .val (.int (0 : Int32)), .val (.int (3 : Int32))] []))
  refine own_step (b := T0.setTop (mkF m 6 #[.val (.ref a), .val (.int (0 : Int32)), .val (.int (3 : Int32))] [(.int (0 : Int32))])) (fun t k => XS.iconst X0.here hx rfl (hb hby d9_5) k) ?_
  refine own_step (b := T0.setTop (mkF m 7 #[.val (.ref a), .val (.int (0 : Int32)), .val (.int (3 : Int32))] [(.int (3 : Int32)), (.int (0 : Int32))])) (fun t k => XS.iloadN X0.here hx rfl (hb hby d9_6) rfl k) ?_
  refine own_icmp_ge X0 hx (hb hby d9_7) (pc' := 19) (by decide) (by decide) (fun c7_2 => absurd c7_2 (by decide)) (fun c7_2 => ?_)
  show own_G p e below _ (T0.setTop (mkF m 10 #[.val (.ref a), .val (.int (0 : Int32)), .val (.int (3 : Int32))] []))
  refine own_step (b := T0.setTop (mkF m 11 #[.val (.ref a), .val (.int (0 : Int32)), .val (.int (3 : Int32))] [(.ref a)])) (fun t k => XS.aloadN X0.here hx rfl (hb hby d9_10) rfl rfl k) ?_
  refine own_step (b := T0.setTop (mkF m 12 #[.val (.ref a), .val (.int (0 : Int32)), .val (.int (3 : Int32))] [(.int (0 : Int32)), (.ref a)])) (fun t k => XS.iconst X0.here hx rfl (hb hby d9_11) k) ?_
  refine own_ldC X0 hx hZ e0 V 0 (by decide) (by decide) (by decide) (v := (.int c0)) rfl (hb hby d9_12) ?_
  show own_G p e below _ (T0.setTop (mkF m 13 #[.val (.ref a), .val (.int (0 : Int32)), .val (.int (3 : Int32))] [(.int c0)]))
  refine own_staticP (W := 0) (argsL := [(.int c0)]) (st := []) X0 hx hZ hown (own_w hw 41 rfl) (own_w hw 42 rfl) (own_w hw 3 rfl) (own_w hw 43 rfl) (by decide) e0 (rmDigit l Z a0 hw [] c0 h0) (by decide) (by decide) (by decide) (by decide) (by rw [hml]; rfl) (lenOf pd0 rfl) rfl (Nat.le_of_ble_eq_true rfl) (hb hby d9_13) (fun T3 X3 e3 => ?_)
  show own_G p e below _ (T3.setTop (mkF m 16 #[.val (.ref a), .val (.int (0 : Int32)), .val (.int (3 : Int32))] [(.int (own_bi (own_dig c0)))]))
  refine own_if_eq X3 hx (hb hby d9_16) (pc' := 80) (by decide) (by decide) (fun c16_4 => ?_) (fun c16_4 => ?_)
  · show own_G p e below _ (T3.setTop (mkF m 80 #[.val (.ref a), .val (.int (0 : Int32)), .val (.int (3 : Int32))] []))
    have c16_4b : (own_dig c0) = false := own_bi_f c16_4
    refine own_step (b := T3.setTop (mkF m 81 #[.val (.ref a), .val (.int (0 : Int32)), .val (.int (3 : Int32))] [(.int (0 : Int32))])) (fun t k => XS.iconst X3.here hx rfl (hb hby d9_80) k) ?_
    exact own_retN X3 hx hret (by simp) hlk (hb hby d9_81) ⟨by rw [show (own_dig c0 && own_dig c1 && own_dig c2) = false by simp [c16_4b, own_dig46]]; rfl, rfl, e3⟩ (by decide) (by decide)
  · show own_G p e below _ (T3.setTop (mkF m 19 #[.val (.ref a), .val (.int (0 : Int32)), .val (.int (3 : Int32))] []))
    have c16_4b : (own_dig c0) = true := own_bi_t c16_4
    refine own_step (b := T3.setTop (mkF m 20 #[.val (.ref a), .val (.int (0 : Int32)), .val (.int (3 : Int32))] [(.int (1 : Int32))])) (fun t k => XS.iconst X3.here hx rfl (hb hby d9_19) k) ?_
    refine own_step (b := T3.setTop (mkF m 21 #[.val (.ref a), .val (.int (0 : Int32)), .val (.int (3 : Int32))] [(.int (0 : Int32)), (.int (1 : Int32))])) (fun t k => XS.iloadN X3.here hx rfl (hb hby d9_20) rfl k) ?_
    refine own_icmp_lt X3 hx (hb hby d9_21) (pc' := 38) (by decide) (by decide) (fun c21_5 => absurd c21_5 (by decide)) (fun c21_5 => ?_)
    show own_G p e below _ (T3.setTop (mkF m 24 #[.val (.ref a), .val (.int (0 : Int32)), .val (.int (3 : Int32))] []))
    refine own_step (b := T3.setTop (mkF m 25 #[.val (.ref a), .val (.int (0 : Int32)), .val (.int (3 : Int32))] [(.int (1 : Int32))])) (fun t k => XS.iconst X3.here hx rfl (hb hby d9_24) k) ?_
    refine own_step (b := T3.setTop (mkF m 26 #[.val (.ref a), .val (.int (0 : Int32)), .val (.int (3 : Int32))] [(.int (3 : Int32)), (.int (1 : Int32))])) (fun t k => XS.iloadN X3.here hx rfl (hb hby d9_25) rfl k) ?_
    refine own_icmp_ge X3 hx (hb hby d9_26) (pc' := 38) (by decide) (by decide) (fun c26_6 => absurd c26_6 (by decide)) (fun c26_6 => ?_)
    show own_G p e below _ (T3.setTop (mkF m 29 #[.val (.ref a), .val (.int (0 : Int32)), .val (.int (3 : Int32))] []))
    refine own_step (b := T3.setTop (mkF m 30 #[.val (.ref a), .val (.int (0 : Int32)), .val (.int (3 : Int32))] [(.ref a)])) (fun t k => XS.aloadN X3.here hx rfl (hb hby d9_29) rfl rfl k) ?_
    refine own_step (b := T3.setTop (mkF m 31 #[.val (.ref a), .val (.int (0 : Int32)), .val (.int (3 : Int32))] [(.int (1 : Int32)), (.ref a)])) (fun t k => XS.iconst X3.here hx rfl (hb hby d9_30) k) ?_
    refine own_ldC X3 hx hZ e3 V 1 (by decide) (by decide) (by decide) (v := (.int c1)) rfl (hb hby d9_31) ?_
    show own_G p e below _ (T3.setTop (mkF m 32 #[.val (.ref a), .val (.int (0 : Int32)), .val (.int (3 : Int32))] [(.int c1)]))
    refine own_staticP (W := 0) (argsL := [(.int c1)]) (st := []) X3 hx hZ hown (own_w hw 41 rfl) (own_w hw 42 rfl) (own_w hw 3 rfl) (own_w hw 43 rfl) (by decide) e3 (rmDigit l Z a0 hw [] c1 h0) (by decide) (by decide) (by decide) (by decide) (by rw [hml]; rfl) (lenOf pd0 rfl) rfl (Nat.le_of_ble_eq_true rfl) (hb hby d9_32) (fun T7 X7 e7 => ?_)
    show own_G p e below _ (T7.setTop (mkF m 35 #[.val (.ref a), .val (.int (0 : Int32)), .val (.int (3 : Int32))] [(.int (own_bi (own_dig c1)))]))
    refine own_if_eq X7 hx (hb hby d9_35) (pc' := 80) (by decide) (by decide) (fun c35_8 => ?_) (fun c35_8 => ?_)
    · show own_G p e below _ (T7.setTop (mkF m 80 #[.val (.ref a), .val (.int (0 : Int32)), .val (.int (3 : Int32))] []))
      have c35_8b : (own_dig c1) = false := own_bi_f c35_8
      refine own_step (b := T7.setTop (mkF m 81 #[.val (.ref a), .val (.int (0 : Int32)), .val (.int (3 : Int32))] [(.int (0 : Int32))])) (fun t k => XS.iconst X7.here hx rfl (hb hby d9_80) k) ?_
      exact own_retN X7 hx hret (by simp) hlk (hb hby d9_81) ⟨by rw [show (own_dig c0 && own_dig c1 && own_dig c2) = false by simp [c16_4b, c35_8b, own_dig46]]; rfl, rfl, e7⟩ (by decide) (by decide)
    · show own_G p e below _ (T7.setTop (mkF m 38 #[.val (.ref a), .val (.int (0 : Int32)), .val (.int (3 : Int32))] []))
      have c35_8b : (own_dig c1) = true := own_bi_t c35_8
      refine own_step (b := T7.setTop (mkF m 39 #[.val (.ref a), .val (.int (0 : Int32)), .val (.int (3 : Int32))] [(.int (2 : Int32))])) (fun t k => XS.iconst X7.here hx rfl (hb hby d9_38) k) ?_
      refine own_step (b := T7.setTop (mkF m 40 #[.val (.ref a), .val (.int (0 : Int32)), .val (.int (3 : Int32))] [(.int (0 : Int32)), (.int (2 : Int32))])) (fun t k => XS.iloadN X7.here hx rfl (hb hby d9_39) rfl k) ?_
      refine own_icmp_lt X7 hx (hb hby d9_40) (pc' := 57) (by decide) (by decide) (fun c40_9 => absurd c40_9 (by decide)) (fun c40_9 => ?_)
      show own_G p e below _ (T7.setTop (mkF m 43 #[.val (.ref a), .val (.int (0 : Int32)), .val (.int (3 : Int32))] []))
      refine own_step (b := T7.setTop (mkF m 44 #[.val (.ref a), .val (.int (0 : Int32)), .val (.int (3 : Int32))] [(.int (2 : Int32))])) (fun t k => XS.iconst X7.here hx rfl (hb hby d9_43) k) ?_
      refine own_step (b := T7.setTop (mkF m 45 #[.val (.ref a), .val (.int (0 : Int32)), .val (.int (3 : Int32))] [(.int (3 : Int32)), (.int (2 : Int32))])) (fun t k => XS.iloadN X7.here hx rfl (hb hby d9_44) rfl k) ?_
      refine own_icmp_ge X7 hx (hb hby d9_45) (pc' := 57) (by decide) (by decide) (fun c45_10 => absurd c45_10 (by decide)) (fun c45_10 => ?_)
      show own_G p e below _ (T7.setTop (mkF m 48 #[.val (.ref a), .val (.int (0 : Int32)), .val (.int (3 : Int32))] []))
      refine own_step (b := T7.setTop (mkF m 49 #[.val (.ref a), .val (.int (0 : Int32)), .val (.int (3 : Int32))] [(.ref a)])) (fun t k => XS.aloadN X7.here hx rfl (hb hby d9_48) rfl rfl k) ?_
      refine own_step (b := T7.setTop (mkF m 50 #[.val (.ref a), .val (.int (0 : Int32)), .val (.int (3 : Int32))] [(.int (2 : Int32)), (.ref a)])) (fun t k => XS.iconst X7.here hx rfl (hb hby d9_49) k) ?_
      refine own_ldC X7 hx hZ e7 V 2 (by decide) (by decide) (by decide) (v := (.int c2)) rfl (hb hby d9_50) ?_
      show own_G p e below _ (T7.setTop (mkF m 51 #[.val (.ref a), .val (.int (0 : Int32)), .val (.int (3 : Int32))] [(.int c2)]))
      refine own_staticP (W := 0) (argsL := [(.int c2)]) (st := []) X7 hx hZ hown (own_w hw 41 rfl) (own_w hw 42 rfl) (own_w hw 3 rfl) (own_w hw 43 rfl) (by decide) e7 (rmDigit l Z a0 hw [] c2 h0) (by decide) (by decide) (by decide) (by decide) (by rw [hml]; rfl) (lenOf pd0 rfl) rfl (Nat.le_of_ble_eq_true rfl) (hb hby d9_51) (fun T11 X11 e11 => ?_)
      show own_G p e below _ (T11.setTop (mkF m 54 #[.val (.ref a), .val (.int (0 : Int32)), .val (.int (3 : Int32))] [(.int (own_bi (own_dig c2)))]))
      refine own_if_eq X11 hx (hb hby d9_54) (pc' := 80) (by decide) (by decide) (fun c54_12 => ?_) (fun c54_12 => ?_)
      · show own_G p e below _ (T11.setTop (mkF m 80 #[.val (.ref a), .val (.int (0 : Int32)), .val (.int (3 : Int32))] []))
        have c54_12b : (own_dig c2) = false := own_bi_f c54_12
        refine own_step (b := T11.setTop (mkF m 81 #[.val (.ref a), .val (.int (0 : Int32)), .val (.int (3 : Int32))] [(.int (0 : Int32))])) (fun t k => XS.iconst X11.here hx rfl (hb hby d9_80) k) ?_
        exact own_retN X11 hx hret (by simp) hlk (hb hby d9_81) ⟨by rw [show (own_dig c0 && own_dig c1 && own_dig c2) = false by simp [c16_4b, c35_8b, c54_12b, own_dig46]]; rfl, rfl, e11⟩ (by decide) (by decide)
      · show own_G p e below _ (T11.setTop (mkF m 57 #[.val (.ref a), .val (.int (0 : Int32)), .val (.int (3 : Int32))] []))
        have c54_12b : (own_dig c2) = true := own_bi_t c54_12
        refine own_step (b := T11.setTop (mkF m 58 #[.val (.ref a), .val (.int (0 : Int32)), .val (.int (3 : Int32))] [(.int (3 : Int32))])) (fun t k => XS.iconst X11.here hx rfl (hb hby d9_57) k) ?_
        refine own_step (b := T11.setTop (mkF m 59 #[.val (.ref a), .val (.int (0 : Int32)), .val (.int (3 : Int32))] [(.int (0 : Int32)), (.int (3 : Int32))])) (fun t k => XS.iloadN X11.here hx rfl (hb hby d9_58) rfl k) ?_
        refine own_icmp_lt X11 hx (hb hby d9_59) (pc' := 76) (by decide) (by decide) (fun c59_13 => absurd c59_13 (by decide)) (fun c59_13 => ?_)
        show own_G p e below _ (T11.setTop (mkF m 62 #[.val (.ref a), .val (.int (0 : Int32)), .val (.int (3 : Int32))] []))
        refine own_step (b := T11.setTop (mkF m 63 #[.val (.ref a), .val (.int (0 : Int32)), .val (.int (3 : Int32))] [(.int (3 : Int32))])) (fun t k => XS.iconst X11.here hx rfl (hb hby d9_62) k) ?_
        refine own_step (b := T11.setTop (mkF m 64 #[.val (.ref a), .val (.int (0 : Int32)), .val (.int (3 : Int32))] [(.int (3 : Int32)), (.int (3 : Int32))])) (fun t k => XS.iloadN X11.here hx rfl (hb hby d9_63) rfl k) ?_
        refine own_icmp_ge X11 hx (hb hby d9_64) (pc' := 76) (by decide) (by decide) (fun c64_14 => ?_) (fun c64_14 => absurd c64_14 (by decide))
        show own_G p e below _ (T11.setTop (mkF m 76 #[.val (.ref a), .val (.int (0 : Int32)), .val (.int (3 : Int32))] []))
        refine own_step (b := T11.setTop (mkF m 77 #[.val (.ref a), .val (.int (0 : Int32)), .val (.int (3 : Int32))] [(.int (1 : Int32))])) (fun t k => XS.iconst X11.here hx rfl (hb hby d9_76) k) ?_
        refine own_step (b := T11.setTop (mkF m 81 #[.val (.ref a), .val (.int (0 : Int32)), .val (.int (3 : Int32))] [(.int (1 : Int32))])) (fun t k => XS.goto X11.here hx rfl (pc0 := 77) (pc' := 81) rfl (hb hby d9_77) (by decide) (by decide) k) ?_
        exact own_retN X11 hx hret (by simp) hlk (hb hby d9_81) ⟨by rw [show (own_dig c0 && own_dig c1 && own_dig c2) = true by simp [c16_4b, c35_8b, c54_12b, own_dig46]]; rfl, rfl, e11⟩ (by decide) (by decide)
set_option maxRecDepth 65536 in
set_option maxHeartbeats 40000000 in
theorem rmDigs_0_4 (l : Launch) (Z : State) (a0 : Array Value) (hw : ∀ d ∈ tables_1, d.before a0 Z = true) (ws : List Jvm.Cond) (a : Addr) (kA : ClassId) (c0 c1 c2 c3 : Int32) (h0 : Heap) (V : Arv Z h0 a kA .char (4 : Int32) [.int c0, .int c1, .int c2, .int c3] (.int 0)) :
    own_Met l Z (⟨"com/example/drawdown/drawdown/PlainDecimalMatchesPinLaw", "digits", "([CII)Z"⟩ : MethodName) method_5_code 3 (some .boolean) ws ⟨1, 0, 0, 12⟩ #[(.ref a), (.int (0 : Int32)), (.int (4 : Int32))] h0 (own_P (some (.int (own_bi (own_dig c0 && own_dig c1 && own_dig c2 && own_dig c3)))) h0) := by
  refine own_enter (plainFor_of_name pn0) (fun m => ef_digits m a (0 : Int32) (4 : Int32)) ?_
  intro p e s m below meth c T0 hx hby hml hZ hown hnm hret hlk X0 e0
  show own_G p e below _ (T0.setTop (mkF m 0 #[.val (.ref a), .val (.int (0 : Int32)), .val (.int (4 : Int32))] []))
  refine own_step (b := T0.setTop (mkF m 1 #[.val (.ref a), .val (.int (0 : Int32)), .val (.int (4 : Int32))] [(.int (0 : Int32))])) (fun t k => XS.iconst X0.here hx rfl (hb hby d9_0) k) ?_
  refine own_step (b := T0.setTop (mkF m 2 #[.val (.ref a), .val (.int (0 : Int32)), .val (.int (4 : Int32))] [(.int (0 : Int32)), (.int (0 : Int32))])) (fun t k => XS.iloadN X0.here hx rfl (hb hby d9_1) rfl k) ?_
  refine own_icmp_lt X0 hx (hb hby d9_2) (pc' := 19) (by decide) (by decide) (fun c2_1 => absurd c2_1 (by decide)) (fun c2_1 => ?_)
  show own_G p e below _ (T0.setTop (mkF m 5 #[.val (.ref a), .val (.int (0 : Int32)), .val (.int (4 : Int32))] []))
  refine own_step (b := T0.setTop (mkF m 6 #[.val (.ref a), .val (.int (0 : Int32)), .val (.int (4 : Int32))] [(.int (0 : Int32))])) (fun t k => XS.iconst X0.here hx rfl (hb hby d9_5) k) ?_
  refine own_step (b := T0.setTop (mkF m 7 #[.val (.ref a), .val (.int (0 : Int32)), .val (.int (4 : Int32))] [(.int (4 : Int32)), (.int (0 : Int32))])) (fun t k => XS.iloadN X0.here hx rfl (hb hby d9_6) rfl k) ?_
  refine own_icmp_ge X0 hx (hb hby d9_7) (pc' := 19) (by decide) (by decide) (fun c7_2 => absurd c7_2 (by decide)) (fun c7_2 => ?_)
  show own_G p e below _ (T0.setTop (mkF m 10 #[.val (.ref a), .val (.int (0 : Int32)), .val (.int (4 : Int32))] []))
  refine own_step (b := T0.setTop (mkF m 11 #[.val (.ref a), .val (.int (0 : Int32)), .val (.int (4 : Int32))] [(.ref a)])) (fun t k => XS.aloadN X0.here hx rfl (hb hby d9_10) rfl rfl k) ?_
  refine own_step (b := T0.setTop (mkF m 12 #[.val (.ref a), .val (.int (0 : Int32)), .val (.int (4 : Int32))] [(.int (0 : Int32)), (.ref a)])) (fun t k => XS.iconst X0.here hx rfl (hb hby d9_11) k) ?_
  refine own_ldC X0 hx hZ e0 V 0 (by decide) (by decide) (by decide) (v := (.int c0)) rfl (hb hby d9_12) ?_
  show own_G p e below _ (T0.setTop (mkF m 13 #[.val (.ref a), .val (.int (0 : Int32)), .val (.int (4 : Int32))] [(.int c0)]))
  refine own_staticP (W := 0) (argsL := [(.int c0)]) (st := []) X0 hx hZ hown (own_w hw 41 rfl) (own_w hw 42 rfl) (own_w hw 3 rfl) (own_w hw 43 rfl) (by decide) e0 (rmDigit l Z a0 hw [] c0 h0) (by decide) (by decide) (by decide) (by decide) (by rw [hml]; rfl) (lenOf pd0 rfl) rfl (Nat.le_of_ble_eq_true rfl) (hb hby d9_13) (fun T3 X3 e3 => ?_)
  show own_G p e below _ (T3.setTop (mkF m 16 #[.val (.ref a), .val (.int (0 : Int32)), .val (.int (4 : Int32))] [(.int (own_bi (own_dig c0)))]))
  refine own_if_eq X3 hx (hb hby d9_16) (pc' := 80) (by decide) (by decide) (fun c16_4 => ?_) (fun c16_4 => ?_)
  · show own_G p e below _ (T3.setTop (mkF m 80 #[.val (.ref a), .val (.int (0 : Int32)), .val (.int (4 : Int32))] []))
    have c16_4b : (own_dig c0) = false := own_bi_f c16_4
    refine own_step (b := T3.setTop (mkF m 81 #[.val (.ref a), .val (.int (0 : Int32)), .val (.int (4 : Int32))] [(.int (0 : Int32))])) (fun t k => XS.iconst X3.here hx rfl (hb hby d9_80) k) ?_
    exact own_retN X3 hx hret (by simp) hlk (hb hby d9_81) ⟨by rw [show (own_dig c0 && own_dig c1 && own_dig c2 && own_dig c3) = false by simp [c16_4b, own_dig46]]; rfl, rfl, e3⟩ (by decide) (by decide)
  · show own_G p e below _ (T3.setTop (mkF m 19 #[.val (.ref a), .val (.int (0 : Int32)), .val (.int (4 : Int32))] []))
    have c16_4b : (own_dig c0) = true := own_bi_t c16_4
    refine own_step (b := T3.setTop (mkF m 20 #[.val (.ref a), .val (.int (0 : Int32)), .val (.int (4 : Int32))] [(.int (1 : Int32))])) (fun t k => XS.iconst X3.here hx rfl (hb hby d9_19) k) ?_
    refine own_step (b := T3.setTop (mkF m 21 #[.val (.ref a), .val (.int (0 : Int32)), .val (.int (4 : Int32))] [(.int (0 : Int32)), (.int (1 : Int32))])) (fun t k => XS.iloadN X3.here hx rfl (hb hby d9_20) rfl k) ?_
    refine own_icmp_lt X3 hx (hb hby d9_21) (pc' := 38) (by decide) (by decide) (fun c21_5 => absurd c21_5 (by decide)) (fun c21_5 => ?_)
    show own_G p e below _ (T3.setTop (mkF m 24 #[.val (.ref a), .val (.int (0 : Int32)), .val (.int (4 : Int32))] []))
    refine own_step (b := T3.setTop (mkF m 25 #[.val (.ref a), .val (.int (0 : Int32)), .val (.int (4 : Int32))] [(.int (1 : Int32))])) (fun t k => XS.iconst X3.here hx rfl (hb hby d9_24) k) ?_
    refine own_step (b := T3.setTop (mkF m 26 #[.val (.ref a), .val (.int (0 : Int32)), .val (.int (4 : Int32))] [(.int (4 : Int32)), (.int (1 : Int32))])) (fun t k => XS.iloadN X3.here hx rfl (hb hby d9_25) rfl k) ?_
    refine own_icmp_ge X3 hx (hb hby d9_26) (pc' := 38) (by decide) (by decide) (fun c26_6 => absurd c26_6 (by decide)) (fun c26_6 => ?_)
    show own_G p e below _ (T3.setTop (mkF m 29 #[.val (.ref a), .val (.int (0 : Int32)), .val (.int (4 : Int32))] []))
    refine own_step (b := T3.setTop (mkF m 30 #[.val (.ref a), .val (.int (0 : Int32)), .val (.int (4 : Int32))] [(.ref a)])) (fun t k => XS.aloadN X3.here hx rfl (hb hby d9_29) rfl rfl k) ?_
    refine own_step (b := T3.setTop (mkF m 31 #[.val (.ref a), .val (.int (0 : Int32)), .val (.int (4 : Int32))] [(.int (1 : Int32)), (.ref a)])) (fun t k => XS.iconst X3.here hx rfl (hb hby d9_30) k) ?_
    refine own_ldC X3 hx hZ e3 V 1 (by decide) (by decide) (by decide) (v := (.int c1)) rfl (hb hby d9_31) ?_
    show own_G p e below _ (T3.setTop (mkF m 32 #[.val (.ref a), .val (.int (0 : Int32)), .val (.int (4 : Int32))] [(.int c1)]))
    refine own_staticP (W := 0) (argsL := [(.int c1)]) (st := []) X3 hx hZ hown (own_w hw 41 rfl) (own_w hw 42 rfl) (own_w hw 3 rfl) (own_w hw 43 rfl) (by decide) e3 (rmDigit l Z a0 hw [] c1 h0) (by decide) (by decide) (by decide) (by decide) (by rw [hml]; rfl) (lenOf pd0 rfl) rfl (Nat.le_of_ble_eq_true rfl) (hb hby d9_32) (fun T7 X7 e7 => ?_)
    show own_G p e below _ (T7.setTop (mkF m 35 #[.val (.ref a), .val (.int (0 : Int32)), .val (.int (4 : Int32))] [(.int (own_bi (own_dig c1)))]))
    refine own_if_eq X7 hx (hb hby d9_35) (pc' := 80) (by decide) (by decide) (fun c35_8 => ?_) (fun c35_8 => ?_)
    · show own_G p e below _ (T7.setTop (mkF m 80 #[.val (.ref a), .val (.int (0 : Int32)), .val (.int (4 : Int32))] []))
      have c35_8b : (own_dig c1) = false := own_bi_f c35_8
      refine own_step (b := T7.setTop (mkF m 81 #[.val (.ref a), .val (.int (0 : Int32)), .val (.int (4 : Int32))] [(.int (0 : Int32))])) (fun t k => XS.iconst X7.here hx rfl (hb hby d9_80) k) ?_
      exact own_retN X7 hx hret (by simp) hlk (hb hby d9_81) ⟨by rw [show (own_dig c0 && own_dig c1 && own_dig c2 && own_dig c3) = false by simp [c16_4b, c35_8b, own_dig46]]; rfl, rfl, e7⟩ (by decide) (by decide)
    · show own_G p e below _ (T7.setTop (mkF m 38 #[.val (.ref a), .val (.int (0 : Int32)), .val (.int (4 : Int32))] []))
      have c35_8b : (own_dig c1) = true := own_bi_t c35_8
      refine own_step (b := T7.setTop (mkF m 39 #[.val (.ref a), .val (.int (0 : Int32)), .val (.int (4 : Int32))] [(.int (2 : Int32))])) (fun t k => XS.iconst X7.here hx rfl (hb hby d9_38) k) ?_
      refine own_step (b := T7.setTop (mkF m 40 #[.val (.ref a), .val (.int (0 : Int32)), .val (.int (4 : Int32))] [(.int (0 : Int32)), (.int (2 : Int32))])) (fun t k => XS.iloadN X7.here hx rfl (hb hby d9_39) rfl k) ?_
      refine own_icmp_lt X7 hx (hb hby d9_40) (pc' := 57) (by decide) (by decide) (fun c40_9 => absurd c40_9 (by decide)) (fun c40_9 => ?_)
      show own_G p e below _ (T7.setTop (mkF m 43 #[.val (.ref a), .val (.int (0 : Int32)), .val (.int (4 : Int32))] []))
      refine own_step (b := T7.setTop (mkF m 44 #[.val (.ref a), .val (.int (0 : Int32)), .val (.int (4 : Int32))] [(.int (2 : Int32))])) (fun t k => XS.iconst X7.here hx rfl (hb hby d9_43) k) ?_
      refine own_step (b := T7.setTop (mkF m 45 #[.val (.ref a), .val (.int (0 : Int32)), .val (.int (4 : Int32))] [(.int (4 : Int32)), (.int (2 : Int32))])) (fun t k => XS.iloadN X7.here hx rfl (hb hby d9_44) rfl k) ?_
      refine own_icmp_ge X7 hx (hb hby d9_45) (pc' := 57) (by decide) (by decide) (fun c45_10 => absurd c45_10 (by decide)) (fun c45_10 => ?_)
      show own_G p e below _ (T7.setTop (mkF m 48 #[.val (.ref a), .val (.int (0 : Int32)), .val (.int (4 : Int32))] []))
      refine own_step (b := T7.setTop (mkF m 49 #[.val (.ref a), .val (.int (0 : Int32)), .val (.int (4 : Int32))] [(.ref a)])) (fun t k => XS.aloadN X7.here hx rfl (hb hby d9_48) rfl rfl k) ?_
      refine own_step (b := T7.setTop (mkF m 50 #[.val (.ref a), .val (.int (0 : Int32)), .val (.int (4 : Int32))] [(.int (2 : Int32)), (.ref a)])) (fun t k => XS.iconst X7.here hx rfl (hb hby d9_49) k) ?_
      refine own_ldC X7 hx hZ e7 V 2 (by decide) (by decide) (by decide) (v := (.int c2)) rfl (hb hby d9_50) ?_
      show own_G p e below _ (T7.setTop (mkF m 51 #[.val (.ref a), .val (.int (0 : Int32)), .val (.int (4 : Int32))] [(.int c2)]))
      refine own_staticP (W := 0) (argsL := [(.int c2)]) (st := []) X7 hx hZ hown (own_w hw 41 rfl) (own_w hw 42 rfl) (own_w hw 3 rfl) (own_w hw 43 rfl) (by decide) e7 (rmDigit l Z a0 hw [] c2 h0) (by decide) (by decide) (by decide) (by decide) (by rw [hml]; rfl) (lenOf pd0 rfl) rfl (Nat.le_of_ble_eq_true rfl) (hb hby d9_51) (fun T11 X11 e11 => ?_)
      show own_G p e below _ (T11.setTop (mkF m 54 #[.val (.ref a), .val (.int (0 : Int32)), .val (.int (4 : Int32))] [(.int (own_bi (own_dig c2)))]))
      refine own_if_eq X11 hx (hb hby d9_54) (pc' := 80) (by decide) (by decide) (fun c54_12 => ?_) (fun c54_12 => ?_)
      · show own_G p e below _ (T11.setTop (mkF m 80 #[.val (.ref a), .val (.int (0 : Int32)), .val (.int (4 : Int32))] []))
        have c54_12b : (own_dig c2) = false := own_bi_f c54_12
        refine own_step (b := T11.setTop (mkF m 81 #[.val (.ref a), .val (.int (0 : Int32)), .val (.int (4 : Int32))] [(.int (0 : Int32))])) (fun t k => XS.iconst X11.here hx rfl (hb hby d9_80) k) ?_
        exact own_retN X11 hx hret (by simp) hlk (hb hby d9_81) ⟨by rw [show (own_dig c0 && own_dig c1 && own_dig c2 && own_dig c3) = false by simp [c16_4b, c35_8b, c54_12b, own_dig46]]; rfl, rfl, e11⟩ (by decide) (by decide)
      · show own_G p e below _ (T11.setTop (mkF m 57 #[.val (.ref a), .val (.int (0 : Int32)), .val (.int (4 : Int32))] []))
        have c54_12b : (own_dig c2) = true := own_bi_t c54_12
        refine own_step (b := T11.setTop (mkF m 58 #[.val (.ref a), .val (.int (0 : Int32)), .val (.int (4 : Int32))] [(.int (3 : Int32))])) (fun t k => XS.iconst X11.here hx rfl (hb hby d9_57) k) ?_
        refine own_step (b := T11.setTop (mkF m 59 #[.val (.ref a), .val (.int (0 : Int32)), .val (.int (4 : Int32))] [(.int (0 : Int32)), (.int (3 : Int32))])) (fun t k => XS.iloadN X11.here hx rfl (hb hby d9_58) rfl k) ?_
        refine own_icmp_lt X11 hx (hb hby d9_59) (pc' := 76) (by decide) (by decide) (fun c59_13 => absurd c59_13 (by decide)) (fun c59_13 => ?_)
        show own_G p e below _ (T11.setTop (mkF m 62 #[.val (.ref a), .val (.int (0 : Int32)), .val (.int (4 : Int32))] []))
        refine own_step (b := T11.setTop (mkF m 63 #[.val (.ref a), .val (.int (0 : Int32)), .val (.int (4 : Int32))] [(.int (3 : Int32))])) (fun t k => XS.iconst X11.here hx rfl (hb hby d9_62) k) ?_
        refine own_step (b := T11.setTop (mkF m 64 #[.val (.ref a), .val (.int (0 : Int32)), .val (.int (4 : Int32))] [(.int (4 : Int32)), (.int (3 : Int32))])) (fun t k => XS.iloadN X11.here hx rfl (hb hby d9_63) rfl k) ?_
        refine own_icmp_ge X11 hx (hb hby d9_64) (pc' := 76) (by decide) (by decide) (fun c64_14 => absurd c64_14 (by decide)) (fun c64_14 => ?_)
        show own_G p e below _ (T11.setTop (mkF m 67 #[.val (.ref a), .val (.int (0 : Int32)), .val (.int (4 : Int32))] []))
        refine own_step (b := T11.setTop (mkF m 68 #[.val (.ref a), .val (.int (0 : Int32)), .val (.int (4 : Int32))] [(.ref a)])) (fun t k => XS.aloadN X11.here hx rfl (hb hby d9_67) rfl rfl k) ?_
        refine own_step (b := T11.setTop (mkF m 69 #[.val (.ref a), .val (.int (0 : Int32)), .val (.int (4 : Int32))] [(.int (3 : Int32)), (.ref a)])) (fun t k => XS.iconst X11.here hx rfl (hb hby d9_68) k) ?_
        refine own_ldC X11 hx hZ e11 V 3 (by decide) (by decide) (by decide) (v := (.int c3)) rfl (hb hby d9_69) ?_
        show own_G p e below _ (T11.setTop (mkF m 70 #[.val (.ref a), .val (.int (0 : Int32)), .val (.int (4 : Int32))] [(.int c3)]))
        refine own_staticP (W := 0) (argsL := [(.int c3)]) (st := []) X11 hx hZ hown (own_w hw 41 rfl) (own_w hw 42 rfl) (own_w hw 3 rfl) (own_w hw 43 rfl) (by decide) e11 (rmDigit l Z a0 hw [] c3 h0) (by decide) (by decide) (by decide) (by decide) (by rw [hml]; rfl) (lenOf pd0 rfl) rfl (Nat.le_of_ble_eq_true rfl) (hb hby d9_70) (fun T15 X15 e15 => ?_)
        show own_G p e below _ (T15.setTop (mkF m 73 #[.val (.ref a), .val (.int (0 : Int32)), .val (.int (4 : Int32))] [(.int (own_bi (own_dig c3)))]))
        refine own_if_eq X15 hx (hb hby d9_73) (pc' := 80) (by decide) (by decide) (fun c73_16 => ?_) (fun c73_16 => ?_)
        · show own_G p e below _ (T15.setTop (mkF m 80 #[.val (.ref a), .val (.int (0 : Int32)), .val (.int (4 : Int32))] []))
          have c73_16b : (own_dig c3) = false := own_bi_f c73_16
          refine own_step (b := T15.setTop (mkF m 81 #[.val (.ref a), .val (.int (0 : Int32)), .val (.int (4 : Int32))] [(.int (0 : Int32))])) (fun t k => XS.iconst X15.here hx rfl (hb hby d9_80) k) ?_
          exact own_retN X15 hx hret (by simp) hlk (hb hby d9_81) ⟨by rw [show (own_dig c0 && own_dig c1 && own_dig c2 && own_dig c3) = false by simp [c16_4b, c35_8b, c54_12b, c73_16b, own_dig46]]; rfl, rfl, e15⟩ (by decide) (by decide)
        · show own_G p e below _ (T15.setTop (mkF m 76 #[.val (.ref a), .val (.int (0 : Int32)), .val (.int (4 : Int32))] []))
          have c73_16b : (own_dig c3) = true := own_bi_t c73_16
          refine own_step (b := T15.setTop (mkF m 77 #[.val (.ref a), .val (.int (0 : Int32)), .val (.int (4 : Int32))] [(.int (1 : Int32))])) (fun t k => XS.iconst X15.here hx rfl (hb hby d9_76) k) ?_
          refine own_step (b := T15.setTop (mkF m 81 #[.val (.ref a), .val (.int (0 : Int32)), .val (.int (4 : Int32))] [(.int (1 : Int32))])) (fun t k => XS.goto X15.here hx rfl (pc0 := 77) (pc' := 81) rfl (hb hby d9_77) (by decide) (by decide) k) ?_
          exact own_retN X15 hx hret (by simp) hlk (hb hby d9_81) ⟨by rw [show (own_dig c0 && own_dig c1 && own_dig c2 && own_dig c3) = true by simp [c16_4b, c35_8b, c54_12b, c73_16b, own_dig46]]; rfl, rfl, e15⟩ (by decide) (by decide)
set_option maxRecDepth 65536 in
set_option maxHeartbeats 40000000 in
theorem rmDigs_2_3 (l : Launch) (Z : State) (a0 : Array Value) (hw : ∀ d ∈ tables_1, d.before a0 Z = true) (ws : List Jvm.Cond) (a : Addr) (kA : ClassId) (c0 c1 c2 c3 : Int32) (h0 : Heap) (V : Arv Z h0 a kA .char (4 : Int32) [.int c0, .int c1, .int c2, .int c3] (.int 0)) :
    own_Met l Z (⟨"com/example/drawdown/drawdown/PlainDecimalMatchesPinLaw", "digits", "([CII)Z"⟩ : MethodName) method_5_code 3 (some .boolean) ws ⟨1, 0, 0, 12⟩ #[(.ref a), (.int (2 : Int32)), (.int (3 : Int32))] h0 (own_P (some (.int (own_bi (own_dig c2)))) h0) := by
  refine own_enter (plainFor_of_name pn0) (fun m => ef_digits m a (2 : Int32) (3 : Int32)) ?_
  intro p e s m below meth c T0 hx hby hml hZ hown hnm hret hlk X0 e0
  show own_G p e below _ (T0.setTop (mkF m 0 #[.val (.ref a), .val (.int (2 : Int32)), .val (.int (3 : Int32))] []))
  refine own_step (b := T0.setTop (mkF m 1 #[.val (.ref a), .val (.int (2 : Int32)), .val (.int (3 : Int32))] [(.int (0 : Int32))])) (fun t k => XS.iconst X0.here hx rfl (hb hby d9_0) k) ?_
  refine own_step (b := T0.setTop (mkF m 2 #[.val (.ref a), .val (.int (2 : Int32)), .val (.int (3 : Int32))] [(.int (2 : Int32)), (.int (0 : Int32))])) (fun t k => XS.iloadN X0.here hx rfl (hb hby d9_1) rfl k) ?_
  refine own_icmp_lt X0 hx (hb hby d9_2) (pc' := 19) (by decide) (by decide) (fun c2_1 => ?_) (fun c2_1 => absurd c2_1 (by decide))
  show own_G p e below _ (T0.setTop (mkF m 19 #[.val (.ref a), .val (.int (2 : Int32)), .val (.int (3 : Int32))] []))
  refine own_step (b := T0.setTop (mkF m 20 #[.val (.ref a), .val (.int (2 : Int32)), .val (.int (3 : Int32))] [(.int (1 : Int32))])) (fun t k => XS.iconst X0.here hx rfl (hb hby d9_19) k) ?_
  refine own_step (b := T0.setTop (mkF m 21 #[.val (.ref a), .val (.int (2 : Int32)), .val (.int (3 : Int32))] [(.int (2 : Int32)), (.int (1 : Int32))])) (fun t k => XS.iloadN X0.here hx rfl (hb hby d9_20) rfl k) ?_
  refine own_icmp_lt X0 hx (hb hby d9_21) (pc' := 38) (by decide) (by decide) (fun c21_2 => ?_) (fun c21_2 => absurd c21_2 (by decide))
  show own_G p e below _ (T0.setTop (mkF m 38 #[.val (.ref a), .val (.int (2 : Int32)), .val (.int (3 : Int32))] []))
  refine own_step (b := T0.setTop (mkF m 39 #[.val (.ref a), .val (.int (2 : Int32)), .val (.int (3 : Int32))] [(.int (2 : Int32))])) (fun t k => XS.iconst X0.here hx rfl (hb hby d9_38) k) ?_
  refine own_step (b := T0.setTop (mkF m 40 #[.val (.ref a), .val (.int (2 : Int32)), .val (.int (3 : Int32))] [(.int (2 : Int32)), (.int (2 : Int32))])) (fun t k => XS.iloadN X0.here hx rfl (hb hby d9_39) rfl k) ?_
  refine own_icmp_lt X0 hx (hb hby d9_40) (pc' := 57) (by decide) (by decide) (fun c40_3 => absurd c40_3 (by decide)) (fun c40_3 => ?_)
  show own_G p e below _ (T0.setTop (mkF m 43 #[.val (.ref a), .val (.int (2 : Int32)), .val (.int (3 : Int32))] []))
  refine own_step (b := T0.setTop (mkF m 44 #[.val (.ref a), .val (.int (2 : Int32)), .val (.int (3 : Int32))] [(.int (2 : Int32))])) (fun t k => XS.iconst X0.here hx rfl (hb hby d9_43) k) ?_
  refine own_step (b := T0.setTop (mkF m 45 #[.val (.ref a), .val (.int (2 : Int32)), .val (.int (3 : Int32))] [(.int (3 : Int32)), (.int (2 : Int32))])) (fun t k => XS.iloadN X0.here hx rfl (hb hby d9_44) rfl k) ?_
  refine own_icmp_ge X0 hx (hb hby d9_45) (pc' := 57) (by decide) (by decide) (fun c45_4 => absurd c45_4 (by decide)) (fun c45_4 => ?_)
  show own_G p e below _ (T0.setTop (mkF m 48 #[.val (.ref a), .val (.int (2 : Int32)), .val (.int (3 : Int32))] []))
  refine own_step (b := T0.setTop (mkF m 49 #[.val (.ref a), .val (.int (2 : Int32)), .val (.int (3 : Int32))] [(.ref a)])) (fun t k => XS.aloadN X0.here hx rfl (hb hby d9_48) rfl rfl k) ?_
  refine own_step (b := T0.setTop (mkF m 50 #[.val (.ref a), .val (.int (2 : Int32)), .val (.int (3 : Int32))] [(.int (2 : Int32)), (.ref a)])) (fun t k => XS.iconst X0.here hx rfl (hb hby d9_49) k) ?_
  refine own_ldC X0 hx hZ e0 V 2 (by decide) (by decide) (by decide) (v := (.int c2)) rfl (hb hby d9_50) ?_
  show own_G p e below _ (T0.setTop (mkF m 51 #[.val (.ref a), .val (.int (2 : Int32)), .val (.int (3 : Int32))] [(.int c2)]))
  refine own_staticP (W := 0) (argsL := [(.int c2)]) (st := []) X0 hx hZ hown (own_w hw 41 rfl) (own_w hw 42 rfl) (own_w hw 3 rfl) (own_w hw 43 rfl) (by decide) e0 (rmDigit l Z a0 hw [] c2 h0) (by decide) (by decide) (by decide) (by decide) (by rw [hml]; rfl) (lenOf pd0 rfl) rfl (Nat.le_of_ble_eq_true rfl) (hb hby d9_51) (fun T5 X5 e5 => ?_)
  show own_G p e below _ (T5.setTop (mkF m 54 #[.val (.ref a), .val (.int (2 : Int32)), .val (.int (3 : Int32))] [(.int (own_bi (own_dig c2)))]))
  refine own_if_eq X5 hx (hb hby d9_54) (pc' := 80) (by decide) (by decide) (fun c54_6 => ?_) (fun c54_6 => ?_)
  · show own_G p e below _ (T5.setTop (mkF m 80 #[.val (.ref a), .val (.int (2 : Int32)), .val (.int (3 : Int32))] []))
    have c54_6b : (own_dig c2) = false := own_bi_f c54_6
    refine own_step (b := T5.setTop (mkF m 81 #[.val (.ref a), .val (.int (2 : Int32)), .val (.int (3 : Int32))] [(.int (0 : Int32))])) (fun t k => XS.iconst X5.here hx rfl (hb hby d9_80) k) ?_
    exact own_retN X5 hx hret (by simp) hlk (hb hby d9_81) ⟨by rw [show (own_dig c2) = false by simp [c54_6b, own_dig46]]; rfl, rfl, e5⟩ (by decide) (by decide)
  · show own_G p e below _ (T5.setTop (mkF m 57 #[.val (.ref a), .val (.int (2 : Int32)), .val (.int (3 : Int32))] []))
    have c54_6b : (own_dig c2) = true := own_bi_t c54_6
    refine own_step (b := T5.setTop (mkF m 58 #[.val (.ref a), .val (.int (2 : Int32)), .val (.int (3 : Int32))] [(.int (3 : Int32))])) (fun t k => XS.iconst X5.here hx rfl (hb hby d9_57) k) ?_
    refine own_step (b := T5.setTop (mkF m 59 #[.val (.ref a), .val (.int (2 : Int32)), .val (.int (3 : Int32))] [(.int (2 : Int32)), (.int (3 : Int32))])) (fun t k => XS.iloadN X5.here hx rfl (hb hby d9_58) rfl k) ?_
    refine own_icmp_lt X5 hx (hb hby d9_59) (pc' := 76) (by decide) (by decide) (fun c59_7 => absurd c59_7 (by decide)) (fun c59_7 => ?_)
    show own_G p e below _ (T5.setTop (mkF m 62 #[.val (.ref a), .val (.int (2 : Int32)), .val (.int (3 : Int32))] []))
    refine own_step (b := T5.setTop (mkF m 63 #[.val (.ref a), .val (.int (2 : Int32)), .val (.int (3 : Int32))] [(.int (3 : Int32))])) (fun t k => XS.iconst X5.here hx rfl (hb hby d9_62) k) ?_
    refine own_step (b := T5.setTop (mkF m 64 #[.val (.ref a), .val (.int (2 : Int32)), .val (.int (3 : Int32))] [(.int (3 : Int32)), (.int (3 : Int32))])) (fun t k => XS.iloadN X5.here hx rfl (hb hby d9_63) rfl k) ?_
    refine own_icmp_ge X5 hx (hb hby d9_64) (pc' := 76) (by decide) (by decide) (fun c64_8 => ?_) (fun c64_8 => absurd c64_8 (by decide))
    show own_G p e below _ (T5.setTop (mkF m 76 #[.val (.ref a), .val (.int (2 : Int32)), .val (.int (3 : Int32))] []))
    refine own_step (b := T5.setTop (mkF m 77 #[.val (.ref a), .val (.int (2 : Int32)), .val (.int (3 : Int32))] [(.int (1 : Int32))])) (fun t k => XS.iconst X5.here hx rfl (hb hby d9_76) k) ?_
    refine own_step (b := T5.setTop (mkF m 81 #[.val (.ref a), .val (.int (2 : Int32)), .val (.int (3 : Int32))] [(.int (1 : Int32))])) (fun t k => XS.goto X5.here hx rfl (pc0 := 77) (pc' := 81) rfl (hb hby d9_77) (by decide) (by decide) k) ?_
    exact own_retN X5 hx hret (by simp) hlk (hb hby d9_81) ⟨by rw [show (own_dig c2) = true by simp [c54_6b, own_dig46]]; rfl, rfl, e5⟩ (by decide) (by decide)
set_option maxRecDepth 65536 in
set_option maxHeartbeats 40000000 in
theorem rmDigs_2_4 (l : Launch) (Z : State) (a0 : Array Value) (hw : ∀ d ∈ tables_1, d.before a0 Z = true) (ws : List Jvm.Cond) (a : Addr) (kA : ClassId) (c0 c1 c2 c3 : Int32) (h0 : Heap) (V : Arv Z h0 a kA .char (4 : Int32) [.int c0, .int c1, .int c2, .int c3] (.int 0)) :
    own_Met l Z (⟨"com/example/drawdown/drawdown/PlainDecimalMatchesPinLaw", "digits", "([CII)Z"⟩ : MethodName) method_5_code 3 (some .boolean) ws ⟨1, 0, 0, 12⟩ #[(.ref a), (.int (2 : Int32)), (.int (4 : Int32))] h0 (own_P (some (.int (own_bi (own_dig c2 && own_dig c3)))) h0) := by
  refine own_enter (plainFor_of_name pn0) (fun m => ef_digits m a (2 : Int32) (4 : Int32)) ?_
  intro p e s m below meth c T0 hx hby hml hZ hown hnm hret hlk X0 e0
  show own_G p e below _ (T0.setTop (mkF m 0 #[.val (.ref a), .val (.int (2 : Int32)), .val (.int (4 : Int32))] []))
  refine own_step (b := T0.setTop (mkF m 1 #[.val (.ref a), .val (.int (2 : Int32)), .val (.int (4 : Int32))] [(.int (0 : Int32))])) (fun t k => XS.iconst X0.here hx rfl (hb hby d9_0) k) ?_
  refine own_step (b := T0.setTop (mkF m 2 #[.val (.ref a), .val (.int (2 : Int32)), .val (.int (4 : Int32))] [(.int (2 : Int32)), (.int (0 : Int32))])) (fun t k => XS.iloadN X0.here hx rfl (hb hby d9_1) rfl k) ?_
  refine own_icmp_lt X0 hx (hb hby d9_2) (pc' := 19) (by decide) (by decide) (fun c2_1 => ?_) (fun c2_1 => absurd c2_1 (by decide))
  show own_G p e below _ (T0.setTop (mkF m 19 #[.val (.ref a), .val (.int (2 : Int32)), .val (.int (4 : Int32))] []))
  refine own_step (b := T0.setTop (mkF m 20 #[.val (.ref a), .val (.int (2 : Int32)), .val (.int (4 : Int32))] [(.int (1 : Int32))])) (fun t k => XS.iconst X0.here hx rfl (hb hby d9_19) k) ?_
  refine own_step (b := T0.setTop (mkF m 21 #[.val (.ref a), .val (.int (2 : Int32)), .val (.int (4 : Int32))] [(.int (2 : Int32)), (.int (1 : Int32))])) (fun t k => XS.iloadN X0.here hx rfl (hb hby d9_20) rfl k) ?_
  refine own_icmp_lt X0 hx (hb hby d9_21) (pc' := 38) (by decide) (by decide) (fun c21_2 => ?_) (fun c21_2 => absurd c21_2 (by decide))
  show own_G p e below _ (T0.setTop (mkF m 38 #[.val (.ref a), .val (.int (2 : Int32)), .val (.int (4 : Int32))] []))
  refine own_step (b := T0.setTop (mkF m 39 #[.val (.ref a), .val (.int (2 : Int32)), .val (.int (4 : Int32))] [(.int (2 : Int32))])) (fun t k => XS.iconst X0.here hx rfl (hb hby d9_38) k) ?_
  refine own_step (b := T0.setTop (mkF m 40 #[.val (.ref a), .val (.int (2 : Int32)), .val (.int (4 : Int32))] [(.int (2 : Int32)), (.int (2 : Int32))])) (fun t k => XS.iloadN X0.here hx rfl (hb hby d9_39) rfl k) ?_
  refine own_icmp_lt X0 hx (hb hby d9_40) (pc' := 57) (by decide) (by decide) (fun c40_3 => absurd c40_3 (by decide)) (fun c40_3 => ?_)
  show own_G p e below _ (T0.setTop (mkF m 43 #[.val (.ref a), .val (.int (2 : Int32)), .val (.int (4 : Int32))] []))
  refine own_step (b := T0.setTop (mkF m 44 #[.val (.ref a), .val (.int (2 : Int32)), .val (.int (4 : Int32))] [(.int (2 : Int32))])) (fun t k => XS.iconst X0.here hx rfl (hb hby d9_43) k) ?_
  refine own_step (b := T0.setTop (mkF m 45 #[.val (.ref a), .val (.int (2 : Int32)), .val (.int (4 : Int32))] [(.int (4 : Int32)), (.int (2 : Int32))])) (fun t k => XS.iloadN X0.here hx rfl (hb hby d9_44) rfl k) ?_
  refine own_icmp_ge X0 hx (hb hby d9_45) (pc' := 57) (by decide) (by decide) (fun c45_4 => absurd c45_4 (by decide)) (fun c45_4 => ?_)
  show own_G p e below _ (T0.setTop (mkF m 48 #[.val (.ref a), .val (.int (2 : Int32)), .val (.int (4 : Int32))] []))
  refine own_step (b := T0.setTop (mkF m 49 #[.val (.ref a), .val (.int (2 : Int32)), .val (.int (4 : Int32))] [(.ref a)])) (fun t k => XS.aloadN X0.here hx rfl (hb hby d9_48) rfl rfl k) ?_
  refine own_step (b := T0.setTop (mkF m 50 #[.val (.ref a), .val (.int (2 : Int32)), .val (.int (4 : Int32))] [(.int (2 : Int32)), (.ref a)])) (fun t k => XS.iconst X0.here hx rfl (hb hby d9_49) k) ?_
  refine own_ldC X0 hx hZ e0 V 2 (by decide) (by decide) (by decide) (v := (.int c2)) rfl (hb hby d9_50) ?_
  show own_G p e below _ (T0.setTop (mkF m 51 #[.val (.ref a), .val (.int (2 : Int32)), .val (.int (4 : Int32))] [(.int c2)]))
  refine own_staticP (W := 0) (argsL := [(.int c2)]) (st := []) X0 hx hZ hown (own_w hw 41 rfl) (own_w hw 42 rfl) (own_w hw 3 rfl) (own_w hw 43 rfl) (by decide) e0 (rmDigit l Z a0 hw [] c2 h0) (by decide) (by decide) (by decide) (by decide) (by rw [hml]; rfl) (lenOf pd0 rfl) rfl (Nat.le_of_ble_eq_true rfl) (hb hby d9_51) (fun T5 X5 e5 => ?_)
  show own_G p e below _ (T5.setTop (mkF m 54 #[.val (.ref a), .val (.int (2 : Int32)), .val (.int (4 : Int32))] [(.int (own_bi (own_dig c2)))]))
  refine own_if_eq X5 hx (hb hby d9_54) (pc' := 80) (by decide) (by decide) (fun c54_6 => ?_) (fun c54_6 => ?_)
  · show own_G p e below _ (T5.setTop (mkF m 80 #[.val (.ref a), .val (.int (2 : Int32)), .val (.int (4 : Int32))] []))
    have c54_6b : (own_dig c2) = false := own_bi_f c54_6
    refine own_step (b := T5.setTop (mkF m 81 #[.val (.ref a), .val (.int (2 : Int32)), .val (.int (4 : Int32))] [(.int (0 : Int32))])) (fun t k => XS.iconst X5.here hx rfl (hb hby d9_80) k) ?_
    exact own_retN X5 hx hret (by simp) hlk (hb hby d9_81) ⟨by rw [show (own_dig c2 && own_dig c3) = false by simp [c54_6b, own_dig46]]; rfl, rfl, e5⟩ (by decide) (by decide)
  · show own_G p e below _ (T5.setTop (mkF m 57 #[.val (.ref a), .val (.int (2 : Int32)), .val (.int (4 : Int32))] []))
    have c54_6b : (own_dig c2) = true := own_bi_t c54_6
    refine own_step (b := T5.setTop (mkF m 58 #[.val (.ref a), .val (.int (2 : Int32)), .val (.int (4 : Int32))] [(.int (3 : Int32))])) (fun t k => XS.iconst X5.here hx rfl (hb hby d9_57) k) ?_
    refine own_step (b := T5.setTop (mkF m 59 #[.val (.ref a), .val (.int (2 : Int32)), .val (.int (4 : Int32))] [(.int (2 : Int32)), (.int (3 : Int32))])) (fun t k => XS.iloadN X5.here hx rfl (hb hby d9_58) rfl k) ?_
    refine own_icmp_lt X5 hx (hb hby d9_59) (pc' := 76) (by decide) (by decide) (fun c59_7 => absurd c59_7 (by decide)) (fun c59_7 => ?_)
    show own_G p e below _ (T5.setTop (mkF m 62 #[.val (.ref a), .val (.int (2 : Int32)), .val (.int (4 : Int32))] []))
    refine own_step (b := T5.setTop (mkF m 63 #[.val (.ref a), .val (.int (2 : Int32)), .val (.int (4 : Int32))] [(.int (3 : Int32))])) (fun t k => XS.iconst X5.here hx rfl (hb hby d9_62) k) ?_
    refine own_step (b := T5.setTop (mkF m 64 #[.val (.ref a), .val (.int (2 : Int32)), .val (.int (4 : Int32))] [(.int (4 : Int32)), (.int (3 : Int32))])) (fun t k => XS.iloadN X5.here hx rfl (hb hby d9_63) rfl k) ?_
    refine own_icmp_ge X5 hx (hb hby d9_64) (pc' := 76) (by decide) (by decide) (fun c64_8 => absurd c64_8 (by decide)) (fun c64_8 => ?_)
    show own_G p e below _ (T5.setTop (mkF m 67 #[.val (.ref a), .val (.int (2 : Int32)), .val (.int (4 : Int32))] []))
    refine own_step (b := T5.setTop (mkF m 68 #[.val (.ref a), .val (.int (2 : Int32)), .val (.int (4 : Int32))] [(.ref a)])) (fun t k => XS.aloadN X5.here hx rfl (hb hby d9_67) rfl rfl k) ?_
    refine own_step (b := T5.setTop (mkF m 69 #[.val (.ref a), .val (.int (2 : Int32)), .val (.int (4 : Int32))] [(.int (3 : Int32)), (.ref a)])) (fun t k => XS.iconst X5.here hx rfl (hb hby d9_68) k) ?_
    refine own_ldC X5 hx hZ e5 V 3 (by decide) (by decide) (by decide) (v := (.int c3)) rfl (hb hby d9_69) ?_
    show own_G p e below _ (T5.setTop (mkF m 70 #[.val (.ref a), .val (.int (2 : Int32)), .val (.int (4 : Int32))] [(.int c3)]))
    refine own_staticP (W := 0) (argsL := [(.int c3)]) (st := []) X5 hx hZ hown (own_w hw 41 rfl) (own_w hw 42 rfl) (own_w hw 3 rfl) (own_w hw 43 rfl) (by decide) e5 (rmDigit l Z a0 hw [] c3 h0) (by decide) (by decide) (by decide) (by decide) (by rw [hml]; rfl) (lenOf pd0 rfl) rfl (Nat.le_of_ble_eq_true rfl) (hb hby d9_70) (fun T9 X9 e9 => ?_)
    show own_G p e below _ (T9.setTop (mkF m 73 #[.val (.ref a), .val (.int (2 : Int32)), .val (.int (4 : Int32))] [(.int (own_bi (own_dig c3)))]))
    refine own_if_eq X9 hx (hb hby d9_73) (pc' := 80) (by decide) (by decide) (fun c73_10 => ?_) (fun c73_10 => ?_)
    · show own_G p e below _ (T9.setTop (mkF m 80 #[.val (.ref a), .val (.int (2 : Int32)), .val (.int (4 : Int32))] []))
      have c73_10b : (own_dig c3) = false := own_bi_f c73_10
      refine own_step (b := T9.setTop (mkF m 81 #[.val (.ref a), .val (.int (2 : Int32)), .val (.int (4 : Int32))] [(.int (0 : Int32))])) (fun t k => XS.iconst X9.here hx rfl (hb hby d9_80) k) ?_
      exact own_retN X9 hx hret (by simp) hlk (hb hby d9_81) ⟨by rw [show (own_dig c2 && own_dig c3) = false by simp [c54_6b, c73_10b, own_dig46]]; rfl, rfl, e9⟩ (by decide) (by decide)
    · show own_G p e below _ (T9.setTop (mkF m 76 #[.val (.ref a), .val (.int (2 : Int32)), .val (.int (4 : Int32))] []))
      have c73_10b : (own_dig c3) = true := own_bi_t c73_10
      refine own_step (b := T9.setTop (mkF m 77 #[.val (.ref a), .val (.int (2 : Int32)), .val (.int (4 : Int32))] [(.int (1 : Int32))])) (fun t k => XS.iconst X9.here hx rfl (hb hby d9_76) k) ?_
      refine own_step (b := T9.setTop (mkF m 81 #[.val (.ref a), .val (.int (2 : Int32)), .val (.int (4 : Int32))] [(.int (1 : Int32))])) (fun t k => XS.goto X9.here hx rfl (pc0 := 77) (pc' := 81) rfl (hb hby d9_77) (by decide) (by decide) k) ?_
      exact own_retN X9 hx hret (by simp) hlk (hb hby d9_81) ⟨by rw [show (own_dig c2 && own_dig c3) = true by simp [c54_6b, c73_10b, own_dig46]]; rfl, rfl, e9⟩ (by decide) (by decide)
set_option maxRecDepth 65536 in
set_option maxHeartbeats 40000000 in
theorem rmDigs_3_4 (l : Launch) (Z : State) (a0 : Array Value) (hw : ∀ d ∈ tables_1, d.before a0 Z = true) (ws : List Jvm.Cond) (a : Addr) (kA : ClassId) (c0 c1 c2 c3 : Int32) (h0 : Heap) (V : Arv Z h0 a kA .char (4 : Int32) [.int c0, .int c1, .int c2, .int c3] (.int 0)) :
    own_Met l Z (⟨"com/example/drawdown/drawdown/PlainDecimalMatchesPinLaw", "digits", "([CII)Z"⟩ : MethodName) method_5_code 3 (some .boolean) ws ⟨1, 0, 0, 12⟩ #[(.ref a), (.int (3 : Int32)), (.int (4 : Int32))] h0 (own_P (some (.int (own_bi (own_dig c3)))) h0) := by
  refine own_enter (plainFor_of_name pn0) (fun m => ef_digits m a (3 : Int32) (4 : Int32)) ?_
  intro p e s m below meth c T0 hx hby hml hZ hown hnm hret hlk X0 e0
  show own_G p e below _ (T0.setTop (mkF m 0 #[.val (.ref a), .val (.int (3 : Int32)), .val (.int (4 : Int32))] []))
  refine own_step (b := T0.setTop (mkF m 1 #[.val (.ref a), .val (.int (3 : Int32)), .val (.int (4 : Int32))] [(.int (0 : Int32))])) (fun t k => XS.iconst X0.here hx rfl (hb hby d9_0) k) ?_
  refine own_step (b := T0.setTop (mkF m 2 #[.val (.ref a), .val (.int (3 : Int32)), .val (.int (4 : Int32))] [(.int (3 : Int32)), (.int (0 : Int32))])) (fun t k => XS.iloadN X0.here hx rfl (hb hby d9_1) rfl k) ?_
  refine own_icmp_lt X0 hx (hb hby d9_2) (pc' := 19) (by decide) (by decide) (fun c2_1 => ?_) (fun c2_1 => absurd c2_1 (by decide))
  show own_G p e below _ (T0.setTop (mkF m 19 #[.val (.ref a), .val (.int (3 : Int32)), .val (.int (4 : Int32))] []))
  refine own_step (b := T0.setTop (mkF m 20 #[.val (.ref a), .val (.int (3 : Int32)), .val (.int (4 : Int32))] [(.int (1 : Int32))])) (fun t k => XS.iconst X0.here hx rfl (hb hby d9_19) k) ?_
  refine own_step (b := T0.setTop (mkF m 21 #[.val (.ref a), .val (.int (3 : Int32)), .val (.int (4 : Int32))] [(.int (3 : Int32)), (.int (1 : Int32))])) (fun t k => XS.iloadN X0.here hx rfl (hb hby d9_20) rfl k) ?_
  refine own_icmp_lt X0 hx (hb hby d9_21) (pc' := 38) (by decide) (by decide) (fun c21_2 => ?_) (fun c21_2 => absurd c21_2 (by decide))
  show own_G p e below _ (T0.setTop (mkF m 38 #[.val (.ref a), .val (.int (3 : Int32)), .val (.int (4 : Int32))] []))
  refine own_step (b := T0.setTop (mkF m 39 #[.val (.ref a), .val (.int (3 : Int32)), .val (.int (4 : Int32))] [(.int (2 : Int32))])) (fun t k => XS.iconst X0.here hx rfl (hb hby d9_38) k) ?_
  refine own_step (b := T0.setTop (mkF m 40 #[.val (.ref a), .val (.int (3 : Int32)), .val (.int (4 : Int32))] [(.int (3 : Int32)), (.int (2 : Int32))])) (fun t k => XS.iloadN X0.here hx rfl (hb hby d9_39) rfl k) ?_
  refine own_icmp_lt X0 hx (hb hby d9_40) (pc' := 57) (by decide) (by decide) (fun c40_3 => ?_) (fun c40_3 => absurd c40_3 (by decide))
  show own_G p e below _ (T0.setTop (mkF m 57 #[.val (.ref a), .val (.int (3 : Int32)), .val (.int (4 : Int32))] []))
  refine own_step (b := T0.setTop (mkF m 58 #[.val (.ref a), .val (.int (3 : Int32)), .val (.int (4 : Int32))] [(.int (3 : Int32))])) (fun t k => XS.iconst X0.here hx rfl (hb hby d9_57) k) ?_
  refine own_step (b := T0.setTop (mkF m 59 #[.val (.ref a), .val (.int (3 : Int32)), .val (.int (4 : Int32))] [(.int (3 : Int32)), (.int (3 : Int32))])) (fun t k => XS.iloadN X0.here hx rfl (hb hby d9_58) rfl k) ?_
  refine own_icmp_lt X0 hx (hb hby d9_59) (pc' := 76) (by decide) (by decide) (fun c59_4 => absurd c59_4 (by decide)) (fun c59_4 => ?_)
  show own_G p e below _ (T0.setTop (mkF m 62 #[.val (.ref a), .val (.int (3 : Int32)), .val (.int (4 : Int32))] []))
  refine own_step (b := T0.setTop (mkF m 63 #[.val (.ref a), .val (.int (3 : Int32)), .val (.int (4 : Int32))] [(.int (3 : Int32))])) (fun t k => XS.iconst X0.here hx rfl (hb hby d9_62) k) ?_
  refine own_step (b := T0.setTop (mkF m 64 #[.val (.ref a), .val (.int (3 : Int32)), .val (.int (4 : Int32))] [(.int (4 : Int32)), (.int (3 : Int32))])) (fun t k => XS.iloadN X0.here hx rfl (hb hby d9_63) rfl k) ?_
  refine own_icmp_ge X0 hx (hb hby d9_64) (pc' := 76) (by decide) (by decide) (fun c64_5 => absurd c64_5 (by decide)) (fun c64_5 => ?_)
  show own_G p e below _ (T0.setTop (mkF m 67 #[.val (.ref a), .val (.int (3 : Int32)), .val (.int (4 : Int32))] []))
  refine own_step (b := T0.setTop (mkF m 68 #[.val (.ref a), .val (.int (3 : Int32)), .val (.int (4 : Int32))] [(.ref a)])) (fun t k => XS.aloadN X0.here hx rfl (hb hby d9_67) rfl rfl k) ?_
  refine own_step (b := T0.setTop (mkF m 69 #[.val (.ref a), .val (.int (3 : Int32)), .val (.int (4 : Int32))] [(.int (3 : Int32)), (.ref a)])) (fun t k => XS.iconst X0.here hx rfl (hb hby d9_68) k) ?_
  refine own_ldC X0 hx hZ e0 V 3 (by decide) (by decide) (by decide) (v := (.int c3)) rfl (hb hby d9_69) ?_
  show own_G p e below _ (T0.setTop (mkF m 70 #[.val (.ref a), .val (.int (3 : Int32)), .val (.int (4 : Int32))] [(.int c3)]))
  refine own_staticP (W := 0) (argsL := [(.int c3)]) (st := []) X0 hx hZ hown (own_w hw 41 rfl) (own_w hw 42 rfl) (own_w hw 3 rfl) (own_w hw 43 rfl) (by decide) e0 (rmDigit l Z a0 hw [] c3 h0) (by decide) (by decide) (by decide) (by decide) (by rw [hml]; rfl) (lenOf pd0 rfl) rfl (Nat.le_of_ble_eq_true rfl) (hb hby d9_70) (fun T6 X6 e6 => ?_)
  show own_G p e below _ (T6.setTop (mkF m 73 #[.val (.ref a), .val (.int (3 : Int32)), .val (.int (4 : Int32))] [(.int (own_bi (own_dig c3)))]))
  refine own_if_eq X6 hx (hb hby d9_73) (pc' := 80) (by decide) (by decide) (fun c73_7 => ?_) (fun c73_7 => ?_)
  · show own_G p e below _ (T6.setTop (mkF m 80 #[.val (.ref a), .val (.int (3 : Int32)), .val (.int (4 : Int32))] []))
    have c73_7b : (own_dig c3) = false := own_bi_f c73_7
    refine own_step (b := T6.setTop (mkF m 81 #[.val (.ref a), .val (.int (3 : Int32)), .val (.int (4 : Int32))] [(.int (0 : Int32))])) (fun t k => XS.iconst X6.here hx rfl (hb hby d9_80) k) ?_
    exact own_retN X6 hx hret (by simp) hlk (hb hby d9_81) ⟨by rw [show (own_dig c3) = false by simp [c73_7b, own_dig46]]; rfl, rfl, e6⟩ (by decide) (by decide)
  · show own_G p e below _ (T6.setTop (mkF m 76 #[.val (.ref a), .val (.int (3 : Int32)), .val (.int (4 : Int32))] []))
    have c73_7b : (own_dig c3) = true := own_bi_t c73_7
    refine own_step (b := T6.setTop (mkF m 77 #[.val (.ref a), .val (.int (3 : Int32)), .val (.int (4 : Int32))] [(.int (1 : Int32))])) (fun t k => XS.iconst X6.here hx rfl (hb hby d9_76) k) ?_
    refine own_step (b := T6.setTop (mkF m 81 #[.val (.ref a), .val (.int (3 : Int32)), .val (.int (4 : Int32))] [(.int (1 : Int32))])) (fun t k => XS.goto X6.here hx rfl (pc0 := 77) (pc' := 81) rfl (hb hby d9_77) (by decide) (by decide) k) ?_
    exact own_retN X6 hx hret (by simp) hlk (hb hby d9_81) ⟨by rw [show (own_dig c3) = true by simp [c73_7b, own_dig46]]; rfl, rfl, e6⟩ (by decide) (by decide)
theorem ef_whole (m : MethodId) (a : Addr) (k : Int32) : entryFrame m #[(.ref a), (.int k)] 2 = mkF m 0 #[.val (.ref a), .val (.int k)] [] := by first | (simp [entryFrame, mkF, argsToLocals, Value.category, maxLocals]; done) | rfl
set_option maxRecDepth 65536 in
set_option maxHeartbeats 40000000 in
theorem rmWhole_0 (l : Launch) (Z : State) (a0 : Array Value) (hw : ∀ d ∈ tables_1, d.before a0 Z = true) (ws : List Jvm.Cond) (a : Addr) (kA : ClassId) (c0 c1 c2 c3 : Int32) (h0 : Heap) (V : Arv Z h0 a kA .char (4 : Int32) [.int c0, .int c1, .int c2, .int c3] (.int 0)) :
    own_Met l Z (⟨"com/example/drawdown/drawdown/PlainDecimalMatchesPinLaw", "whole", "([CI)Z"⟩ : MethodName) method_6_code 2 (some .boolean) ws ⟨2, 0, 0, 26⟩ #[(.ref a), (.int (0 : Int32))] h0 (own_P (some (.int (own_bi false))) h0) := by
  refine own_enter (plainFor_of_name pn0) (fun m => ef_whole m a (0 : Int32)) ?_
  intro p e s m below meth c T0 hx hby hml hZ hown hnm hret hlk X0 e0
  show own_G p e below _ (T0.setTop (mkF m 0 #[.val (.ref a), .val (.int (0 : Int32))] []))
  refine own_step (b := T0.setTop (mkF m 1 #[.val (.ref a), .val (.int (0 : Int32))] [(.int (0 : Int32))])) (fun t k => XS.iloadN X0.here hx rfl (hb hby d8_0) rfl k) ?_
  refine own_step (b := T0.setTop (mkF m 2 #[.val (.ref a), .val (.int (0 : Int32))] [(.int (1 : Int32)), (.int (0 : Int32))])) (fun t k => XS.iconst X0.here hx rfl (hb hby d8_1) k) ?_
  refine own_icmp_lt X0 hx (hb hby d8_2) (pc' := 31) (by decide) (by decide) (fun c2_1 => ?_) (fun c2_1 => absurd c2_1 (by decide))
  show own_G p e below _ (T0.setTop (mkF m 31 #[.val (.ref a), .val (.int (0 : Int32))] []))
  refine own_step (b := T0.setTop (mkF m 32 #[.val (.ref a), .val (.int (0 : Int32))] [(.int (0 : Int32))])) (fun t k => XS.iconst X0.here hx rfl (hb hby d8_31) k) ?_
  exact own_retN X0 hx hret (by simp) hlk (hb hby d8_32) ⟨by rw [show false = false by simp [own_dig46]]; rfl, rfl, e0⟩ (by decide) (by decide)
set_option maxRecDepth 65536 in
set_option maxHeartbeats 40000000 in
theorem rmWhole_1 (l : Launch) (Z : State) (a0 : Array Value) (hw : ∀ d ∈ tables_1, d.before a0 Z = true) (ws : List Jvm.Cond) (a : Addr) (kA : ClassId) (c0 c1 c2 c3 : Int32) (h0 : Heap) (V : Arv Z h0 a kA .char (4 : Int32) [.int c0, .int c1, .int c2, .int c3] (.int 0)) :
    own_Met l Z (⟨"com/example/drawdown/drawdown/PlainDecimalMatchesPinLaw", "whole", "([CI)Z"⟩ : MethodName) method_6_code 2 (some .boolean) ws ⟨2, 0, 0, 26⟩ #[(.ref a), (.int (1 : Int32))] h0 (own_P (some (.int (own_bi (own_dig c0)))) h0) := by
  refine own_enter (plainFor_of_name pn0) (fun m => ef_whole m a (1 : Int32)) ?_
  intro p e s m below meth c T0 hx hby hml hZ hown hnm hret hlk X0 e0
  show own_G p e below _ (T0.setTop (mkF m 0 #[.val (.ref a), .val (.int (1 : Int32))] []))
  refine own_step (b := T0.setTop (mkF m 1 #[.val (.ref a), .val (.int (1 : Int32))] [(.int (1 : Int32))])) (fun t k => XS.iloadN X0.here hx rfl (hb hby d8_0) rfl k) ?_
  refine own_step (b := T0.setTop (mkF m 2 #[.val (.ref a), .val (.int (1 : Int32))] [(.int (1 : Int32)), (.int (1 : Int32))])) (fun t k => XS.iconst X0.here hx rfl (hb hby d8_1) k) ?_
  refine own_icmp_lt X0 hx (hb hby d8_2) (pc' := 31) (by decide) (by decide) (fun c2_1 => absurd c2_1 (by decide)) (fun c2_1 => ?_)
  show own_G p e below _ (T0.setTop (mkF m 5 #[.val (.ref a), .val (.int (1 : Int32))] []))
  refine own_step (b := T0.setTop (mkF m 6 #[.val (.ref a), .val (.int (1 : Int32))] [(.ref a)])) (fun t k => XS.aloadN X0.here hx rfl (hb hby d8_5) rfl rfl k) ?_
  refine own_step (b := T0.setTop (mkF m 7 #[.val (.ref a), .val (.int (1 : Int32))] [(.int (0 : Int32)), (.ref a)])) (fun t k => XS.iconst X0.here hx rfl (hb hby d8_6) k) ?_
  refine own_step (b := T0.setTop (mkF m 8 #[.val (.ref a), .val (.int (1 : Int32))] [(.int (1 : Int32)), (.int (0 : Int32)), (.ref a)])) (fun t k => XS.iloadN X0.here hx rfl (hb hby d8_7) rfl k) ?_
  refine own_staticP (W := 0) (argsL := [(.ref a), (.int (0 : Int32)), (.int (1 : Int32))]) (st := []) X0 hx hZ hown (own_w hw 38 rfl) (own_w hw 39 rfl) (own_w hw 3 rfl) (own_w hw 40 rfl) (by decide) e0 (rmDigs_0_1 l Z a0 hw [] a kA c0 c1 c2 c3 h0 V) (by decide) (by decide) (by decide) (by decide) (by rw [hml]; rfl) (lenOf pd1 rfl) rfl (Nat.le_of_ble_eq_true rfl) (hb hby d8_8) (fun T2 X2 e2 => ?_)
  show own_G p e below _ (T2.setTop (mkF m 11 #[.val (.ref a), .val (.int (1 : Int32))] [(.int (own_bi (own_dig c0)))]))
  refine own_if_eq X2 hx (hb hby d8_11) (pc' := 31) (by decide) (by decide) (fun c11_3 => ?_) (fun c11_3 => ?_)
  · show own_G p e below _ (T2.setTop (mkF m 31 #[.val (.ref a), .val (.int (1 : Int32))] []))
    have c11_3b : (own_dig c0) = false := own_bi_f c11_3
    refine own_step (b := T2.setTop (mkF m 32 #[.val (.ref a), .val (.int (1 : Int32))] [(.int (0 : Int32))])) (fun t k => XS.iconst X2.here hx rfl (hb hby d8_31) k) ?_
    exact own_retN X2 hx hret (by simp) hlk (hb hby d8_32) ⟨by rw [show (own_dig c0) = false by simp [c11_3b, own_dig46]]; rfl, rfl, e2⟩ (by decide) (by decide)
  · show own_G p e below _ (T2.setTop (mkF m 14 #[.val (.ref a), .val (.int (1 : Int32))] []))
    have c11_3b : (own_dig c0) = true := own_bi_t c11_3
    refine own_step (b := T2.setTop (mkF m 15 #[.val (.ref a), .val (.int (1 : Int32))] [(.int (1 : Int32))])) (fun t k => XS.iloadN X2.here hx rfl (hb hby d8_14) rfl k) ?_
    refine own_step (b := T2.setTop (mkF m 16 #[.val (.ref a), .val (.int (1 : Int32))] [(.int (1 : Int32)), (.int (1 : Int32))])) (fun t k => XS.iconst X2.here hx rfl (hb hby d8_15) k) ?_
    refine own_icmp_eq X2 hx (hb hby d8_16) (pc' := 27) (by decide) (by decide) (fun c16_4 => ?_) (fun c16_4 => absurd c16_4 (by decide))
    show own_G p e below _ (T2.setTop (mkF m 27 #[.val (.ref a), .val (.int (1 : Int32))] []))
    refine own_step (b := T2.setTop (mkF m 28 #[.val (.ref a), .val (.int (1 : Int32))] [(.int (1 : Int32))])) (fun t k => XS.iconst X2.here hx rfl (hb hby d8_27) k) ?_
    refine own_step (b := T2.setTop (mkF m 32 #[.val (.ref a), .val (.int (1 : Int32))] [(.int (1 : Int32))])) (fun t k => XS.goto X2.here hx rfl (pc0 := 28) (pc' := 32) rfl (hb hby d8_28) (by decide) (by decide) k) ?_
    exact own_retN X2 hx hret (by simp) hlk (hb hby d8_32) ⟨by rw [show (own_dig c0) = true by simp [c11_3b, own_dig46]]; rfl, rfl, e2⟩ (by decide) (by decide)
set_option maxRecDepth 65536 in
set_option maxHeartbeats 40000000 in
theorem rmWhole_2 (l : Launch) (Z : State) (a0 : Array Value) (hw : ∀ d ∈ tables_1, d.before a0 Z = true) (ws : List Jvm.Cond) (a : Addr) (kA : ClassId) (c0 c1 c2 c3 : Int32) (h0 : Heap) (V : Arv Z h0 a kA .char (4 : Int32) [.int c0, .int c1, .int c2, .int c3] (.int 0)) :
    own_Met l Z (⟨"com/example/drawdown/drawdown/PlainDecimalMatchesPinLaw", "whole", "([CI)Z"⟩ : MethodName) method_6_code 2 (some .boolean) ws ⟨2, 0, 0, 26⟩ #[(.ref a), (.int (2 : Int32))] h0 (own_P (some (.int (own_bi ((own_dig c0 && own_dig c1) && !decide (c0 = 48))))) h0) := by
  refine own_enter (plainFor_of_name pn0) (fun m => ef_whole m a (2 : Int32)) ?_
  intro p e s m below meth c T0 hx hby hml hZ hown hnm hret hlk X0 e0
  show own_G p e below _ (T0.setTop (mkF m 0 #[.val (.ref a), .val (.int (2 : Int32))] []))
  refine own_step (b := T0.setTop (mkF m 1 #[.val (.ref a), .val (.int (2 : Int32))] [(.int (2 : Int32))])) (fun t k => XS.iloadN X0.here hx rfl (hb hby d8_0) rfl k) ?_
  refine own_step (b := T0.setTop (mkF m 2 #[.val (.ref a), .val (.int (2 : Int32))] [(.int (1 : Int32)), (.int (2 : Int32))])) (fun t k => XS.iconst X0.here hx rfl (hb hby d8_1) k) ?_
  refine own_icmp_lt X0 hx (hb hby d8_2) (pc' := 31) (by decide) (by decide) (fun c2_1 => absurd c2_1 (by decide)) (fun c2_1 => ?_)
  show own_G p e below _ (T0.setTop (mkF m 5 #[.val (.ref a), .val (.int (2 : Int32))] []))
  refine own_step (b := T0.setTop (mkF m 6 #[.val (.ref a), .val (.int (2 : Int32))] [(.ref a)])) (fun t k => XS.aloadN X0.here hx rfl (hb hby d8_5) rfl rfl k) ?_
  refine own_step (b := T0.setTop (mkF m 7 #[.val (.ref a), .val (.int (2 : Int32))] [(.int (0 : Int32)), (.ref a)])) (fun t k => XS.iconst X0.here hx rfl (hb hby d8_6) k) ?_
  refine own_step (b := T0.setTop (mkF m 8 #[.val (.ref a), .val (.int (2 : Int32))] [(.int (2 : Int32)), (.int (0 : Int32)), (.ref a)])) (fun t k => XS.iloadN X0.here hx rfl (hb hby d8_7) rfl k) ?_
  refine own_staticP (W := 0) (argsL := [(.ref a), (.int (0 : Int32)), (.int (2 : Int32))]) (st := []) X0 hx hZ hown (own_w hw 38 rfl) (own_w hw 39 rfl) (own_w hw 3 rfl) (own_w hw 40 rfl) (by decide) e0 (rmDigs_0_2 l Z a0 hw [] a kA c0 c1 c2 c3 h0 V) (by decide) (by decide) (by decide) (by decide) (by rw [hml]; rfl) (lenOf pd1 rfl) rfl (Nat.le_of_ble_eq_true rfl) (hb hby d8_8) (fun T2 X2 e2 => ?_)
  show own_G p e below _ (T2.setTop (mkF m 11 #[.val (.ref a), .val (.int (2 : Int32))] [(.int (own_bi (own_dig c0 && own_dig c1)))]))
  refine own_if_eq X2 hx (hb hby d8_11) (pc' := 31) (by decide) (by decide) (fun c11_3 => ?_) (fun c11_3 => ?_)
  · show own_G p e below _ (T2.setTop (mkF m 31 #[.val (.ref a), .val (.int (2 : Int32))] []))
    have c11_3b : (own_dig c0 && own_dig c1) = false := own_bi_f c11_3
    refine own_step (b := T2.setTop (mkF m 32 #[.val (.ref a), .val (.int (2 : Int32))] [(.int (0 : Int32))])) (fun t k => XS.iconst X2.here hx rfl (hb hby d8_31) k) ?_
    exact own_retN X2 hx hret (by simp) hlk (hb hby d8_32) ⟨by rw [show ((own_dig c0 && own_dig c1) && !decide (c0 = 48)) = false by simp [c11_3b, own_dig46]]; rfl, rfl, e2⟩ (by decide) (by decide)
  · show own_G p e below _ (T2.setTop (mkF m 14 #[.val (.ref a), .val (.int (2 : Int32))] []))
    have c11_3b : (own_dig c0 && own_dig c1) = true := own_bi_t c11_3
    refine own_step (b := T2.setTop (mkF m 15 #[.val (.ref a), .val (.int (2 : Int32))] [(.int (2 : Int32))])) (fun t k => XS.iloadN X2.here hx rfl (hb hby d8_14) rfl k) ?_
    refine own_step (b := T2.setTop (mkF m 16 #[.val (.ref a), .val (.int (2 : Int32))] [(.int (1 : Int32)), (.int (2 : Int32))])) (fun t k => XS.iconst X2.here hx rfl (hb hby d8_15) k) ?_
    refine own_icmp_eq X2 hx (hb hby d8_16) (pc' := 27) (by decide) (by decide) (fun c16_4 => absurd c16_4 (by decide)) (fun c16_4 => ?_)
    show own_G p e below _ (T2.setTop (mkF m 19 #[.val (.ref a), .val (.int (2 : Int32))] []))
    refine own_step (b := T2.setTop (mkF m 20 #[.val (.ref a), .val (.int (2 : Int32))] [(.ref a)])) (fun t k => XS.aloadN X2.here hx rfl (hb hby d8_19) rfl rfl k) ?_
    refine own_step (b := T2.setTop (mkF m 21 #[.val (.ref a), .val (.int (2 : Int32))] [(.int (0 : Int32)), (.ref a)])) (fun t k => XS.iconst X2.here hx rfl (hb hby d8_20) k) ?_
    refine own_ldC X2 hx hZ e2 V 0 (by decide) (by decide) (by decide) (v := (.int c0)) rfl (hb hby d8_21) ?_
    show own_G p e below _ (T2.setTop (mkF m 22 #[.val (.ref a), .val (.int (2 : Int32))] [(.int c0)]))
    refine own_step (b := T2.setTop (mkF m 24 #[.val (.ref a), .val (.int (2 : Int32))] [(.int (48 : Int32)), (.int c0)])) (fun t k => XS.bipush X2.here hx rfl (hb hby d8_22) k) ?_
    refine own_icmp_eq X2 hx (hb hby d8_24) (pc' := 31) (by decide) (by decide) (fun c24_5 => ?_) (fun c24_5 => ?_)
    · show own_G p e below _ (T2.setTop (mkF m 31 #[.val (.ref a), .val (.int (2 : Int32))] []))
      refine own_step (b := T2.setTop (mkF m 32 #[.val (.ref a), .val (.int (2 : Int32))] [(.int (0 : Int32))])) (fun t k => XS.iconst X2.here hx rfl (hb hby d8_31) k) ?_
      exact own_retN X2 hx hret (by simp) hlk (hb hby d8_32) ⟨by rw [show ((own_dig c0 && own_dig c1) && !decide (c0 = 48)) = false by simp [c11_3b, c24_5, own_dig46]]; rfl, rfl, e2⟩ (by decide) (by decide)
    · show own_G p e below _ (T2.setTop (mkF m 27 #[.val (.ref a), .val (.int (2 : Int32))] []))
      refine own_step (b := T2.setTop (mkF m 28 #[.val (.ref a), .val (.int (2 : Int32))] [(.int (1 : Int32))])) (fun t k => XS.iconst X2.here hx rfl (hb hby d8_27) k) ?_
      refine own_step (b := T2.setTop (mkF m 32 #[.val (.ref a), .val (.int (2 : Int32))] [(.int (1 : Int32))])) (fun t k => XS.goto X2.here hx rfl (pc0 := 28) (pc' := 32) rfl (hb hby d8_28) (by decide) (by decide) k) ?_
      exact own_retN X2 hx hret (by simp) hlk (hb hby d8_32) ⟨by rw [show ((own_dig c0 && own_dig c1) && !decide (c0 = 48)) = true by simp [c11_3b, c24_5, own_dig46]]; rfl, rfl, e2⟩ (by decide) (by decide)
set_option maxRecDepth 65536 in
set_option maxHeartbeats 40000000 in
theorem rmWhole_3 (l : Launch) (Z : State) (a0 : Array Value) (hw : ∀ d ∈ tables_1, d.before a0 Z = true) (ws : List Jvm.Cond) (a : Addr) (kA : ClassId) (c0 c1 c2 c3 : Int32) (h0 : Heap) (V : Arv Z h0 a kA .char (4 : Int32) [.int c0, .int c1, .int c2, .int c3] (.int 0)) :
    own_Met l Z (⟨"com/example/drawdown/drawdown/PlainDecimalMatchesPinLaw", "whole", "([CI)Z"⟩ : MethodName) method_6_code 2 (some .boolean) ws ⟨2, 0, 0, 26⟩ #[(.ref a), (.int (3 : Int32))] h0 (own_P (some (.int (own_bi ((own_dig c0 && own_dig c1 && own_dig c2) && !decide (c0 = 48))))) h0) := by
  refine own_enter (plainFor_of_name pn0) (fun m => ef_whole m a (3 : Int32)) ?_
  intro p e s m below meth c T0 hx hby hml hZ hown hnm hret hlk X0 e0
  show own_G p e below _ (T0.setTop (mkF m 0 #[.val (.ref a), .val (.int (3 : Int32))] []))
  refine own_step (b := T0.setTop (mkF m 1 #[.val (.ref a), .val (.int (3 : Int32))] [(.int (3 : Int32))])) (fun t k => XS.iloadN X0.here hx rfl (hb hby d8_0) rfl k) ?_
  refine own_step (b := T0.setTop (mkF m 2 #[.val (.ref a), .val (.int (3 : Int32))] [(.int (1 : Int32)), (.int (3 : Int32))])) (fun t k => XS.iconst X0.here hx rfl (hb hby d8_1) k) ?_
  refine own_icmp_lt X0 hx (hb hby d8_2) (pc' := 31) (by decide) (by decide) (fun c2_1 => absurd c2_1 (by decide)) (fun c2_1 => ?_)
  show own_G p e below _ (T0.setTop (mkF m 5 #[.val (.ref a), .val (.int (3 : Int32))] []))
  refine own_step (b := T0.setTop (mkF m 6 #[.val (.ref a), .val (.int (3 : Int32))] [(.ref a)])) (fun t k => XS.aloadN X0.here hx rfl (hb hby d8_5) rfl rfl k) ?_
  refine own_step (b := T0.setTop (mkF m 7 #[.val (.ref a), .val (.int (3 : Int32))] [(.int (0 : Int32)), (.ref a)])) (fun t k => XS.iconst X0.here hx rfl (hb hby d8_6) k) ?_
  refine own_step (b := T0.setTop (mkF m 8 #[.val (.ref a), .val (.int (3 : Int32))] [(.int (3 : Int32)), (.int (0 : Int32)), (.ref a)])) (fun t k => XS.iloadN X0.here hx rfl (hb hby d8_7) rfl k) ?_
  refine own_staticP (W := 0) (argsL := [(.ref a), (.int (0 : Int32)), (.int (3 : Int32))]) (st := []) X0 hx hZ hown (own_w hw 38 rfl) (own_w hw 39 rfl) (own_w hw 3 rfl) (own_w hw 40 rfl) (by decide) e0 (rmDigs_0_3 l Z a0 hw [] a kA c0 c1 c2 c3 h0 V) (by decide) (by decide) (by decide) (by decide) (by rw [hml]; rfl) (lenOf pd1 rfl) rfl (Nat.le_of_ble_eq_true rfl) (hb hby d8_8) (fun T2 X2 e2 => ?_)
  show own_G p e below _ (T2.setTop (mkF m 11 #[.val (.ref a), .val (.int (3 : Int32))] [(.int (own_bi (own_dig c0 && own_dig c1 && own_dig c2)))]))
  refine own_if_eq X2 hx (hb hby d8_11) (pc' := 31) (by decide) (by decide) (fun c11_3 => ?_) (fun c11_3 => ?_)
  · show own_G p e below _ (T2.setTop (mkF m 31 #[.val (.ref a), .val (.int (3 : Int32))] []))
    have c11_3b : (own_dig c0 && own_dig c1 && own_dig c2) = false := own_bi_f c11_3
    refine own_step (b := T2.setTop (mkF m 32 #[.val (.ref a), .val (.int (3 : Int32))] [(.int (0 : Int32))])) (fun t k => XS.iconst X2.here hx rfl (hb hby d8_31) k) ?_
    exact own_retN X2 hx hret (by simp) hlk (hb hby d8_32) ⟨by rw [show ((own_dig c0 && own_dig c1 && own_dig c2) && !decide (c0 = 48)) = false by simp [c11_3b, own_dig46]]; rfl, rfl, e2⟩ (by decide) (by decide)
  · show own_G p e below _ (T2.setTop (mkF m 14 #[.val (.ref a), .val (.int (3 : Int32))] []))
    have c11_3b : (own_dig c0 && own_dig c1 && own_dig c2) = true := own_bi_t c11_3
    refine own_step (b := T2.setTop (mkF m 15 #[.val (.ref a), .val (.int (3 : Int32))] [(.int (3 : Int32))])) (fun t k => XS.iloadN X2.here hx rfl (hb hby d8_14) rfl k) ?_
    refine own_step (b := T2.setTop (mkF m 16 #[.val (.ref a), .val (.int (3 : Int32))] [(.int (1 : Int32)), (.int (3 : Int32))])) (fun t k => XS.iconst X2.here hx rfl (hb hby d8_15) k) ?_
    refine own_icmp_eq X2 hx (hb hby d8_16) (pc' := 27) (by decide) (by decide) (fun c16_4 => absurd c16_4 (by decide)) (fun c16_4 => ?_)
    show own_G p e below _ (T2.setTop (mkF m 19 #[.val (.ref a), .val (.int (3 : Int32))] []))
    refine own_step (b := T2.setTop (mkF m 20 #[.val (.ref a), .val (.int (3 : Int32))] [(.ref a)])) (fun t k => XS.aloadN X2.here hx rfl (hb hby d8_19) rfl rfl k) ?_
    refine own_step (b := T2.setTop (mkF m 21 #[.val (.ref a), .val (.int (3 : Int32))] [(.int (0 : Int32)), (.ref a)])) (fun t k => XS.iconst X2.here hx rfl (hb hby d8_20) k) ?_
    refine own_ldC X2 hx hZ e2 V 0 (by decide) (by decide) (by decide) (v := (.int c0)) rfl (hb hby d8_21) ?_
    show own_G p e below _ (T2.setTop (mkF m 22 #[.val (.ref a), .val (.int (3 : Int32))] [(.int c0)]))
    refine own_step (b := T2.setTop (mkF m 24 #[.val (.ref a), .val (.int (3 : Int32))] [(.int (48 : Int32)), (.int c0)])) (fun t k => XS.bipush X2.here hx rfl (hb hby d8_22) k) ?_
    refine own_icmp_eq X2 hx (hb hby d8_24) (pc' := 31) (by decide) (by decide) (fun c24_5 => ?_) (fun c24_5 => ?_)
    · show own_G p e below _ (T2.setTop (mkF m 31 #[.val (.ref a), .val (.int (3 : Int32))] []))
      refine own_step (b := T2.setTop (mkF m 32 #[.val (.ref a), .val (.int (3 : Int32))] [(.int (0 : Int32))])) (fun t k => XS.iconst X2.here hx rfl (hb hby d8_31) k) ?_
      exact own_retN X2 hx hret (by simp) hlk (hb hby d8_32) ⟨by rw [show ((own_dig c0 && own_dig c1 && own_dig c2) && !decide (c0 = 48)) = false by simp [c11_3b, c24_5, own_dig46]]; rfl, rfl, e2⟩ (by decide) (by decide)
    · show own_G p e below _ (T2.setTop (mkF m 27 #[.val (.ref a), .val (.int (3 : Int32))] []))
      refine own_step (b := T2.setTop (mkF m 28 #[.val (.ref a), .val (.int (3 : Int32))] [(.int (1 : Int32))])) (fun t k => XS.iconst X2.here hx rfl (hb hby d8_27) k) ?_
      refine own_step (b := T2.setTop (mkF m 32 #[.val (.ref a), .val (.int (3 : Int32))] [(.int (1 : Int32))])) (fun t k => XS.goto X2.here hx rfl (pc0 := 28) (pc' := 32) rfl (hb hby d8_28) (by decide) (by decide) k) ?_
      exact own_retN X2 hx hret (by simp) hlk (hb hby d8_32) ⟨by rw [show ((own_dig c0 && own_dig c1 && own_dig c2) && !decide (c0 = 48)) = true by simp [c11_3b, c24_5, own_dig46]]; rfl, rfl, e2⟩ (by decide) (by decide)
set_option maxRecDepth 65536 in
set_option maxHeartbeats 40000000 in
theorem rmWhole_4 (l : Launch) (Z : State) (a0 : Array Value) (hw : ∀ d ∈ tables_1, d.before a0 Z = true) (ws : List Jvm.Cond) (a : Addr) (kA : ClassId) (c0 c1 c2 c3 : Int32) (h0 : Heap) (V : Arv Z h0 a kA .char (4 : Int32) [.int c0, .int c1, .int c2, .int c3] (.int 0)) :
    own_Met l Z (⟨"com/example/drawdown/drawdown/PlainDecimalMatchesPinLaw", "whole", "([CI)Z"⟩ : MethodName) method_6_code 2 (some .boolean) ws ⟨2, 0, 0, 26⟩ #[(.ref a), (.int (4 : Int32))] h0 (own_P (some (.int (own_bi ((own_dig c0 && own_dig c1 && own_dig c2 && own_dig c3) && !decide (c0 = 48))))) h0) := by
  refine own_enter (plainFor_of_name pn0) (fun m => ef_whole m a (4 : Int32)) ?_
  intro p e s m below meth c T0 hx hby hml hZ hown hnm hret hlk X0 e0
  show own_G p e below _ (T0.setTop (mkF m 0 #[.val (.ref a), .val (.int (4 : Int32))] []))
  refine own_step (b := T0.setTop (mkF m 1 #[.val (.ref a), .val (.int (4 : Int32))] [(.int (4 : Int32))])) (fun t k => XS.iloadN X0.here hx rfl (hb hby d8_0) rfl k) ?_
  refine own_step (b := T0.setTop (mkF m 2 #[.val (.ref a), .val (.int (4 : Int32))] [(.int (1 : Int32)), (.int (4 : Int32))])) (fun t k => XS.iconst X0.here hx rfl (hb hby d8_1) k) ?_
  refine own_icmp_lt X0 hx (hb hby d8_2) (pc' := 31) (by decide) (by decide) (fun c2_1 => absurd c2_1 (by decide)) (fun c2_1 => ?_)
  show own_G p e below _ (T0.setTop (mkF m 5 #[.val (.ref a), .val (.int (4 : Int32))] []))
  refine own_step (b := T0.setTop (mkF m 6 #[.val (.ref a), .val (.int (4 : Int32))] [(.ref a)])) (fun t k => XS.aloadN X0.here hx rfl (hb hby d8_5) rfl rfl k) ?_
  refine own_step (b := T0.setTop (mkF m 7 #[.val (.ref a), .val (.int (4 : Int32))] [(.int (0 : Int32)), (.ref a)])) (fun t k => XS.iconst X0.here hx rfl (hb hby d8_6) k) ?_
  refine own_step (b := T0.setTop (mkF m 8 #[.val (.ref a), .val (.int (4 : Int32))] [(.int (4 : Int32)), (.int (0 : Int32)), (.ref a)])) (fun t k => XS.iloadN X0.here hx rfl (hb hby d8_7) rfl k) ?_
  refine own_staticP (W := 0) (argsL := [(.ref a), (.int (0 : Int32)), (.int (4 : Int32))]) (st := []) X0 hx hZ hown (own_w hw 38 rfl) (own_w hw 39 rfl) (own_w hw 3 rfl) (own_w hw 40 rfl) (by decide) e0 (rmDigs_0_4 l Z a0 hw [] a kA c0 c1 c2 c3 h0 V) (by decide) (by decide) (by decide) (by decide) (by rw [hml]; rfl) (lenOf pd1 rfl) rfl (Nat.le_of_ble_eq_true rfl) (hb hby d8_8) (fun T2 X2 e2 => ?_)
  show own_G p e below _ (T2.setTop (mkF m 11 #[.val (.ref a), .val (.int (4 : Int32))] [(.int (own_bi (own_dig c0 && own_dig c1 && own_dig c2 && own_dig c3)))]))
  refine own_if_eq X2 hx (hb hby d8_11) (pc' := 31) (by decide) (by decide) (fun c11_3 => ?_) (fun c11_3 => ?_)
  · show own_G p e below _ (T2.setTop (mkF m 31 #[.val (.ref a), .val (.int (4 : Int32))] []))
    have c11_3b : (own_dig c0 && own_dig c1 && own_dig c2 && own_dig c3) = false := own_bi_f c11_3
    refine own_step (b := T2.setTop (mkF m 32 #[.val (.ref a), .val (.int (4 : Int32))] [(.int (0 : Int32))])) (fun t k => XS.iconst X2.here hx rfl (hb hby d8_31) k) ?_
    exact own_retN X2 hx hret (by simp) hlk (hb hby d8_32) ⟨by rw [show ((own_dig c0 && own_dig c1 && own_dig c2 && own_dig c3) && !decide (c0 = 48)) = false by simp [c11_3b, own_dig46]]; rfl, rfl, e2⟩ (by decide) (by decide)
  · show own_G p e below _ (T2.setTop (mkF m 14 #[.val (.ref a), .val (.int (4 : Int32))] []))
    have c11_3b : (own_dig c0 && own_dig c1 && own_dig c2 && own_dig c3) = true := own_bi_t c11_3
    refine own_step (b := T2.setTop (mkF m 15 #[.val (.ref a), .val (.int (4 : Int32))] [(.int (4 : Int32))])) (fun t k => XS.iloadN X2.here hx rfl (hb hby d8_14) rfl k) ?_
    refine own_step (b := T2.setTop (mkF m 16 #[.val (.ref a), .val (.int (4 : Int32))] [(.int (1 : Int32)), (.int (4 : Int32))])) (fun t k => XS.iconst X2.here hx rfl (hb hby d8_15) k) ?_
    refine own_icmp_eq X2 hx (hb hby d8_16) (pc' := 27) (by decide) (by decide) (fun c16_4 => absurd c16_4 (by decide)) (fun c16_4 => ?_)
    show own_G p e below _ (T2.setTop (mkF m 19 #[.val (.ref a), .val (.int (4 : Int32))] []))
    refine own_step (b := T2.setTop (mkF m 20 #[.val (.ref a), .val (.int (4 : Int32))] [(.ref a)])) (fun t k => XS.aloadN X2.here hx rfl (hb hby d8_19) rfl rfl k) ?_
    refine own_step (b := T2.setTop (mkF m 21 #[.val (.ref a), .val (.int (4 : Int32))] [(.int (0 : Int32)), (.ref a)])) (fun t k => XS.iconst X2.here hx rfl (hb hby d8_20) k) ?_
    refine own_ldC X2 hx hZ e2 V 0 (by decide) (by decide) (by decide) (v := (.int c0)) rfl (hb hby d8_21) ?_
    show own_G p e below _ (T2.setTop (mkF m 22 #[.val (.ref a), .val (.int (4 : Int32))] [(.int c0)]))
    refine own_step (b := T2.setTop (mkF m 24 #[.val (.ref a), .val (.int (4 : Int32))] [(.int (48 : Int32)), (.int c0)])) (fun t k => XS.bipush X2.here hx rfl (hb hby d8_22) k) ?_
    refine own_icmp_eq X2 hx (hb hby d8_24) (pc' := 31) (by decide) (by decide) (fun c24_5 => ?_) (fun c24_5 => ?_)
    · show own_G p e below _ (T2.setTop (mkF m 31 #[.val (.ref a), .val (.int (4 : Int32))] []))
      refine own_step (b := T2.setTop (mkF m 32 #[.val (.ref a), .val (.int (4 : Int32))] [(.int (0 : Int32))])) (fun t k => XS.iconst X2.here hx rfl (hb hby d8_31) k) ?_
      exact own_retN X2 hx hret (by simp) hlk (hb hby d8_32) ⟨by rw [show ((own_dig c0 && own_dig c1 && own_dig c2 && own_dig c3) && !decide (c0 = 48)) = false by simp [c11_3b, c24_5, own_dig46]]; rfl, rfl, e2⟩ (by decide) (by decide)
    · show own_G p e below _ (T2.setTop (mkF m 27 #[.val (.ref a), .val (.int (4 : Int32))] []))
      refine own_step (b := T2.setTop (mkF m 28 #[.val (.ref a), .val (.int (4 : Int32))] [(.int (1 : Int32))])) (fun t k => XS.iconst X2.here hx rfl (hb hby d8_27) k) ?_
      refine own_step (b := T2.setTop (mkF m 32 #[.val (.ref a), .val (.int (4 : Int32))] [(.int (1 : Int32))])) (fun t k => XS.goto X2.here hx rfl (pc0 := 28) (pc' := 32) rfl (hb hby d8_28) (by decide) (by decide) k) ?_
      exact own_retN X2 hx hret (by simp) hlk (hb hby d8_32) ⟨by rw [show ((own_dig c0 && own_dig c1 && own_dig c2 && own_dig c3) && !decide (c0 = 48)) = true by simp [c11_3b, c24_5, own_dig46]]; rfl, rfl, e2⟩ (by decide) (by decide)
theorem ef_frac (m : MethodId) (a : Addr) (k n pl : Int32) : entryFrame m #[(.ref a), (.int k), (.int n), (.int pl)] 4 = mkF m 0 #[.val (.ref a), .val (.int k), .val (.int n), .val (.int pl)] [] := by first | (simp [entryFrame, mkF, argsToLocals, Value.category, maxLocals]; done) | rfl
set_option maxRecDepth 65536 in
set_option maxHeartbeats 40000000 in
theorem rmFrac_1_0 (l : Launch) (Z : State) (a0 : Array Value) (hw : ∀ d ∈ tables_1, d.before a0 Z = true) (ws : List Jvm.Cond) (pl : Int32) (a : Addr) (kA : ClassId) (c0 c1 c2 c3 : Int32) (h0 : Heap) (V : Arv Z h0 a kA .char (4 : Int32) [.int c0, .int c1, .int c2, .int c3] (.int 0)) :
    own_Met l Z (⟨"com/example/drawdown/drawdown/PlainDecimalMatchesPinLaw", "frac", "([CIII)Z"⟩ : MethodName) method_7_code 4 (some .boolean) ws ⟨3, 0, 0, 39⟩ #[(.ref a), (.int (1 : Int32)), (.int (0 : Int32)), (.int pl)] h0 (own_P (some (.int (own_bi false))) h0) := by
  refine own_enter (plainFor_of_name pn0) (fun m => ef_frac m a (1 : Int32) (0 : Int32) pl) ?_
  intro p e s m below meth c T0 hx hby hml hZ hown hnm hret hlk X0 e0
  show own_G p e below _ (T0.setTop (mkF m 0 #[.val (.ref a), .val (.int (1 : Int32)), .val (.int (0 : Int32)), .val (.int pl)] []))
  refine own_step (b := T0.setTop (mkF m 1 #[.val (.ref a), .val (.int (1 : Int32)), .val (.int (0 : Int32)), .val (.int pl)] [(.int (1 : Int32))])) (fun t k => XS.iloadN X0.here hx rfl (hb hby d11_0) rfl k) ?_
  refine own_step (b := T0.setTop (mkF m 2 #[.val (.ref a), .val (.int (1 : Int32)), .val (.int (0 : Int32)), .val (.int pl)] [(.int (1 : Int32)), (.int (1 : Int32))])) (fun t k => XS.iconst X0.here hx rfl (hb hby d11_1) k) ?_
  refine own_step (b := T0.setTop (mkF m 3 #[.val (.ref a), .val (.int (1 : Int32)), .val (.int (0 : Int32)), .val (.int pl)] [(.int (2 : Int32))])) (fun t k => XS.iadd X0.here hx rfl (hb hby d11_2) rfl k) ?_
  refine own_step (b := T0.setTop (mkF m 4 #[.val (.ref a), .val (.int (1 : Int32)), .val (.int (0 : Int32)), .val (.int pl)] [(.int (0 : Int32)), (.int (2 : Int32))])) (fun t k => XS.iloadN X0.here hx rfl (hb hby d11_3) rfl k) ?_
  refine own_icmp_ge X0 hx (hb hby d11_4) (pc' := 47) (by decide) (by decide) (fun c4_1 => ?_) (fun c4_1 => absurd c4_1 (by decide))
  show own_G p e below _ (T0.setTop (mkF m 47 #[.val (.ref a), .val (.int (1 : Int32)), .val (.int (0 : Int32)), .val (.int pl)] []))
  refine own_step (b := T0.setTop (mkF m 48 #[.val (.ref a), .val (.int (1 : Int32)), .val (.int (0 : Int32)), .val (.int pl)] [(.int (0 : Int32))])) (fun t k => XS.iconst X0.here hx rfl (hb hby d11_47) k) ?_
  exact own_retN X0 hx hret (by simp) hlk (hb hby d11_48) ⟨by rw [show false = false by simp [own_dig46]]; rfl, rfl, e0⟩ (by decide) (by decide)
set_option maxRecDepth 65536 in
set_option maxHeartbeats 40000000 in
theorem rmFrac_1_1 (l : Launch) (Z : State) (a0 : Array Value) (hw : ∀ d ∈ tables_1, d.before a0 Z = true) (ws : List Jvm.Cond) (pl : Int32) (a : Addr) (kA : ClassId) (c0 c1 c2 c3 : Int32) (h0 : Heap) (V : Arv Z h0 a kA .char (4 : Int32) [.int c0, .int c1, .int c2, .int c3] (.int 0)) :
    own_Met l Z (⟨"com/example/drawdown/drawdown/PlainDecimalMatchesPinLaw", "frac", "([CIII)Z"⟩ : MethodName) method_7_code 4 (some .boolean) ws ⟨3, 0, 0, 39⟩ #[(.ref a), (.int (1 : Int32)), (.int (1 : Int32)), (.int pl)] h0 (own_P (some (.int (own_bi false))) h0) := by
  refine own_enter (plainFor_of_name pn0) (fun m => ef_frac m a (1 : Int32) (1 : Int32) pl) ?_
  intro p e s m below meth c T0 hx hby hml hZ hown hnm hret hlk X0 e0
  show own_G p e below _ (T0.setTop (mkF m 0 #[.val (.ref a), .val (.int (1 : Int32)), .val (.int (1 : Int32)), .val (.int pl)] []))
  refine own_step (b := T0.setTop (mkF m 1 #[.val (.ref a), .val (.int (1 : Int32)), .val (.int (1 : Int32)), .val (.int pl)] [(.int (1 : Int32))])) (fun t k => XS.iloadN X0.here hx rfl (hb hby d11_0) rfl k) ?_
  refine own_step (b := T0.setTop (mkF m 2 #[.val (.ref a), .val (.int (1 : Int32)), .val (.int (1 : Int32)), .val (.int pl)] [(.int (1 : Int32)), (.int (1 : Int32))])) (fun t k => XS.iconst X0.here hx rfl (hb hby d11_1) k) ?_
  refine own_step (b := T0.setTop (mkF m 3 #[.val (.ref a), .val (.int (1 : Int32)), .val (.int (1 : Int32)), .val (.int pl)] [(.int (2 : Int32))])) (fun t k => XS.iadd X0.here hx rfl (hb hby d11_2) rfl k) ?_
  refine own_step (b := T0.setTop (mkF m 4 #[.val (.ref a), .val (.int (1 : Int32)), .val (.int (1 : Int32)), .val (.int pl)] [(.int (1 : Int32)), (.int (2 : Int32))])) (fun t k => XS.iloadN X0.here hx rfl (hb hby d11_3) rfl k) ?_
  refine own_icmp_ge X0 hx (hb hby d11_4) (pc' := 47) (by decide) (by decide) (fun c4_1 => ?_) (fun c4_1 => absurd c4_1 (by decide))
  show own_G p e below _ (T0.setTop (mkF m 47 #[.val (.ref a), .val (.int (1 : Int32)), .val (.int (1 : Int32)), .val (.int pl)] []))
  refine own_step (b := T0.setTop (mkF m 48 #[.val (.ref a), .val (.int (1 : Int32)), .val (.int (1 : Int32)), .val (.int pl)] [(.int (0 : Int32))])) (fun t k => XS.iconst X0.here hx rfl (hb hby d11_47) k) ?_
  exact own_retN X0 hx hret (by simp) hlk (hb hby d11_48) ⟨by rw [show false = false by simp [own_dig46]]; rfl, rfl, e0⟩ (by decide) (by decide)
set_option maxRecDepth 65536 in
set_option maxHeartbeats 40000000 in
theorem rmFrac_1_2 (l : Launch) (Z : State) (a0 : Array Value) (hw : ∀ d ∈ tables_1, d.before a0 Z = true) (ws : List Jvm.Cond) (pl : Int32) (a : Addr) (kA : ClassId) (c0 c1 c2 c3 : Int32) (h0 : Heap) (V : Arv Z h0 a kA .char (4 : Int32) [.int c0, .int c1, .int c2, .int c3] (.int 0)) :
    own_Met l Z (⟨"com/example/drawdown/drawdown/PlainDecimalMatchesPinLaw", "frac", "([CIII)Z"⟩ : MethodName) method_7_code 4 (some .boolean) ws ⟨3, 0, 0, 39⟩ #[(.ref a), (.int (1 : Int32)), (.int (2 : Int32)), (.int pl)] h0 (own_P (some (.int (own_bi false))) h0) := by
  refine own_enter (plainFor_of_name pn0) (fun m => ef_frac m a (1 : Int32) (2 : Int32) pl) ?_
  intro p e s m below meth c T0 hx hby hml hZ hown hnm hret hlk X0 e0
  show own_G p e below _ (T0.setTop (mkF m 0 #[.val (.ref a), .val (.int (1 : Int32)), .val (.int (2 : Int32)), .val (.int pl)] []))
  refine own_step (b := T0.setTop (mkF m 1 #[.val (.ref a), .val (.int (1 : Int32)), .val (.int (2 : Int32)), .val (.int pl)] [(.int (1 : Int32))])) (fun t k => XS.iloadN X0.here hx rfl (hb hby d11_0) rfl k) ?_
  refine own_step (b := T0.setTop (mkF m 2 #[.val (.ref a), .val (.int (1 : Int32)), .val (.int (2 : Int32)), .val (.int pl)] [(.int (1 : Int32)), (.int (1 : Int32))])) (fun t k => XS.iconst X0.here hx rfl (hb hby d11_1) k) ?_
  refine own_step (b := T0.setTop (mkF m 3 #[.val (.ref a), .val (.int (1 : Int32)), .val (.int (2 : Int32)), .val (.int pl)] [(.int (2 : Int32))])) (fun t k => XS.iadd X0.here hx rfl (hb hby d11_2) rfl k) ?_
  refine own_step (b := T0.setTop (mkF m 4 #[.val (.ref a), .val (.int (1 : Int32)), .val (.int (2 : Int32)), .val (.int pl)] [(.int (2 : Int32)), (.int (2 : Int32))])) (fun t k => XS.iloadN X0.here hx rfl (hb hby d11_3) rfl k) ?_
  refine own_icmp_ge X0 hx (hb hby d11_4) (pc' := 47) (by decide) (by decide) (fun c4_1 => ?_) (fun c4_1 => absurd c4_1 (by decide))
  show own_G p e below _ (T0.setTop (mkF m 47 #[.val (.ref a), .val (.int (1 : Int32)), .val (.int (2 : Int32)), .val (.int pl)] []))
  refine own_step (b := T0.setTop (mkF m 48 #[.val (.ref a), .val (.int (1 : Int32)), .val (.int (2 : Int32)), .val (.int pl)] [(.int (0 : Int32))])) (fun t k => XS.iconst X0.here hx rfl (hb hby d11_47) k) ?_
  exact own_retN X0 hx hret (by simp) hlk (hb hby d11_48) ⟨by rw [show false = false by simp [own_dig46]]; rfl, rfl, e0⟩ (by decide) (by decide)
set_option maxRecDepth 65536 in
set_option maxHeartbeats 40000000 in
theorem rmFrac_1_3 (l : Launch) (Z : State) (a0 : Array Value) (hw : ∀ d ∈ tables_1, d.before a0 Z = true) (ws : List Jvm.Cond) (pl : Int32) (a : Addr) (kA : ClassId) (c0 c1 c2 c3 : Int32) (h0 : Heap) (V : Arv Z h0 a kA .char (4 : Int32) [.int c0, .int c1, .int c2, .int c3] (.int 0)) :
    own_Met l Z (⟨"com/example/drawdown/drawdown/PlainDecimalMatchesPinLaw", "frac", "([CIII)Z"⟩ : MethodName) method_7_code 4 (some .boolean) ws ⟨3, 0, 0, 39⟩ #[(.ref a), (.int (1 : Int32)), (.int (3 : Int32)), (.int pl)] h0 (own_P (some (.int (own_bi (decide (c1 = 46) && (own_dig c0) && (own_dig c2) && !decide (pl < 1))))) h0) := by
  refine own_enter (plainFor_of_name pn0) (fun m => ef_frac m a (1 : Int32) (3 : Int32) pl) ?_
  intro p e s m below meth c T0 hx hby hml hZ hown hnm hret hlk X0 e0
  show own_G p e below _ (T0.setTop (mkF m 0 #[.val (.ref a), .val (.int (1 : Int32)), .val (.int (3 : Int32)), .val (.int pl)] []))
  refine own_step (b := T0.setTop (mkF m 1 #[.val (.ref a), .val (.int (1 : Int32)), .val (.int (3 : Int32)), .val (.int pl)] [(.int (1 : Int32))])) (fun t k => XS.iloadN X0.here hx rfl (hb hby d11_0) rfl k) ?_
  refine own_step (b := T0.setTop (mkF m 2 #[.val (.ref a), .val (.int (1 : Int32)), .val (.int (3 : Int32)), .val (.int pl)] [(.int (1 : Int32)), (.int (1 : Int32))])) (fun t k => XS.iconst X0.here hx rfl (hb hby d11_1) k) ?_
  refine own_step (b := T0.setTop (mkF m 3 #[.val (.ref a), .val (.int (1 : Int32)), .val (.int (3 : Int32)), .val (.int pl)] [(.int (2 : Int32))])) (fun t k => XS.iadd X0.here hx rfl (hb hby d11_2) rfl k) ?_
  refine own_step (b := T0.setTop (mkF m 4 #[.val (.ref a), .val (.int (1 : Int32)), .val (.int (3 : Int32)), .val (.int pl)] [(.int (3 : Int32)), (.int (2 : Int32))])) (fun t k => XS.iloadN X0.here hx rfl (hb hby d11_3) rfl k) ?_
  refine own_icmp_ge X0 hx (hb hby d11_4) (pc' := 47) (by decide) (by decide) (fun c4_1 => absurd c4_1 (by decide)) (fun c4_1 => ?_)
  show own_G p e below _ (T0.setTop (mkF m 7 #[.val (.ref a), .val (.int (1 : Int32)), .val (.int (3 : Int32)), .val (.int pl)] []))
  refine own_step (b := T0.setTop (mkF m 8 #[.val (.ref a), .val (.int (1 : Int32)), .val (.int (3 : Int32)), .val (.int pl)] [(.ref a)])) (fun t k => XS.aloadN X0.here hx rfl (hb hby d11_7) rfl rfl k) ?_
  refine own_step (b := T0.setTop (mkF m 9 #[.val (.ref a), .val (.int (1 : Int32)), .val (.int (3 : Int32)), .val (.int pl)] [(.int (1 : Int32)), (.ref a)])) (fun t k => XS.iloadN X0.here hx rfl (hb hby d11_8) rfl k) ?_
  refine own_ldC X0 hx hZ e0 V 1 (by decide) (by decide) (by decide) (v := (.int c1)) rfl (hb hby d11_9) ?_
  show own_G p e below _ (T0.setTop (mkF m 10 #[.val (.ref a), .val (.int (1 : Int32)), .val (.int (3 : Int32)), .val (.int pl)] [(.int c1)]))
  refine own_step (b := T0.setTop (mkF m 12 #[.val (.ref a), .val (.int (1 : Int32)), .val (.int (3 : Int32)), .val (.int pl)] [(.int (46 : Int32)), (.int c1)])) (fun t k => XS.bipush X0.here hx rfl (hb hby d11_10) k) ?_
  refine own_icmp_ne X0 hx (hb hby d11_12) (pc' := 47) (by decide) (by decide) (fun c12_2 => ?_) (fun c12_2 => ?_)
  · show own_G p e below _ (T0.setTop (mkF m 47 #[.val (.ref a), .val (.int (1 : Int32)), .val (.int (3 : Int32)), .val (.int pl)] []))
    refine own_step (b := T0.setTop (mkF m 48 #[.val (.ref a), .val (.int (1 : Int32)), .val (.int (3 : Int32)), .val (.int pl)] [(.int (0 : Int32))])) (fun t k => XS.iconst X0.here hx rfl (hb hby d11_47) k) ?_
    exact own_retN X0 hx hret (by simp) hlk (hb hby d11_48) ⟨by rw [show (decide (c1 = 46) && (own_dig c0) && (own_dig c2) && !decide (pl < 1)) = false by simp [c12_2, own_dig46]]; rfl, rfl, e0⟩ (by decide) (by decide)
  · show own_G p e below _ (T0.setTop (mkF m 15 #[.val (.ref a), .val (.int (1 : Int32)), .val (.int (3 : Int32)), .val (.int pl)] []))
    refine own_step (b := T0.setTop (mkF m 16 #[.val (.ref a), .val (.int (1 : Int32)), .val (.int (3 : Int32)), .val (.int pl)] [(.ref a)])) (fun t k => XS.aloadN X0.here hx rfl (hb hby d11_15) rfl rfl k) ?_
    refine own_step (b := T0.setTop (mkF m 17 #[.val (.ref a), .val (.int (1 : Int32)), .val (.int (3 : Int32)), .val (.int pl)] [(.int (1 : Int32)), (.ref a)])) (fun t k => XS.iloadN X0.here hx rfl (hb hby d11_16) rfl k) ?_
    refine own_staticP (W := 0) (argsL := [(.ref a), (.int (1 : Int32))]) (st := []) X0 hx hZ hown (own_w hw 35 rfl) (own_w hw 36 rfl) (own_w hw 3 rfl) (own_w hw 37 rfl) (by decide) e0 (rmWhole_1 l Z a0 hw [] a kA c0 c1 c2 c3 h0 V) (by decide) (by decide) (by decide) (by decide) (by rw [hml]; rfl) (lenOf pd2 rfl) rfl (Nat.le_of_ble_eq_true rfl) (hb hby d11_17) (fun T3 X3 e3 => ?_)
    show own_G p e below _ (T3.setTop (mkF m 20 #[.val (.ref a), .val (.int (1 : Int32)), .val (.int (3 : Int32)), .val (.int pl)] [(.int (own_bi (own_dig c0)))]))
    refine own_if_eq X3 hx (hb hby d11_20) (pc' := 47) (by decide) (by decide) (fun c20_4 => ?_) (fun c20_4 => ?_)
    · show own_G p e below _ (T3.setTop (mkF m 47 #[.val (.ref a), .val (.int (1 : Int32)), .val (.int (3 : Int32)), .val (.int pl)] []))
      have c20_4b : (own_dig c0) = false := own_bi_f c20_4
      refine own_step (b := T3.setTop (mkF m 48 #[.val (.ref a), .val (.int (1 : Int32)), .val (.int (3 : Int32)), .val (.int pl)] [(.int (0 : Int32))])) (fun t k => XS.iconst X3.here hx rfl (hb hby d11_47) k) ?_
      exact own_retN X3 hx hret (by simp) hlk (hb hby d11_48) ⟨by rw [show (decide (c1 = 46) && (own_dig c0) && (own_dig c2) && !decide (pl < 1)) = false by simp [c12_2, c20_4b, own_dig46]]; rfl, rfl, e3⟩ (by decide) (by decide)
    · show own_G p e below _ (T3.setTop (mkF m 23 #[.val (.ref a), .val (.int (1 : Int32)), .val (.int (3 : Int32)), .val (.int pl)] []))
      have c20_4b : (own_dig c0) = true := own_bi_t c20_4
      refine own_step (b := T3.setTop (mkF m 24 #[.val (.ref a), .val (.int (1 : Int32)), .val (.int (3 : Int32)), .val (.int pl)] [(.ref a)])) (fun t k => XS.aloadN X3.here hx rfl (hb hby d11_23) rfl rfl k) ?_
      refine own_step (b := T3.setTop (mkF m 25 #[.val (.ref a), .val (.int (1 : Int32)), .val (.int (3 : Int32)), .val (.int pl)] [(.int (1 : Int32)), (.ref a)])) (fun t k => XS.iloadN X3.here hx rfl (hb hby d11_24) rfl k) ?_
      refine own_step (b := T3.setTop (mkF m 26 #[.val (.ref a), .val (.int (1 : Int32)), .val (.int (3 : Int32)), .val (.int pl)] [(.int (1 : Int32)), (.int (1 : Int32)), (.ref a)])) (fun t k => XS.iconst X3.here hx rfl (hb hby d11_25) k) ?_
      refine own_step (b := T3.setTop (mkF m 27 #[.val (.ref a), .val (.int (1 : Int32)), .val (.int (3 : Int32)), .val (.int pl)] [(.int (2 : Int32)), (.ref a)])) (fun t k => XS.iadd X3.here hx rfl (hb hby d11_26) rfl k) ?_
      refine own_step (b := T3.setTop (mkF m 28 #[.val (.ref a), .val (.int (1 : Int32)), .val (.int (3 : Int32)), .val (.int pl)] [(.int (3 : Int32)), (.int (2 : Int32)), (.ref a)])) (fun t k => XS.iloadN X3.here hx rfl (hb hby d11_27) rfl k) ?_
      refine own_staticP (W := 0) (argsL := [(.ref a), (.int (2 : Int32)), (.int (3 : Int32))]) (st := []) X3 hx hZ hown (own_w hw 38 rfl) (own_w hw 39 rfl) (own_w hw 3 rfl) (own_w hw 40 rfl) (by decide) e3 (rmDigs_2_3 l Z a0 hw [] a kA c0 c1 c2 c3 h0 V) (by decide) (by decide) (by decide) (by decide) (by rw [hml]; rfl) (lenOf pd1 rfl) rfl (Nat.le_of_ble_eq_true rfl) (hb hby d11_28) (fun T5 X5 e5 => ?_)
      show own_G p e below _ (T5.setTop (mkF m 31 #[.val (.ref a), .val (.int (1 : Int32)), .val (.int (3 : Int32)), .val (.int pl)] [(.int (own_bi (own_dig c2)))]))
      refine own_if_eq X5 hx (hb hby d11_31) (pc' := 47) (by decide) (by decide) (fun c31_6 => ?_) (fun c31_6 => ?_)
      · show own_G p e below _ (T5.setTop (mkF m 47 #[.val (.ref a), .val (.int (1 : Int32)), .val (.int (3 : Int32)), .val (.int pl)] []))
        have c31_6b : (own_dig c2) = false := own_bi_f c31_6
        refine own_step (b := T5.setTop (mkF m 48 #[.val (.ref a), .val (.int (1 : Int32)), .val (.int (3 : Int32)), .val (.int pl)] [(.int (0 : Int32))])) (fun t k => XS.iconst X5.here hx rfl (hb hby d11_47) k) ?_
        exact own_retN X5 hx hret (by simp) hlk (hb hby d11_48) ⟨by rw [show (decide (c1 = 46) && (own_dig c0) && (own_dig c2) && !decide (pl < 1)) = false by simp [c12_2, c20_4b, c31_6b, own_dig46]]; rfl, rfl, e5⟩ (by decide) (by decide)
      · show own_G p e below _ (T5.setTop (mkF m 34 #[.val (.ref a), .val (.int (1 : Int32)), .val (.int (3 : Int32)), .val (.int pl)] []))
        have c31_6b : (own_dig c2) = true := own_bi_t c31_6
        refine own_step (b := T5.setTop (mkF m 35 #[.val (.ref a), .val (.int (1 : Int32)), .val (.int (3 : Int32)), .val (.int pl)] [(.int (3 : Int32))])) (fun t k => XS.iloadN X5.here hx rfl (hb hby d11_34) rfl k) ?_
        refine own_step (b := T5.setTop (mkF m 36 #[.val (.ref a), .val (.int (1 : Int32)), .val (.int (3 : Int32)), .val (.int pl)] [(.int (1 : Int32)), (.int (3 : Int32))])) (fun t k => XS.iloadN X5.here hx rfl (hb hby d11_35) rfl k) ?_
        refine own_step (b := T5.setTop (mkF m 37 #[.val (.ref a), .val (.int (1 : Int32)), .val (.int (3 : Int32)), .val (.int pl)] [(.int (2 : Int32))])) (fun t k => XS.isub X5.here hx rfl (hb hby d11_36) rfl k) ?_
        refine own_step (b := T5.setTop (mkF m 38 #[.val (.ref a), .val (.int (1 : Int32)), .val (.int (3 : Int32)), .val (.int pl)] [(.int (1 : Int32)), (.int (2 : Int32))])) (fun t k => XS.iconst X5.here hx rfl (hb hby d11_37) k) ?_
        refine own_step (b := T5.setTop (mkF m 39 #[.val (.ref a), .val (.int (1 : Int32)), .val (.int (3 : Int32)), .val (.int pl)] [(.int (1 : Int32))])) (fun t k => XS.isub X5.here hx rfl (hb hby d11_38) rfl k) ?_
        refine own_step (b := T5.setTop (mkF m 40 #[.val (.ref a), .val (.int (1 : Int32)), .val (.int (3 : Int32)), .val (.int pl)] [(.int pl), (.int (1 : Int32))])) (fun t k => XS.iloadN X5.here hx rfl (hb hby d11_39) rfl k) ?_
        refine own_icmp_gt X5 hx (hb hby d11_40) (pc' := 47) (by decide) (by decide) (fun c40_7 => ?_) (fun c40_7 => ?_)
        · show own_G p e below _ (T5.setTop (mkF m 47 #[.val (.ref a), .val (.int (1 : Int32)), .val (.int (3 : Int32)), .val (.int pl)] []))
          refine own_step (b := T5.setTop (mkF m 48 #[.val (.ref a), .val (.int (1 : Int32)), .val (.int (3 : Int32)), .val (.int pl)] [(.int (0 : Int32))])) (fun t k => XS.iconst X5.here hx rfl (hb hby d11_47) k) ?_
          exact own_retN X5 hx hret (by simp) hlk (hb hby d11_48) ⟨by rw [show (decide (c1 = 46) && (own_dig c0) && (own_dig c2) && !decide (pl < 1)) = false by simp [c12_2, c20_4b, c31_6b, c40_7, own_dig46]]; rfl, rfl, e5⟩ (by decide) (by decide)
        · show own_G p e below _ (T5.setTop (mkF m 43 #[.val (.ref a), .val (.int (1 : Int32)), .val (.int (3 : Int32)), .val (.int pl)] []))
          refine own_step (b := T5.setTop (mkF m 44 #[.val (.ref a), .val (.int (1 : Int32)), .val (.int (3 : Int32)), .val (.int pl)] [(.int (1 : Int32))])) (fun t k => XS.iconst X5.here hx rfl (hb hby d11_43) k) ?_
          refine own_step (b := T5.setTop (mkF m 48 #[.val (.ref a), .val (.int (1 : Int32)), .val (.int (3 : Int32)), .val (.int pl)] [(.int (1 : Int32))])) (fun t k => XS.goto X5.here hx rfl (pc0 := 44) (pc' := 48) rfl (hb hby d11_44) (by decide) (by decide) k) ?_
          exact own_retN X5 hx hret (by simp) hlk (hb hby d11_48) ⟨by rw [show (decide (c1 = 46) && (own_dig c0) && (own_dig c2) && !decide (pl < 1)) = true by simp [c12_2, c20_4b, c31_6b, c40_7, own_dig46]]; rfl, rfl, e5⟩ (by decide) (by decide)
set_option maxRecDepth 65536 in
set_option maxHeartbeats 40000000 in
theorem rmFrac_1_4 (l : Launch) (Z : State) (a0 : Array Value) (hw : ∀ d ∈ tables_1, d.before a0 Z = true) (ws : List Jvm.Cond) (pl : Int32) (a : Addr) (kA : ClassId) (c0 c1 c2 c3 : Int32) (h0 : Heap) (V : Arv Z h0 a kA .char (4 : Int32) [.int c0, .int c1, .int c2, .int c3] (.int 0)) :
    own_Met l Z (⟨"com/example/drawdown/drawdown/PlainDecimalMatchesPinLaw", "frac", "([CIII)Z"⟩ : MethodName) method_7_code 4 (some .boolean) ws ⟨3, 0, 0, 39⟩ #[(.ref a), (.int (1 : Int32)), (.int (4 : Int32)), (.int pl)] h0 (own_P (some (.int (own_bi (decide (c1 = 46) && (own_dig c0) && (own_dig c2 && own_dig c3) && !decide (pl < 2))))) h0) := by
  refine own_enter (plainFor_of_name pn0) (fun m => ef_frac m a (1 : Int32) (4 : Int32) pl) ?_
  intro p e s m below meth c T0 hx hby hml hZ hown hnm hret hlk X0 e0
  show own_G p e below _ (T0.setTop (mkF m 0 #[.val (.ref a), .val (.int (1 : Int32)), .val (.int (4 : Int32)), .val (.int pl)] []))
  refine own_step (b := T0.setTop (mkF m 1 #[.val (.ref a), .val (.int (1 : Int32)), .val (.int (4 : Int32)), .val (.int pl)] [(.int (1 : Int32))])) (fun t k => XS.iloadN X0.here hx rfl (hb hby d11_0) rfl k) ?_
  refine own_step (b := T0.setTop (mkF m 2 #[.val (.ref a), .val (.int (1 : Int32)), .val (.int (4 : Int32)), .val (.int pl)] [(.int (1 : Int32)), (.int (1 : Int32))])) (fun t k => XS.iconst X0.here hx rfl (hb hby d11_1) k) ?_
  refine own_step (b := T0.setTop (mkF m 3 #[.val (.ref a), .val (.int (1 : Int32)), .val (.int (4 : Int32)), .val (.int pl)] [(.int (2 : Int32))])) (fun t k => XS.iadd X0.here hx rfl (hb hby d11_2) rfl k) ?_
  refine own_step (b := T0.setTop (mkF m 4 #[.val (.ref a), .val (.int (1 : Int32)), .val (.int (4 : Int32)), .val (.int pl)] [(.int (4 : Int32)), (.int (2 : Int32))])) (fun t k => XS.iloadN X0.here hx rfl (hb hby d11_3) rfl k) ?_
  refine own_icmp_ge X0 hx (hb hby d11_4) (pc' := 47) (by decide) (by decide) (fun c4_1 => absurd c4_1 (by decide)) (fun c4_1 => ?_)
  show own_G p e below _ (T0.setTop (mkF m 7 #[.val (.ref a), .val (.int (1 : Int32)), .val (.int (4 : Int32)), .val (.int pl)] []))
  refine own_step (b := T0.setTop (mkF m 8 #[.val (.ref a), .val (.int (1 : Int32)), .val (.int (4 : Int32)), .val (.int pl)] [(.ref a)])) (fun t k => XS.aloadN X0.here hx rfl (hb hby d11_7) rfl rfl k) ?_
  refine own_step (b := T0.setTop (mkF m 9 #[.val (.ref a), .val (.int (1 : Int32)), .val (.int (4 : Int32)), .val (.int pl)] [(.int (1 : Int32)), (.ref a)])) (fun t k => XS.iloadN X0.here hx rfl (hb hby d11_8) rfl k) ?_
  refine own_ldC X0 hx hZ e0 V 1 (by decide) (by decide) (by decide) (v := (.int c1)) rfl (hb hby d11_9) ?_
  show own_G p e below _ (T0.setTop (mkF m 10 #[.val (.ref a), .val (.int (1 : Int32)), .val (.int (4 : Int32)), .val (.int pl)] [(.int c1)]))
  refine own_step (b := T0.setTop (mkF m 12 #[.val (.ref a), .val (.int (1 : Int32)), .val (.int (4 : Int32)), .val (.int pl)] [(.int (46 : Int32)), (.int c1)])) (fun t k => XS.bipush X0.here hx rfl (hb hby d11_10) k) ?_
  refine own_icmp_ne X0 hx (hb hby d11_12) (pc' := 47) (by decide) (by decide) (fun c12_2 => ?_) (fun c12_2 => ?_)
  · show own_G p e below _ (T0.setTop (mkF m 47 #[.val (.ref a), .val (.int (1 : Int32)), .val (.int (4 : Int32)), .val (.int pl)] []))
    refine own_step (b := T0.setTop (mkF m 48 #[.val (.ref a), .val (.int (1 : Int32)), .val (.int (4 : Int32)), .val (.int pl)] [(.int (0 : Int32))])) (fun t k => XS.iconst X0.here hx rfl (hb hby d11_47) k) ?_
    exact own_retN X0 hx hret (by simp) hlk (hb hby d11_48) ⟨by rw [show (decide (c1 = 46) && (own_dig c0) && (own_dig c2 && own_dig c3) && !decide (pl < 2)) = false by simp [c12_2, own_dig46]]; rfl, rfl, e0⟩ (by decide) (by decide)
  · show own_G p e below _ (T0.setTop (mkF m 15 #[.val (.ref a), .val (.int (1 : Int32)), .val (.int (4 : Int32)), .val (.int pl)] []))
    refine own_step (b := T0.setTop (mkF m 16 #[.val (.ref a), .val (.int (1 : Int32)), .val (.int (4 : Int32)), .val (.int pl)] [(.ref a)])) (fun t k => XS.aloadN X0.here hx rfl (hb hby d11_15) rfl rfl k) ?_
    refine own_step (b := T0.setTop (mkF m 17 #[.val (.ref a), .val (.int (1 : Int32)), .val (.int (4 : Int32)), .val (.int pl)] [(.int (1 : Int32)), (.ref a)])) (fun t k => XS.iloadN X0.here hx rfl (hb hby d11_16) rfl k) ?_
    refine own_staticP (W := 0) (argsL := [(.ref a), (.int (1 : Int32))]) (st := []) X0 hx hZ hown (own_w hw 35 rfl) (own_w hw 36 rfl) (own_w hw 3 rfl) (own_w hw 37 rfl) (by decide) e0 (rmWhole_1 l Z a0 hw [] a kA c0 c1 c2 c3 h0 V) (by decide) (by decide) (by decide) (by decide) (by rw [hml]; rfl) (lenOf pd2 rfl) rfl (Nat.le_of_ble_eq_true rfl) (hb hby d11_17) (fun T3 X3 e3 => ?_)
    show own_G p e below _ (T3.setTop (mkF m 20 #[.val (.ref a), .val (.int (1 : Int32)), .val (.int (4 : Int32)), .val (.int pl)] [(.int (own_bi (own_dig c0)))]))
    refine own_if_eq X3 hx (hb hby d11_20) (pc' := 47) (by decide) (by decide) (fun c20_4 => ?_) (fun c20_4 => ?_)
    · show own_G p e below _ (T3.setTop (mkF m 47 #[.val (.ref a), .val (.int (1 : Int32)), .val (.int (4 : Int32)), .val (.int pl)] []))
      have c20_4b : (own_dig c0) = false := own_bi_f c20_4
      refine own_step (b := T3.setTop (mkF m 48 #[.val (.ref a), .val (.int (1 : Int32)), .val (.int (4 : Int32)), .val (.int pl)] [(.int (0 : Int32))])) (fun t k => XS.iconst X3.here hx rfl (hb hby d11_47) k) ?_
      exact own_retN X3 hx hret (by simp) hlk (hb hby d11_48) ⟨by rw [show (decide (c1 = 46) && (own_dig c0) && (own_dig c2 && own_dig c3) && !decide (pl < 2)) = false by simp [c12_2, c20_4b, own_dig46]]; rfl, rfl, e3⟩ (by decide) (by decide)
    · show own_G p e below _ (T3.setTop (mkF m 23 #[.val (.ref a), .val (.int (1 : Int32)), .val (.int (4 : Int32)), .val (.int pl)] []))
      have c20_4b : (own_dig c0) = true := own_bi_t c20_4
      refine own_step (b := T3.setTop (mkF m 24 #[.val (.ref a), .val (.int (1 : Int32)), .val (.int (4 : Int32)), .val (.int pl)] [(.ref a)])) (fun t k => XS.aloadN X3.here hx rfl (hb hby d11_23) rfl rfl k) ?_
      refine own_step (b := T3.setTop (mkF m 25 #[.val (.ref a), .val (.int (1 : Int32)), .val (.int (4 : Int32)), .val (.int pl)] [(.int (1 : Int32)), (.ref a)])) (fun t k => XS.iloadN X3.here hx rfl (hb hby d11_24) rfl k) ?_
      refine own_step (b := T3.setTop (mkF m 26 #[.val (.ref a), .val (.int (1 : Int32)), .val (.int (4 : Int32)), .val (.int pl)] [(.int (1 : Int32)), (.int (1 : Int32)), (.ref a)])) (fun t k => XS.iconst X3.here hx rfl (hb hby d11_25) k) ?_
      refine own_step (b := T3.setTop (mkF m 27 #[.val (.ref a), .val (.int (1 : Int32)), .val (.int (4 : Int32)), .val (.int pl)] [(.int (2 : Int32)), (.ref a)])) (fun t k => XS.iadd X3.here hx rfl (hb hby d11_26) rfl k) ?_
      refine own_step (b := T3.setTop (mkF m 28 #[.val (.ref a), .val (.int (1 : Int32)), .val (.int (4 : Int32)), .val (.int pl)] [(.int (4 : Int32)), (.int (2 : Int32)), (.ref a)])) (fun t k => XS.iloadN X3.here hx rfl (hb hby d11_27) rfl k) ?_
      refine own_staticP (W := 0) (argsL := [(.ref a), (.int (2 : Int32)), (.int (4 : Int32))]) (st := []) X3 hx hZ hown (own_w hw 38 rfl) (own_w hw 39 rfl) (own_w hw 3 rfl) (own_w hw 40 rfl) (by decide) e3 (rmDigs_2_4 l Z a0 hw [] a kA c0 c1 c2 c3 h0 V) (by decide) (by decide) (by decide) (by decide) (by rw [hml]; rfl) (lenOf pd1 rfl) rfl (Nat.le_of_ble_eq_true rfl) (hb hby d11_28) (fun T5 X5 e5 => ?_)
      show own_G p e below _ (T5.setTop (mkF m 31 #[.val (.ref a), .val (.int (1 : Int32)), .val (.int (4 : Int32)), .val (.int pl)] [(.int (own_bi (own_dig c2 && own_dig c3)))]))
      refine own_if_eq X5 hx (hb hby d11_31) (pc' := 47) (by decide) (by decide) (fun c31_6 => ?_) (fun c31_6 => ?_)
      · show own_G p e below _ (T5.setTop (mkF m 47 #[.val (.ref a), .val (.int (1 : Int32)), .val (.int (4 : Int32)), .val (.int pl)] []))
        have c31_6b : (own_dig c2 && own_dig c3) = false := own_bi_f c31_6
        refine own_step (b := T5.setTop (mkF m 48 #[.val (.ref a), .val (.int (1 : Int32)), .val (.int (4 : Int32)), .val (.int pl)] [(.int (0 : Int32))])) (fun t k => XS.iconst X5.here hx rfl (hb hby d11_47) k) ?_
        exact own_retN X5 hx hret (by simp) hlk (hb hby d11_48) ⟨by rw [show (decide (c1 = 46) && (own_dig c0) && (own_dig c2 && own_dig c3) && !decide (pl < 2)) = false by simp [c12_2, c20_4b, c31_6b, own_dig46]]; rfl, rfl, e5⟩ (by decide) (by decide)
      · show own_G p e below _ (T5.setTop (mkF m 34 #[.val (.ref a), .val (.int (1 : Int32)), .val (.int (4 : Int32)), .val (.int pl)] []))
        have c31_6b : (own_dig c2 && own_dig c3) = true := own_bi_t c31_6
        refine own_step (b := T5.setTop (mkF m 35 #[.val (.ref a), .val (.int (1 : Int32)), .val (.int (4 : Int32)), .val (.int pl)] [(.int (4 : Int32))])) (fun t k => XS.iloadN X5.here hx rfl (hb hby d11_34) rfl k) ?_
        refine own_step (b := T5.setTop (mkF m 36 #[.val (.ref a), .val (.int (1 : Int32)), .val (.int (4 : Int32)), .val (.int pl)] [(.int (1 : Int32)), (.int (4 : Int32))])) (fun t k => XS.iloadN X5.here hx rfl (hb hby d11_35) rfl k) ?_
        refine own_step (b := T5.setTop (mkF m 37 #[.val (.ref a), .val (.int (1 : Int32)), .val (.int (4 : Int32)), .val (.int pl)] [(.int (3 : Int32))])) (fun t k => XS.isub X5.here hx rfl (hb hby d11_36) rfl k) ?_
        refine own_step (b := T5.setTop (mkF m 38 #[.val (.ref a), .val (.int (1 : Int32)), .val (.int (4 : Int32)), .val (.int pl)] [(.int (1 : Int32)), (.int (3 : Int32))])) (fun t k => XS.iconst X5.here hx rfl (hb hby d11_37) k) ?_
        refine own_step (b := T5.setTop (mkF m 39 #[.val (.ref a), .val (.int (1 : Int32)), .val (.int (4 : Int32)), .val (.int pl)] [(.int (2 : Int32))])) (fun t k => XS.isub X5.here hx rfl (hb hby d11_38) rfl k) ?_
        refine own_step (b := T5.setTop (mkF m 40 #[.val (.ref a), .val (.int (1 : Int32)), .val (.int (4 : Int32)), .val (.int pl)] [(.int pl), (.int (2 : Int32))])) (fun t k => XS.iloadN X5.here hx rfl (hb hby d11_39) rfl k) ?_
        refine own_icmp_gt X5 hx (hb hby d11_40) (pc' := 47) (by decide) (by decide) (fun c40_7 => ?_) (fun c40_7 => ?_)
        · show own_G p e below _ (T5.setTop (mkF m 47 #[.val (.ref a), .val (.int (1 : Int32)), .val (.int (4 : Int32)), .val (.int pl)] []))
          refine own_step (b := T5.setTop (mkF m 48 #[.val (.ref a), .val (.int (1 : Int32)), .val (.int (4 : Int32)), .val (.int pl)] [(.int (0 : Int32))])) (fun t k => XS.iconst X5.here hx rfl (hb hby d11_47) k) ?_
          exact own_retN X5 hx hret (by simp) hlk (hb hby d11_48) ⟨by rw [show (decide (c1 = 46) && (own_dig c0) && (own_dig c2 && own_dig c3) && !decide (pl < 2)) = false by simp [c12_2, c20_4b, c31_6b, c40_7, own_dig46]]; rfl, rfl, e5⟩ (by decide) (by decide)
        · show own_G p e below _ (T5.setTop (mkF m 43 #[.val (.ref a), .val (.int (1 : Int32)), .val (.int (4 : Int32)), .val (.int pl)] []))
          refine own_step (b := T5.setTop (mkF m 44 #[.val (.ref a), .val (.int (1 : Int32)), .val (.int (4 : Int32)), .val (.int pl)] [(.int (1 : Int32))])) (fun t k => XS.iconst X5.here hx rfl (hb hby d11_43) k) ?_
          refine own_step (b := T5.setTop (mkF m 48 #[.val (.ref a), .val (.int (1 : Int32)), .val (.int (4 : Int32)), .val (.int pl)] [(.int (1 : Int32))])) (fun t k => XS.goto X5.here hx rfl (pc0 := 44) (pc' := 48) rfl (hb hby d11_44) (by decide) (by decide) k) ?_
          exact own_retN X5 hx hret (by simp) hlk (hb hby d11_48) ⟨by rw [show (decide (c1 = 46) && (own_dig c0) && (own_dig c2 && own_dig c3) && !decide (pl < 2)) = true by simp [c12_2, c20_4b, c31_6b, c40_7, own_dig46]]; rfl, rfl, e5⟩ (by decide) (by decide)
set_option maxRecDepth 65536 in
set_option maxHeartbeats 40000000 in
theorem rmFrac_2_0 (l : Launch) (Z : State) (a0 : Array Value) (hw : ∀ d ∈ tables_1, d.before a0 Z = true) (ws : List Jvm.Cond) (pl : Int32) (a : Addr) (kA : ClassId) (c0 c1 c2 c3 : Int32) (h0 : Heap) (V : Arv Z h0 a kA .char (4 : Int32) [.int c0, .int c1, .int c2, .int c3] (.int 0)) :
    own_Met l Z (⟨"com/example/drawdown/drawdown/PlainDecimalMatchesPinLaw", "frac", "([CIII)Z"⟩ : MethodName) method_7_code 4 (some .boolean) ws ⟨3, 0, 0, 39⟩ #[(.ref a), (.int (2 : Int32)), (.int (0 : Int32)), (.int pl)] h0 (own_P (some (.int (own_bi false))) h0) := by
  refine own_enter (plainFor_of_name pn0) (fun m => ef_frac m a (2 : Int32) (0 : Int32) pl) ?_
  intro p e s m below meth c T0 hx hby hml hZ hown hnm hret hlk X0 e0
  show own_G p e below _ (T0.setTop (mkF m 0 #[.val (.ref a), .val (.int (2 : Int32)), .val (.int (0 : Int32)), .val (.int pl)] []))
  refine own_step (b := T0.setTop (mkF m 1 #[.val (.ref a), .val (.int (2 : Int32)), .val (.int (0 : Int32)), .val (.int pl)] [(.int (2 : Int32))])) (fun t k => XS.iloadN X0.here hx rfl (hb hby d11_0) rfl k) ?_
  refine own_step (b := T0.setTop (mkF m 2 #[.val (.ref a), .val (.int (2 : Int32)), .val (.int (0 : Int32)), .val (.int pl)] [(.int (1 : Int32)), (.int (2 : Int32))])) (fun t k => XS.iconst X0.here hx rfl (hb hby d11_1) k) ?_
  refine own_step (b := T0.setTop (mkF m 3 #[.val (.ref a), .val (.int (2 : Int32)), .val (.int (0 : Int32)), .val (.int pl)] [(.int (3 : Int32))])) (fun t k => XS.iadd X0.here hx rfl (hb hby d11_2) rfl k) ?_
  refine own_step (b := T0.setTop (mkF m 4 #[.val (.ref a), .val (.int (2 : Int32)), .val (.int (0 : Int32)), .val (.int pl)] [(.int (0 : Int32)), (.int (3 : Int32))])) (fun t k => XS.iloadN X0.here hx rfl (hb hby d11_3) rfl k) ?_
  refine own_icmp_ge X0 hx (hb hby d11_4) (pc' := 47) (by decide) (by decide) (fun c4_1 => ?_) (fun c4_1 => absurd c4_1 (by decide))
  show own_G p e below _ (T0.setTop (mkF m 47 #[.val (.ref a), .val (.int (2 : Int32)), .val (.int (0 : Int32)), .val (.int pl)] []))
  refine own_step (b := T0.setTop (mkF m 48 #[.val (.ref a), .val (.int (2 : Int32)), .val (.int (0 : Int32)), .val (.int pl)] [(.int (0 : Int32))])) (fun t k => XS.iconst X0.here hx rfl (hb hby d11_47) k) ?_
  exact own_retN X0 hx hret (by simp) hlk (hb hby d11_48) ⟨by rw [show false = false by simp [own_dig46]]; rfl, rfl, e0⟩ (by decide) (by decide)
set_option maxRecDepth 65536 in
set_option maxHeartbeats 40000000 in
theorem rmFrac_2_1 (l : Launch) (Z : State) (a0 : Array Value) (hw : ∀ d ∈ tables_1, d.before a0 Z = true) (ws : List Jvm.Cond) (pl : Int32) (a : Addr) (kA : ClassId) (c0 c1 c2 c3 : Int32) (h0 : Heap) (V : Arv Z h0 a kA .char (4 : Int32) [.int c0, .int c1, .int c2, .int c3] (.int 0)) :
    own_Met l Z (⟨"com/example/drawdown/drawdown/PlainDecimalMatchesPinLaw", "frac", "([CIII)Z"⟩ : MethodName) method_7_code 4 (some .boolean) ws ⟨3, 0, 0, 39⟩ #[(.ref a), (.int (2 : Int32)), (.int (1 : Int32)), (.int pl)] h0 (own_P (some (.int (own_bi false))) h0) := by
  refine own_enter (plainFor_of_name pn0) (fun m => ef_frac m a (2 : Int32) (1 : Int32) pl) ?_
  intro p e s m below meth c T0 hx hby hml hZ hown hnm hret hlk X0 e0
  show own_G p e below _ (T0.setTop (mkF m 0 #[.val (.ref a), .val (.int (2 : Int32)), .val (.int (1 : Int32)), .val (.int pl)] []))
  refine own_step (b := T0.setTop (mkF m 1 #[.val (.ref a), .val (.int (2 : Int32)), .val (.int (1 : Int32)), .val (.int pl)] [(.int (2 : Int32))])) (fun t k => XS.iloadN X0.here hx rfl (hb hby d11_0) rfl k) ?_
  refine own_step (b := T0.setTop (mkF m 2 #[.val (.ref a), .val (.int (2 : Int32)), .val (.int (1 : Int32)), .val (.int pl)] [(.int (1 : Int32)), (.int (2 : Int32))])) (fun t k => XS.iconst X0.here hx rfl (hb hby d11_1) k) ?_
  refine own_step (b := T0.setTop (mkF m 3 #[.val (.ref a), .val (.int (2 : Int32)), .val (.int (1 : Int32)), .val (.int pl)] [(.int (3 : Int32))])) (fun t k => XS.iadd X0.here hx rfl (hb hby d11_2) rfl k) ?_
  refine own_step (b := T0.setTop (mkF m 4 #[.val (.ref a), .val (.int (2 : Int32)), .val (.int (1 : Int32)), .val (.int pl)] [(.int (1 : Int32)), (.int (3 : Int32))])) (fun t k => XS.iloadN X0.here hx rfl (hb hby d11_3) rfl k) ?_
  refine own_icmp_ge X0 hx (hb hby d11_4) (pc' := 47) (by decide) (by decide) (fun c4_1 => ?_) (fun c4_1 => absurd c4_1 (by decide))
  show own_G p e below _ (T0.setTop (mkF m 47 #[.val (.ref a), .val (.int (2 : Int32)), .val (.int (1 : Int32)), .val (.int pl)] []))
  refine own_step (b := T0.setTop (mkF m 48 #[.val (.ref a), .val (.int (2 : Int32)), .val (.int (1 : Int32)), .val (.int pl)] [(.int (0 : Int32))])) (fun t k => XS.iconst X0.here hx rfl (hb hby d11_47) k) ?_
  exact own_retN X0 hx hret (by simp) hlk (hb hby d11_48) ⟨by rw [show false = false by simp [own_dig46]]; rfl, rfl, e0⟩ (by decide) (by decide)
set_option maxRecDepth 65536 in
set_option maxHeartbeats 40000000 in
theorem rmFrac_2_2 (l : Launch) (Z : State) (a0 : Array Value) (hw : ∀ d ∈ tables_1, d.before a0 Z = true) (ws : List Jvm.Cond) (pl : Int32) (a : Addr) (kA : ClassId) (c0 c1 c2 c3 : Int32) (h0 : Heap) (V : Arv Z h0 a kA .char (4 : Int32) [.int c0, .int c1, .int c2, .int c3] (.int 0)) :
    own_Met l Z (⟨"com/example/drawdown/drawdown/PlainDecimalMatchesPinLaw", "frac", "([CIII)Z"⟩ : MethodName) method_7_code 4 (some .boolean) ws ⟨3, 0, 0, 39⟩ #[(.ref a), (.int (2 : Int32)), (.int (2 : Int32)), (.int pl)] h0 (own_P (some (.int (own_bi false))) h0) := by
  refine own_enter (plainFor_of_name pn0) (fun m => ef_frac m a (2 : Int32) (2 : Int32) pl) ?_
  intro p e s m below meth c T0 hx hby hml hZ hown hnm hret hlk X0 e0
  show own_G p e below _ (T0.setTop (mkF m 0 #[.val (.ref a), .val (.int (2 : Int32)), .val (.int (2 : Int32)), .val (.int pl)] []))
  refine own_step (b := T0.setTop (mkF m 1 #[.val (.ref a), .val (.int (2 : Int32)), .val (.int (2 : Int32)), .val (.int pl)] [(.int (2 : Int32))])) (fun t k => XS.iloadN X0.here hx rfl (hb hby d11_0) rfl k) ?_
  refine own_step (b := T0.setTop (mkF m 2 #[.val (.ref a), .val (.int (2 : Int32)), .val (.int (2 : Int32)), .val (.int pl)] [(.int (1 : Int32)), (.int (2 : Int32))])) (fun t k => XS.iconst X0.here hx rfl (hb hby d11_1) k) ?_
  refine own_step (b := T0.setTop (mkF m 3 #[.val (.ref a), .val (.int (2 : Int32)), .val (.int (2 : Int32)), .val (.int pl)] [(.int (3 : Int32))])) (fun t k => XS.iadd X0.here hx rfl (hb hby d11_2) rfl k) ?_
  refine own_step (b := T0.setTop (mkF m 4 #[.val (.ref a), .val (.int (2 : Int32)), .val (.int (2 : Int32)), .val (.int pl)] [(.int (2 : Int32)), (.int (3 : Int32))])) (fun t k => XS.iloadN X0.here hx rfl (hb hby d11_3) rfl k) ?_
  refine own_icmp_ge X0 hx (hb hby d11_4) (pc' := 47) (by decide) (by decide) (fun c4_1 => ?_) (fun c4_1 => absurd c4_1 (by decide))
  show own_G p e below _ (T0.setTop (mkF m 47 #[.val (.ref a), .val (.int (2 : Int32)), .val (.int (2 : Int32)), .val (.int pl)] []))
  refine own_step (b := T0.setTop (mkF m 48 #[.val (.ref a), .val (.int (2 : Int32)), .val (.int (2 : Int32)), .val (.int pl)] [(.int (0 : Int32))])) (fun t k => XS.iconst X0.here hx rfl (hb hby d11_47) k) ?_
  exact own_retN X0 hx hret (by simp) hlk (hb hby d11_48) ⟨by rw [show false = false by simp [own_dig46]]; rfl, rfl, e0⟩ (by decide) (by decide)
set_option maxRecDepth 65536 in
set_option maxHeartbeats 40000000 in
theorem rmFrac_2_3 (l : Launch) (Z : State) (a0 : Array Value) (hw : ∀ d ∈ tables_1, d.before a0 Z = true) (ws : List Jvm.Cond) (pl : Int32) (a : Addr) (kA : ClassId) (c0 c1 c2 c3 : Int32) (h0 : Heap) (V : Arv Z h0 a kA .char (4 : Int32) [.int c0, .int c1, .int c2, .int c3] (.int 0)) :
    own_Met l Z (⟨"com/example/drawdown/drawdown/PlainDecimalMatchesPinLaw", "frac", "([CIII)Z"⟩ : MethodName) method_7_code 4 (some .boolean) ws ⟨3, 0, 0, 39⟩ #[(.ref a), (.int (2 : Int32)), (.int (3 : Int32)), (.int pl)] h0 (own_P (some (.int (own_bi false))) h0) := by
  refine own_enter (plainFor_of_name pn0) (fun m => ef_frac m a (2 : Int32) (3 : Int32) pl) ?_
  intro p e s m below meth c T0 hx hby hml hZ hown hnm hret hlk X0 e0
  show own_G p e below _ (T0.setTop (mkF m 0 #[.val (.ref a), .val (.int (2 : Int32)), .val (.int (3 : Int32)), .val (.int pl)] []))
  refine own_step (b := T0.setTop (mkF m 1 #[.val (.ref a), .val (.int (2 : Int32)), .val (.int (3 : Int32)), .val (.int pl)] [(.int (2 : Int32))])) (fun t k => XS.iloadN X0.here hx rfl (hb hby d11_0) rfl k) ?_
  refine own_step (b := T0.setTop (mkF m 2 #[.val (.ref a), .val (.int (2 : Int32)), .val (.int (3 : Int32)), .val (.int pl)] [(.int (1 : Int32)), (.int (2 : Int32))])) (fun t k => XS.iconst X0.here hx rfl (hb hby d11_1) k) ?_
  refine own_step (b := T0.setTop (mkF m 3 #[.val (.ref a), .val (.int (2 : Int32)), .val (.int (3 : Int32)), .val (.int pl)] [(.int (3 : Int32))])) (fun t k => XS.iadd X0.here hx rfl (hb hby d11_2) rfl k) ?_
  refine own_step (b := T0.setTop (mkF m 4 #[.val (.ref a), .val (.int (2 : Int32)), .val (.int (3 : Int32)), .val (.int pl)] [(.int (3 : Int32)), (.int (3 : Int32))])) (fun t k => XS.iloadN X0.here hx rfl (hb hby d11_3) rfl k) ?_
  refine own_icmp_ge X0 hx (hb hby d11_4) (pc' := 47) (by decide) (by decide) (fun c4_1 => ?_) (fun c4_1 => absurd c4_1 (by decide))
  show own_G p e below _ (T0.setTop (mkF m 47 #[.val (.ref a), .val (.int (2 : Int32)), .val (.int (3 : Int32)), .val (.int pl)] []))
  refine own_step (b := T0.setTop (mkF m 48 #[.val (.ref a), .val (.int (2 : Int32)), .val (.int (3 : Int32)), .val (.int pl)] [(.int (0 : Int32))])) (fun t k => XS.iconst X0.here hx rfl (hb hby d11_47) k) ?_
  exact own_retN X0 hx hret (by simp) hlk (hb hby d11_48) ⟨by rw [show false = false by simp [own_dig46]]; rfl, rfl, e0⟩ (by decide) (by decide)
set_option maxRecDepth 65536 in
set_option maxHeartbeats 40000000 in
theorem rmFrac_2_4 (l : Launch) (Z : State) (a0 : Array Value) (hw : ∀ d ∈ tables_1, d.before a0 Z = true) (ws : List Jvm.Cond) (pl : Int32) (a : Addr) (kA : ClassId) (c0 c1 c2 c3 : Int32) (h0 : Heap) (V : Arv Z h0 a kA .char (4 : Int32) [.int c0, .int c1, .int c2, .int c3] (.int 0)) :
    own_Met l Z (⟨"com/example/drawdown/drawdown/PlainDecimalMatchesPinLaw", "frac", "([CIII)Z"⟩ : MethodName) method_7_code 4 (some .boolean) ws ⟨3, 0, 0, 39⟩ #[(.ref a), (.int (2 : Int32)), (.int (4 : Int32)), (.int pl)] h0 (own_P (some (.int (own_bi (decide (c2 = 46) && ((own_dig c0 && own_dig c1) && !decide (c0 = 48)) && (own_dig c3) && !decide (pl < 1))))) h0) := by
  refine own_enter (plainFor_of_name pn0) (fun m => ef_frac m a (2 : Int32) (4 : Int32) pl) ?_
  intro p e s m below meth c T0 hx hby hml hZ hown hnm hret hlk X0 e0
  show own_G p e below _ (T0.setTop (mkF m 0 #[.val (.ref a), .val (.int (2 : Int32)), .val (.int (4 : Int32)), .val (.int pl)] []))
  refine own_step (b := T0.setTop (mkF m 1 #[.val (.ref a), .val (.int (2 : Int32)), .val (.int (4 : Int32)), .val (.int pl)] [(.int (2 : Int32))])) (fun t k => XS.iloadN X0.here hx rfl (hb hby d11_0) rfl k) ?_
  refine own_step (b := T0.setTop (mkF m 2 #[.val (.ref a), .val (.int (2 : Int32)), .val (.int (4 : Int32)), .val (.int pl)] [(.int (1 : Int32)), (.int (2 : Int32))])) (fun t k => XS.iconst X0.here hx rfl (hb hby d11_1) k) ?_
  refine own_step (b := T0.setTop (mkF m 3 #[.val (.ref a), .val (.int (2 : Int32)), .val (.int (4 : Int32)), .val (.int pl)] [(.int (3 : Int32))])) (fun t k => XS.iadd X0.here hx rfl (hb hby d11_2) rfl k) ?_
  refine own_step (b := T0.setTop (mkF m 4 #[.val (.ref a), .val (.int (2 : Int32)), .val (.int (4 : Int32)), .val (.int pl)] [(.int (4 : Int32)), (.int (3 : Int32))])) (fun t k => XS.iloadN X0.here hx rfl (hb hby d11_3) rfl k) ?_
  refine own_icmp_ge X0 hx (hb hby d11_4) (pc' := 47) (by decide) (by decide) (fun c4_1 => absurd c4_1 (by decide)) (fun c4_1 => ?_)
  show own_G p e below _ (T0.setTop (mkF m 7 #[.val (.ref a), .val (.int (2 : Int32)), .val (.int (4 : Int32)), .val (.int pl)] []))
  refine own_step (b := T0.setTop (mkF m 8 #[.val (.ref a), .val (.int (2 : Int32)), .val (.int (4 : Int32)), .val (.int pl)] [(.ref a)])) (fun t k => XS.aloadN X0.here hx rfl (hb hby d11_7) rfl rfl k) ?_
  refine own_step (b := T0.setTop (mkF m 9 #[.val (.ref a), .val (.int (2 : Int32)), .val (.int (4 : Int32)), .val (.int pl)] [(.int (2 : Int32)), (.ref a)])) (fun t k => XS.iloadN X0.here hx rfl (hb hby d11_8) rfl k) ?_
  refine own_ldC X0 hx hZ e0 V 2 (by decide) (by decide) (by decide) (v := (.int c2)) rfl (hb hby d11_9) ?_
  show own_G p e below _ (T0.setTop (mkF m 10 #[.val (.ref a), .val (.int (2 : Int32)), .val (.int (4 : Int32)), .val (.int pl)] [(.int c2)]))
  refine own_step (b := T0.setTop (mkF m 12 #[.val (.ref a), .val (.int (2 : Int32)), .val (.int (4 : Int32)), .val (.int pl)] [(.int (46 : Int32)), (.int c2)])) (fun t k => XS.bipush X0.here hx rfl (hb hby d11_10) k) ?_
  refine own_icmp_ne X0 hx (hb hby d11_12) (pc' := 47) (by decide) (by decide) (fun c12_2 => ?_) (fun c12_2 => ?_)
  · show own_G p e below _ (T0.setTop (mkF m 47 #[.val (.ref a), .val (.int (2 : Int32)), .val (.int (4 : Int32)), .val (.int pl)] []))
    refine own_step (b := T0.setTop (mkF m 48 #[.val (.ref a), .val (.int (2 : Int32)), .val (.int (4 : Int32)), .val (.int pl)] [(.int (0 : Int32))])) (fun t k => XS.iconst X0.here hx rfl (hb hby d11_47) k) ?_
    exact own_retN X0 hx hret (by simp) hlk (hb hby d11_48) ⟨by rw [show (decide (c2 = 46) && ((own_dig c0 && own_dig c1) && !decide (c0 = 48)) && (own_dig c3) && !decide (pl < 1)) = false by simp [c12_2, own_dig46]]; rfl, rfl, e0⟩ (by decide) (by decide)
  · show own_G p e below _ (T0.setTop (mkF m 15 #[.val (.ref a), .val (.int (2 : Int32)), .val (.int (4 : Int32)), .val (.int pl)] []))
    refine own_step (b := T0.setTop (mkF m 16 #[.val (.ref a), .val (.int (2 : Int32)), .val (.int (4 : Int32)), .val (.int pl)] [(.ref a)])) (fun t k => XS.aloadN X0.here hx rfl (hb hby d11_15) rfl rfl k) ?_
    refine own_step (b := T0.setTop (mkF m 17 #[.val (.ref a), .val (.int (2 : Int32)), .val (.int (4 : Int32)), .val (.int pl)] [(.int (2 : Int32)), (.ref a)])) (fun t k => XS.iloadN X0.here hx rfl (hb hby d11_16) rfl k) ?_
    refine own_staticP (W := 0) (argsL := [(.ref a), (.int (2 : Int32))]) (st := []) X0 hx hZ hown (own_w hw 35 rfl) (own_w hw 36 rfl) (own_w hw 3 rfl) (own_w hw 37 rfl) (by decide) e0 (rmWhole_2 l Z a0 hw [] a kA c0 c1 c2 c3 h0 V) (by decide) (by decide) (by decide) (by decide) (by rw [hml]; rfl) (lenOf pd2 rfl) rfl (Nat.le_of_ble_eq_true rfl) (hb hby d11_17) (fun T3 X3 e3 => ?_)
    show own_G p e below _ (T3.setTop (mkF m 20 #[.val (.ref a), .val (.int (2 : Int32)), .val (.int (4 : Int32)), .val (.int pl)] [(.int (own_bi ((own_dig c0 && own_dig c1) && !decide (c0 = 48))))]))
    refine own_if_eq X3 hx (hb hby d11_20) (pc' := 47) (by decide) (by decide) (fun c20_4 => ?_) (fun c20_4 => ?_)
    · show own_G p e below _ (T3.setTop (mkF m 47 #[.val (.ref a), .val (.int (2 : Int32)), .val (.int (4 : Int32)), .val (.int pl)] []))
      have c20_4b : ((own_dig c0 && own_dig c1) && !decide (c0 = 48)) = false := own_bi_f c20_4
      refine own_step (b := T3.setTop (mkF m 48 #[.val (.ref a), .val (.int (2 : Int32)), .val (.int (4 : Int32)), .val (.int pl)] [(.int (0 : Int32))])) (fun t k => XS.iconst X3.here hx rfl (hb hby d11_47) k) ?_
      exact own_retN X3 hx hret (by simp) hlk (hb hby d11_48) ⟨by rw [show (decide (c2 = 46) && ((own_dig c0 && own_dig c1) && !decide (c0 = 48)) && (own_dig c3) && !decide (pl < 1)) = false by simp [c12_2, c20_4b, own_dig46]]; rfl, rfl, e3⟩ (by decide) (by decide)
    · show own_G p e below _ (T3.setTop (mkF m 23 #[.val (.ref a), .val (.int (2 : Int32)), .val (.int (4 : Int32)), .val (.int pl)] []))
      have c20_4b : ((own_dig c0 && own_dig c1) && !decide (c0 = 48)) = true := own_bi_t c20_4
      refine own_step (b := T3.setTop (mkF m 24 #[.val (.ref a), .val (.int (2 : Int32)), .val (.int (4 : Int32)), .val (.int pl)] [(.ref a)])) (fun t k => XS.aloadN X3.here hx rfl (hb hby d11_23) rfl rfl k) ?_
      refine own_step (b := T3.setTop (mkF m 25 #[.val (.ref a), .val (.int (2 : Int32)), .val (.int (4 : Int32)), .val (.int pl)] [(.int (2 : Int32)), (.ref a)])) (fun t k => XS.iloadN X3.here hx rfl (hb hby d11_24) rfl k) ?_
      refine own_step (b := T3.setTop (mkF m 26 #[.val (.ref a), .val (.int (2 : Int32)), .val (.int (4 : Int32)), .val (.int pl)] [(.int (1 : Int32)), (.int (2 : Int32)), (.ref a)])) (fun t k => XS.iconst X3.here hx rfl (hb hby d11_25) k) ?_
      refine own_step (b := T3.setTop (mkF m 27 #[.val (.ref a), .val (.int (2 : Int32)), .val (.int (4 : Int32)), .val (.int pl)] [(.int (3 : Int32)), (.ref a)])) (fun t k => XS.iadd X3.here hx rfl (hb hby d11_26) rfl k) ?_
      refine own_step (b := T3.setTop (mkF m 28 #[.val (.ref a), .val (.int (2 : Int32)), .val (.int (4 : Int32)), .val (.int pl)] [(.int (4 : Int32)), (.int (3 : Int32)), (.ref a)])) (fun t k => XS.iloadN X3.here hx rfl (hb hby d11_27) rfl k) ?_
      refine own_staticP (W := 0) (argsL := [(.ref a), (.int (3 : Int32)), (.int (4 : Int32))]) (st := []) X3 hx hZ hown (own_w hw 38 rfl) (own_w hw 39 rfl) (own_w hw 3 rfl) (own_w hw 40 rfl) (by decide) e3 (rmDigs_3_4 l Z a0 hw [] a kA c0 c1 c2 c3 h0 V) (by decide) (by decide) (by decide) (by decide) (by rw [hml]; rfl) (lenOf pd1 rfl) rfl (Nat.le_of_ble_eq_true rfl) (hb hby d11_28) (fun T5 X5 e5 => ?_)
      show own_G p e below _ (T5.setTop (mkF m 31 #[.val (.ref a), .val (.int (2 : Int32)), .val (.int (4 : Int32)), .val (.int pl)] [(.int (own_bi (own_dig c3)))]))
      refine own_if_eq X5 hx (hb hby d11_31) (pc' := 47) (by decide) (by decide) (fun c31_6 => ?_) (fun c31_6 => ?_)
      · show own_G p e below _ (T5.setTop (mkF m 47 #[.val (.ref a), .val (.int (2 : Int32)), .val (.int (4 : Int32)), .val (.int pl)] []))
        have c31_6b : (own_dig c3) = false := own_bi_f c31_6
        refine own_step (b := T5.setTop (mkF m 48 #[.val (.ref a), .val (.int (2 : Int32)), .val (.int (4 : Int32)), .val (.int pl)] [(.int (0 : Int32))])) (fun t k => XS.iconst X5.here hx rfl (hb hby d11_47) k) ?_
        exact own_retN X5 hx hret (by simp) hlk (hb hby d11_48) ⟨by rw [show (decide (c2 = 46) && ((own_dig c0 && own_dig c1) && !decide (c0 = 48)) && (own_dig c3) && !decide (pl < 1)) = false by simp [c12_2, c20_4b, c31_6b, own_dig46]]; rfl, rfl, e5⟩ (by decide) (by decide)
      · show own_G p e below _ (T5.setTop (mkF m 34 #[.val (.ref a), .val (.int (2 : Int32)), .val (.int (4 : Int32)), .val (.int pl)] []))
        have c31_6b : (own_dig c3) = true := own_bi_t c31_6
        refine own_step (b := T5.setTop (mkF m 35 #[.val (.ref a), .val (.int (2 : Int32)), .val (.int (4 : Int32)), .val (.int pl)] [(.int (4 : Int32))])) (fun t k => XS.iloadN X5.here hx rfl (hb hby d11_34) rfl k) ?_
        refine own_step (b := T5.setTop (mkF m 36 #[.val (.ref a), .val (.int (2 : Int32)), .val (.int (4 : Int32)), .val (.int pl)] [(.int (2 : Int32)), (.int (4 : Int32))])) (fun t k => XS.iloadN X5.here hx rfl (hb hby d11_35) rfl k) ?_
        refine own_step (b := T5.setTop (mkF m 37 #[.val (.ref a), .val (.int (2 : Int32)), .val (.int (4 : Int32)), .val (.int pl)] [(.int (2 : Int32))])) (fun t k => XS.isub X5.here hx rfl (hb hby d11_36) rfl k) ?_
        refine own_step (b := T5.setTop (mkF m 38 #[.val (.ref a), .val (.int (2 : Int32)), .val (.int (4 : Int32)), .val (.int pl)] [(.int (1 : Int32)), (.int (2 : Int32))])) (fun t k => XS.iconst X5.here hx rfl (hb hby d11_37) k) ?_
        refine own_step (b := T5.setTop (mkF m 39 #[.val (.ref a), .val (.int (2 : Int32)), .val (.int (4 : Int32)), .val (.int pl)] [(.int (1 : Int32))])) (fun t k => XS.isub X5.here hx rfl (hb hby d11_38) rfl k) ?_
        refine own_step (b := T5.setTop (mkF m 40 #[.val (.ref a), .val (.int (2 : Int32)), .val (.int (4 : Int32)), .val (.int pl)] [(.int pl), (.int (1 : Int32))])) (fun t k => XS.iloadN X5.here hx rfl (hb hby d11_39) rfl k) ?_
        refine own_icmp_gt X5 hx (hb hby d11_40) (pc' := 47) (by decide) (by decide) (fun c40_7 => ?_) (fun c40_7 => ?_)
        · show own_G p e below _ (T5.setTop (mkF m 47 #[.val (.ref a), .val (.int (2 : Int32)), .val (.int (4 : Int32)), .val (.int pl)] []))
          refine own_step (b := T5.setTop (mkF m 48 #[.val (.ref a), .val (.int (2 : Int32)), .val (.int (4 : Int32)), .val (.int pl)] [(.int (0 : Int32))])) (fun t k => XS.iconst X5.here hx rfl (hb hby d11_47) k) ?_
          exact own_retN X5 hx hret (by simp) hlk (hb hby d11_48) ⟨by rw [show (decide (c2 = 46) && ((own_dig c0 && own_dig c1) && !decide (c0 = 48)) && (own_dig c3) && !decide (pl < 1)) = false by simp [c12_2, c20_4b, c31_6b, c40_7, own_dig46]]; rfl, rfl, e5⟩ (by decide) (by decide)
        · show own_G p e below _ (T5.setTop (mkF m 43 #[.val (.ref a), .val (.int (2 : Int32)), .val (.int (4 : Int32)), .val (.int pl)] []))
          refine own_step (b := T5.setTop (mkF m 44 #[.val (.ref a), .val (.int (2 : Int32)), .val (.int (4 : Int32)), .val (.int pl)] [(.int (1 : Int32))])) (fun t k => XS.iconst X5.here hx rfl (hb hby d11_43) k) ?_
          refine own_step (b := T5.setTop (mkF m 48 #[.val (.ref a), .val (.int (2 : Int32)), .val (.int (4 : Int32)), .val (.int pl)] [(.int (1 : Int32))])) (fun t k => XS.goto X5.here hx rfl (pc0 := 44) (pc' := 48) rfl (hb hby d11_44) (by decide) (by decide) k) ?_
          exact own_retN X5 hx hret (by simp) hlk (hb hby d11_48) ⟨by rw [show (decide (c2 = 46) && ((own_dig c0 && own_dig c1) && !decide (c0 = 48)) && (own_dig c3) && !decide (pl < 1)) = true by simp [c12_2, c20_4b, c31_6b, c40_7, own_dig46]]; rfl, rfl, e5⟩ (by decide) (by decide)
/-! a Latin-1 String of known chars, in one word -/
def own_Str (Z : State) (h : Heap) (x : Addr) (cs : List Int32) : Prop := Exa Z h x "java/lang/String" ∧ (∀ c ∈ cs, ¬ c < 0 ∧ ¬ (255 : Int32) < c) ∧ cs.length ≤ 4000 ∧ Fld Z h x "java/lang/String" "coder" "B" (.int 0) ∧ ∃ (t : Addr) (kb : ClassId), Fld Z h x "java/lang/String" "value" "[B" (.ref t) ∧ Arv Z h t kb .byte (Int32.ofNat cs.length) ((cs.map (fun c => c.toInt8.toInt32)).map Value.int) (.int 0)
theorem own_Str.ext {Z : State} {h h' : Heap} {x : Addr} {cs : List Int32} (S : own_Str Z h x cs) (E : Ext h h') : own_Str Z h' x cs := by
  obtain ⟨s1, s2, s3, s4, t, kb, s5, s6⟩ := S
  exact ⟨s1.ext E, s2, s3, s4.ext E, t, kb, s5.ext E, s6.ext E⟩
theorem own_up (cs : List Int32) (h : ∀ c ∈ cs, ¬ c < 0 ∧ ¬ (255 : Int32) < c) : ∀ c ∈ cs, ¬ c < 0 ∧ ¬ (65535 : Int32) < c := fun c hc => ⟨(h c hc).1, fun q => (h c hc).2 (by rw [Int32.lt_iff_toInt_lt] at q ⊢; have e1 : (65535 : Int32).toInt = 65535 := rfl; have e2 : (255 : Int32).toInt = 255 := rfl; omega)⟩

theorem own_chB {p : Program} {l : Launch} {e : Env} {R : Room} {s : State} {args : Array Value} {below : List Frame} {W : Nat} {Z : State} {a0 : Array Value} {h : Heap} (hZ : Z.Warmed39 s.vm) (hw : ∀ d ∈ tables_1, d.before a0 Z = true) {kI : Nat} (wi : (Jvm.Cond.instantiable "java/lang/String" kI).before a0 Z = true) {x : Addr} {cs : List Int32} (SS : own_Str Z h x cs)
    {G1 : Int32} (O2 : Sta Z Z.heap "java/lang/String" "COMPACT_STRINGS" "Z" (.int G1)) (P5 : ¬ (G1 = (0 : Int32))) {G3 : Value} (O4 : Sta Z Z.heap "jdk/internal/util/Preconditions" "SIOOBE_FORMATTER" "Ljava/util/function/BiFunction;" G3) (rG3 : G3.isRef = true) (OL : Old Z Z.heap.size h) (i : Nat) (hi : i < cs.length) {j : Int32} (hj : j = Int32.ofNat i) {r : Int32} (hr : cs.getD i 0 = r) (hfr : 4 ≤ R.frames) (hlo : W + 53 ≤ R.locals) :
    own_B l R p e below s args (⟨"java/lang/String", "charAt", "(I)C"⟩ : MethodName) W #[.ref x, .int j] h 0 0 (own_P (some (.int r)) h) := by
  obtain ⟨s1, s2, s3, s4, t, kb, s5, s6⟩ := SS
  subst hr
  exact StrChars.Road.chN hZ (fun d hd => hw d ((by decide +kernel : ∀ d ∈ StrChars.Road.wordsChN, d ∈ tables_1) d hd)) wi s1 s5 s4 s6 (StrChars.Road.codOf rfl fun c hc => (s2 c hc).2) (own_up cs s2) (O2.ext OL.2) P5 (O4.ext OL.2) rG3 s3 hi hj hfr hlo

theorem ef_isd (m : MethodId) (x : Addr) (f t : Int32) : entryFrame m #[(.ref x), (.int f), (.int t)] 5 = mkF m 0 #[.val (.ref x), .val (.int f), .val (.int t), .unset, .unset] [] := by first | (simp [entryFrame, mkF, argsToLocals, Value.category, maxLocals]; done) | rfl
set_option maxRecDepth 65536 in
set_option maxHeartbeats 40000000 in
theorem rmIsd_0_1 (l : Launch) (Z : State) (a0 : Array Value) (hw : ∀ d ∈ tables_1, d.before a0 Z = true) (ws : List Jvm.Cond) (x : Addr) (c0 c1 c2 c3 : Int32) (h0 : Heap) (SS : own_Str Z h0 x [c0, c1, c2, c3]) (OL0 : Old Z Z.heap.size h0) (G1 : Int32) (O2 : Sta Z Z.heap "java/lang/String" "COMPACT_STRINGS" "Z" (.int G1)) (P5 : ¬ (G1 = (0 : Int32))) (G3 : Value) (O4 : Sta Z Z.heap "jdk/internal/util/Preconditions" "SIOOBE_FORMATTER" "Ljava/util/function/BiFunction;" G3) (rG3 : G3.isRef = true) :
    own_Met l Z (⟨"com/example/drawdown/drawdown/PlainDecimal", "isDigits", "(Ljava/lang/String;II)Z"⟩ : MethodName) prog_8_method_4_code 5 (some .boolean) ws ⟨4, 0, 0, 53⟩ #[(.ref x), (.int (0 : Int32)), (.int (1 : Int32))] h0 (own_P (some (.int (own_bi (own_dig c0)))) h0) := by
  refine own_enter (plainFor_of_name pn1) (fun m => ef_isd m x (0 : Int32) (1 : Int32)) ?_
  intro p e s m below meth c T0 hx hby hml hZ hown hnm hret hlk X0 e0
  show own_G p e below _ (T0.setTop (mkF m 0 #[.val (.ref x), .val (.int (0 : Int32)), .val (.int (1 : Int32)), .unset, .unset] []))
  refine own_step (b := T0.setTop (mkF m 1 #[.val (.ref x), .val (.int (0 : Int32)), .val (.int (1 : Int32)), .unset, .unset] [(.int (0 : Int32))])) (fun t k => XS.iloadN X0.here hx rfl (hb hby d18_0) rfl k) ?_
  refine own_step (b := T0.setTop (mkF m 2 #[.val (.ref x), .val (.int (0 : Int32)), .val (.int (1 : Int32)), .val (.int (0 : Int32)), .unset] [])) (fun t k => XS.istoreN X0.here hx rfl (hb hby d18_1) rfl (l' := #[.val (.ref x), .val (.int (0 : Int32)), .val (.int (1 : Int32)), .val (.int (0 : Int32)), .unset]) rfl k) ?_
  refine own_step (b := T0.setTop (mkF m 3 #[.val (.ref x), .val (.int (0 : Int32)), .val (.int (1 : Int32)), .val (.int (0 : Int32)), .unset] [(.int (0 : Int32))])) (fun t k => XS.iloadN X0.here hx rfl (hb hby d18_2) rfl k) ?_
  refine own_step (b := T0.setTop (mkF m 4 #[.val (.ref x), .val (.int (0 : Int32)), .val (.int (1 : Int32)), .val (.int (0 : Int32)), .unset] [(.int (1 : Int32)), (.int (0 : Int32))])) (fun t k => XS.iloadN X0.here hx rfl (hb hby d18_3) rfl k) ?_
  refine own_icmp_ge X0 hx (hb hby d18_4) (pc' := 36) (by decide) (by decide) (fun c4_1 => absurd c4_1 (by decide)) (fun c4_1 => ?_)
  show own_G p e below _ (T0.setTop (mkF m 7 #[.val (.ref x), .val (.int (0 : Int32)), .val (.int (1 : Int32)), .val (.int (0 : Int32)), .unset] []))
  refine own_step (b := T0.setTop (mkF m 8 #[.val (.ref x), .val (.int (0 : Int32)), .val (.int (1 : Int32)), .val (.int (0 : Int32)), .unset] [(.ref x)])) (fun t k => XS.aloadN X0.here hx rfl (hb hby d18_7) rfl rfl k) ?_
  refine own_step (b := T0.setTop (mkF m 9 #[.val (.ref x), .val (.int (0 : Int32)), .val (.int (1 : Int32)), .val (.int (0 : Int32)), .unset] [(.int (0 : Int32)), (.ref x)])) (fun t k => XS.iloadN X0.here hx rfl (hb hby d18_8) rfl k) ?_
  refine own_virtual (a := x) (W := 0) (argsL := [(.int (0 : Int32))]) (st := []) X0 hx hZ hown (own_w hw 51 rfl) (own_w hw 52 rfl) (own_w hw 54 rfl) rfl (own_w hw 53 rfl) (by decide) e0 SS.1 (own_chB (W := 0) hZ hw (kI := 4) (own_w hw 6 rfl) SS O2 P5 O4 rG3 OL0 0 (Nat.le_of_ble_eq_true rfl) (j := (0 : Int32)) rfl (r := c0) rfl (by decide) (by decide)) (by decide) (by decide) (by rw [hml]; rfl) (lenOf pd3 rfl) rfl (Nat.le_of_ble_eq_true rfl) (hb hby d18_9) (fun v2 T2 L2 X2 hQ2 => ?_)
  obtain ⟨rfl, rfl, hh2⟩ := hQ2
  rw [List.append_nil] at X2
  show own_G p e below _ (T2.setTop (mkF m 12 #[.val (.ref x), .val (.int (0 : Int32)), .val (.int (1 : Int32)), .val (.int (0 : Int32)), .unset] [(.int c0)]))
  refine own_step (b := T2.setTop (mkF m 14 #[.val (.ref x), .val (.int (0 : Int32)), .val (.int (1 : Int32)), .val (.int (0 : Int32)), .val (.int c0)] [])) (fun t k => XS.istore X2.here hx rfl (hb hby d18_12) rfl (l' := #[.val (.ref x), .val (.int (0 : Int32)), .val (.int (1 : Int32)), .val (.int (0 : Int32)), .val (.int c0)]) rfl k) ?_
  refine own_step (b := T2.setTop (mkF m 16 #[.val (.ref x), .val (.int (0 : Int32)), .val (.int (1 : Int32)), .val (.int (0 : Int32)), .val (.int c0)] [(.int c0)])) (fun t k => XS.iload X2.here hx rfl (hb hby d18_14) rfl k) ?_
  refine own_step (b := T2.setTop (mkF m 18 #[.val (.ref x), .val (.int (0 : Int32)), .val (.int (1 : Int32)), .val (.int (0 : Int32)), .val (.int c0)] [(.int (48 : Int32)), (.int c0)])) (fun t k => XS.bipush X2.here hx rfl (hb hby d18_16) k) ?_
  refine own_icmp_lt X2 hx (hb hby d18_18) (pc' := 28) (by decide) (by decide) (fun c18_3 => ?_) (fun c18_3 => ?_)
  · show own_G p e below _ (T2.setTop (mkF m 28 #[.val (.ref x), .val (.int (0 : Int32)), .val (.int (1 : Int32)), .val (.int (0 : Int32)), .val (.int c0)] []))
    refine own_step (b := T2.setTop (mkF m 29 #[.val (.ref x), .val (.int (0 : Int32)), .val (.int (1 : Int32)), .val (.int (0 : Int32)), .val (.int c0)] [(.int (0 : Int32))])) (fun t k => XS.iconst X2.here hx rfl (hb hby d18_28) k) ?_
    exact own_retN X2 hx hret (by simp) hlk (hb hby d18_29) ⟨by rw [show (own_dig c0) = false by simp [c18_3, own_dig46, own_dig]]; rfl, rfl, hh2⟩ (by decide) (by decide)
  · show own_G p e below _ (T2.setTop (mkF m 21 #[.val (.ref x), .val (.int (0 : Int32)), .val (.int (1 : Int32)), .val (.int (0 : Int32)), .val (.int c0)] []))
    refine own_step (b := T2.setTop (mkF m 23 #[.val (.ref x), .val (.int (0 : Int32)), .val (.int (1 : Int32)), .val (.int (0 : Int32)), .val (.int c0)] [(.int c0)])) (fun t k => XS.iload X2.here hx rfl (hb hby d18_21) rfl k) ?_
    refine own_step (b := T2.setTop (mkF m 25 #[.val (.ref x), .val (.int (0 : Int32)), .val (.int (1 : Int32)), .val (.int (0 : Int32)), .val (.int c0)] [(.int (57 : Int32)), (.int c0)])) (fun t k => XS.bipush X2.here hx rfl (hb hby d18_23) k) ?_
    refine own_icmp_le X2 hx (hb hby d18_25) (pc' := 30) (by decide) (by decide) (fun c25_4 => ?_) (fun c25_4 => ?_)
    · show own_G p e below _ (T2.setTop (mkF m 30 #[.val (.ref x), .val (.int (0 : Int32)), .val (.int (1 : Int32)), .val (.int (0 : Int32)), .val (.int c0)] []))
      refine own_step (b := T2.setTop (mkF m 33 #[.val (.ref x), .val (.int (0 : Int32)), .val (.int (1 : Int32)), .val (.int (1 : Int32)), .val (.int c0)] [])) (fun t k => XS.iinc X2.here hx rfl (hb hby d18_30) rfl (l' := #[.val (.ref x), .val (.int (0 : Int32)), .val (.int (1 : Int32)), .val (.int (1 : Int32)), .val (.int c0)]) rfl k) ?_
      refine own_step (b := T2.setTop (mkF m 2 #[.val (.ref x), .val (.int (0 : Int32)), .val (.int (1 : Int32)), .val (.int (1 : Int32)), .val (.int c0)] [])) (fun t k => XS.goto X2.here hx rfl (pc0 := 33) (pc' := 2) rfl (hb hby d18_33) (by decide) (by decide) k) ?_
      refine own_step (b := T2.setTop (mkF m 3 #[.val (.ref x), .val (.int (0 : Int32)), .val (.int (1 : Int32)), .val (.int (1 : Int32)), .val (.int c0)] [(.int (1 : Int32))])) (fun t k => XS.iloadN X2.here hx rfl (hb hby d18_2) rfl k) ?_
      refine own_step (b := T2.setTop (mkF m 4 #[.val (.ref x), .val (.int (0 : Int32)), .val (.int (1 : Int32)), .val (.int (1 : Int32)), .val (.int c0)] [(.int (1 : Int32)), (.int (1 : Int32))])) (fun t k => XS.iloadN X2.here hx rfl (hb hby d18_3) rfl k) ?_
      refine own_icmp_ge X2 hx (hb hby d18_4) (pc' := 36) (by decide) (by decide) (fun c4_5 => ?_) (fun c4_5 => absurd c4_5 (by decide))
      show own_G p e below _ (T2.setTop (mkF m 36 #[.val (.ref x), .val (.int (0 : Int32)), .val (.int (1 : Int32)), .val (.int (1 : Int32)), .val (.int c0)] []))
      refine own_step (b := T2.setTop (mkF m 37 #[.val (.ref x), .val (.int (0 : Int32)), .val (.int (1 : Int32)), .val (.int (1 : Int32)), .val (.int c0)] [(.int (1 : Int32))])) (fun t k => XS.iconst X2.here hx rfl (hb hby d18_36) k) ?_
      exact own_retN X2 hx hret (by simp) hlk (hb hby d18_37) ⟨by rw [show (own_dig c0) = true by simp [c18_3, c25_4, own_dig46, own_dig]]; rfl, rfl, hh2⟩ (by decide) (by decide)
    · show own_G p e below _ (T2.setTop (mkF m 28 #[.val (.ref x), .val (.int (0 : Int32)), .val (.int (1 : Int32)), .val (.int (0 : Int32)), .val (.int c0)] []))
      refine own_step (b := T2.setTop (mkF m 29 #[.val (.ref x), .val (.int (0 : Int32)), .val (.int (1 : Int32)), .val (.int (0 : Int32)), .val (.int c0)] [(.int (0 : Int32))])) (fun t k => XS.iconst X2.here hx rfl (hb hby d18_28) k) ?_
      exact own_retN X2 hx hret (by simp) hlk (hb hby d18_29) ⟨by rw [show (own_dig c0) = false by simp [c18_3, c25_4, own_dig46, own_dig]]; rfl, rfl, hh2⟩ (by decide) (by decide)
set_option maxRecDepth 65536 in
set_option maxHeartbeats 40000000 in
theorem rmIsd_0_2 (l : Launch) (Z : State) (a0 : Array Value) (hw : ∀ d ∈ tables_1, d.before a0 Z = true) (ws : List Jvm.Cond) (x : Addr) (c0 c1 c2 c3 : Int32) (h0 : Heap) (SS : own_Str Z h0 x [c0, c1, c2, c3]) (OL0 : Old Z Z.heap.size h0) (G1 : Int32) (O2 : Sta Z Z.heap "java/lang/String" "COMPACT_STRINGS" "Z" (.int G1)) (P5 : ¬ (G1 = (0 : Int32))) (G3 : Value) (O4 : Sta Z Z.heap "jdk/internal/util/Preconditions" "SIOOBE_FORMATTER" "Ljava/util/function/BiFunction;" G3) (rG3 : G3.isRef = true) :
    own_Met l Z (⟨"com/example/drawdown/drawdown/PlainDecimal", "isDigits", "(Ljava/lang/String;II)Z"⟩ : MethodName) prog_8_method_4_code 5 (some .boolean) ws ⟨4, 0, 0, 53⟩ #[(.ref x), (.int (0 : Int32)), (.int (2 : Int32))] h0 (own_P (some (.int (own_bi (own_dig c0 && own_dig c1)))) h0) := by
  refine own_enter (plainFor_of_name pn1) (fun m => ef_isd m x (0 : Int32) (2 : Int32)) ?_
  intro p e s m below meth c T0 hx hby hml hZ hown hnm hret hlk X0 e0
  show own_G p e below _ (T0.setTop (mkF m 0 #[.val (.ref x), .val (.int (0 : Int32)), .val (.int (2 : Int32)), .unset, .unset] []))
  refine own_step (b := T0.setTop (mkF m 1 #[.val (.ref x), .val (.int (0 : Int32)), .val (.int (2 : Int32)), .unset, .unset] [(.int (0 : Int32))])) (fun t k => XS.iloadN X0.here hx rfl (hb hby d18_0) rfl k) ?_
  refine own_step (b := T0.setTop (mkF m 2 #[.val (.ref x), .val (.int (0 : Int32)), .val (.int (2 : Int32)), .val (.int (0 : Int32)), .unset] [])) (fun t k => XS.istoreN X0.here hx rfl (hb hby d18_1) rfl (l' := #[.val (.ref x), .val (.int (0 : Int32)), .val (.int (2 : Int32)), .val (.int (0 : Int32)), .unset]) rfl k) ?_
  refine own_step (b := T0.setTop (mkF m 3 #[.val (.ref x), .val (.int (0 : Int32)), .val (.int (2 : Int32)), .val (.int (0 : Int32)), .unset] [(.int (0 : Int32))])) (fun t k => XS.iloadN X0.here hx rfl (hb hby d18_2) rfl k) ?_
  refine own_step (b := T0.setTop (mkF m 4 #[.val (.ref x), .val (.int (0 : Int32)), .val (.int (2 : Int32)), .val (.int (0 : Int32)), .unset] [(.int (2 : Int32)), (.int (0 : Int32))])) (fun t k => XS.iloadN X0.here hx rfl (hb hby d18_3) rfl k) ?_
  refine own_icmp_ge X0 hx (hb hby d18_4) (pc' := 36) (by decide) (by decide) (fun c4_1 => absurd c4_1 (by decide)) (fun c4_1 => ?_)
  show own_G p e below _ (T0.setTop (mkF m 7 #[.val (.ref x), .val (.int (0 : Int32)), .val (.int (2 : Int32)), .val (.int (0 : Int32)), .unset] []))
  refine own_step (b := T0.setTop (mkF m 8 #[.val (.ref x), .val (.int (0 : Int32)), .val (.int (2 : Int32)), .val (.int (0 : Int32)), .unset] [(.ref x)])) (fun t k => XS.aloadN X0.here hx rfl (hb hby d18_7) rfl rfl k) ?_
  refine own_step (b := T0.setTop (mkF m 9 #[.val (.ref x), .val (.int (0 : Int32)), .val (.int (2 : Int32)), .val (.int (0 : Int32)), .unset] [(.int (0 : Int32)), (.ref x)])) (fun t k => XS.iloadN X0.here hx rfl (hb hby d18_8) rfl k) ?_
  refine own_virtual (a := x) (W := 0) (argsL := [(.int (0 : Int32))]) (st := []) X0 hx hZ hown (own_w hw 51 rfl) (own_w hw 52 rfl) (own_w hw 54 rfl) rfl (own_w hw 53 rfl) (by decide) e0 SS.1 (own_chB (W := 0) hZ hw (kI := 4) (own_w hw 6 rfl) SS O2 P5 O4 rG3 OL0 0 (Nat.le_of_ble_eq_true rfl) (j := (0 : Int32)) rfl (r := c0) rfl (by decide) (by decide)) (by decide) (by decide) (by rw [hml]; rfl) (lenOf pd3 rfl) rfl (Nat.le_of_ble_eq_true rfl) (hb hby d18_9) (fun v2 T2 L2 X2 hQ2 => ?_)
  obtain ⟨rfl, rfl, hh2⟩ := hQ2
  rw [List.append_nil] at X2
  show own_G p e below _ (T2.setTop (mkF m 12 #[.val (.ref x), .val (.int (0 : Int32)), .val (.int (2 : Int32)), .val (.int (0 : Int32)), .unset] [(.int c0)]))
  refine own_step (b := T2.setTop (mkF m 14 #[.val (.ref x), .val (.int (0 : Int32)), .val (.int (2 : Int32)), .val (.int (0 : Int32)), .val (.int c0)] [])) (fun t k => XS.istore X2.here hx rfl (hb hby d18_12) rfl (l' := #[.val (.ref x), .val (.int (0 : Int32)), .val (.int (2 : Int32)), .val (.int (0 : Int32)), .val (.int c0)]) rfl k) ?_
  refine own_step (b := T2.setTop (mkF m 16 #[.val (.ref x), .val (.int (0 : Int32)), .val (.int (2 : Int32)), .val (.int (0 : Int32)), .val (.int c0)] [(.int c0)])) (fun t k => XS.iload X2.here hx rfl (hb hby d18_14) rfl k) ?_
  refine own_step (b := T2.setTop (mkF m 18 #[.val (.ref x), .val (.int (0 : Int32)), .val (.int (2 : Int32)), .val (.int (0 : Int32)), .val (.int c0)] [(.int (48 : Int32)), (.int c0)])) (fun t k => XS.bipush X2.here hx rfl (hb hby d18_16) k) ?_
  refine own_icmp_lt X2 hx (hb hby d18_18) (pc' := 28) (by decide) (by decide) (fun c18_3 => ?_) (fun c18_3 => ?_)
  · show own_G p e below _ (T2.setTop (mkF m 28 #[.val (.ref x), .val (.int (0 : Int32)), .val (.int (2 : Int32)), .val (.int (0 : Int32)), .val (.int c0)] []))
    refine own_step (b := T2.setTop (mkF m 29 #[.val (.ref x), .val (.int (0 : Int32)), .val (.int (2 : Int32)), .val (.int (0 : Int32)), .val (.int c0)] [(.int (0 : Int32))])) (fun t k => XS.iconst X2.here hx rfl (hb hby d18_28) k) ?_
    exact own_retN X2 hx hret (by simp) hlk (hb hby d18_29) ⟨by rw [show (own_dig c0 && own_dig c1) = false by simp [c18_3, own_dig46, own_dig]]; rfl, rfl, hh2⟩ (by decide) (by decide)
  · show own_G p e below _ (T2.setTop (mkF m 21 #[.val (.ref x), .val (.int (0 : Int32)), .val (.int (2 : Int32)), .val (.int (0 : Int32)), .val (.int c0)] []))
    refine own_step (b := T2.setTop (mkF m 23 #[.val (.ref x), .val (.int (0 : Int32)), .val (.int (2 : Int32)), .val (.int (0 : Int32)), .val (.int c0)] [(.int c0)])) (fun t k => XS.iload X2.here hx rfl (hb hby d18_21) rfl k) ?_
    refine own_step (b := T2.setTop (mkF m 25 #[.val (.ref x), .val (.int (0 : Int32)), .val (.int (2 : Int32)), .val (.int (0 : Int32)), .val (.int c0)] [(.int (57 : Int32)), (.int c0)])) (fun t k => XS.bipush X2.here hx rfl (hb hby d18_23) k) ?_
    refine own_icmp_le X2 hx (hb hby d18_25) (pc' := 30) (by decide) (by decide) (fun c25_4 => ?_) (fun c25_4 => ?_)
    · show own_G p e below _ (T2.setTop (mkF m 30 #[.val (.ref x), .val (.int (0 : Int32)), .val (.int (2 : Int32)), .val (.int (0 : Int32)), .val (.int c0)] []))
      refine own_step (b := T2.setTop (mkF m 33 #[.val (.ref x), .val (.int (0 : Int32)), .val (.int (2 : Int32)), .val (.int (1 : Int32)), .val (.int c0)] [])) (fun t k => XS.iinc X2.here hx rfl (hb hby d18_30) rfl (l' := #[.val (.ref x), .val (.int (0 : Int32)), .val (.int (2 : Int32)), .val (.int (1 : Int32)), .val (.int c0)]) rfl k) ?_
      refine own_step (b := T2.setTop (mkF m 2 #[.val (.ref x), .val (.int (0 : Int32)), .val (.int (2 : Int32)), .val (.int (1 : Int32)), .val (.int c0)] [])) (fun t k => XS.goto X2.here hx rfl (pc0 := 33) (pc' := 2) rfl (hb hby d18_33) (by decide) (by decide) k) ?_
      refine own_step (b := T2.setTop (mkF m 3 #[.val (.ref x), .val (.int (0 : Int32)), .val (.int (2 : Int32)), .val (.int (1 : Int32)), .val (.int c0)] [(.int (1 : Int32))])) (fun t k => XS.iloadN X2.here hx rfl (hb hby d18_2) rfl k) ?_
      refine own_step (b := T2.setTop (mkF m 4 #[.val (.ref x), .val (.int (0 : Int32)), .val (.int (2 : Int32)), .val (.int (1 : Int32)), .val (.int c0)] [(.int (2 : Int32)), (.int (1 : Int32))])) (fun t k => XS.iloadN X2.here hx rfl (hb hby d18_3) rfl k) ?_
      refine own_icmp_ge X2 hx (hb hby d18_4) (pc' := 36) (by decide) (by decide) (fun c4_5 => absurd c4_5 (by decide)) (fun c4_5 => ?_)
      show own_G p e below _ (T2.setTop (mkF m 7 #[.val (.ref x), .val (.int (0 : Int32)), .val (.int (2 : Int32)), .val (.int (1 : Int32)), .val (.int c0)] []))
      refine own_step (b := T2.setTop (mkF m 8 #[.val (.ref x), .val (.int (0 : Int32)), .val (.int (2 : Int32)), .val (.int (1 : Int32)), .val (.int c0)] [(.ref x)])) (fun t k => XS.aloadN X2.here hx rfl (hb hby d18_7) rfl rfl k) ?_
      refine own_step (b := T2.setTop (mkF m 9 #[.val (.ref x), .val (.int (0 : Int32)), .val (.int (2 : Int32)), .val (.int (1 : Int32)), .val (.int c0)] [(.int (1 : Int32)), (.ref x)])) (fun t k => XS.iloadN X2.here hx rfl (hb hby d18_8) rfl k) ?_
      refine own_virtual (a := x) (W := 0) (argsL := [(.int (1 : Int32))]) (st := []) X2 hx hZ hown (own_w hw 51 rfl) (own_w hw 52 rfl) (own_w hw 54 rfl) rfl (own_w hw 53 rfl) (by decide) hh2 SS.1 (own_chB (W := 0) hZ hw (kI := 4) (own_w hw 6 rfl) SS O2 P5 O4 rG3 OL0 1 (Nat.le_of_ble_eq_true rfl) (j := (1 : Int32)) rfl (r := c1) rfl (by decide) (by decide)) (by decide) (by decide) (by rw [hml]; rfl) (lenOf pd3 rfl) rfl (Nat.le_of_ble_eq_true rfl) (hb hby d18_9) (fun v6 T6 L6 X6 hQ6 => ?_)
      obtain ⟨rfl, rfl, hh6⟩ := hQ6
      rw [List.append_nil] at X6
      show own_G p e below _ (T6.setTop (mkF m 12 #[.val (.ref x), .val (.int (0 : Int32)), .val (.int (2 : Int32)), .val (.int (1 : Int32)), .val (.int c0)] [(.int c1)]))
      refine own_step (b := T6.setTop (mkF m 14 #[.val (.ref x), .val (.int (0 : Int32)), .val (.int (2 : Int32)), .val (.int (1 : Int32)), .val (.int c1)] [])) (fun t k => XS.istore X6.here hx rfl (hb hby d18_12) rfl (l' := #[.val (.ref x), .val (.int (0 : Int32)), .val (.int (2 : Int32)), .val (.int (1 : Int32)), .val (.int c1)]) rfl k) ?_
      refine own_step (b := T6.setTop (mkF m 16 #[.val (.ref x), .val (.int (0 : Int32)), .val (.int (2 : Int32)), .val (.int (1 : Int32)), .val (.int c1)] [(.int c1)])) (fun t k => XS.iload X6.here hx rfl (hb hby d18_14) rfl k) ?_
      refine own_step (b := T6.setTop (mkF m 18 #[.val (.ref x), .val (.int (0 : Int32)), .val (.int (2 : Int32)), .val (.int (1 : Int32)), .val (.int c1)] [(.int (48 : Int32)), (.int c1)])) (fun t k => XS.bipush X6.here hx rfl (hb hby d18_16) k) ?_
      refine own_icmp_lt X6 hx (hb hby d18_18) (pc' := 28) (by decide) (by decide) (fun c18_7 => ?_) (fun c18_7 => ?_)
      · show own_G p e below _ (T6.setTop (mkF m 28 #[.val (.ref x), .val (.int (0 : Int32)), .val (.int (2 : Int32)), .val (.int (1 : Int32)), .val (.int c1)] []))
        refine own_step (b := T6.setTop (mkF m 29 #[.val (.ref x), .val (.int (0 : Int32)), .val (.int (2 : Int32)), .val (.int (1 : Int32)), .val (.int c1)] [(.int (0 : Int32))])) (fun t k => XS.iconst X6.here hx rfl (hb hby d18_28) k) ?_
        exact own_retN X6 hx hret (by simp) hlk (hb hby d18_29) ⟨by rw [show (own_dig c0 && own_dig c1) = false by simp [c18_3, c25_4, c18_7, own_dig46, own_dig]]; rfl, rfl, hh6⟩ (by decide) (by decide)
      · show own_G p e below _ (T6.setTop (mkF m 21 #[.val (.ref x), .val (.int (0 : Int32)), .val (.int (2 : Int32)), .val (.int (1 : Int32)), .val (.int c1)] []))
        refine own_step (b := T6.setTop (mkF m 23 #[.val (.ref x), .val (.int (0 : Int32)), .val (.int (2 : Int32)), .val (.int (1 : Int32)), .val (.int c1)] [(.int c1)])) (fun t k => XS.iload X6.here hx rfl (hb hby d18_21) rfl k) ?_
        refine own_step (b := T6.setTop (mkF m 25 #[.val (.ref x), .val (.int (0 : Int32)), .val (.int (2 : Int32)), .val (.int (1 : Int32)), .val (.int c1)] [(.int (57 : Int32)), (.int c1)])) (fun t k => XS.bipush X6.here hx rfl (hb hby d18_23) k) ?_
        refine own_icmp_le X6 hx (hb hby d18_25) (pc' := 30) (by decide) (by decide) (fun c25_8 => ?_) (fun c25_8 => ?_)
        · show own_G p e below _ (T6.setTop (mkF m 30 #[.val (.ref x), .val (.int (0 : Int32)), .val (.int (2 : Int32)), .val (.int (1 : Int32)), .val (.int c1)] []))
          refine own_step (b := T6.setTop (mkF m 33 #[.val (.ref x), .val (.int (0 : Int32)), .val (.int (2 : Int32)), .val (.int (2 : Int32)), .val (.int c1)] [])) (fun t k => XS.iinc X6.here hx rfl (hb hby d18_30) rfl (l' := #[.val (.ref x), .val (.int (0 : Int32)), .val (.int (2 : Int32)), .val (.int (2 : Int32)), .val (.int c1)]) rfl k) ?_
          refine own_step (b := T6.setTop (mkF m 2 #[.val (.ref x), .val (.int (0 : Int32)), .val (.int (2 : Int32)), .val (.int (2 : Int32)), .val (.int c1)] [])) (fun t k => XS.goto X6.here hx rfl (pc0 := 33) (pc' := 2) rfl (hb hby d18_33) (by decide) (by decide) k) ?_
          refine own_step (b := T6.setTop (mkF m 3 #[.val (.ref x), .val (.int (0 : Int32)), .val (.int (2 : Int32)), .val (.int (2 : Int32)), .val (.int c1)] [(.int (2 : Int32))])) (fun t k => XS.iloadN X6.here hx rfl (hb hby d18_2) rfl k) ?_
          refine own_step (b := T6.setTop (mkF m 4 #[.val (.ref x), .val (.int (0 : Int32)), .val (.int (2 : Int32)), .val (.int (2 : Int32)), .val (.int c1)] [(.int (2 : Int32)), (.int (2 : Int32))])) (fun t k => XS.iloadN X6.here hx rfl (hb hby d18_3) rfl k) ?_
          refine own_icmp_ge X6 hx (hb hby d18_4) (pc' := 36) (by decide) (by decide) (fun c4_9 => ?_) (fun c4_9 => absurd c4_9 (by decide))
          show own_G p e below _ (T6.setTop (mkF m 36 #[.val (.ref x), .val (.int (0 : Int32)), .val (.int (2 : Int32)), .val (.int (2 : Int32)), .val (.int c1)] []))
          refine own_step (b := T6.setTop (mkF m 37 #[.val (.ref x), .val (.int (0 : Int32)), .val (.int (2 : Int32)), .val (.int (2 : Int32)), .val (.int c1)] [(.int (1 : Int32))])) (fun t k => XS.iconst X6.here hx rfl (hb hby d18_36) k) ?_
          exact own_retN X6 hx hret (by simp) hlk (hb hby d18_37) ⟨by rw [show (own_dig c0 && own_dig c1) = true by simp [c18_3, c25_4, c18_7, c25_8, own_dig46, own_dig]]; rfl, rfl, hh6⟩ (by decide) (by decide)
        · show own_G p e below _ (T6.setTop (mkF m 28 #[.val (.ref x), .val (.int (0 : Int32)), .val (.int (2 : Int32)), .val (.int (1 : Int32)), .val (.int c1)] []))
          refine own_step (b := T6.setTop (mkF m 29 #[.val (.ref x), .val (.int (0 : Int32)), .val (.int (2 : Int32)), .val (.int (1 : Int32)), .val (.int c1)] [(.int (0 : Int32))])) (fun t k => XS.iconst X6.here hx rfl (hb hby d18_28) k) ?_
          exact own_retN X6 hx hret (by simp) hlk (hb hby d18_29) ⟨by rw [show (own_dig c0 && own_dig c1) = false by simp [c18_3, c25_4, c18_7, c25_8, own_dig46, own_dig]]; rfl, rfl, hh6⟩ (by decide) (by decide)
    · show own_G p e below _ (T2.setTop (mkF m 28 #[.val (.ref x), .val (.int (0 : Int32)), .val (.int (2 : Int32)), .val (.int (0 : Int32)), .val (.int c0)] []))
      refine own_step (b := T2.setTop (mkF m 29 #[.val (.ref x), .val (.int (0 : Int32)), .val (.int (2 : Int32)), .val (.int (0 : Int32)), .val (.int c0)] [(.int (0 : Int32))])) (fun t k => XS.iconst X2.here hx rfl (hb hby d18_28) k) ?_
      exact own_retN X2 hx hret (by simp) hlk (hb hby d18_29) ⟨by rw [show (own_dig c0 && own_dig c1) = false by simp [c18_3, c25_4, own_dig46, own_dig]]; rfl, rfl, hh2⟩ (by decide) (by decide)
set_option maxRecDepth 65536 in
set_option maxHeartbeats 40000000 in
theorem rmIsd_0_3 (l : Launch) (Z : State) (a0 : Array Value) (hw : ∀ d ∈ tables_1, d.before a0 Z = true) (ws : List Jvm.Cond) (x : Addr) (c0 c1 c2 c3 : Int32) (h0 : Heap) (SS : own_Str Z h0 x [c0, c1, c2, c3]) (OL0 : Old Z Z.heap.size h0) (G1 : Int32) (O2 : Sta Z Z.heap "java/lang/String" "COMPACT_STRINGS" "Z" (.int G1)) (P5 : ¬ (G1 = (0 : Int32))) (G3 : Value) (O4 : Sta Z Z.heap "jdk/internal/util/Preconditions" "SIOOBE_FORMATTER" "Ljava/util/function/BiFunction;" G3) (rG3 : G3.isRef = true) :
    own_Met l Z (⟨"com/example/drawdown/drawdown/PlainDecimal", "isDigits", "(Ljava/lang/String;II)Z"⟩ : MethodName) prog_8_method_4_code 5 (some .boolean) ws ⟨4, 0, 0, 53⟩ #[(.ref x), (.int (0 : Int32)), (.int (3 : Int32))] h0 (own_P (some (.int (own_bi (own_dig c0 && own_dig c1 && own_dig c2)))) h0) := by
  refine own_enter (plainFor_of_name pn1) (fun m => ef_isd m x (0 : Int32) (3 : Int32)) ?_
  intro p e s m below meth c T0 hx hby hml hZ hown hnm hret hlk X0 e0
  show own_G p e below _ (T0.setTop (mkF m 0 #[.val (.ref x), .val (.int (0 : Int32)), .val (.int (3 : Int32)), .unset, .unset] []))
  refine own_step (b := T0.setTop (mkF m 1 #[.val (.ref x), .val (.int (0 : Int32)), .val (.int (3 : Int32)), .unset, .unset] [(.int (0 : Int32))])) (fun t k => XS.iloadN X0.here hx rfl (hb hby d18_0) rfl k) ?_
  refine own_step (b := T0.setTop (mkF m 2 #[.val (.ref x), .val (.int (0 : Int32)), .val (.int (3 : Int32)), .val (.int (0 : Int32)), .unset] [])) (fun t k => XS.istoreN X0.here hx rfl (hb hby d18_1) rfl (l' := #[.val (.ref x), .val (.int (0 : Int32)), .val (.int (3 : Int32)), .val (.int (0 : Int32)), .unset]) rfl k) ?_
  refine own_step (b := T0.setTop (mkF m 3 #[.val (.ref x), .val (.int (0 : Int32)), .val (.int (3 : Int32)), .val (.int (0 : Int32)), .unset] [(.int (0 : Int32))])) (fun t k => XS.iloadN X0.here hx rfl (hb hby d18_2) rfl k) ?_
  refine own_step (b := T0.setTop (mkF m 4 #[.val (.ref x), .val (.int (0 : Int32)), .val (.int (3 : Int32)), .val (.int (0 : Int32)), .unset] [(.int (3 : Int32)), (.int (0 : Int32))])) (fun t k => XS.iloadN X0.here hx rfl (hb hby d18_3) rfl k) ?_
  refine own_icmp_ge X0 hx (hb hby d18_4) (pc' := 36) (by decide) (by decide) (fun c4_1 => absurd c4_1 (by decide)) (fun c4_1 => ?_)
  show own_G p e below _ (T0.setTop (mkF m 7 #[.val (.ref x), .val (.int (0 : Int32)), .val (.int (3 : Int32)), .val (.int (0 : Int32)), .unset] []))
  refine own_step (b := T0.setTop (mkF m 8 #[.val (.ref x), .val (.int (0 : Int32)), .val (.int (3 : Int32)), .val (.int (0 : Int32)), .unset] [(.ref x)])) (fun t k => XS.aloadN X0.here hx rfl (hb hby d18_7) rfl rfl k) ?_
  refine own_step (b := T0.setTop (mkF m 9 #[.val (.ref x), .val (.int (0 : Int32)), .val (.int (3 : Int32)), .val (.int (0 : Int32)), .unset] [(.int (0 : Int32)), (.ref x)])) (fun t k => XS.iloadN X0.here hx rfl (hb hby d18_8) rfl k) ?_
  refine own_virtual (a := x) (W := 0) (argsL := [(.int (0 : Int32))]) (st := []) X0 hx hZ hown (own_w hw 51 rfl) (own_w hw 52 rfl) (own_w hw 54 rfl) rfl (own_w hw 53 rfl) (by decide) e0 SS.1 (own_chB (W := 0) hZ hw (kI := 4) (own_w hw 6 rfl) SS O2 P5 O4 rG3 OL0 0 (Nat.le_of_ble_eq_true rfl) (j := (0 : Int32)) rfl (r := c0) rfl (by decide) (by decide)) (by decide) (by decide) (by rw [hml]; rfl) (lenOf pd3 rfl) rfl (Nat.le_of_ble_eq_true rfl) (hb hby d18_9) (fun v2 T2 L2 X2 hQ2 => ?_)
  obtain ⟨rfl, rfl, hh2⟩ := hQ2
  rw [List.append_nil] at X2
  show own_G p e below _ (T2.setTop (mkF m 12 #[.val (.ref x), .val (.int (0 : Int32)), .val (.int (3 : Int32)), .val (.int (0 : Int32)), .unset] [(.int c0)]))
  refine own_step (b := T2.setTop (mkF m 14 #[.val (.ref x), .val (.int (0 : Int32)), .val (.int (3 : Int32)), .val (.int (0 : Int32)), .val (.int c0)] [])) (fun t k => XS.istore X2.here hx rfl (hb hby d18_12) rfl (l' := #[.val (.ref x), .val (.int (0 : Int32)), .val (.int (3 : Int32)), .val (.int (0 : Int32)), .val (.int c0)]) rfl k) ?_
  refine own_step (b := T2.setTop (mkF m 16 #[.val (.ref x), .val (.int (0 : Int32)), .val (.int (3 : Int32)), .val (.int (0 : Int32)), .val (.int c0)] [(.int c0)])) (fun t k => XS.iload X2.here hx rfl (hb hby d18_14) rfl k) ?_
  refine own_step (b := T2.setTop (mkF m 18 #[.val (.ref x), .val (.int (0 : Int32)), .val (.int (3 : Int32)), .val (.int (0 : Int32)), .val (.int c0)] [(.int (48 : Int32)), (.int c0)])) (fun t k => XS.bipush X2.here hx rfl (hb hby d18_16) k) ?_
  refine own_icmp_lt X2 hx (hb hby d18_18) (pc' := 28) (by decide) (by decide) (fun c18_3 => ?_) (fun c18_3 => ?_)
  · show own_G p e below _ (T2.setTop (mkF m 28 #[.val (.ref x), .val (.int (0 : Int32)), .val (.int (3 : Int32)), .val (.int (0 : Int32)), .val (.int c0)] []))
    refine own_step (b := T2.setTop (mkF m 29 #[.val (.ref x), .val (.int (0 : Int32)), .val (.int (3 : Int32)), .val (.int (0 : Int32)), .val (.int c0)] [(.int (0 : Int32))])) (fun t k => XS.iconst X2.here hx rfl (hb hby d18_28) k) ?_
    exact own_retN X2 hx hret (by simp) hlk (hb hby d18_29) ⟨by rw [show (own_dig c0 && own_dig c1 && own_dig c2) = false by simp [c18_3, own_dig46, own_dig]]; rfl, rfl, hh2⟩ (by decide) (by decide)
  · show own_G p e below _ (T2.setTop (mkF m 21 #[.val (.ref x), .val (.int (0 : Int32)), .val (.int (3 : Int32)), .val (.int (0 : Int32)), .val (.int c0)] []))
    refine own_step (b := T2.setTop (mkF m 23 #[.val (.ref x), .val (.int (0 : Int32)), .val (.int (3 : Int32)), .val (.int (0 : Int32)), .val (.int c0)] [(.int c0)])) (fun t k => XS.iload X2.here hx rfl (hb hby d18_21) rfl k) ?_
    refine own_step (b := T2.setTop (mkF m 25 #[.val (.ref x), .val (.int (0 : Int32)), .val (.int (3 : Int32)), .val (.int (0 : Int32)), .val (.int c0)] [(.int (57 : Int32)), (.int c0)])) (fun t k => XS.bipush X2.here hx rfl (hb hby d18_23) k) ?_
    refine own_icmp_le X2 hx (hb hby d18_25) (pc' := 30) (by decide) (by decide) (fun c25_4 => ?_) (fun c25_4 => ?_)
    · show own_G p e below _ (T2.setTop (mkF m 30 #[.val (.ref x), .val (.int (0 : Int32)), .val (.int (3 : Int32)), .val (.int (0 : Int32)), .val (.int c0)] []))
      refine own_step (b := T2.setTop (mkF m 33 #[.val (.ref x), .val (.int (0 : Int32)), .val (.int (3 : Int32)), .val (.int (1 : Int32)), .val (.int c0)] [])) (fun t k => XS.iinc X2.here hx rfl (hb hby d18_30) rfl (l' := #[.val (.ref x), .val (.int (0 : Int32)), .val (.int (3 : Int32)), .val (.int (1 : Int32)), .val (.int c0)]) rfl k) ?_
      refine own_step (b := T2.setTop (mkF m 2 #[.val (.ref x), .val (.int (0 : Int32)), .val (.int (3 : Int32)), .val (.int (1 : Int32)), .val (.int c0)] [])) (fun t k => XS.goto X2.here hx rfl (pc0 := 33) (pc' := 2) rfl (hb hby d18_33) (by decide) (by decide) k) ?_
      refine own_step (b := T2.setTop (mkF m 3 #[.val (.ref x), .val (.int (0 : Int32)), .val (.int (3 : Int32)), .val (.int (1 : Int32)), .val (.int c0)] [(.int (1 : Int32))])) (fun t k => XS.iloadN X2.here hx rfl (hb hby d18_2) rfl k) ?_
      refine own_step (b := T2.setTop (mkF m 4 #[.val (.ref x), .val (.int (0 : Int32)), .val (.int (3 : Int32)), .val (.int (1 : Int32)), .val (.int c0)] [(.int (3 : Int32)), (.int (1 : Int32))])) (fun t k => XS.iloadN X2.here hx rfl (hb hby d18_3) rfl k) ?_
      refine own_icmp_ge X2 hx (hb hby d18_4) (pc' := 36) (by decide) (by decide) (fun c4_5 => absurd c4_5 (by decide)) (fun c4_5 => ?_)
      show own_G p e below _ (T2.setTop (mkF m 7 #[.val (.ref x), .val (.int (0 : Int32)), .val (.int (3 : Int32)), .val (.int (1 : Int32)), .val (.int c0)] []))
      refine own_step (b := T2.setTop (mkF m 8 #[.val (.ref x), .val (.int (0 : Int32)), .val (.int (3 : Int32)), .val (.int (1 : Int32)), .val (.int c0)] [(.ref x)])) (fun t k => XS.aloadN X2.here hx rfl (hb hby d18_7) rfl rfl k) ?_
      refine own_step (b := T2.setTop (mkF m 9 #[.val (.ref x), .val (.int (0 : Int32)), .val (.int (3 : Int32)), .val (.int (1 : Int32)), .val (.int c0)] [(.int (1 : Int32)), (.ref x)])) (fun t k => XS.iloadN X2.here hx rfl (hb hby d18_8) rfl k) ?_
      refine own_virtual (a := x) (W := 0) (argsL := [(.int (1 : Int32))]) (st := []) X2 hx hZ hown (own_w hw 51 rfl) (own_w hw 52 rfl) (own_w hw 54 rfl) rfl (own_w hw 53 rfl) (by decide) hh2 SS.1 (own_chB (W := 0) hZ hw (kI := 4) (own_w hw 6 rfl) SS O2 P5 O4 rG3 OL0 1 (Nat.le_of_ble_eq_true rfl) (j := (1 : Int32)) rfl (r := c1) rfl (by decide) (by decide)) (by decide) (by decide) (by rw [hml]; rfl) (lenOf pd3 rfl) rfl (Nat.le_of_ble_eq_true rfl) (hb hby d18_9) (fun v6 T6 L6 X6 hQ6 => ?_)
      obtain ⟨rfl, rfl, hh6⟩ := hQ6
      rw [List.append_nil] at X6
      show own_G p e below _ (T6.setTop (mkF m 12 #[.val (.ref x), .val (.int (0 : Int32)), .val (.int (3 : Int32)), .val (.int (1 : Int32)), .val (.int c0)] [(.int c1)]))
      refine own_step (b := T6.setTop (mkF m 14 #[.val (.ref x), .val (.int (0 : Int32)), .val (.int (3 : Int32)), .val (.int (1 : Int32)), .val (.int c1)] [])) (fun t k => XS.istore X6.here hx rfl (hb hby d18_12) rfl (l' := #[.val (.ref x), .val (.int (0 : Int32)), .val (.int (3 : Int32)), .val (.int (1 : Int32)), .val (.int c1)]) rfl k) ?_
      refine own_step (b := T6.setTop (mkF m 16 #[.val (.ref x), .val (.int (0 : Int32)), .val (.int (3 : Int32)), .val (.int (1 : Int32)), .val (.int c1)] [(.int c1)])) (fun t k => XS.iload X6.here hx rfl (hb hby d18_14) rfl k) ?_
      refine own_step (b := T6.setTop (mkF m 18 #[.val (.ref x), .val (.int (0 : Int32)), .val (.int (3 : Int32)), .val (.int (1 : Int32)), .val (.int c1)] [(.int (48 : Int32)), (.int c1)])) (fun t k => XS.bipush X6.here hx rfl (hb hby d18_16) k) ?_
      refine own_icmp_lt X6 hx (hb hby d18_18) (pc' := 28) (by decide) (by decide) (fun c18_7 => ?_) (fun c18_7 => ?_)
      · show own_G p e below _ (T6.setTop (mkF m 28 #[.val (.ref x), .val (.int (0 : Int32)), .val (.int (3 : Int32)), .val (.int (1 : Int32)), .val (.int c1)] []))
        refine own_step (b := T6.setTop (mkF m 29 #[.val (.ref x), .val (.int (0 : Int32)), .val (.int (3 : Int32)), .val (.int (1 : Int32)), .val (.int c1)] [(.int (0 : Int32))])) (fun t k => XS.iconst X6.here hx rfl (hb hby d18_28) k) ?_
        exact own_retN X6 hx hret (by simp) hlk (hb hby d18_29) ⟨by rw [show (own_dig c0 && own_dig c1 && own_dig c2) = false by simp [c18_3, c25_4, c18_7, own_dig46, own_dig]]; rfl, rfl, hh6⟩ (by decide) (by decide)
      · show own_G p e below _ (T6.setTop (mkF m 21 #[.val (.ref x), .val (.int (0 : Int32)), .val (.int (3 : Int32)), .val (.int (1 : Int32)), .val (.int c1)] []))
        refine own_step (b := T6.setTop (mkF m 23 #[.val (.ref x), .val (.int (0 : Int32)), .val (.int (3 : Int32)), .val (.int (1 : Int32)), .val (.int c1)] [(.int c1)])) (fun t k => XS.iload X6.here hx rfl (hb hby d18_21) rfl k) ?_
        refine own_step (b := T6.setTop (mkF m 25 #[.val (.ref x), .val (.int (0 : Int32)), .val (.int (3 : Int32)), .val (.int (1 : Int32)), .val (.int c1)] [(.int (57 : Int32)), (.int c1)])) (fun t k => XS.bipush X6.here hx rfl (hb hby d18_23) k) ?_
        refine own_icmp_le X6 hx (hb hby d18_25) (pc' := 30) (by decide) (by decide) (fun c25_8 => ?_) (fun c25_8 => ?_)
        · show own_G p e below _ (T6.setTop (mkF m 30 #[.val (.ref x), .val (.int (0 : Int32)), .val (.int (3 : Int32)), .val (.int (1 : Int32)), .val (.int c1)] []))
          refine own_step (b := T6.setTop (mkF m 33 #[.val (.ref x), .val (.int (0 : Int32)), .val (.int (3 : Int32)), .val (.int (2 : Int32)), .val (.int c1)] [])) (fun t k => XS.iinc X6.here hx rfl (hb hby d18_30) rfl (l' := #[.val (.ref x), .val (.int (0 : Int32)), .val (.int (3 : Int32)), .val (.int (2 : Int32)), .val (.int c1)]) rfl k) ?_
          refine own_step (b := T6.setTop (mkF m 2 #[.val (.ref x), .val (.int (0 : Int32)), .val (.int (3 : Int32)), .val (.int (2 : Int32)), .val (.int c1)] [])) (fun t k => XS.goto X6.here hx rfl (pc0 := 33) (pc' := 2) rfl (hb hby d18_33) (by decide) (by decide) k) ?_
          refine own_step (b := T6.setTop (mkF m 3 #[.val (.ref x), .val (.int (0 : Int32)), .val (.int (3 : Int32)), .val (.int (2 : Int32)), .val (.int c1)] [(.int (2 : Int32))])) (fun t k => XS.iloadN X6.here hx rfl (hb hby d18_2) rfl k) ?_
          refine own_step (b := T6.setTop (mkF m 4 #[.val (.ref x), .val (.int (0 : Int32)), .val (.int (3 : Int32)), .val (.int (2 : Int32)), .val (.int c1)] [(.int (3 : Int32)), (.int (2 : Int32))])) (fun t k => XS.iloadN X6.here hx rfl (hb hby d18_3) rfl k) ?_
          refine own_icmp_ge X6 hx (hb hby d18_4) (pc' := 36) (by decide) (by decide) (fun c4_9 => absurd c4_9 (by decide)) (fun c4_9 => ?_)
          show own_G p e below _ (T6.setTop (mkF m 7 #[.val (.ref x), .val (.int (0 : Int32)), .val (.int (3 : Int32)), .val (.int (2 : Int32)), .val (.int c1)] []))
          refine own_step (b := T6.setTop (mkF m 8 #[.val (.ref x), .val (.int (0 : Int32)), .val (.int (3 : Int32)), .val (.int (2 : Int32)), .val (.int c1)] [(.ref x)])) (fun t k => XS.aloadN X6.here hx rfl (hb hby d18_7) rfl rfl k) ?_
          refine own_step (b := T6.setTop (mkF m 9 #[.val (.ref x), .val (.int (0 : Int32)), .val (.int (3 : Int32)), .val (.int (2 : Int32)), .val (.int c1)] [(.int (2 : Int32)), (.ref x)])) (fun t k => XS.iloadN X6.here hx rfl (hb hby d18_8) rfl k) ?_
          refine own_virtual (a := x) (W := 0) (argsL := [(.int (2 : Int32))]) (st := []) X6 hx hZ hown (own_w hw 51 rfl) (own_w hw 52 rfl) (own_w hw 54 rfl) rfl (own_w hw 53 rfl) (by decide) hh6 SS.1 (own_chB (W := 0) hZ hw (kI := 4) (own_w hw 6 rfl) SS O2 P5 O4 rG3 OL0 2 (Nat.le_of_ble_eq_true rfl) (j := (2 : Int32)) rfl (r := c2) rfl (by decide) (by decide)) (by decide) (by decide) (by rw [hml]; rfl) (lenOf pd3 rfl) rfl (Nat.le_of_ble_eq_true rfl) (hb hby d18_9) (fun v10 T10 L10 X10 hQ10 => ?_)
          obtain ⟨rfl, rfl, hh10⟩ := hQ10
          rw [List.append_nil] at X10
          show own_G p e below _ (T10.setTop (mkF m 12 #[.val (.ref x), .val (.int (0 : Int32)), .val (.int (3 : Int32)), .val (.int (2 : Int32)), .val (.int c1)] [(.int c2)]))
          refine own_step (b := T10.setTop (mkF m 14 #[.val (.ref x), .val (.int (0 : Int32)), .val (.int (3 : Int32)), .val (.int (2 : Int32)), .val (.int c2)] [])) (fun t k => XS.istore X10.here hx rfl (hb hby d18_12) rfl (l' := #[.val (.ref x), .val (.int (0 : Int32)), .val (.int (3 : Int32)), .val (.int (2 : Int32)), .val (.int c2)]) rfl k) ?_
          refine own_step (b := T10.setTop (mkF m 16 #[.val (.ref x), .val (.int (0 : Int32)), .val (.int (3 : Int32)), .val (.int (2 : Int32)), .val (.int c2)] [(.int c2)])) (fun t k => XS.iload X10.here hx rfl (hb hby d18_14) rfl k) ?_
          refine own_step (b := T10.setTop (mkF m 18 #[.val (.ref x), .val (.int (0 : Int32)), .val (.int (3 : Int32)), .val (.int (2 : Int32)), .val (.int c2)] [(.int (48 : Int32)), (.int c2)])) (fun t k => XS.bipush X10.here hx rfl (hb hby d18_16) k) ?_
          refine own_icmp_lt X10 hx (hb hby d18_18) (pc' := 28) (by decide) (by decide) (fun c18_11 => ?_) (fun c18_11 => ?_)
          · show own_G p e below _ (T10.setTop (mkF m 28 #[.val (.ref x), .val (.int (0 : Int32)), .val (.int (3 : Int32)), .val (.int (2 : Int32)), .val (.int c2)] []))
            refine own_step (b := T10.setTop (mkF m 29 #[.val (.ref x), .val (.int (0 : Int32)), .val (.int (3 : Int32)), .val (.int (2 : Int32)), .val (.int c2)] [(.int (0 : Int32))])) (fun t k => XS.iconst X10.here hx rfl (hb hby d18_28) k) ?_
            exact own_retN X10 hx hret (by simp) hlk (hb hby d18_29) ⟨by rw [show (own_dig c0 && own_dig c1 && own_dig c2) = false by simp [c18_3, c25_4, c18_7, c25_8, c18_11, own_dig46, own_dig]]; rfl, rfl, hh10⟩ (by decide) (by decide)
          · show own_G p e below _ (T10.setTop (mkF m 21 #[.val (.ref x), .val (.int (0 : Int32)), .val (.int (3 : Int32)), .val (.int (2 : Int32)), .val (.int c2)] []))
            refine own_step (b := T10.setTop (mkF m 23 #[.val (.ref x), .val (.int (0 : Int32)), .val (.int (3 : Int32)), .val (.int (2 : Int32)), .val (.int c2)] [(.int c2)])) (fun t k => XS.iload X10.here hx rfl (hb hby d18_21) rfl k) ?_
            refine own_step (b := T10.setTop (mkF m 25 #[.val (.ref x), .val (.int (0 : Int32)), .val (.int (3 : Int32)), .val (.int (2 : Int32)), .val (.int c2)] [(.int (57 : Int32)), (.int c2)])) (fun t k => XS.bipush X10.here hx rfl (hb hby d18_23) k) ?_
            refine own_icmp_le X10 hx (hb hby d18_25) (pc' := 30) (by decide) (by decide) (fun c25_12 => ?_) (fun c25_12 => ?_)
            · show own_G p e below _ (T10.setTop (mkF m 30 #[.val (.ref x), .val (.int (0 : Int32)), .val (.int (3 : Int32)), .val (.int (2 : Int32)), .val (.int c2)] []))
              refine own_step (b := T10.setTop (mkF m 33 #[.val (.ref x), .val (.int (0 : Int32)), .val (.int (3 : Int32)), .val (.int (3 : Int32)), .val (.int c2)] [])) (fun t k => XS.iinc X10.here hx rfl (hb hby d18_30) rfl (l' := #[.val (.ref x), .val (.int (0 : Int32)), .val (.int (3 : Int32)), .val (.int (3 : Int32)), .val (.int c2)]) rfl k) ?_
              refine own_step (b := T10.setTop (mkF m 2 #[.val (.ref x), .val (.int (0 : Int32)), .val (.int (3 : Int32)), .val (.int (3 : Int32)), .val (.int c2)] [])) (fun t k => XS.goto X10.here hx rfl (pc0 := 33) (pc' := 2) rfl (hb hby d18_33) (by decide) (by decide) k) ?_
              refine own_step (b := T10.setTop (mkF m 3 #[.val (.ref x), .val (.int (0 : Int32)), .val (.int (3 : Int32)), .val (.int (3 : Int32)), .val (.int c2)] [(.int (3 : Int32))])) (fun t k => XS.iloadN X10.here hx rfl (hb hby d18_2) rfl k) ?_
              refine own_step (b := T10.setTop (mkF m 4 #[.val (.ref x), .val (.int (0 : Int32)), .val (.int (3 : Int32)), .val (.int (3 : Int32)), .val (.int c2)] [(.int (3 : Int32)), (.int (3 : Int32))])) (fun t k => XS.iloadN X10.here hx rfl (hb hby d18_3) rfl k) ?_
              refine own_icmp_ge X10 hx (hb hby d18_4) (pc' := 36) (by decide) (by decide) (fun c4_13 => ?_) (fun c4_13 => absurd c4_13 (by decide))
              show own_G p e below _ (T10.setTop (mkF m 36 #[.val (.ref x), .val (.int (0 : Int32)), .val (.int (3 : Int32)), .val (.int (3 : Int32)), .val (.int c2)] []))
              refine own_step (b := T10.setTop (mkF m 37 #[.val (.ref x), .val (.int (0 : Int32)), .val (.int (3 : Int32)), .val (.int (3 : Int32)), .val (.int c2)] [(.int (1 : Int32))])) (fun t k => XS.iconst X10.here hx rfl (hb hby d18_36) k) ?_
              exact own_retN X10 hx hret (by simp) hlk (hb hby d18_37) ⟨by rw [show (own_dig c0 && own_dig c1 && own_dig c2) = true by simp [c18_3, c25_4, c18_7, c25_8, c18_11, c25_12, own_dig46, own_dig]]; rfl, rfl, hh10⟩ (by decide) (by decide)
            · show own_G p e below _ (T10.setTop (mkF m 28 #[.val (.ref x), .val (.int (0 : Int32)), .val (.int (3 : Int32)), .val (.int (2 : Int32)), .val (.int c2)] []))
              refine own_step (b := T10.setTop (mkF m 29 #[.val (.ref x), .val (.int (0 : Int32)), .val (.int (3 : Int32)), .val (.int (2 : Int32)), .val (.int c2)] [(.int (0 : Int32))])) (fun t k => XS.iconst X10.here hx rfl (hb hby d18_28) k) ?_
              exact own_retN X10 hx hret (by simp) hlk (hb hby d18_29) ⟨by rw [show (own_dig c0 && own_dig c1 && own_dig c2) = false by simp [c18_3, c25_4, c18_7, c25_8, c18_11, c25_12, own_dig46, own_dig]]; rfl, rfl, hh10⟩ (by decide) (by decide)
        · show own_G p e below _ (T6.setTop (mkF m 28 #[.val (.ref x), .val (.int (0 : Int32)), .val (.int (3 : Int32)), .val (.int (1 : Int32)), .val (.int c1)] []))
          refine own_step (b := T6.setTop (mkF m 29 #[.val (.ref x), .val (.int (0 : Int32)), .val (.int (3 : Int32)), .val (.int (1 : Int32)), .val (.int c1)] [(.int (0 : Int32))])) (fun t k => XS.iconst X6.here hx rfl (hb hby d18_28) k) ?_
          exact own_retN X6 hx hret (by simp) hlk (hb hby d18_29) ⟨by rw [show (own_dig c0 && own_dig c1 && own_dig c2) = false by simp [c18_3, c25_4, c18_7, c25_8, own_dig46, own_dig]]; rfl, rfl, hh6⟩ (by decide) (by decide)
    · show own_G p e below _ (T2.setTop (mkF m 28 #[.val (.ref x), .val (.int (0 : Int32)), .val (.int (3 : Int32)), .val (.int (0 : Int32)), .val (.int c0)] []))
      refine own_step (b := T2.setTop (mkF m 29 #[.val (.ref x), .val (.int (0 : Int32)), .val (.int (3 : Int32)), .val (.int (0 : Int32)), .val (.int c0)] [(.int (0 : Int32))])) (fun t k => XS.iconst X2.here hx rfl (hb hby d18_28) k) ?_
      exact own_retN X2 hx hret (by simp) hlk (hb hby d18_29) ⟨by rw [show (own_dig c0 && own_dig c1 && own_dig c2) = false by simp [c18_3, c25_4, own_dig46, own_dig]]; rfl, rfl, hh2⟩ (by decide) (by decide)
set_option maxRecDepth 65536 in
set_option maxHeartbeats 40000000 in
theorem rmIsd_0_4 (l : Launch) (Z : State) (a0 : Array Value) (hw : ∀ d ∈ tables_1, d.before a0 Z = true) (ws : List Jvm.Cond) (x : Addr) (c0 c1 c2 c3 : Int32) (h0 : Heap) (SS : own_Str Z h0 x [c0, c1, c2, c3]) (OL0 : Old Z Z.heap.size h0) (G1 : Int32) (O2 : Sta Z Z.heap "java/lang/String" "COMPACT_STRINGS" "Z" (.int G1)) (P5 : ¬ (G1 = (0 : Int32))) (G3 : Value) (O4 : Sta Z Z.heap "jdk/internal/util/Preconditions" "SIOOBE_FORMATTER" "Ljava/util/function/BiFunction;" G3) (rG3 : G3.isRef = true) :
    own_Met l Z (⟨"com/example/drawdown/drawdown/PlainDecimal", "isDigits", "(Ljava/lang/String;II)Z"⟩ : MethodName) prog_8_method_4_code 5 (some .boolean) ws ⟨4, 0, 0, 53⟩ #[(.ref x), (.int (0 : Int32)), (.int (4 : Int32))] h0 (own_P (some (.int (own_bi (own_dig c0 && own_dig c1 && own_dig c2 && own_dig c3)))) h0) := by
  refine own_enter (plainFor_of_name pn1) (fun m => ef_isd m x (0 : Int32) (4 : Int32)) ?_
  intro p e s m below meth c T0 hx hby hml hZ hown hnm hret hlk X0 e0
  show own_G p e below _ (T0.setTop (mkF m 0 #[.val (.ref x), .val (.int (0 : Int32)), .val (.int (4 : Int32)), .unset, .unset] []))
  refine own_step (b := T0.setTop (mkF m 1 #[.val (.ref x), .val (.int (0 : Int32)), .val (.int (4 : Int32)), .unset, .unset] [(.int (0 : Int32))])) (fun t k => XS.iloadN X0.here hx rfl (hb hby d18_0) rfl k) ?_
  refine own_step (b := T0.setTop (mkF m 2 #[.val (.ref x), .val (.int (0 : Int32)), .val (.int (4 : Int32)), .val (.int (0 : Int32)), .unset] [])) (fun t k => XS.istoreN X0.here hx rfl (hb hby d18_1) rfl (l' := #[.val (.ref x), .val (.int (0 : Int32)), .val (.int (4 : Int32)), .val (.int (0 : Int32)), .unset]) rfl k) ?_
  refine own_step (b := T0.setTop (mkF m 3 #[.val (.ref x), .val (.int (0 : Int32)), .val (.int (4 : Int32)), .val (.int (0 : Int32)), .unset] [(.int (0 : Int32))])) (fun t k => XS.iloadN X0.here hx rfl (hb hby d18_2) rfl k) ?_
  refine own_step (b := T0.setTop (mkF m 4 #[.val (.ref x), .val (.int (0 : Int32)), .val (.int (4 : Int32)), .val (.int (0 : Int32)), .unset] [(.int (4 : Int32)), (.int (0 : Int32))])) (fun t k => XS.iloadN X0.here hx rfl (hb hby d18_3) rfl k) ?_
  refine own_icmp_ge X0 hx (hb hby d18_4) (pc' := 36) (by decide) (by decide) (fun c4_1 => absurd c4_1 (by decide)) (fun c4_1 => ?_)
  show own_G p e below _ (T0.setTop (mkF m 7 #[.val (.ref x), .val (.int (0 : Int32)), .val (.int (4 : Int32)), .val (.int (0 : Int32)), .unset] []))
  refine own_step (b := T0.setTop (mkF m 8 #[.val (.ref x), .val (.int (0 : Int32)), .val (.int (4 : Int32)), .val (.int (0 : Int32)), .unset] [(.ref x)])) (fun t k => XS.aloadN X0.here hx rfl (hb hby d18_7) rfl rfl k) ?_
  refine own_step (b := T0.setTop (mkF m 9 #[.val (.ref x), .val (.int (0 : Int32)), .val (.int (4 : Int32)), .val (.int (0 : Int32)), .unset] [(.int (0 : Int32)), (.ref x)])) (fun t k => XS.iloadN X0.here hx rfl (hb hby d18_8) rfl k) ?_
  refine own_virtual (a := x) (W := 0) (argsL := [(.int (0 : Int32))]) (st := []) X0 hx hZ hown (own_w hw 51 rfl) (own_w hw 52 rfl) (own_w hw 54 rfl) rfl (own_w hw 53 rfl) (by decide) e0 SS.1 (own_chB (W := 0) hZ hw (kI := 4) (own_w hw 6 rfl) SS O2 P5 O4 rG3 OL0 0 (Nat.le_of_ble_eq_true rfl) (j := (0 : Int32)) rfl (r := c0) rfl (by decide) (by decide)) (by decide) (by decide) (by rw [hml]; rfl) (lenOf pd3 rfl) rfl (Nat.le_of_ble_eq_true rfl) (hb hby d18_9) (fun v2 T2 L2 X2 hQ2 => ?_)
  obtain ⟨rfl, rfl, hh2⟩ := hQ2
  rw [List.append_nil] at X2
  show own_G p e below _ (T2.setTop (mkF m 12 #[.val (.ref x), .val (.int (0 : Int32)), .val (.int (4 : Int32)), .val (.int (0 : Int32)), .unset] [(.int c0)]))
  refine own_step (b := T2.setTop (mkF m 14 #[.val (.ref x), .val (.int (0 : Int32)), .val (.int (4 : Int32)), .val (.int (0 : Int32)), .val (.int c0)] [])) (fun t k => XS.istore X2.here hx rfl (hb hby d18_12) rfl (l' := #[.val (.ref x), .val (.int (0 : Int32)), .val (.int (4 : Int32)), .val (.int (0 : Int32)), .val (.int c0)]) rfl k) ?_
  refine own_step (b := T2.setTop (mkF m 16 #[.val (.ref x), .val (.int (0 : Int32)), .val (.int (4 : Int32)), .val (.int (0 : Int32)), .val (.int c0)] [(.int c0)])) (fun t k => XS.iload X2.here hx rfl (hb hby d18_14) rfl k) ?_
  refine own_step (b := T2.setTop (mkF m 18 #[.val (.ref x), .val (.int (0 : Int32)), .val (.int (4 : Int32)), .val (.int (0 : Int32)), .val (.int c0)] [(.int (48 : Int32)), (.int c0)])) (fun t k => XS.bipush X2.here hx rfl (hb hby d18_16) k) ?_
  refine own_icmp_lt X2 hx (hb hby d18_18) (pc' := 28) (by decide) (by decide) (fun c18_3 => ?_) (fun c18_3 => ?_)
  · show own_G p e below _ (T2.setTop (mkF m 28 #[.val (.ref x), .val (.int (0 : Int32)), .val (.int (4 : Int32)), .val (.int (0 : Int32)), .val (.int c0)] []))
    refine own_step (b := T2.setTop (mkF m 29 #[.val (.ref x), .val (.int (0 : Int32)), .val (.int (4 : Int32)), .val (.int (0 : Int32)), .val (.int c0)] [(.int (0 : Int32))])) (fun t k => XS.iconst X2.here hx rfl (hb hby d18_28) k) ?_
    exact own_retN X2 hx hret (by simp) hlk (hb hby d18_29) ⟨by rw [show (own_dig c0 && own_dig c1 && own_dig c2 && own_dig c3) = false by simp [c18_3, own_dig46, own_dig]]; rfl, rfl, hh2⟩ (by decide) (by decide)
  · show own_G p e below _ (T2.setTop (mkF m 21 #[.val (.ref x), .val (.int (0 : Int32)), .val (.int (4 : Int32)), .val (.int (0 : Int32)), .val (.int c0)] []))
    refine own_step (b := T2.setTop (mkF m 23 #[.val (.ref x), .val (.int (0 : Int32)), .val (.int (4 : Int32)), .val (.int (0 : Int32)), .val (.int c0)] [(.int c0)])) (fun t k => XS.iload X2.here hx rfl (hb hby d18_21) rfl k) ?_
    refine own_step (b := T2.setTop (mkF m 25 #[.val (.ref x), .val (.int (0 : Int32)), .val (.int (4 : Int32)), .val (.int (0 : Int32)), .val (.int c0)] [(.int (57 : Int32)), (.int c0)])) (fun t k => XS.bipush X2.here hx rfl (hb hby d18_23) k) ?_
    refine own_icmp_le X2 hx (hb hby d18_25) (pc' := 30) (by decide) (by decide) (fun c25_4 => ?_) (fun c25_4 => ?_)
    · show own_G p e below _ (T2.setTop (mkF m 30 #[.val (.ref x), .val (.int (0 : Int32)), .val (.int (4 : Int32)), .val (.int (0 : Int32)), .val (.int c0)] []))
      refine own_step (b := T2.setTop (mkF m 33 #[.val (.ref x), .val (.int (0 : Int32)), .val (.int (4 : Int32)), .val (.int (1 : Int32)), .val (.int c0)] [])) (fun t k => XS.iinc X2.here hx rfl (hb hby d18_30) rfl (l' := #[.val (.ref x), .val (.int (0 : Int32)), .val (.int (4 : Int32)), .val (.int (1 : Int32)), .val (.int c0)]) rfl k) ?_
      refine own_step (b := T2.setTop (mkF m 2 #[.val (.ref x), .val (.int (0 : Int32)), .val (.int (4 : Int32)), .val (.int (1 : Int32)), .val (.int c0)] [])) (fun t k => XS.goto X2.here hx rfl (pc0 := 33) (pc' := 2) rfl (hb hby d18_33) (by decide) (by decide) k) ?_
      refine own_step (b := T2.setTop (mkF m 3 #[.val (.ref x), .val (.int (0 : Int32)), .val (.int (4 : Int32)), .val (.int (1 : Int32)), .val (.int c0)] [(.int (1 : Int32))])) (fun t k => XS.iloadN X2.here hx rfl (hb hby d18_2) rfl k) ?_
      refine own_step (b := T2.setTop (mkF m 4 #[.val (.ref x), .val (.int (0 : Int32)), .val (.int (4 : Int32)), .val (.int (1 : Int32)), .val (.int c0)] [(.int (4 : Int32)), (.int (1 : Int32))])) (fun t k => XS.iloadN X2.here hx rfl (hb hby d18_3) rfl k) ?_
      refine own_icmp_ge X2 hx (hb hby d18_4) (pc' := 36) (by decide) (by decide) (fun c4_5 => absurd c4_5 (by decide)) (fun c4_5 => ?_)
      show own_G p e below _ (T2.setTop (mkF m 7 #[.val (.ref x), .val (.int (0 : Int32)), .val (.int (4 : Int32)), .val (.int (1 : Int32)), .val (.int c0)] []))
      refine own_step (b := T2.setTop (mkF m 8 #[.val (.ref x), .val (.int (0 : Int32)), .val (.int (4 : Int32)), .val (.int (1 : Int32)), .val (.int c0)] [(.ref x)])) (fun t k => XS.aloadN X2.here hx rfl (hb hby d18_7) rfl rfl k) ?_
      refine own_step (b := T2.setTop (mkF m 9 #[.val (.ref x), .val (.int (0 : Int32)), .val (.int (4 : Int32)), .val (.int (1 : Int32)), .val (.int c0)] [(.int (1 : Int32)), (.ref x)])) (fun t k => XS.iloadN X2.here hx rfl (hb hby d18_8) rfl k) ?_
      refine own_virtual (a := x) (W := 0) (argsL := [(.int (1 : Int32))]) (st := []) X2 hx hZ hown (own_w hw 51 rfl) (own_w hw 52 rfl) (own_w hw 54 rfl) rfl (own_w hw 53 rfl) (by decide) hh2 SS.1 (own_chB (W := 0) hZ hw (kI := 4) (own_w hw 6 rfl) SS O2 P5 O4 rG3 OL0 1 (Nat.le_of_ble_eq_true rfl) (j := (1 : Int32)) rfl (r := c1) rfl (by decide) (by decide)) (by decide) (by decide) (by rw [hml]; rfl) (lenOf pd3 rfl) rfl (Nat.le_of_ble_eq_true rfl) (hb hby d18_9) (fun v6 T6 L6 X6 hQ6 => ?_)
      obtain ⟨rfl, rfl, hh6⟩ := hQ6
      rw [List.append_nil] at X6
      show own_G p e below _ (T6.setTop (mkF m 12 #[.val (.ref x), .val (.int (0 : Int32)), .val (.int (4 : Int32)), .val (.int (1 : Int32)), .val (.int c0)] [(.int c1)]))
      refine own_step (b := T6.setTop (mkF m 14 #[.val (.ref x), .val (.int (0 : Int32)), .val (.int (4 : Int32)), .val (.int (1 : Int32)), .val (.int c1)] [])) (fun t k => XS.istore X6.here hx rfl (hb hby d18_12) rfl (l' := #[.val (.ref x), .val (.int (0 : Int32)), .val (.int (4 : Int32)), .val (.int (1 : Int32)), .val (.int c1)]) rfl k) ?_
      refine own_step (b := T6.setTop (mkF m 16 #[.val (.ref x), .val (.int (0 : Int32)), .val (.int (4 : Int32)), .val (.int (1 : Int32)), .val (.int c1)] [(.int c1)])) (fun t k => XS.iload X6.here hx rfl (hb hby d18_14) rfl k) ?_
      refine own_step (b := T6.setTop (mkF m 18 #[.val (.ref x), .val (.int (0 : Int32)), .val (.int (4 : Int32)), .val (.int (1 : Int32)), .val (.int c1)] [(.int (48 : Int32)), (.int c1)])) (fun t k => XS.bipush X6.here hx rfl (hb hby d18_16) k) ?_
      refine own_icmp_lt X6 hx (hb hby d18_18) (pc' := 28) (by decide) (by decide) (fun c18_7 => ?_) (fun c18_7 => ?_)
      · show own_G p e below _ (T6.setTop (mkF m 28 #[.val (.ref x), .val (.int (0 : Int32)), .val (.int (4 : Int32)), .val (.int (1 : Int32)), .val (.int c1)] []))
        refine own_step (b := T6.setTop (mkF m 29 #[.val (.ref x), .val (.int (0 : Int32)), .val (.int (4 : Int32)), .val (.int (1 : Int32)), .val (.int c1)] [(.int (0 : Int32))])) (fun t k => XS.iconst X6.here hx rfl (hb hby d18_28) k) ?_
        exact own_retN X6 hx hret (by simp) hlk (hb hby d18_29) ⟨by rw [show (own_dig c0 && own_dig c1 && own_dig c2 && own_dig c3) = false by simp [c18_3, c25_4, c18_7, own_dig46, own_dig]]; rfl, rfl, hh6⟩ (by decide) (by decide)
      · show own_G p e below _ (T6.setTop (mkF m 21 #[.val (.ref x), .val (.int (0 : Int32)), .val (.int (4 : Int32)), .val (.int (1 : Int32)), .val (.int c1)] []))
        refine own_step (b := T6.setTop (mkF m 23 #[.val (.ref x), .val (.int (0 : Int32)), .val (.int (4 : Int32)), .val (.int (1 : Int32)), .val (.int c1)] [(.int c1)])) (fun t k => XS.iload X6.here hx rfl (hb hby d18_21) rfl k) ?_
        refine own_step (b := T6.setTop (mkF m 25 #[.val (.ref x), .val (.int (0 : Int32)), .val (.int (4 : Int32)), .val (.int (1 : Int32)), .val (.int c1)] [(.int (57 : Int32)), (.int c1)])) (fun t k => XS.bipush X6.here hx rfl (hb hby d18_23) k) ?_
        refine own_icmp_le X6 hx (hb hby d18_25) (pc' := 30) (by decide) (by decide) (fun c25_8 => ?_) (fun c25_8 => ?_)
        · show own_G p e below _ (T6.setTop (mkF m 30 #[.val (.ref x), .val (.int (0 : Int32)), .val (.int (4 : Int32)), .val (.int (1 : Int32)), .val (.int c1)] []))
          refine own_step (b := T6.setTop (mkF m 33 #[.val (.ref x), .val (.int (0 : Int32)), .val (.int (4 : Int32)), .val (.int (2 : Int32)), .val (.int c1)] [])) (fun t k => XS.iinc X6.here hx rfl (hb hby d18_30) rfl (l' := #[.val (.ref x), .val (.int (0 : Int32)), .val (.int (4 : Int32)), .val (.int (2 : Int32)), .val (.int c1)]) rfl k) ?_
          refine own_step (b := T6.setTop (mkF m 2 #[.val (.ref x), .val (.int (0 : Int32)), .val (.int (4 : Int32)), .val (.int (2 : Int32)), .val (.int c1)] [])) (fun t k => XS.goto X6.here hx rfl (pc0 := 33) (pc' := 2) rfl (hb hby d18_33) (by decide) (by decide) k) ?_
          refine own_step (b := T6.setTop (mkF m 3 #[.val (.ref x), .val (.int (0 : Int32)), .val (.int (4 : Int32)), .val (.int (2 : Int32)), .val (.int c1)] [(.int (2 : Int32))])) (fun t k => XS.iloadN X6.here hx rfl (hb hby d18_2) rfl k) ?_
          refine own_step (b := T6.setTop (mkF m 4 #[.val (.ref x), .val (.int (0 : Int32)), .val (.int (4 : Int32)), .val (.int (2 : Int32)), .val (.int c1)] [(.int (4 : Int32)), (.int (2 : Int32))])) (fun t k => XS.iloadN X6.here hx rfl (hb hby d18_3) rfl k) ?_
          refine own_icmp_ge X6 hx (hb hby d18_4) (pc' := 36) (by decide) (by decide) (fun c4_9 => absurd c4_9 (by decide)) (fun c4_9 => ?_)
          show own_G p e below _ (T6.setTop (mkF m 7 #[.val (.ref x), .val (.int (0 : Int32)), .val (.int (4 : Int32)), .val (.int (2 : Int32)), .val (.int c1)] []))
          refine own_step (b := T6.setTop (mkF m 8 #[.val (.ref x), .val (.int (0 : Int32)), .val (.int (4 : Int32)), .val (.int (2 : Int32)), .val (.int c1)] [(.ref x)])) (fun t k => XS.aloadN X6.here hx rfl (hb hby d18_7) rfl rfl k) ?_
          refine own_step (b := T6.setTop (mkF m 9 #[.val (.ref x), .val (.int (0 : Int32)), .val (.int (4 : Int32)), .val (.int (2 : Int32)), .val (.int c1)] [(.int (2 : Int32)), (.ref x)])) (fun t k => XS.iloadN X6.here hx rfl (hb hby d18_8) rfl k) ?_
          refine own_virtual (a := x) (W := 0) (argsL := [(.int (2 : Int32))]) (st := []) X6 hx hZ hown (own_w hw 51 rfl) (own_w hw 52 rfl) (own_w hw 54 rfl) rfl (own_w hw 53 rfl) (by decide) hh6 SS.1 (own_chB (W := 0) hZ hw (kI := 4) (own_w hw 6 rfl) SS O2 P5 O4 rG3 OL0 2 (Nat.le_of_ble_eq_true rfl) (j := (2 : Int32)) rfl (r := c2) rfl (by decide) (by decide)) (by decide) (by decide) (by rw [hml]; rfl) (lenOf pd3 rfl) rfl (Nat.le_of_ble_eq_true rfl) (hb hby d18_9) (fun v10 T10 L10 X10 hQ10 => ?_)
          obtain ⟨rfl, rfl, hh10⟩ := hQ10
          rw [List.append_nil] at X10
          show own_G p e below _ (T10.setTop (mkF m 12 #[.val (.ref x), .val (.int (0 : Int32)), .val (.int (4 : Int32)), .val (.int (2 : Int32)), .val (.int c1)] [(.int c2)]))
          refine own_step (b := T10.setTop (mkF m 14 #[.val (.ref x), .val (.int (0 : Int32)), .val (.int (4 : Int32)), .val (.int (2 : Int32)), .val (.int c2)] [])) (fun t k => XS.istore X10.here hx rfl (hb hby d18_12) rfl (l' := #[.val (.ref x), .val (.int (0 : Int32)), .val (.int (4 : Int32)), .val (.int (2 : Int32)), .val (.int c2)]) rfl k) ?_
          refine own_step (b := T10.setTop (mkF m 16 #[.val (.ref x), .val (.int (0 : Int32)), .val (.int (4 : Int32)), .val (.int (2 : Int32)), .val (.int c2)] [(.int c2)])) (fun t k => XS.iload X10.here hx rfl (hb hby d18_14) rfl k) ?_
          refine own_step (b := T10.setTop (mkF m 18 #[.val (.ref x), .val (.int (0 : Int32)), .val (.int (4 : Int32)), .val (.int (2 : Int32)), .val (.int c2)] [(.int (48 : Int32)), (.int c2)])) (fun t k => XS.bipush X10.here hx rfl (hb hby d18_16) k) ?_
          refine own_icmp_lt X10 hx (hb hby d18_18) (pc' := 28) (by decide) (by decide) (fun c18_11 => ?_) (fun c18_11 => ?_)
          · show own_G p e below _ (T10.setTop (mkF m 28 #[.val (.ref x), .val (.int (0 : Int32)), .val (.int (4 : Int32)), .val (.int (2 : Int32)), .val (.int c2)] []))
            refine own_step (b := T10.setTop (mkF m 29 #[.val (.ref x), .val (.int (0 : Int32)), .val (.int (4 : Int32)), .val (.int (2 : Int32)), .val (.int c2)] [(.int (0 : Int32))])) (fun t k => XS.iconst X10.here hx rfl (hb hby d18_28) k) ?_
            exact own_retN X10 hx hret (by simp) hlk (hb hby d18_29) ⟨by rw [show (own_dig c0 && own_dig c1 && own_dig c2 && own_dig c3) = false by simp [c18_3, c25_4, c18_7, c25_8, c18_11, own_dig46, own_dig]]; rfl, rfl, hh10⟩ (by decide) (by decide)
          · show own_G p e below _ (T10.setTop (mkF m 21 #[.val (.ref x), .val (.int (0 : Int32)), .val (.int (4 : Int32)), .val (.int (2 : Int32)), .val (.int c2)] []))
            refine own_step (b := T10.setTop (mkF m 23 #[.val (.ref x), .val (.int (0 : Int32)), .val (.int (4 : Int32)), .val (.int (2 : Int32)), .val (.int c2)] [(.int c2)])) (fun t k => XS.iload X10.here hx rfl (hb hby d18_21) rfl k) ?_
            refine own_step (b := T10.setTop (mkF m 25 #[.val (.ref x), .val (.int (0 : Int32)), .val (.int (4 : Int32)), .val (.int (2 : Int32)), .val (.int c2)] [(.int (57 : Int32)), (.int c2)])) (fun t k => XS.bipush X10.here hx rfl (hb hby d18_23) k) ?_
            refine own_icmp_le X10 hx (hb hby d18_25) (pc' := 30) (by decide) (by decide) (fun c25_12 => ?_) (fun c25_12 => ?_)
            · show own_G p e below _ (T10.setTop (mkF m 30 #[.val (.ref x), .val (.int (0 : Int32)), .val (.int (4 : Int32)), .val (.int (2 : Int32)), .val (.int c2)] []))
              refine own_step (b := T10.setTop (mkF m 33 #[.val (.ref x), .val (.int (0 : Int32)), .val (.int (4 : Int32)), .val (.int (3 : Int32)), .val (.int c2)] [])) (fun t k => XS.iinc X10.here hx rfl (hb hby d18_30) rfl (l' := #[.val (.ref x), .val (.int (0 : Int32)), .val (.int (4 : Int32)), .val (.int (3 : Int32)), .val (.int c2)]) rfl k) ?_
              refine own_step (b := T10.setTop (mkF m 2 #[.val (.ref x), .val (.int (0 : Int32)), .val (.int (4 : Int32)), .val (.int (3 : Int32)), .val (.int c2)] [])) (fun t k => XS.goto X10.here hx rfl (pc0 := 33) (pc' := 2) rfl (hb hby d18_33) (by decide) (by decide) k) ?_
              refine own_step (b := T10.setTop (mkF m 3 #[.val (.ref x), .val (.int (0 : Int32)), .val (.int (4 : Int32)), .val (.int (3 : Int32)), .val (.int c2)] [(.int (3 : Int32))])) (fun t k => XS.iloadN X10.here hx rfl (hb hby d18_2) rfl k) ?_
              refine own_step (b := T10.setTop (mkF m 4 #[.val (.ref x), .val (.int (0 : Int32)), .val (.int (4 : Int32)), .val (.int (3 : Int32)), .val (.int c2)] [(.int (4 : Int32)), (.int (3 : Int32))])) (fun t k => XS.iloadN X10.here hx rfl (hb hby d18_3) rfl k) ?_
              refine own_icmp_ge X10 hx (hb hby d18_4) (pc' := 36) (by decide) (by decide) (fun c4_13 => absurd c4_13 (by decide)) (fun c4_13 => ?_)
              show own_G p e below _ (T10.setTop (mkF m 7 #[.val (.ref x), .val (.int (0 : Int32)), .val (.int (4 : Int32)), .val (.int (3 : Int32)), .val (.int c2)] []))
              refine own_step (b := T10.setTop (mkF m 8 #[.val (.ref x), .val (.int (0 : Int32)), .val (.int (4 : Int32)), .val (.int (3 : Int32)), .val (.int c2)] [(.ref x)])) (fun t k => XS.aloadN X10.here hx rfl (hb hby d18_7) rfl rfl k) ?_
              refine own_step (b := T10.setTop (mkF m 9 #[.val (.ref x), .val (.int (0 : Int32)), .val (.int (4 : Int32)), .val (.int (3 : Int32)), .val (.int c2)] [(.int (3 : Int32)), (.ref x)])) (fun t k => XS.iloadN X10.here hx rfl (hb hby d18_8) rfl k) ?_
              refine own_virtual (a := x) (W := 0) (argsL := [(.int (3 : Int32))]) (st := []) X10 hx hZ hown (own_w hw 51 rfl) (own_w hw 52 rfl) (own_w hw 54 rfl) rfl (own_w hw 53 rfl) (by decide) hh10 SS.1 (own_chB (W := 0) hZ hw (kI := 4) (own_w hw 6 rfl) SS O2 P5 O4 rG3 OL0 3 (Nat.le_of_ble_eq_true rfl) (j := (3 : Int32)) rfl (r := c3) rfl (by decide) (by decide)) (by decide) (by decide) (by rw [hml]; rfl) (lenOf pd3 rfl) rfl (Nat.le_of_ble_eq_true rfl) (hb hby d18_9) (fun v14 T14 L14 X14 hQ14 => ?_)
              obtain ⟨rfl, rfl, hh14⟩ := hQ14
              rw [List.append_nil] at X14
              show own_G p e below _ (T14.setTop (mkF m 12 #[.val (.ref x), .val (.int (0 : Int32)), .val (.int (4 : Int32)), .val (.int (3 : Int32)), .val (.int c2)] [(.int c3)]))
              refine own_step (b := T14.setTop (mkF m 14 #[.val (.ref x), .val (.int (0 : Int32)), .val (.int (4 : Int32)), .val (.int (3 : Int32)), .val (.int c3)] [])) (fun t k => XS.istore X14.here hx rfl (hb hby d18_12) rfl (l' := #[.val (.ref x), .val (.int (0 : Int32)), .val (.int (4 : Int32)), .val (.int (3 : Int32)), .val (.int c3)]) rfl k) ?_
              refine own_step (b := T14.setTop (mkF m 16 #[.val (.ref x), .val (.int (0 : Int32)), .val (.int (4 : Int32)), .val (.int (3 : Int32)), .val (.int c3)] [(.int c3)])) (fun t k => XS.iload X14.here hx rfl (hb hby d18_14) rfl k) ?_
              refine own_step (b := T14.setTop (mkF m 18 #[.val (.ref x), .val (.int (0 : Int32)), .val (.int (4 : Int32)), .val (.int (3 : Int32)), .val (.int c3)] [(.int (48 : Int32)), (.int c3)])) (fun t k => XS.bipush X14.here hx rfl (hb hby d18_16) k) ?_
              refine own_icmp_lt X14 hx (hb hby d18_18) (pc' := 28) (by decide) (by decide) (fun c18_15 => ?_) (fun c18_15 => ?_)
              · show own_G p e below _ (T14.setTop (mkF m 28 #[.val (.ref x), .val (.int (0 : Int32)), .val (.int (4 : Int32)), .val (.int (3 : Int32)), .val (.int c3)] []))
                refine own_step (b := T14.setTop (mkF m 29 #[.val (.ref x), .val (.int (0 : Int32)), .val (.int (4 : Int32)), .val (.int (3 : Int32)), .val (.int c3)] [(.int (0 : Int32))])) (fun t k => XS.iconst X14.here hx rfl (hb hby d18_28) k) ?_
                exact own_retN X14 hx hret (by simp) hlk (hb hby d18_29) ⟨by rw [show (own_dig c0 && own_dig c1 && own_dig c2 && own_dig c3) = false by simp [c18_3, c25_4, c18_7, c25_8, c18_11, c25_12, c18_15, own_dig46, own_dig]]; rfl, rfl, hh14⟩ (by decide) (by decide)
              · show own_G p e below _ (T14.setTop (mkF m 21 #[.val (.ref x), .val (.int (0 : Int32)), .val (.int (4 : Int32)), .val (.int (3 : Int32)), .val (.int c3)] []))
                refine own_step (b := T14.setTop (mkF m 23 #[.val (.ref x), .val (.int (0 : Int32)), .val (.int (4 : Int32)), .val (.int (3 : Int32)), .val (.int c3)] [(.int c3)])) (fun t k => XS.iload X14.here hx rfl (hb hby d18_21) rfl k) ?_
                refine own_step (b := T14.setTop (mkF m 25 #[.val (.ref x), .val (.int (0 : Int32)), .val (.int (4 : Int32)), .val (.int (3 : Int32)), .val (.int c3)] [(.int (57 : Int32)), (.int c3)])) (fun t k => XS.bipush X14.here hx rfl (hb hby d18_23) k) ?_
                refine own_icmp_le X14 hx (hb hby d18_25) (pc' := 30) (by decide) (by decide) (fun c25_16 => ?_) (fun c25_16 => ?_)
                · show own_G p e below _ (T14.setTop (mkF m 30 #[.val (.ref x), .val (.int (0 : Int32)), .val (.int (4 : Int32)), .val (.int (3 : Int32)), .val (.int c3)] []))
                  refine own_step (b := T14.setTop (mkF m 33 #[.val (.ref x), .val (.int (0 : Int32)), .val (.int (4 : Int32)), .val (.int (4 : Int32)), .val (.int c3)] [])) (fun t k => XS.iinc X14.here hx rfl (hb hby d18_30) rfl (l' := #[.val (.ref x), .val (.int (0 : Int32)), .val (.int (4 : Int32)), .val (.int (4 : Int32)), .val (.int c3)]) rfl k) ?_
                  refine own_step (b := T14.setTop (mkF m 2 #[.val (.ref x), .val (.int (0 : Int32)), .val (.int (4 : Int32)), .val (.int (4 : Int32)), .val (.int c3)] [])) (fun t k => XS.goto X14.here hx rfl (pc0 := 33) (pc' := 2) rfl (hb hby d18_33) (by decide) (by decide) k) ?_
                  refine own_step (b := T14.setTop (mkF m 3 #[.val (.ref x), .val (.int (0 : Int32)), .val (.int (4 : Int32)), .val (.int (4 : Int32)), .val (.int c3)] [(.int (4 : Int32))])) (fun t k => XS.iloadN X14.here hx rfl (hb hby d18_2) rfl k) ?_
                  refine own_step (b := T14.setTop (mkF m 4 #[.val (.ref x), .val (.int (0 : Int32)), .val (.int (4 : Int32)), .val (.int (4 : Int32)), .val (.int c3)] [(.int (4 : Int32)), (.int (4 : Int32))])) (fun t k => XS.iloadN X14.here hx rfl (hb hby d18_3) rfl k) ?_
                  refine own_icmp_ge X14 hx (hb hby d18_4) (pc' := 36) (by decide) (by decide) (fun c4_17 => ?_) (fun c4_17 => absurd c4_17 (by decide))
                  show own_G p e below _ (T14.setTop (mkF m 36 #[.val (.ref x), .val (.int (0 : Int32)), .val (.int (4 : Int32)), .val (.int (4 : Int32)), .val (.int c3)] []))
                  refine own_step (b := T14.setTop (mkF m 37 #[.val (.ref x), .val (.int (0 : Int32)), .val (.int (4 : Int32)), .val (.int (4 : Int32)), .val (.int c3)] [(.int (1 : Int32))])) (fun t k => XS.iconst X14.here hx rfl (hb hby d18_36) k) ?_
                  exact own_retN X14 hx hret (by simp) hlk (hb hby d18_37) ⟨by rw [show (own_dig c0 && own_dig c1 && own_dig c2 && own_dig c3) = true by simp [c18_3, c25_4, c18_7, c25_8, c18_11, c25_12, c18_15, c25_16, own_dig46, own_dig]]; rfl, rfl, hh14⟩ (by decide) (by decide)
                · show own_G p e below _ (T14.setTop (mkF m 28 #[.val (.ref x), .val (.int (0 : Int32)), .val (.int (4 : Int32)), .val (.int (3 : Int32)), .val (.int c3)] []))
                  refine own_step (b := T14.setTop (mkF m 29 #[.val (.ref x), .val (.int (0 : Int32)), .val (.int (4 : Int32)), .val (.int (3 : Int32)), .val (.int c3)] [(.int (0 : Int32))])) (fun t k => XS.iconst X14.here hx rfl (hb hby d18_28) k) ?_
                  exact own_retN X14 hx hret (by simp) hlk (hb hby d18_29) ⟨by rw [show (own_dig c0 && own_dig c1 && own_dig c2 && own_dig c3) = false by simp [c18_3, c25_4, c18_7, c25_8, c18_11, c25_12, c18_15, c25_16, own_dig46, own_dig]]; rfl, rfl, hh14⟩ (by decide) (by decide)
            · show own_G p e below _ (T10.setTop (mkF m 28 #[.val (.ref x), .val (.int (0 : Int32)), .val (.int (4 : Int32)), .val (.int (2 : Int32)), .val (.int c2)] []))
              refine own_step (b := T10.setTop (mkF m 29 #[.val (.ref x), .val (.int (0 : Int32)), .val (.int (4 : Int32)), .val (.int (2 : Int32)), .val (.int c2)] [(.int (0 : Int32))])) (fun t k => XS.iconst X10.here hx rfl (hb hby d18_28) k) ?_
              exact own_retN X10 hx hret (by simp) hlk (hb hby d18_29) ⟨by rw [show (own_dig c0 && own_dig c1 && own_dig c2 && own_dig c3) = false by simp [c18_3, c25_4, c18_7, c25_8, c18_11, c25_12, own_dig46, own_dig]]; rfl, rfl, hh10⟩ (by decide) (by decide)
        · show own_G p e below _ (T6.setTop (mkF m 28 #[.val (.ref x), .val (.int (0 : Int32)), .val (.int (4 : Int32)), .val (.int (1 : Int32)), .val (.int c1)] []))
          refine own_step (b := T6.setTop (mkF m 29 #[.val (.ref x), .val (.int (0 : Int32)), .val (.int (4 : Int32)), .val (.int (1 : Int32)), .val (.int c1)] [(.int (0 : Int32))])) (fun t k => XS.iconst X6.here hx rfl (hb hby d18_28) k) ?_
          exact own_retN X6 hx hret (by simp) hlk (hb hby d18_29) ⟨by rw [show (own_dig c0 && own_dig c1 && own_dig c2 && own_dig c3) = false by simp [c18_3, c25_4, c18_7, c25_8, own_dig46, own_dig]]; rfl, rfl, hh6⟩ (by decide) (by decide)
    · show own_G p e below _ (T2.setTop (mkF m 28 #[.val (.ref x), .val (.int (0 : Int32)), .val (.int (4 : Int32)), .val (.int (0 : Int32)), .val (.int c0)] []))
      refine own_step (b := T2.setTop (mkF m 29 #[.val (.ref x), .val (.int (0 : Int32)), .val (.int (4 : Int32)), .val (.int (0 : Int32)), .val (.int c0)] [(.int (0 : Int32))])) (fun t k => XS.iconst X2.here hx rfl (hb hby d18_28) k) ?_
      exact own_retN X2 hx hret (by simp) hlk (hb hby d18_29) ⟨by rw [show (own_dig c0 && own_dig c1 && own_dig c2 && own_dig c3) = false by simp [c18_3, c25_4, own_dig46, own_dig]]; rfl, rfl, hh2⟩ (by decide) (by decide)
set_option maxRecDepth 65536 in
set_option maxHeartbeats 40000000 in
theorem rmIsd_2_3 (l : Launch) (Z : State) (a0 : Array Value) (hw : ∀ d ∈ tables_1, d.before a0 Z = true) (ws : List Jvm.Cond) (x : Addr) (c0 c1 c2 c3 : Int32) (h0 : Heap) (SS : own_Str Z h0 x [c0, c1, c2, c3]) (OL0 : Old Z Z.heap.size h0) (G1 : Int32) (O2 : Sta Z Z.heap "java/lang/String" "COMPACT_STRINGS" "Z" (.int G1)) (P5 : ¬ (G1 = (0 : Int32))) (G3 : Value) (O4 : Sta Z Z.heap "jdk/internal/util/Preconditions" "SIOOBE_FORMATTER" "Ljava/util/function/BiFunction;" G3) (rG3 : G3.isRef = true) :
    own_Met l Z (⟨"com/example/drawdown/drawdown/PlainDecimal", "isDigits", "(Ljava/lang/String;II)Z"⟩ : MethodName) prog_8_method_4_code 5 (some .boolean) ws ⟨4, 0, 0, 53⟩ #[(.ref x), (.int (2 : Int32)), (.int (3 : Int32))] h0 (own_P (some (.int (own_bi (own_dig c2)))) h0) := by
  refine own_enter (plainFor_of_name pn1) (fun m => ef_isd m x (2 : Int32) (3 : Int32)) ?_
  intro p e s m below meth c T0 hx hby hml hZ hown hnm hret hlk X0 e0
  show own_G p e below _ (T0.setTop (mkF m 0 #[.val (.ref x), .val (.int (2 : Int32)), .val (.int (3 : Int32)), .unset, .unset] []))
  refine own_step (b := T0.setTop (mkF m 1 #[.val (.ref x), .val (.int (2 : Int32)), .val (.int (3 : Int32)), .unset, .unset] [(.int (2 : Int32))])) (fun t k => XS.iloadN X0.here hx rfl (hb hby d18_0) rfl k) ?_
  refine own_step (b := T0.setTop (mkF m 2 #[.val (.ref x), .val (.int (2 : Int32)), .val (.int (3 : Int32)), .val (.int (2 : Int32)), .unset] [])) (fun t k => XS.istoreN X0.here hx rfl (hb hby d18_1) rfl (l' := #[.val (.ref x), .val (.int (2 : Int32)), .val (.int (3 : Int32)), .val (.int (2 : Int32)), .unset]) rfl k) ?_
  refine own_step (b := T0.setTop (mkF m 3 #[.val (.ref x), .val (.int (2 : Int32)), .val (.int (3 : Int32)), .val (.int (2 : Int32)), .unset] [(.int (2 : Int32))])) (fun t k => XS.iloadN X0.here hx rfl (hb hby d18_2) rfl k) ?_
  refine own_step (b := T0.setTop (mkF m 4 #[.val (.ref x), .val (.int (2 : Int32)), .val (.int (3 : Int32)), .val (.int (2 : Int32)), .unset] [(.int (3 : Int32)), (.int (2 : Int32))])) (fun t k => XS.iloadN X0.here hx rfl (hb hby d18_3) rfl k) ?_
  refine own_icmp_ge X0 hx (hb hby d18_4) (pc' := 36) (by decide) (by decide) (fun c4_1 => absurd c4_1 (by decide)) (fun c4_1 => ?_)
  show own_G p e below _ (T0.setTop (mkF m 7 #[.val (.ref x), .val (.int (2 : Int32)), .val (.int (3 : Int32)), .val (.int (2 : Int32)), .unset] []))
  refine own_step (b := T0.setTop (mkF m 8 #[.val (.ref x), .val (.int (2 : Int32)), .val (.int (3 : Int32)), .val (.int (2 : Int32)), .unset] [(.ref x)])) (fun t k => XS.aloadN X0.here hx rfl (hb hby d18_7) rfl rfl k) ?_
  refine own_step (b := T0.setTop (mkF m 9 #[.val (.ref x), .val (.int (2 : Int32)), .val (.int (3 : Int32)), .val (.int (2 : Int32)), .unset] [(.int (2 : Int32)), (.ref x)])) (fun t k => XS.iloadN X0.here hx rfl (hb hby d18_8) rfl k) ?_
  refine own_virtual (a := x) (W := 0) (argsL := [(.int (2 : Int32))]) (st := []) X0 hx hZ hown (own_w hw 51 rfl) (own_w hw 52 rfl) (own_w hw 54 rfl) rfl (own_w hw 53 rfl) (by decide) e0 SS.1 (own_chB (W := 0) hZ hw (kI := 4) (own_w hw 6 rfl) SS O2 P5 O4 rG3 OL0 2 (Nat.le_of_ble_eq_true rfl) (j := (2 : Int32)) rfl (r := c2) rfl (by decide) (by decide)) (by decide) (by decide) (by rw [hml]; rfl) (lenOf pd3 rfl) rfl (Nat.le_of_ble_eq_true rfl) (hb hby d18_9) (fun v2 T2 L2 X2 hQ2 => ?_)
  obtain ⟨rfl, rfl, hh2⟩ := hQ2
  rw [List.append_nil] at X2
  show own_G p e below _ (T2.setTop (mkF m 12 #[.val (.ref x), .val (.int (2 : Int32)), .val (.int (3 : Int32)), .val (.int (2 : Int32)), .unset] [(.int c2)]))
  refine own_step (b := T2.setTop (mkF m 14 #[.val (.ref x), .val (.int (2 : Int32)), .val (.int (3 : Int32)), .val (.int (2 : Int32)), .val (.int c2)] [])) (fun t k => XS.istore X2.here hx rfl (hb hby d18_12) rfl (l' := #[.val (.ref x), .val (.int (2 : Int32)), .val (.int (3 : Int32)), .val (.int (2 : Int32)), .val (.int c2)]) rfl k) ?_
  refine own_step (b := T2.setTop (mkF m 16 #[.val (.ref x), .val (.int (2 : Int32)), .val (.int (3 : Int32)), .val (.int (2 : Int32)), .val (.int c2)] [(.int c2)])) (fun t k => XS.iload X2.here hx rfl (hb hby d18_14) rfl k) ?_
  refine own_step (b := T2.setTop (mkF m 18 #[.val (.ref x), .val (.int (2 : Int32)), .val (.int (3 : Int32)), .val (.int (2 : Int32)), .val (.int c2)] [(.int (48 : Int32)), (.int c2)])) (fun t k => XS.bipush X2.here hx rfl (hb hby d18_16) k) ?_
  refine own_icmp_lt X2 hx (hb hby d18_18) (pc' := 28) (by decide) (by decide) (fun c18_3 => ?_) (fun c18_3 => ?_)
  · show own_G p e below _ (T2.setTop (mkF m 28 #[.val (.ref x), .val (.int (2 : Int32)), .val (.int (3 : Int32)), .val (.int (2 : Int32)), .val (.int c2)] []))
    refine own_step (b := T2.setTop (mkF m 29 #[.val (.ref x), .val (.int (2 : Int32)), .val (.int (3 : Int32)), .val (.int (2 : Int32)), .val (.int c2)] [(.int (0 : Int32))])) (fun t k => XS.iconst X2.here hx rfl (hb hby d18_28) k) ?_
    exact own_retN X2 hx hret (by simp) hlk (hb hby d18_29) ⟨by rw [show (own_dig c2) = false by simp [c18_3, own_dig46, own_dig]]; rfl, rfl, hh2⟩ (by decide) (by decide)
  · show own_G p e below _ (T2.setTop (mkF m 21 #[.val (.ref x), .val (.int (2 : Int32)), .val (.int (3 : Int32)), .val (.int (2 : Int32)), .val (.int c2)] []))
    refine own_step (b := T2.setTop (mkF m 23 #[.val (.ref x), .val (.int (2 : Int32)), .val (.int (3 : Int32)), .val (.int (2 : Int32)), .val (.int c2)] [(.int c2)])) (fun t k => XS.iload X2.here hx rfl (hb hby d18_21) rfl k) ?_
    refine own_step (b := T2.setTop (mkF m 25 #[.val (.ref x), .val (.int (2 : Int32)), .val (.int (3 : Int32)), .val (.int (2 : Int32)), .val (.int c2)] [(.int (57 : Int32)), (.int c2)])) (fun t k => XS.bipush X2.here hx rfl (hb hby d18_23) k) ?_
    refine own_icmp_le X2 hx (hb hby d18_25) (pc' := 30) (by decide) (by decide) (fun c25_4 => ?_) (fun c25_4 => ?_)
    · show own_G p e below _ (T2.setTop (mkF m 30 #[.val (.ref x), .val (.int (2 : Int32)), .val (.int (3 : Int32)), .val (.int (2 : Int32)), .val (.int c2)] []))
      refine own_step (b := T2.setTop (mkF m 33 #[.val (.ref x), .val (.int (2 : Int32)), .val (.int (3 : Int32)), .val (.int (3 : Int32)), .val (.int c2)] [])) (fun t k => XS.iinc X2.here hx rfl (hb hby d18_30) rfl (l' := #[.val (.ref x), .val (.int (2 : Int32)), .val (.int (3 : Int32)), .val (.int (3 : Int32)), .val (.int c2)]) rfl k) ?_
      refine own_step (b := T2.setTop (mkF m 2 #[.val (.ref x), .val (.int (2 : Int32)), .val (.int (3 : Int32)), .val (.int (3 : Int32)), .val (.int c2)] [])) (fun t k => XS.goto X2.here hx rfl (pc0 := 33) (pc' := 2) rfl (hb hby d18_33) (by decide) (by decide) k) ?_
      refine own_step (b := T2.setTop (mkF m 3 #[.val (.ref x), .val (.int (2 : Int32)), .val (.int (3 : Int32)), .val (.int (3 : Int32)), .val (.int c2)] [(.int (3 : Int32))])) (fun t k => XS.iloadN X2.here hx rfl (hb hby d18_2) rfl k) ?_
      refine own_step (b := T2.setTop (mkF m 4 #[.val (.ref x), .val (.int (2 : Int32)), .val (.int (3 : Int32)), .val (.int (3 : Int32)), .val (.int c2)] [(.int (3 : Int32)), (.int (3 : Int32))])) (fun t k => XS.iloadN X2.here hx rfl (hb hby d18_3) rfl k) ?_
      refine own_icmp_ge X2 hx (hb hby d18_4) (pc' := 36) (by decide) (by decide) (fun c4_5 => ?_) (fun c4_5 => absurd c4_5 (by decide))
      show own_G p e below _ (T2.setTop (mkF m 36 #[.val (.ref x), .val (.int (2 : Int32)), .val (.int (3 : Int32)), .val (.int (3 : Int32)), .val (.int c2)] []))
      refine own_step (b := T2.setTop (mkF m 37 #[.val (.ref x), .val (.int (2 : Int32)), .val (.int (3 : Int32)), .val (.int (3 : Int32)), .val (.int c2)] [(.int (1 : Int32))])) (fun t k => XS.iconst X2.here hx rfl (hb hby d18_36) k) ?_
      exact own_retN X2 hx hret (by simp) hlk (hb hby d18_37) ⟨by rw [show (own_dig c2) = true by simp [c18_3, c25_4, own_dig46, own_dig]]; rfl, rfl, hh2⟩ (by decide) (by decide)
    · show own_G p e below _ (T2.setTop (mkF m 28 #[.val (.ref x), .val (.int (2 : Int32)), .val (.int (3 : Int32)), .val (.int (2 : Int32)), .val (.int c2)] []))
      refine own_step (b := T2.setTop (mkF m 29 #[.val (.ref x), .val (.int (2 : Int32)), .val (.int (3 : Int32)), .val (.int (2 : Int32)), .val (.int c2)] [(.int (0 : Int32))])) (fun t k => XS.iconst X2.here hx rfl (hb hby d18_28) k) ?_
      exact own_retN X2 hx hret (by simp) hlk (hb hby d18_29) ⟨by rw [show (own_dig c2) = false by simp [c18_3, c25_4, own_dig46, own_dig]]; rfl, rfl, hh2⟩ (by decide) (by decide)
set_option maxRecDepth 65536 in
set_option maxHeartbeats 40000000 in
theorem rmIsd_2_4 (l : Launch) (Z : State) (a0 : Array Value) (hw : ∀ d ∈ tables_1, d.before a0 Z = true) (ws : List Jvm.Cond) (x : Addr) (c0 c1 c2 c3 : Int32) (h0 : Heap) (SS : own_Str Z h0 x [c0, c1, c2, c3]) (OL0 : Old Z Z.heap.size h0) (G1 : Int32) (O2 : Sta Z Z.heap "java/lang/String" "COMPACT_STRINGS" "Z" (.int G1)) (P5 : ¬ (G1 = (0 : Int32))) (G3 : Value) (O4 : Sta Z Z.heap "jdk/internal/util/Preconditions" "SIOOBE_FORMATTER" "Ljava/util/function/BiFunction;" G3) (rG3 : G3.isRef = true) :
    own_Met l Z (⟨"com/example/drawdown/drawdown/PlainDecimal", "isDigits", "(Ljava/lang/String;II)Z"⟩ : MethodName) prog_8_method_4_code 5 (some .boolean) ws ⟨4, 0, 0, 53⟩ #[(.ref x), (.int (2 : Int32)), (.int (4 : Int32))] h0 (own_P (some (.int (own_bi (own_dig c2 && own_dig c3)))) h0) := by
  refine own_enter (plainFor_of_name pn1) (fun m => ef_isd m x (2 : Int32) (4 : Int32)) ?_
  intro p e s m below meth c T0 hx hby hml hZ hown hnm hret hlk X0 e0
  show own_G p e below _ (T0.setTop (mkF m 0 #[.val (.ref x), .val (.int (2 : Int32)), .val (.int (4 : Int32)), .unset, .unset] []))
  refine own_step (b := T0.setTop (mkF m 1 #[.val (.ref x), .val (.int (2 : Int32)), .val (.int (4 : Int32)), .unset, .unset] [(.int (2 : Int32))])) (fun t k => XS.iloadN X0.here hx rfl (hb hby d18_0) rfl k) ?_
  refine own_step (b := T0.setTop (mkF m 2 #[.val (.ref x), .val (.int (2 : Int32)), .val (.int (4 : Int32)), .val (.int (2 : Int32)), .unset] [])) (fun t k => XS.istoreN X0.here hx rfl (hb hby d18_1) rfl (l' := #[.val (.ref x), .val (.int (2 : Int32)), .val (.int (4 : Int32)), .val (.int (2 : Int32)), .unset]) rfl k) ?_
  refine own_step (b := T0.setTop (mkF m 3 #[.val (.ref x), .val (.int (2 : Int32)), .val (.int (4 : Int32)), .val (.int (2 : Int32)), .unset] [(.int (2 : Int32))])) (fun t k => XS.iloadN X0.here hx rfl (hb hby d18_2) rfl k) ?_
  refine own_step (b := T0.setTop (mkF m 4 #[.val (.ref x), .val (.int (2 : Int32)), .val (.int (4 : Int32)), .val (.int (2 : Int32)), .unset] [(.int (4 : Int32)), (.int (2 : Int32))])) (fun t k => XS.iloadN X0.here hx rfl (hb hby d18_3) rfl k) ?_
  refine own_icmp_ge X0 hx (hb hby d18_4) (pc' := 36) (by decide) (by decide) (fun c4_1 => absurd c4_1 (by decide)) (fun c4_1 => ?_)
  show own_G p e below _ (T0.setTop (mkF m 7 #[.val (.ref x), .val (.int (2 : Int32)), .val (.int (4 : Int32)), .val (.int (2 : Int32)), .unset] []))
  refine own_step (b := T0.setTop (mkF m 8 #[.val (.ref x), .val (.int (2 : Int32)), .val (.int (4 : Int32)), .val (.int (2 : Int32)), .unset] [(.ref x)])) (fun t k => XS.aloadN X0.here hx rfl (hb hby d18_7) rfl rfl k) ?_
  refine own_step (b := T0.setTop (mkF m 9 #[.val (.ref x), .val (.int (2 : Int32)), .val (.int (4 : Int32)), .val (.int (2 : Int32)), .unset] [(.int (2 : Int32)), (.ref x)])) (fun t k => XS.iloadN X0.here hx rfl (hb hby d18_8) rfl k) ?_
  refine own_virtual (a := x) (W := 0) (argsL := [(.int (2 : Int32))]) (st := []) X0 hx hZ hown (own_w hw 51 rfl) (own_w hw 52 rfl) (own_w hw 54 rfl) rfl (own_w hw 53 rfl) (by decide) e0 SS.1 (own_chB (W := 0) hZ hw (kI := 4) (own_w hw 6 rfl) SS O2 P5 O4 rG3 OL0 2 (Nat.le_of_ble_eq_true rfl) (j := (2 : Int32)) rfl (r := c2) rfl (by decide) (by decide)) (by decide) (by decide) (by rw [hml]; rfl) (lenOf pd3 rfl) rfl (Nat.le_of_ble_eq_true rfl) (hb hby d18_9) (fun v2 T2 L2 X2 hQ2 => ?_)
  obtain ⟨rfl, rfl, hh2⟩ := hQ2
  rw [List.append_nil] at X2
  show own_G p e below _ (T2.setTop (mkF m 12 #[.val (.ref x), .val (.int (2 : Int32)), .val (.int (4 : Int32)), .val (.int (2 : Int32)), .unset] [(.int c2)]))
  refine own_step (b := T2.setTop (mkF m 14 #[.val (.ref x), .val (.int (2 : Int32)), .val (.int (4 : Int32)), .val (.int (2 : Int32)), .val (.int c2)] [])) (fun t k => XS.istore X2.here hx rfl (hb hby d18_12) rfl (l' := #[.val (.ref x), .val (.int (2 : Int32)), .val (.int (4 : Int32)), .val (.int (2 : Int32)), .val (.int c2)]) rfl k) ?_
  refine own_step (b := T2.setTop (mkF m 16 #[.val (.ref x), .val (.int (2 : Int32)), .val (.int (4 : Int32)), .val (.int (2 : Int32)), .val (.int c2)] [(.int c2)])) (fun t k => XS.iload X2.here hx rfl (hb hby d18_14) rfl k) ?_
  refine own_step (b := T2.setTop (mkF m 18 #[.val (.ref x), .val (.int (2 : Int32)), .val (.int (4 : Int32)), .val (.int (2 : Int32)), .val (.int c2)] [(.int (48 : Int32)), (.int c2)])) (fun t k => XS.bipush X2.here hx rfl (hb hby d18_16) k) ?_
  refine own_icmp_lt X2 hx (hb hby d18_18) (pc' := 28) (by decide) (by decide) (fun c18_3 => ?_) (fun c18_3 => ?_)
  · show own_G p e below _ (T2.setTop (mkF m 28 #[.val (.ref x), .val (.int (2 : Int32)), .val (.int (4 : Int32)), .val (.int (2 : Int32)), .val (.int c2)] []))
    refine own_step (b := T2.setTop (mkF m 29 #[.val (.ref x), .val (.int (2 : Int32)), .val (.int (4 : Int32)), .val (.int (2 : Int32)), .val (.int c2)] [(.int (0 : Int32))])) (fun t k => XS.iconst X2.here hx rfl (hb hby d18_28) k) ?_
    exact own_retN X2 hx hret (by simp) hlk (hb hby d18_29) ⟨by rw [show (own_dig c2 && own_dig c3) = false by simp [c18_3, own_dig46, own_dig]]; rfl, rfl, hh2⟩ (by decide) (by decide)
  · show own_G p e below _ (T2.setTop (mkF m 21 #[.val (.ref x), .val (.int (2 : Int32)), .val (.int (4 : Int32)), .val (.int (2 : Int32)), .val (.int c2)] []))
    refine own_step (b := T2.setTop (mkF m 23 #[.val (.ref x), .val (.int (2 : Int32)), .val (.int (4 : Int32)), .val (.int (2 : Int32)), .val (.int c2)] [(.int c2)])) (fun t k => XS.iload X2.here hx rfl (hb hby d18_21) rfl k) ?_
    refine own_step (b := T2.setTop (mkF m 25 #[.val (.ref x), .val (.int (2 : Int32)), .val (.int (4 : Int32)), .val (.int (2 : Int32)), .val (.int c2)] [(.int (57 : Int32)), (.int c2)])) (fun t k => XS.bipush X2.here hx rfl (hb hby d18_23) k) ?_
    refine own_icmp_le X2 hx (hb hby d18_25) (pc' := 30) (by decide) (by decide) (fun c25_4 => ?_) (fun c25_4 => ?_)
    · show own_G p e below _ (T2.setTop (mkF m 30 #[.val (.ref x), .val (.int (2 : Int32)), .val (.int (4 : Int32)), .val (.int (2 : Int32)), .val (.int c2)] []))
      refine own_step (b := T2.setTop (mkF m 33 #[.val (.ref x), .val (.int (2 : Int32)), .val (.int (4 : Int32)), .val (.int (3 : Int32)), .val (.int c2)] [])) (fun t k => XS.iinc X2.here hx rfl (hb hby d18_30) rfl (l' := #[.val (.ref x), .val (.int (2 : Int32)), .val (.int (4 : Int32)), .val (.int (3 : Int32)), .val (.int c2)]) rfl k) ?_
      refine own_step (b := T2.setTop (mkF m 2 #[.val (.ref x), .val (.int (2 : Int32)), .val (.int (4 : Int32)), .val (.int (3 : Int32)), .val (.int c2)] [])) (fun t k => XS.goto X2.here hx rfl (pc0 := 33) (pc' := 2) rfl (hb hby d18_33) (by decide) (by decide) k) ?_
      refine own_step (b := T2.setTop (mkF m 3 #[.val (.ref x), .val (.int (2 : Int32)), .val (.int (4 : Int32)), .val (.int (3 : Int32)), .val (.int c2)] [(.int (3 : Int32))])) (fun t k => XS.iloadN X2.here hx rfl (hb hby d18_2) rfl k) ?_
      refine own_step (b := T2.setTop (mkF m 4 #[.val (.ref x), .val (.int (2 : Int32)), .val (.int (4 : Int32)), .val (.int (3 : Int32)), .val (.int c2)] [(.int (4 : Int32)), (.int (3 : Int32))])) (fun t k => XS.iloadN X2.here hx rfl (hb hby d18_3) rfl k) ?_
      refine own_icmp_ge X2 hx (hb hby d18_4) (pc' := 36) (by decide) (by decide) (fun c4_5 => absurd c4_5 (by decide)) (fun c4_5 => ?_)
      show own_G p e below _ (T2.setTop (mkF m 7 #[.val (.ref x), .val (.int (2 : Int32)), .val (.int (4 : Int32)), .val (.int (3 : Int32)), .val (.int c2)] []))
      refine own_step (b := T2.setTop (mkF m 8 #[.val (.ref x), .val (.int (2 : Int32)), .val (.int (4 : Int32)), .val (.int (3 : Int32)), .val (.int c2)] [(.ref x)])) (fun t k => XS.aloadN X2.here hx rfl (hb hby d18_7) rfl rfl k) ?_
      refine own_step (b := T2.setTop (mkF m 9 #[.val (.ref x), .val (.int (2 : Int32)), .val (.int (4 : Int32)), .val (.int (3 : Int32)), .val (.int c2)] [(.int (3 : Int32)), (.ref x)])) (fun t k => XS.iloadN X2.here hx rfl (hb hby d18_8) rfl k) ?_
      refine own_virtual (a := x) (W := 0) (argsL := [(.int (3 : Int32))]) (st := []) X2 hx hZ hown (own_w hw 51 rfl) (own_w hw 52 rfl) (own_w hw 54 rfl) rfl (own_w hw 53 rfl) (by decide) hh2 SS.1 (own_chB (W := 0) hZ hw (kI := 4) (own_w hw 6 rfl) SS O2 P5 O4 rG3 OL0 3 (Nat.le_of_ble_eq_true rfl) (j := (3 : Int32)) rfl (r := c3) rfl (by decide) (by decide)) (by decide) (by decide) (by rw [hml]; rfl) (lenOf pd3 rfl) rfl (Nat.le_of_ble_eq_true rfl) (hb hby d18_9) (fun v6 T6 L6 X6 hQ6 => ?_)
      obtain ⟨rfl, rfl, hh6⟩ := hQ6
      rw [List.append_nil] at X6
      show own_G p e below _ (T6.setTop (mkF m 12 #[.val (.ref x), .val (.int (2 : Int32)), .val (.int (4 : Int32)), .val (.int (3 : Int32)), .val (.int c2)] [(.int c3)]))
      refine own_step (b := T6.setTop (mkF m 14 #[.val (.ref x), .val (.int (2 : Int32)), .val (.int (4 : Int32)), .val (.int (3 : Int32)), .val (.int c3)] [])) (fun t k => XS.istore X6.here hx rfl (hb hby d18_12) rfl (l' := #[.val (.ref x), .val (.int (2 : Int32)), .val (.int (4 : Int32)), .val (.int (3 : Int32)), .val (.int c3)]) rfl k) ?_
      refine own_step (b := T6.setTop (mkF m 16 #[.val (.ref x), .val (.int (2 : Int32)), .val (.int (4 : Int32)), .val (.int (3 : Int32)), .val (.int c3)] [(.int c3)])) (fun t k => XS.iload X6.here hx rfl (hb hby d18_14) rfl k) ?_
      refine own_step (b := T6.setTop (mkF m 18 #[.val (.ref x), .val (.int (2 : Int32)), .val (.int (4 : Int32)), .val (.int (3 : Int32)), .val (.int c3)] [(.int (48 : Int32)), (.int c3)])) (fun t k => XS.bipush X6.here hx rfl (hb hby d18_16) k) ?_
      refine own_icmp_lt X6 hx (hb hby d18_18) (pc' := 28) (by decide) (by decide) (fun c18_7 => ?_) (fun c18_7 => ?_)
      · show own_G p e below _ (T6.setTop (mkF m 28 #[.val (.ref x), .val (.int (2 : Int32)), .val (.int (4 : Int32)), .val (.int (3 : Int32)), .val (.int c3)] []))
        refine own_step (b := T6.setTop (mkF m 29 #[.val (.ref x), .val (.int (2 : Int32)), .val (.int (4 : Int32)), .val (.int (3 : Int32)), .val (.int c3)] [(.int (0 : Int32))])) (fun t k => XS.iconst X6.here hx rfl (hb hby d18_28) k) ?_
        exact own_retN X6 hx hret (by simp) hlk (hb hby d18_29) ⟨by rw [show (own_dig c2 && own_dig c3) = false by simp [c18_3, c25_4, c18_7, own_dig46, own_dig]]; rfl, rfl, hh6⟩ (by decide) (by decide)
      · show own_G p e below _ (T6.setTop (mkF m 21 #[.val (.ref x), .val (.int (2 : Int32)), .val (.int (4 : Int32)), .val (.int (3 : Int32)), .val (.int c3)] []))
        refine own_step (b := T6.setTop (mkF m 23 #[.val (.ref x), .val (.int (2 : Int32)), .val (.int (4 : Int32)), .val (.int (3 : Int32)), .val (.int c3)] [(.int c3)])) (fun t k => XS.iload X6.here hx rfl (hb hby d18_21) rfl k) ?_
        refine own_step (b := T6.setTop (mkF m 25 #[.val (.ref x), .val (.int (2 : Int32)), .val (.int (4 : Int32)), .val (.int (3 : Int32)), .val (.int c3)] [(.int (57 : Int32)), (.int c3)])) (fun t k => XS.bipush X6.here hx rfl (hb hby d18_23) k) ?_
        refine own_icmp_le X6 hx (hb hby d18_25) (pc' := 30) (by decide) (by decide) (fun c25_8 => ?_) (fun c25_8 => ?_)
        · show own_G p e below _ (T6.setTop (mkF m 30 #[.val (.ref x), .val (.int (2 : Int32)), .val (.int (4 : Int32)), .val (.int (3 : Int32)), .val (.int c3)] []))
          refine own_step (b := T6.setTop (mkF m 33 #[.val (.ref x), .val (.int (2 : Int32)), .val (.int (4 : Int32)), .val (.int (4 : Int32)), .val (.int c3)] [])) (fun t k => XS.iinc X6.here hx rfl (hb hby d18_30) rfl (l' := #[.val (.ref x), .val (.int (2 : Int32)), .val (.int (4 : Int32)), .val (.int (4 : Int32)), .val (.int c3)]) rfl k) ?_
          refine own_step (b := T6.setTop (mkF m 2 #[.val (.ref x), .val (.int (2 : Int32)), .val (.int (4 : Int32)), .val (.int (4 : Int32)), .val (.int c3)] [])) (fun t k => XS.goto X6.here hx rfl (pc0 := 33) (pc' := 2) rfl (hb hby d18_33) (by decide) (by decide) k) ?_
          refine own_step (b := T6.setTop (mkF m 3 #[.val (.ref x), .val (.int (2 : Int32)), .val (.int (4 : Int32)), .val (.int (4 : Int32)), .val (.int c3)] [(.int (4 : Int32))])) (fun t k => XS.iloadN X6.here hx rfl (hb hby d18_2) rfl k) ?_
          refine own_step (b := T6.setTop (mkF m 4 #[.val (.ref x), .val (.int (2 : Int32)), .val (.int (4 : Int32)), .val (.int (4 : Int32)), .val (.int c3)] [(.int (4 : Int32)), (.int (4 : Int32))])) (fun t k => XS.iloadN X6.here hx rfl (hb hby d18_3) rfl k) ?_
          refine own_icmp_ge X6 hx (hb hby d18_4) (pc' := 36) (by decide) (by decide) (fun c4_9 => ?_) (fun c4_9 => absurd c4_9 (by decide))
          show own_G p e below _ (T6.setTop (mkF m 36 #[.val (.ref x), .val (.int (2 : Int32)), .val (.int (4 : Int32)), .val (.int (4 : Int32)), .val (.int c3)] []))
          refine own_step (b := T6.setTop (mkF m 37 #[.val (.ref x), .val (.int (2 : Int32)), .val (.int (4 : Int32)), .val (.int (4 : Int32)), .val (.int c3)] [(.int (1 : Int32))])) (fun t k => XS.iconst X6.here hx rfl (hb hby d18_36) k) ?_
          exact own_retN X6 hx hret (by simp) hlk (hb hby d18_37) ⟨by rw [show (own_dig c2 && own_dig c3) = true by simp [c18_3, c25_4, c18_7, c25_8, own_dig46, own_dig]]; rfl, rfl, hh6⟩ (by decide) (by decide)
        · show own_G p e below _ (T6.setTop (mkF m 28 #[.val (.ref x), .val (.int (2 : Int32)), .val (.int (4 : Int32)), .val (.int (3 : Int32)), .val (.int c3)] []))
          refine own_step (b := T6.setTop (mkF m 29 #[.val (.ref x), .val (.int (2 : Int32)), .val (.int (4 : Int32)), .val (.int (3 : Int32)), .val (.int c3)] [(.int (0 : Int32))])) (fun t k => XS.iconst X6.here hx rfl (hb hby d18_28) k) ?_
          exact own_retN X6 hx hret (by simp) hlk (hb hby d18_29) ⟨by rw [show (own_dig c2 && own_dig c3) = false by simp [c18_3, c25_4, c18_7, c25_8, own_dig46, own_dig]]; rfl, rfl, hh6⟩ (by decide) (by decide)
    · show own_G p e below _ (T2.setTop (mkF m 28 #[.val (.ref x), .val (.int (2 : Int32)), .val (.int (4 : Int32)), .val (.int (2 : Int32)), .val (.int c2)] []))
      refine own_step (b := T2.setTop (mkF m 29 #[.val (.ref x), .val (.int (2 : Int32)), .val (.int (4 : Int32)), .val (.int (2 : Int32)), .val (.int c2)] [(.int (0 : Int32))])) (fun t k => XS.iconst X2.here hx rfl (hb hby d18_28) k) ?_
      exact own_retN X2 hx hret (by simp) hlk (hb hby d18_29) ⟨by rw [show (own_dig c2 && own_dig c3) = false by simp [c18_3, c25_4, own_dig46, own_dig]]; rfl, rfl, hh2⟩ (by decide) (by decide)
set_option maxRecDepth 65536 in
set_option maxHeartbeats 40000000 in
theorem rmIsd_3_4 (l : Launch) (Z : State) (a0 : Array Value) (hw : ∀ d ∈ tables_1, d.before a0 Z = true) (ws : List Jvm.Cond) (x : Addr) (c0 c1 c2 c3 : Int32) (h0 : Heap) (SS : own_Str Z h0 x [c0, c1, c2, c3]) (OL0 : Old Z Z.heap.size h0) (G1 : Int32) (O2 : Sta Z Z.heap "java/lang/String" "COMPACT_STRINGS" "Z" (.int G1)) (P5 : ¬ (G1 = (0 : Int32))) (G3 : Value) (O4 : Sta Z Z.heap "jdk/internal/util/Preconditions" "SIOOBE_FORMATTER" "Ljava/util/function/BiFunction;" G3) (rG3 : G3.isRef = true) :
    own_Met l Z (⟨"com/example/drawdown/drawdown/PlainDecimal", "isDigits", "(Ljava/lang/String;II)Z"⟩ : MethodName) prog_8_method_4_code 5 (some .boolean) ws ⟨4, 0, 0, 53⟩ #[(.ref x), (.int (3 : Int32)), (.int (4 : Int32))] h0 (own_P (some (.int (own_bi (own_dig c3)))) h0) := by
  refine own_enter (plainFor_of_name pn1) (fun m => ef_isd m x (3 : Int32) (4 : Int32)) ?_
  intro p e s m below meth c T0 hx hby hml hZ hown hnm hret hlk X0 e0
  show own_G p e below _ (T0.setTop (mkF m 0 #[.val (.ref x), .val (.int (3 : Int32)), .val (.int (4 : Int32)), .unset, .unset] []))
  refine own_step (b := T0.setTop (mkF m 1 #[.val (.ref x), .val (.int (3 : Int32)), .val (.int (4 : Int32)), .unset, .unset] [(.int (3 : Int32))])) (fun t k => XS.iloadN X0.here hx rfl (hb hby d18_0) rfl k) ?_
  refine own_step (b := T0.setTop (mkF m 2 #[.val (.ref x), .val (.int (3 : Int32)), .val (.int (4 : Int32)), .val (.int (3 : Int32)), .unset] [])) (fun t k => XS.istoreN X0.here hx rfl (hb hby d18_1) rfl (l' := #[.val (.ref x), .val (.int (3 : Int32)), .val (.int (4 : Int32)), .val (.int (3 : Int32)), .unset]) rfl k) ?_
  refine own_step (b := T0.setTop (mkF m 3 #[.val (.ref x), .val (.int (3 : Int32)), .val (.int (4 : Int32)), .val (.int (3 : Int32)), .unset] [(.int (3 : Int32))])) (fun t k => XS.iloadN X0.here hx rfl (hb hby d18_2) rfl k) ?_
  refine own_step (b := T0.setTop (mkF m 4 #[.val (.ref x), .val (.int (3 : Int32)), .val (.int (4 : Int32)), .val (.int (3 : Int32)), .unset] [(.int (4 : Int32)), (.int (3 : Int32))])) (fun t k => XS.iloadN X0.here hx rfl (hb hby d18_3) rfl k) ?_
  refine own_icmp_ge X0 hx (hb hby d18_4) (pc' := 36) (by decide) (by decide) (fun c4_1 => absurd c4_1 (by decide)) (fun c4_1 => ?_)
  show own_G p e below _ (T0.setTop (mkF m 7 #[.val (.ref x), .val (.int (3 : Int32)), .val (.int (4 : Int32)), .val (.int (3 : Int32)), .unset] []))
  refine own_step (b := T0.setTop (mkF m 8 #[.val (.ref x), .val (.int (3 : Int32)), .val (.int (4 : Int32)), .val (.int (3 : Int32)), .unset] [(.ref x)])) (fun t k => XS.aloadN X0.here hx rfl (hb hby d18_7) rfl rfl k) ?_
  refine own_step (b := T0.setTop (mkF m 9 #[.val (.ref x), .val (.int (3 : Int32)), .val (.int (4 : Int32)), .val (.int (3 : Int32)), .unset] [(.int (3 : Int32)), (.ref x)])) (fun t k => XS.iloadN X0.here hx rfl (hb hby d18_8) rfl k) ?_
  refine own_virtual (a := x) (W := 0) (argsL := [(.int (3 : Int32))]) (st := []) X0 hx hZ hown (own_w hw 51 rfl) (own_w hw 52 rfl) (own_w hw 54 rfl) rfl (own_w hw 53 rfl) (by decide) e0 SS.1 (own_chB (W := 0) hZ hw (kI := 4) (own_w hw 6 rfl) SS O2 P5 O4 rG3 OL0 3 (Nat.le_of_ble_eq_true rfl) (j := (3 : Int32)) rfl (r := c3) rfl (by decide) (by decide)) (by decide) (by decide) (by rw [hml]; rfl) (lenOf pd3 rfl) rfl (Nat.le_of_ble_eq_true rfl) (hb hby d18_9) (fun v2 T2 L2 X2 hQ2 => ?_)
  obtain ⟨rfl, rfl, hh2⟩ := hQ2
  rw [List.append_nil] at X2
  show own_G p e below _ (T2.setTop (mkF m 12 #[.val (.ref x), .val (.int (3 : Int32)), .val (.int (4 : Int32)), .val (.int (3 : Int32)), .unset] [(.int c3)]))
  refine own_step (b := T2.setTop (mkF m 14 #[.val (.ref x), .val (.int (3 : Int32)), .val (.int (4 : Int32)), .val (.int (3 : Int32)), .val (.int c3)] [])) (fun t k => XS.istore X2.here hx rfl (hb hby d18_12) rfl (l' := #[.val (.ref x), .val (.int (3 : Int32)), .val (.int (4 : Int32)), .val (.int (3 : Int32)), .val (.int c3)]) rfl k) ?_
  refine own_step (b := T2.setTop (mkF m 16 #[.val (.ref x), .val (.int (3 : Int32)), .val (.int (4 : Int32)), .val (.int (3 : Int32)), .val (.int c3)] [(.int c3)])) (fun t k => XS.iload X2.here hx rfl (hb hby d18_14) rfl k) ?_
  refine own_step (b := T2.setTop (mkF m 18 #[.val (.ref x), .val (.int (3 : Int32)), .val (.int (4 : Int32)), .val (.int (3 : Int32)), .val (.int c3)] [(.int (48 : Int32)), (.int c3)])) (fun t k => XS.bipush X2.here hx rfl (hb hby d18_16) k) ?_
  refine own_icmp_lt X2 hx (hb hby d18_18) (pc' := 28) (by decide) (by decide) (fun c18_3 => ?_) (fun c18_3 => ?_)
  · show own_G p e below _ (T2.setTop (mkF m 28 #[.val (.ref x), .val (.int (3 : Int32)), .val (.int (4 : Int32)), .val (.int (3 : Int32)), .val (.int c3)] []))
    refine own_step (b := T2.setTop (mkF m 29 #[.val (.ref x), .val (.int (3 : Int32)), .val (.int (4 : Int32)), .val (.int (3 : Int32)), .val (.int c3)] [(.int (0 : Int32))])) (fun t k => XS.iconst X2.here hx rfl (hb hby d18_28) k) ?_
    exact own_retN X2 hx hret (by simp) hlk (hb hby d18_29) ⟨by rw [show (own_dig c3) = false by simp [c18_3, own_dig46, own_dig]]; rfl, rfl, hh2⟩ (by decide) (by decide)
  · show own_G p e below _ (T2.setTop (mkF m 21 #[.val (.ref x), .val (.int (3 : Int32)), .val (.int (4 : Int32)), .val (.int (3 : Int32)), .val (.int c3)] []))
    refine own_step (b := T2.setTop (mkF m 23 #[.val (.ref x), .val (.int (3 : Int32)), .val (.int (4 : Int32)), .val (.int (3 : Int32)), .val (.int c3)] [(.int c3)])) (fun t k => XS.iload X2.here hx rfl (hb hby d18_21) rfl k) ?_
    refine own_step (b := T2.setTop (mkF m 25 #[.val (.ref x), .val (.int (3 : Int32)), .val (.int (4 : Int32)), .val (.int (3 : Int32)), .val (.int c3)] [(.int (57 : Int32)), (.int c3)])) (fun t k => XS.bipush X2.here hx rfl (hb hby d18_23) k) ?_
    refine own_icmp_le X2 hx (hb hby d18_25) (pc' := 30) (by decide) (by decide) (fun c25_4 => ?_) (fun c25_4 => ?_)
    · show own_G p e below _ (T2.setTop (mkF m 30 #[.val (.ref x), .val (.int (3 : Int32)), .val (.int (4 : Int32)), .val (.int (3 : Int32)), .val (.int c3)] []))
      refine own_step (b := T2.setTop (mkF m 33 #[.val (.ref x), .val (.int (3 : Int32)), .val (.int (4 : Int32)), .val (.int (4 : Int32)), .val (.int c3)] [])) (fun t k => XS.iinc X2.here hx rfl (hb hby d18_30) rfl (l' := #[.val (.ref x), .val (.int (3 : Int32)), .val (.int (4 : Int32)), .val (.int (4 : Int32)), .val (.int c3)]) rfl k) ?_
      refine own_step (b := T2.setTop (mkF m 2 #[.val (.ref x), .val (.int (3 : Int32)), .val (.int (4 : Int32)), .val (.int (4 : Int32)), .val (.int c3)] [])) (fun t k => XS.goto X2.here hx rfl (pc0 := 33) (pc' := 2) rfl (hb hby d18_33) (by decide) (by decide) k) ?_
      refine own_step (b := T2.setTop (mkF m 3 #[.val (.ref x), .val (.int (3 : Int32)), .val (.int (4 : Int32)), .val (.int (4 : Int32)), .val (.int c3)] [(.int (4 : Int32))])) (fun t k => XS.iloadN X2.here hx rfl (hb hby d18_2) rfl k) ?_
      refine own_step (b := T2.setTop (mkF m 4 #[.val (.ref x), .val (.int (3 : Int32)), .val (.int (4 : Int32)), .val (.int (4 : Int32)), .val (.int c3)] [(.int (4 : Int32)), (.int (4 : Int32))])) (fun t k => XS.iloadN X2.here hx rfl (hb hby d18_3) rfl k) ?_
      refine own_icmp_ge X2 hx (hb hby d18_4) (pc' := 36) (by decide) (by decide) (fun c4_5 => ?_) (fun c4_5 => absurd c4_5 (by decide))
      show own_G p e below _ (T2.setTop (mkF m 36 #[.val (.ref x), .val (.int (3 : Int32)), .val (.int (4 : Int32)), .val (.int (4 : Int32)), .val (.int c3)] []))
      refine own_step (b := T2.setTop (mkF m 37 #[.val (.ref x), .val (.int (3 : Int32)), .val (.int (4 : Int32)), .val (.int (4 : Int32)), .val (.int c3)] [(.int (1 : Int32))])) (fun t k => XS.iconst X2.here hx rfl (hb hby d18_36) k) ?_
      exact own_retN X2 hx hret (by simp) hlk (hb hby d18_37) ⟨by rw [show (own_dig c3) = true by simp [c18_3, c25_4, own_dig46, own_dig]]; rfl, rfl, hh2⟩ (by decide) (by decide)
    · show own_G p e below _ (T2.setTop (mkF m 28 #[.val (.ref x), .val (.int (3 : Int32)), .val (.int (4 : Int32)), .val (.int (3 : Int32)), .val (.int c3)] []))
      refine own_step (b := T2.setTop (mkF m 29 #[.val (.ref x), .val (.int (3 : Int32)), .val (.int (4 : Int32)), .val (.int (3 : Int32)), .val (.int c3)] [(.int (0 : Int32))])) (fun t k => XS.iconst X2.here hx rfl (hb hby d18_28) k) ?_
      exact own_retN X2 hx hret (by simp) hlk (hb hby d18_29) ⟨by rw [show (own_dig c3) = false by simp [c18_3, c25_4, own_dig46, own_dig]]; rfl, rfl, hh2⟩ (by decide) (by decide)
theorem ef_mat (m : MethodId) (x : Addr) (n pl : Int32) : entryFrame m #[(.ref x), (.int n), (.int pl)] 7 = mkF m 0 #[.val (.ref x), .val (.int n), .val (.int pl), .unset, .unset, .unset, .unset] [] := by first | (simp [entryFrame, mkF, argsToLocals, Value.category, maxLocals]; done) | rfl
set_option maxRecDepth 65536 in
set_option maxHeartbeats 40000000 in
theorem rmMat_0 (l : Launch) (Z : State) (a0 : Array Value) (hw : ∀ d ∈ tables_1, d.before a0 Z = true) (ws : List Jvm.Cond) (pl : Int32) (x : Addr) (c0 c1 c2 c3 : Int32) (h0 : Heap) (SS : own_Str Z h0 x [c0, c1, c2, c3]) (OL0 : Old Z Z.heap.size h0) (G1 : Int32) (O2 : Sta Z Z.heap "java/lang/String" "COMPACT_STRINGS" "Z" (.int G1)) (P5 : ¬ (G1 = (0 : Int32))) (G3 : Value) (O4 : Sta Z Z.heap "jdk/internal/util/Preconditions" "SIOOBE_FORMATTER" "Ljava/util/function/BiFunction;" G3) (rG3 : G3.isRef = true) :
    own_Met l Z (⟨"com/example/drawdown/drawdown/PlainDecimal", "matches", "(Ljava/lang/String;II)Z"⟩ : MethodName) prog_8_method_2_code 7 (some .boolean) ws ⟨5, 0, 0, 69⟩ #[(.ref x), (.int (0 : Int32)), (.int pl)] h0 (own_P (some (.int (own_bi false))) h0) := by
  refine own_enter (plainFor_of_name pn1) (fun m => ef_mat m x (0 : Int32) pl) ?_
  intro p e s m below meth c T0 hx hby hml hZ hown hnm hret hlk X0 e0
  show own_G p e below _ (T0.setTop (mkF m 0 #[.val (.ref x), .val (.int (0 : Int32)), .val (.int pl), .unset, .unset, .unset, .unset] []))
  refine own_step (b := T0.setTop (mkF m 1 #[.val (.ref x), .val (.int (0 : Int32)), .val (.int pl), .unset, .unset, .unset, .unset] [(.int (0 : Int32))])) (fun t k => XS.iloadN X0.here hx rfl (hb hby d12_0) rfl k) ?_
  refine own_step (b := T0.setTop (mkF m 2 #[.val (.ref x), .val (.int (0 : Int32)), .val (.int pl), .val (.int (0 : Int32)), .unset, .unset, .unset] [])) (fun t k => XS.istoreN X0.here hx rfl (hb hby d12_1) rfl (l' := #[.val (.ref x), .val (.int (0 : Int32)), .val (.int pl), .val (.int (0 : Int32)), .unset, .unset, .unset]) rfl k) ?_
  refine own_step (b := T0.setTop (mkF m 3 #[.val (.ref x), .val (.int (0 : Int32)), .val (.int pl), .val (.int (0 : Int32)), .unset, .unset, .unset] [(.int (0 : Int32))])) (fun t k => XS.iconst X0.here hx rfl (hb hby d12_2) k) ?_
  refine own_step (b := T0.setTop (mkF m 5 #[.val (.ref x), .val (.int (0 : Int32)), .val (.int pl), .val (.int (0 : Int32)), .val (.int (0 : Int32)), .unset, .unset] [])) (fun t k => XS.istore X0.here hx rfl (hb hby d12_3) rfl (l' := #[.val (.ref x), .val (.int (0 : Int32)), .val (.int pl), .val (.int (0 : Int32)), .val (.int (0 : Int32)), .unset, .unset]) rfl k) ?_
  refine own_step (b := T0.setTop (mkF m 7 #[.val (.ref x), .val (.int (0 : Int32)), .val (.int pl), .val (.int (0 : Int32)), .val (.int (0 : Int32)), .unset, .unset] [(.int (0 : Int32))])) (fun t k => XS.iload X0.here hx rfl (hb hby d12_5) rfl k) ?_
  refine own_step (b := T0.setTop (mkF m 8 #[.val (.ref x), .val (.int (0 : Int32)), .val (.int pl), .val (.int (0 : Int32)), .val (.int (0 : Int32)), .unset, .unset] [(.int (0 : Int32)), (.int (0 : Int32))])) (fun t k => XS.iloadN X0.here hx rfl (hb hby d12_7) rfl k) ?_
  refine own_icmp_ge X0 hx (hb hby d12_8) (pc' := 34) (by decide) (by decide) (fun c8_1 => ?_) (fun c8_1 => absurd c8_1 (by decide))
  show own_G p e below _ (T0.setTop (mkF m 34 #[.val (.ref x), .val (.int (0 : Int32)), .val (.int pl), .val (.int (0 : Int32)), .val (.int (0 : Int32)), .unset, .unset] []))
  refine own_step (b := T0.setTop (mkF m 35 #[.val (.ref x), .val (.int (0 : Int32)), .val (.int pl), .val (.int (0 : Int32)), .val (.int (0 : Int32)), .unset, .unset] [(.int (0 : Int32))])) (fun t k => XS.iloadN X0.here hx rfl (hb hby d12_34) rfl k) ?_
  refine own_step (b := T0.setTop (mkF m 36 #[.val (.ref x), .val (.int (0 : Int32)), .val (.int pl), .val (.int (0 : Int32)), .val (.int (0 : Int32)), .unset, .unset] [(.int (0 : Int32)), (.int (0 : Int32))])) (fun t k => XS.iloadN X0.here hx rfl (hb hby d12_35) rfl k) ?_
  refine own_icmp_ne X0 hx (hb hby d12_36) (pc' := 43) (by decide) (by decide) (fun c36_2 => absurd c36_2 (by decide)) (fun c36_2 => ?_)
  show own_G p e below _ (T0.setTop (mkF m 39 #[.val (.ref x), .val (.int (0 : Int32)), .val (.int pl), .val (.int (0 : Int32)), .val (.int (0 : Int32)), .unset, .unset] []))
  refine own_step (b := T0.setTop (mkF m 40 #[.val (.ref x), .val (.int (0 : Int32)), .val (.int pl), .val (.int (0 : Int32)), .val (.int (0 : Int32)), .unset, .unset] [(.int (0 : Int32))])) (fun t k => XS.iconst X0.here hx rfl (hb hby d12_39) k) ?_
  refine own_step (b := T0.setTop (mkF m 48 #[.val (.ref x), .val (.int (0 : Int32)), .val (.int pl), .val (.int (0 : Int32)), .val (.int (0 : Int32)), .unset, .unset] [(.int (0 : Int32))])) (fun t k => XS.goto X0.here hx rfl (pc0 := 40) (pc' := 48) rfl (hb hby d12_40) (by decide) (by decide) k) ?_
  refine own_step (b := T0.setTop (mkF m 50 #[.val (.ref x), .val (.int (0 : Int32)), .val (.int pl), .val (.int (0 : Int32)), .val (.int (0 : Int32)), .unset, .unset] [])) (fun t k => XS.istore X0.here hx rfl (hb hby d12_48) rfl (l' := #[.val (.ref x), .val (.int (0 : Int32)), .val (.int pl), .val (.int (0 : Int32)), .val (.int (0 : Int32)), .unset, .unset]) rfl k) ?_
  refine own_step (b := T0.setTop (mkF m 51 #[.val (.ref x), .val (.int (0 : Int32)), .val (.int pl), .val (.int (0 : Int32)), .val (.int (0 : Int32)), .unset, .unset] [(.int (0 : Int32))])) (fun t k => XS.iloadN X0.here hx rfl (hb hby d12_50) rfl k) ?_
  refine own_step (b := T0.setTop (mkF m 52 #[.val (.ref x), .val (.int (0 : Int32)), .val (.int pl), .val (.int (0 : Int32)), .val (.int (0 : Int32)), .unset, .unset] [(.int (1 : Int32)), (.int (0 : Int32))])) (fun t k => XS.iconst X0.here hx rfl (hb hby d12_51) k) ?_
  refine own_icmp_le X0 hx (hb hby d12_52) (pc' := 69) (by decide) (by decide) (fun c52_3 => ?_) (fun c52_3 => absurd c52_3 (by decide))
  show own_G p e below _ (T0.setTop (mkF m 69 #[.val (.ref x), .val (.int (0 : Int32)), .val (.int pl), .val (.int (0 : Int32)), .val (.int (0 : Int32)), .unset, .unset] []))
  refine own_step (b := T0.setTop (mkF m 70 #[.val (.ref x), .val (.int (0 : Int32)), .val (.int pl), .val (.int (0 : Int32)), .val (.int (0 : Int32)), .unset, .unset] [(.int (0 : Int32))])) (fun t k => XS.iconst X0.here hx rfl (hb hby d12_69) k) ?_
  refine own_step (b := T0.setTop (mkF m 72 #[.val (.ref x), .val (.int (0 : Int32)), .val (.int pl), .val (.int (0 : Int32)), .val (.int (0 : Int32)), .val (.int (0 : Int32)), .unset] [])) (fun t k => XS.istore X0.here hx rfl (hb hby d12_70) rfl (l' := #[.val (.ref x), .val (.int (0 : Int32)), .val (.int pl), .val (.int (0 : Int32)), .val (.int (0 : Int32)), .val (.int (0 : Int32)), .unset]) rfl k) ?_
  refine own_step (b := T0.setTop (mkF m 73 #[.val (.ref x), .val (.int (0 : Int32)), .val (.int pl), .val (.int (0 : Int32)), .val (.int (0 : Int32)), .val (.int (0 : Int32)), .unset] [(.int (0 : Int32))])) (fun t k => XS.iloadN X0.here hx rfl (hb hby d12_72) rfl k) ?_
  refine own_if_le X0 hx (hb hby d12_73) (pc' := 121) (by decide) (by decide) (fun c73_4 => ?_) (fun c73_4 => absurd c73_4 (by decide))
  show own_G p e below _ (T0.setTop (mkF m 121 #[.val (.ref x), .val (.int (0 : Int32)), .val (.int pl), .val (.int (0 : Int32)), .val (.int (0 : Int32)), .val (.int (0 : Int32)), .unset] []))
  refine own_step (b := T0.setTop (mkF m 122 #[.val (.ref x), .val (.int (0 : Int32)), .val (.int pl), .val (.int (0 : Int32)), .val (.int (0 : Int32)), .val (.int (0 : Int32)), .unset] [(.int (0 : Int32))])) (fun t k => XS.iconst X0.here hx rfl (hb hby d12_121) k) ?_
  refine own_step (b := T0.setTop (mkF m 124 #[.val (.ref x), .val (.int (0 : Int32)), .val (.int pl), .val (.int (0 : Int32)), .val (.int (0 : Int32)), .val (.int (0 : Int32)), .val (.int (0 : Int32))] [])) (fun t k => XS.istore X0.here hx rfl (hb hby d12_122) rfl (l' := #[.val (.ref x), .val (.int (0 : Int32)), .val (.int pl), .val (.int (0 : Int32)), .val (.int (0 : Int32)), .val (.int (0 : Int32)), .val (.int (0 : Int32))]) rfl k) ?_
  refine own_step (b := T0.setTop (mkF m 126 #[.val (.ref x), .val (.int (0 : Int32)), .val (.int pl), .val (.int (0 : Int32)), .val (.int (0 : Int32)), .val (.int (0 : Int32)), .val (.int (0 : Int32))] [(.int (0 : Int32))])) (fun t k => XS.iload X0.here hx rfl (hb hby d12_124) rfl k) ?_
  exact own_retN X0 hx hret (by simp) hlk (hb hby d12_126) ⟨by rw [show false = false by simp [own_dig46]]; rfl, rfl, e0⟩ (by decide) (by decide)
set_option maxRecDepth 65536 in
set_option maxHeartbeats 40000000 in
theorem rmMat_1 (l : Launch) (Z : State) (a0 : Array Value) (hw : ∀ d ∈ tables_1, d.before a0 Z = true) (ws : List Jvm.Cond) (pl : Int32) (x : Addr) (c0 c1 c2 c3 : Int32) (h0 : Heap) (SS : own_Str Z h0 x [c0, c1, c2, c3]) (OL0 : Old Z Z.heap.size h0) (G1 : Int32) (O2 : Sta Z Z.heap "java/lang/String" "COMPACT_STRINGS" "Z" (.int G1)) (P5 : ¬ (G1 = (0 : Int32))) (G3 : Value) (O4 : Sta Z Z.heap "jdk/internal/util/Preconditions" "SIOOBE_FORMATTER" "Ljava/util/function/BiFunction;" G3) (rG3 : G3.isRef = true) :
    own_Met l Z (⟨"com/example/drawdown/drawdown/PlainDecimal", "matches", "(Ljava/lang/String;II)Z"⟩ : MethodName) prog_8_method_2_code 7 (some .boolean) ws ⟨5, 0, 0, 69⟩ #[(.ref x), (.int (1 : Int32)), (.int pl)] h0 (own_P (some (.int (own_bi (if c0 = 46 then false else (own_dig c0))))) h0) := by
  refine own_enter (plainFor_of_name pn1) (fun m => ef_mat m x (1 : Int32) pl) ?_
  intro p e s m below meth c T0 hx hby hml hZ hown hnm hret hlk X0 e0
  show own_G p e below _ (T0.setTop (mkF m 0 #[.val (.ref x), .val (.int (1 : Int32)), .val (.int pl), .unset, .unset, .unset, .unset] []))
  refine own_step (b := T0.setTop (mkF m 1 #[.val (.ref x), .val (.int (1 : Int32)), .val (.int pl), .unset, .unset, .unset, .unset] [(.int (1 : Int32))])) (fun t k => XS.iloadN X0.here hx rfl (hb hby d12_0) rfl k) ?_
  refine own_step (b := T0.setTop (mkF m 2 #[.val (.ref x), .val (.int (1 : Int32)), .val (.int pl), .val (.int (1 : Int32)), .unset, .unset, .unset] [])) (fun t k => XS.istoreN X0.here hx rfl (hb hby d12_1) rfl (l' := #[.val (.ref x), .val (.int (1 : Int32)), .val (.int pl), .val (.int (1 : Int32)), .unset, .unset, .unset]) rfl k) ?_
  refine own_step (b := T0.setTop (mkF m 3 #[.val (.ref x), .val (.int (1 : Int32)), .val (.int pl), .val (.int (1 : Int32)), .unset, .unset, .unset] [(.int (0 : Int32))])) (fun t k => XS.iconst X0.here hx rfl (hb hby d12_2) k) ?_
  refine own_step (b := T0.setTop (mkF m 5 #[.val (.ref x), .val (.int (1 : Int32)), .val (.int pl), .val (.int (1 : Int32)), .val (.int (0 : Int32)), .unset, .unset] [])) (fun t k => XS.istore X0.here hx rfl (hb hby d12_3) rfl (l' := #[.val (.ref x), .val (.int (1 : Int32)), .val (.int pl), .val (.int (1 : Int32)), .val (.int (0 : Int32)), .unset, .unset]) rfl k) ?_
  refine own_step (b := T0.setTop (mkF m 7 #[.val (.ref x), .val (.int (1 : Int32)), .val (.int pl), .val (.int (1 : Int32)), .val (.int (0 : Int32)), .unset, .unset] [(.int (0 : Int32))])) (fun t k => XS.iload X0.here hx rfl (hb hby d12_5) rfl k) ?_
  refine own_step (b := T0.setTop (mkF m 8 #[.val (.ref x), .val (.int (1 : Int32)), .val (.int pl), .val (.int (1 : Int32)), .val (.int (0 : Int32)), .unset, .unset] [(.int (1 : Int32)), (.int (0 : Int32))])) (fun t k => XS.iloadN X0.here hx rfl (hb hby d12_7) rfl k) ?_
  refine own_icmp_ge X0 hx (hb hby d12_8) (pc' := 34) (by decide) (by decide) (fun c8_1 => absurd c8_1 (by decide)) (fun c8_1 => ?_)
  show own_G p e below _ (T0.setTop (mkF m 11 #[.val (.ref x), .val (.int (1 : Int32)), .val (.int pl), .val (.int (1 : Int32)), .val (.int (0 : Int32)), .unset, .unset] []))
  refine own_step (b := T0.setTop (mkF m 12 #[.val (.ref x), .val (.int (1 : Int32)), .val (.int pl), .val (.int (1 : Int32)), .val (.int (0 : Int32)), .unset, .unset] [(.ref x)])) (fun t k => XS.aloadN X0.here hx rfl (hb hby d12_11) rfl rfl k) ?_
  refine own_step (b := T0.setTop (mkF m 14 #[.val (.ref x), .val (.int (1 : Int32)), .val (.int pl), .val (.int (1 : Int32)), .val (.int (0 : Int32)), .unset, .unset] [(.int (0 : Int32)), (.ref x)])) (fun t k => XS.iload X0.here hx rfl (hb hby d12_12) rfl k) ?_
  refine own_virtual (a := x) (W := 0) (argsL := [(.int (0 : Int32))]) (st := []) X0 hx hZ hown (own_w hw 51 rfl) (own_w hw 52 rfl) (own_w hw 54 rfl) rfl (own_w hw 53 rfl) (by decide) e0 SS.1 (own_chB (W := 0) hZ hw (kI := 4) (own_w hw 6 rfl) SS O2 P5 O4 rG3 OL0 0 (Nat.le_of_ble_eq_true rfl) (j := (0 : Int32)) rfl (r := c0) rfl (by decide) (by decide)) (by decide) (by decide) (by rw [hml]; rfl) (lenOf pd3 rfl) rfl (Nat.le_of_ble_eq_true rfl) (hb hby d12_14) (fun v2 T2 L2 X2 hQ2 => ?_)
  obtain ⟨rfl, rfl, hh2⟩ := hQ2
  rw [List.append_nil] at X2
  show own_G p e below _ (T2.setTop (mkF m 17 #[.val (.ref x), .val (.int (1 : Int32)), .val (.int pl), .val (.int (1 : Int32)), .val (.int (0 : Int32)), .unset, .unset] [(.int c0)]))
  refine own_step (b := T2.setTop (mkF m 19 #[.val (.ref x), .val (.int (1 : Int32)), .val (.int pl), .val (.int (1 : Int32)), .val (.int (0 : Int32)), .unset, .unset] [(.int (46 : Int32)), (.int c0)])) (fun t k => XS.bipush X2.here hx rfl (hb hby d12_17) k) ?_
  refine own_icmp_ne X2 hx (hb hby d12_19) (pc' := 28) (by decide) (by decide) (fun c19_3 => ?_) (fun c19_3 => ?_)
  · show own_G p e below _ (T2.setTop (mkF m 28 #[.val (.ref x), .val (.int (1 : Int32)), .val (.int pl), .val (.int (1 : Int32)), .val (.int (0 : Int32)), .unset, .unset] []))
    refine own_step (b := T2.setTop (mkF m 31 #[.val (.ref x), .val (.int (1 : Int32)), .val (.int pl), .val (.int (1 : Int32)), .val (.int (1 : Int32)), .unset, .unset] [])) (fun t k => XS.iinc X2.here hx rfl (hb hby d12_28) rfl (l' := #[.val (.ref x), .val (.int (1 : Int32)), .val (.int pl), .val (.int (1 : Int32)), .val (.int (1 : Int32)), .unset, .unset]) rfl k) ?_
    refine own_step (b := T2.setTop (mkF m 5 #[.val (.ref x), .val (.int (1 : Int32)), .val (.int pl), .val (.int (1 : Int32)), .val (.int (1 : Int32)), .unset, .unset] [])) (fun t k => XS.goto X2.here hx rfl (pc0 := 31) (pc' := 5) rfl (hb hby d12_31) (by decide) (by decide) k) ?_
    refine own_step (b := T2.setTop (mkF m 7 #[.val (.ref x), .val (.int (1 : Int32)), .val (.int pl), .val (.int (1 : Int32)), .val (.int (1 : Int32)), .unset, .unset] [(.int (1 : Int32))])) (fun t k => XS.iload X2.here hx rfl (hb hby d12_5) rfl k) ?_
    refine own_step (b := T2.setTop (mkF m 8 #[.val (.ref x), .val (.int (1 : Int32)), .val (.int pl), .val (.int (1 : Int32)), .val (.int (1 : Int32)), .unset, .unset] [(.int (1 : Int32)), (.int (1 : Int32))])) (fun t k => XS.iloadN X2.here hx rfl (hb hby d12_7) rfl k) ?_
    refine own_icmp_ge X2 hx (hb hby d12_8) (pc' := 34) (by decide) (by decide) (fun c8_4 => ?_) (fun c8_4 => absurd c8_4 (by decide))
    show own_G p e below _ (T2.setTop (mkF m 34 #[.val (.ref x), .val (.int (1 : Int32)), .val (.int pl), .val (.int (1 : Int32)), .val (.int (1 : Int32)), .unset, .unset] []))
    refine own_step (b := T2.setTop (mkF m 35 #[.val (.ref x), .val (.int (1 : Int32)), .val (.int pl), .val (.int (1 : Int32)), .val (.int (1 : Int32)), .unset, .unset] [(.int (1 : Int32))])) (fun t k => XS.iloadN X2.here hx rfl (hb hby d12_34) rfl k) ?_
    refine own_step (b := T2.setTop (mkF m 36 #[.val (.ref x), .val (.int (1 : Int32)), .val (.int pl), .val (.int (1 : Int32)), .val (.int (1 : Int32)), .unset, .unset] [(.int (1 : Int32)), (.int (1 : Int32))])) (fun t k => XS.iloadN X2.here hx rfl (hb hby d12_35) rfl k) ?_
    refine own_icmp_ne X2 hx (hb hby d12_36) (pc' := 43) (by decide) (by decide) (fun c36_5 => absurd c36_5 (by decide)) (fun c36_5 => ?_)
    show own_G p e below _ (T2.setTop (mkF m 39 #[.val (.ref x), .val (.int (1 : Int32)), .val (.int pl), .val (.int (1 : Int32)), .val (.int (1 : Int32)), .unset, .unset] []))
    refine own_step (b := T2.setTop (mkF m 40 #[.val (.ref x), .val (.int (1 : Int32)), .val (.int pl), .val (.int (1 : Int32)), .val (.int (1 : Int32)), .unset, .unset] [(.int (0 : Int32))])) (fun t k => XS.iconst X2.here hx rfl (hb hby d12_39) k) ?_
    refine own_step (b := T2.setTop (mkF m 48 #[.val (.ref x), .val (.int (1 : Int32)), .val (.int pl), .val (.int (1 : Int32)), .val (.int (1 : Int32)), .unset, .unset] [(.int (0 : Int32))])) (fun t k => XS.goto X2.here hx rfl (pc0 := 40) (pc' := 48) rfl (hb hby d12_40) (by decide) (by decide) k) ?_
    refine own_step (b := T2.setTop (mkF m 50 #[.val (.ref x), .val (.int (1 : Int32)), .val (.int pl), .val (.int (1 : Int32)), .val (.int (0 : Int32)), .unset, .unset] [])) (fun t k => XS.istore X2.here hx rfl (hb hby d12_48) rfl (l' := #[.val (.ref x), .val (.int (1 : Int32)), .val (.int pl), .val (.int (1 : Int32)), .val (.int (0 : Int32)), .unset, .unset]) rfl k) ?_
    refine own_step (b := T2.setTop (mkF m 51 #[.val (.ref x), .val (.int (1 : Int32)), .val (.int pl), .val (.int (1 : Int32)), .val (.int (0 : Int32)), .unset, .unset] [(.int (1 : Int32))])) (fun t k => XS.iloadN X2.here hx rfl (hb hby d12_50) rfl k) ?_
    refine own_step (b := T2.setTop (mkF m 52 #[.val (.ref x), .val (.int (1 : Int32)), .val (.int pl), .val (.int (1 : Int32)), .val (.int (0 : Int32)), .unset, .unset] [(.int (1 : Int32)), (.int (1 : Int32))])) (fun t k => XS.iconst X2.here hx rfl (hb hby d12_51) k) ?_
    refine own_icmp_le X2 hx (hb hby d12_52) (pc' := 69) (by decide) (by decide) (fun c52_6 => ?_) (fun c52_6 => absurd c52_6 (by decide))
    show own_G p e below _ (T2.setTop (mkF m 69 #[.val (.ref x), .val (.int (1 : Int32)), .val (.int pl), .val (.int (1 : Int32)), .val (.int (0 : Int32)), .unset, .unset] []))
    refine own_step (b := T2.setTop (mkF m 70 #[.val (.ref x), .val (.int (1 : Int32)), .val (.int pl), .val (.int (1 : Int32)), .val (.int (0 : Int32)), .unset, .unset] [(.int (0 : Int32))])) (fun t k => XS.iconst X2.here hx rfl (hb hby d12_69) k) ?_
    refine own_step (b := T2.setTop (mkF m 72 #[.val (.ref x), .val (.int (1 : Int32)), .val (.int pl), .val (.int (1 : Int32)), .val (.int (0 : Int32)), .val (.int (0 : Int32)), .unset] [])) (fun t k => XS.istore X2.here hx rfl (hb hby d12_70) rfl (l' := #[.val (.ref x), .val (.int (1 : Int32)), .val (.int pl), .val (.int (1 : Int32)), .val (.int (0 : Int32)), .val (.int (0 : Int32)), .unset]) rfl k) ?_
    refine own_step (b := T2.setTop (mkF m 73 #[.val (.ref x), .val (.int (1 : Int32)), .val (.int pl), .val (.int (1 : Int32)), .val (.int (0 : Int32)), .val (.int (0 : Int32)), .unset] [(.int (1 : Int32))])) (fun t k => XS.iloadN X2.here hx rfl (hb hby d12_72) rfl k) ?_
    refine own_if_le X2 hx (hb hby d12_73) (pc' := 121) (by decide) (by decide) (fun c73_7 => absurd c73_7 (by decide)) (fun c73_7 => ?_)
    show own_G p e below _ (T2.setTop (mkF m 76 #[.val (.ref x), .val (.int (1 : Int32)), .val (.int pl), .val (.int (1 : Int32)), .val (.int (0 : Int32)), .val (.int (0 : Int32)), .unset] []))
    refine own_step (b := T2.setTop (mkF m 78 #[.val (.ref x), .val (.int (1 : Int32)), .val (.int pl), .val (.int (1 : Int32)), .val (.int (0 : Int32)), .val (.int (0 : Int32)), .unset] [(.int (0 : Int32))])) (fun t k => XS.iload X2.here hx rfl (hb hby d12_76) rfl k) ?_
    refine own_if_ne X2 hx (hb hby d12_78) (pc' := 121) (by decide) (by decide) (fun c78_8 => absurd c78_8 (by decide)) (fun c78_8 => ?_)
    show own_G p e below _ (T2.setTop (mkF m 81 #[.val (.ref x), .val (.int (1 : Int32)), .val (.int pl), .val (.int (1 : Int32)), .val (.int (0 : Int32)), .val (.int (0 : Int32)), .unset] []))
    refine own_step (b := T2.setTop (mkF m 82 #[.val (.ref x), .val (.int (1 : Int32)), .val (.int pl), .val (.int (1 : Int32)), .val (.int (0 : Int32)), .val (.int (0 : Int32)), .unset] [(.ref x)])) (fun t k => XS.aloadN X2.here hx rfl (hb hby d12_81) rfl rfl k) ?_
    refine own_step (b := T2.setTop (mkF m 83 #[.val (.ref x), .val (.int (1 : Int32)), .val (.int pl), .val (.int (1 : Int32)), .val (.int (0 : Int32)), .val (.int (0 : Int32)), .unset] [(.int (0 : Int32)), (.ref x)])) (fun t k => XS.iconst X2.here hx rfl (hb hby d12_82) k) ?_
    refine own_step (b := T2.setTop (mkF m 84 #[.val (.ref x), .val (.int (1 : Int32)), .val (.int pl), .val (.int (1 : Int32)), .val (.int (0 : Int32)), .val (.int (0 : Int32)), .unset] [(.int (1 : Int32)), (.int (0 : Int32)), (.ref x)])) (fun t k => XS.iloadN X2.here hx rfl (hb hby d12_83) rfl k) ?_
    refine own_staticP (W := 0) (argsL := [(.ref x), (.int (0 : Int32)), (.int (1 : Int32))]) (st := []) X2 hx hZ hown (own_w hw 73 rfl) (own_w hw 74 rfl) (own_w hw 49 rfl) (own_w hw 75 rfl) (by decide) hh2 (rmIsd_0_1 l Z a0 hw [] x c0 c1 c2 c3 h0 SS OL0 G1 O2 P5 G3 O4 rG3) (by decide) (by decide) (by decide) (by decide) (by rw [hml]; rfl) (lenOf pd4 rfl) rfl (Nat.le_of_ble_eq_true rfl) (hb hby d12_84) (fun T9 X9 e9 => ?_)
    show own_G p e below _ (T9.setTop (mkF m 87 #[.val (.ref x), .val (.int (1 : Int32)), .val (.int pl), .val (.int (1 : Int32)), .val (.int (0 : Int32)), .val (.int (0 : Int32)), .unset] [(.int (own_bi (own_dig c0)))]))
    refine own_if_eq X9 hx (hb hby d12_87) (pc' := 121) (by decide) (by decide) (fun c87_10 => ?_) (fun c87_10 => ?_)
    · show own_G p e below _ (T9.setTop (mkF m 121 #[.val (.ref x), .val (.int (1 : Int32)), .val (.int pl), .val (.int (1 : Int32)), .val (.int (0 : Int32)), .val (.int (0 : Int32)), .unset] []))
      have c87_10b : (own_dig c0) = false := own_bi_f c87_10
      refine own_step (b := T9.setTop (mkF m 122 #[.val (.ref x), .val (.int (1 : Int32)), .val (.int pl), .val (.int (1 : Int32)), .val (.int (0 : Int32)), .val (.int (0 : Int32)), .unset] [(.int (0 : Int32))])) (fun t k => XS.iconst X9.here hx rfl (hb hby d12_121) k) ?_
      refine own_step (b := T9.setTop (mkF m 124 #[.val (.ref x), .val (.int (1 : Int32)), .val (.int pl), .val (.int (1 : Int32)), .val (.int (0 : Int32)), .val (.int (0 : Int32)), .val (.int (0 : Int32))] [])) (fun t k => XS.istore X9.here hx rfl (hb hby d12_122) rfl (l' := #[.val (.ref x), .val (.int (1 : Int32)), .val (.int pl), .val (.int (1 : Int32)), .val (.int (0 : Int32)), .val (.int (0 : Int32)), .val (.int (0 : Int32))]) rfl k) ?_
      refine own_step (b := T9.setTop (mkF m 126 #[.val (.ref x), .val (.int (1 : Int32)), .val (.int pl), .val (.int (1 : Int32)), .val (.int (0 : Int32)), .val (.int (0 : Int32)), .val (.int (0 : Int32))] [(.int (0 : Int32))])) (fun t k => XS.iload X9.here hx rfl (hb hby d12_124) rfl k) ?_
      exact own_retN X9 hx hret (by simp) hlk (hb hby d12_126) ⟨by rw [show (if c0 = 46 then false else (own_dig c0)) = false by simp [c19_3, c87_10b, own_dig46]]; rfl, rfl, e9⟩ (by decide) (by decide)
    · show own_G p e below _ (T9.setTop (mkF m 90 #[.val (.ref x), .val (.int (1 : Int32)), .val (.int pl), .val (.int (1 : Int32)), .val (.int (0 : Int32)), .val (.int (0 : Int32)), .unset] []))
      have c87_10b : (own_dig c0) = true := own_bi_t c87_10
      refine own_step (b := T9.setTop (mkF m 91 #[.val (.ref x), .val (.int (1 : Int32)), .val (.int pl), .val (.int (1 : Int32)), .val (.int (0 : Int32)), .val (.int (0 : Int32)), .unset] [(.int (1 : Int32))])) (fun t k => XS.iloadN X9.here hx rfl (hb hby d12_90) rfl k) ?_
      refine own_step (b := T9.setTop (mkF m 92 #[.val (.ref x), .val (.int (1 : Int32)), .val (.int pl), .val (.int (1 : Int32)), .val (.int (0 : Int32)), .val (.int (0 : Int32)), .unset] [(.int (1 : Int32)), (.int (1 : Int32))])) (fun t k => XS.iloadN X9.here hx rfl (hb hby d12_91) rfl k) ?_
      refine own_icmp_eq X9 hx (hb hby d12_92) (pc' := 117) (by decide) (by decide) (fun c92_11 => ?_) (fun c92_11 => absurd c92_11 (by decide))
      show own_G p e below _ (T9.setTop (mkF m 117 #[.val (.ref x), .val (.int (1 : Int32)), .val (.int pl), .val (.int (1 : Int32)), .val (.int (0 : Int32)), .val (.int (0 : Int32)), .unset] []))
      refine own_step (b := T9.setTop (mkF m 118 #[.val (.ref x), .val (.int (1 : Int32)), .val (.int pl), .val (.int (1 : Int32)), .val (.int (0 : Int32)), .val (.int (0 : Int32)), .unset] [(.int (1 : Int32))])) (fun t k => XS.iconst X9.here hx rfl (hb hby d12_117) k) ?_
      refine own_step (b := T9.setTop (mkF m 122 #[.val (.ref x), .val (.int (1 : Int32)), .val (.int pl), .val (.int (1 : Int32)), .val (.int (0 : Int32)), .val (.int (0 : Int32)), .unset] [(.int (1 : Int32))])) (fun t k => XS.goto X9.here hx rfl (pc0 := 118) (pc' := 122) rfl (hb hby d12_118) (by decide) (by decide) k) ?_
      refine own_step (b := T9.setTop (mkF m 124 #[.val (.ref x), .val (.int (1 : Int32)), .val (.int pl), .val (.int (1 : Int32)), .val (.int (0 : Int32)), .val (.int (0 : Int32)), .val (.int (1 : Int32))] [])) (fun t k => XS.istore X9.here hx rfl (hb hby d12_122) rfl (l' := #[.val (.ref x), .val (.int (1 : Int32)), .val (.int pl), .val (.int (1 : Int32)), .val (.int (0 : Int32)), .val (.int (0 : Int32)), .val (.int (1 : Int32))]) rfl k) ?_
      refine own_step (b := T9.setTop (mkF m 126 #[.val (.ref x), .val (.int (1 : Int32)), .val (.int pl), .val (.int (1 : Int32)), .val (.int (0 : Int32)), .val (.int (0 : Int32)), .val (.int (1 : Int32))] [(.int (1 : Int32))])) (fun t k => XS.iload X9.here hx rfl (hb hby d12_124) rfl k) ?_
      exact own_retN X9 hx hret (by simp) hlk (hb hby d12_126) ⟨by rw [show (if c0 = 46 then false else (own_dig c0)) = true by simp [c19_3, c87_10b, own_dig46]]; rfl, rfl, e9⟩ (by decide) (by decide)
  · show own_G p e below _ (T2.setTop (mkF m 22 #[.val (.ref x), .val (.int (1 : Int32)), .val (.int pl), .val (.int (1 : Int32)), .val (.int (0 : Int32)), .unset, .unset] []))
    refine own_step (b := T2.setTop (mkF m 24 #[.val (.ref x), .val (.int (1 : Int32)), .val (.int pl), .val (.int (1 : Int32)), .val (.int (0 : Int32)), .unset, .unset] [(.int (0 : Int32))])) (fun t k => XS.iload X2.here hx rfl (hb hby d12_22) rfl k) ?_
    refine own_step (b := T2.setTop (mkF m 25 #[.val (.ref x), .val (.int (1 : Int32)), .val (.int pl), .val (.int (0 : Int32)), .val (.int (0 : Int32)), .unset, .unset] [])) (fun t k => XS.istoreN X2.here hx rfl (hb hby d12_24) rfl (l' := #[.val (.ref x), .val (.int (1 : Int32)), .val (.int pl), .val (.int (0 : Int32)), .val (.int (0 : Int32)), .unset, .unset]) rfl k) ?_
    refine own_step (b := T2.setTop (mkF m 34 #[.val (.ref x), .val (.int (1 : Int32)), .val (.int pl), .val (.int (0 : Int32)), .val (.int (0 : Int32)), .unset, .unset] [])) (fun t k => XS.goto X2.here hx rfl (pc0 := 25) (pc' := 34) rfl (hb hby d12_25) (by decide) (by decide) k) ?_
    refine own_step (b := T2.setTop (mkF m 35 #[.val (.ref x), .val (.int (1 : Int32)), .val (.int pl), .val (.int (0 : Int32)), .val (.int (0 : Int32)), .unset, .unset] [(.int (0 : Int32))])) (fun t k => XS.iloadN X2.here hx rfl (hb hby d12_34) rfl k) ?_
    refine own_step (b := T2.setTop (mkF m 36 #[.val (.ref x), .val (.int (1 : Int32)), .val (.int pl), .val (.int (0 : Int32)), .val (.int (0 : Int32)), .unset, .unset] [(.int (1 : Int32)), (.int (0 : Int32))])) (fun t k => XS.iloadN X2.here hx rfl (hb hby d12_35) rfl k) ?_
    refine own_icmp_ne X2 hx (hb hby d12_36) (pc' := 43) (by decide) (by decide) (fun c36_12 => ?_) (fun c36_12 => absurd c36_12 (by decide))
    show own_G p e below _ (T2.setTop (mkF m 43 #[.val (.ref x), .val (.int (1 : Int32)), .val (.int pl), .val (.int (0 : Int32)), .val (.int (0 : Int32)), .unset, .unset] []))
    refine own_step (b := T2.setTop (mkF m 44 #[.val (.ref x), .val (.int (1 : Int32)), .val (.int pl), .val (.int (0 : Int32)), .val (.int (0 : Int32)), .unset, .unset] [(.int (1 : Int32))])) (fun t k => XS.iloadN X2.here hx rfl (hb hby d12_43) rfl k) ?_
    refine own_step (b := T2.setTop (mkF m 45 #[.val (.ref x), .val (.int (1 : Int32)), .val (.int pl), .val (.int (0 : Int32)), .val (.int (0 : Int32)), .unset, .unset] [(.int (0 : Int32)), (.int (1 : Int32))])) (fun t k => XS.iloadN X2.here hx rfl (hb hby d12_44) rfl k) ?_
    refine own_step (b := T2.setTop (mkF m 46 #[.val (.ref x), .val (.int (1 : Int32)), .val (.int pl), .val (.int (0 : Int32)), .val (.int (0 : Int32)), .unset, .unset] [(.int (1 : Int32))])) (fun t k => XS.isub X2.here hx rfl (hb hby d12_45) rfl k) ?_
    refine own_step (b := T2.setTop (mkF m 47 #[.val (.ref x), .val (.int (1 : Int32)), .val (.int pl), .val (.int (0 : Int32)), .val (.int (0 : Int32)), .unset, .unset] [(.int (1 : Int32)), (.int (1 : Int32))])) (fun t k => XS.iconst X2.here hx rfl (hb hby d12_46) k) ?_
    refine own_step (b := T2.setTop (mkF m 48 #[.val (.ref x), .val (.int (1 : Int32)), .val (.int pl), .val (.int (0 : Int32)), .val (.int (0 : Int32)), .unset, .unset] [(.int (0 : Int32))])) (fun t k => XS.isub X2.here hx rfl (hb hby d12_47) rfl k) ?_
    refine own_step (b := T2.setTop (mkF m 50 #[.val (.ref x), .val (.int (1 : Int32)), .val (.int pl), .val (.int (0 : Int32)), .val (.int (0 : Int32)), .unset, .unset] [])) (fun t k => XS.istore X2.here hx rfl (hb hby d12_48) rfl (l' := #[.val (.ref x), .val (.int (1 : Int32)), .val (.int pl), .val (.int (0 : Int32)), .val (.int (0 : Int32)), .unset, .unset]) rfl k) ?_
    refine own_step (b := T2.setTop (mkF m 51 #[.val (.ref x), .val (.int (1 : Int32)), .val (.int pl), .val (.int (0 : Int32)), .val (.int (0 : Int32)), .unset, .unset] [(.int (0 : Int32))])) (fun t k => XS.iloadN X2.here hx rfl (hb hby d12_50) rfl k) ?_
    refine own_step (b := T2.setTop (mkF m 52 #[.val (.ref x), .val (.int (1 : Int32)), .val (.int pl), .val (.int (0 : Int32)), .val (.int (0 : Int32)), .unset, .unset] [(.int (1 : Int32)), (.int (0 : Int32))])) (fun t k => XS.iconst X2.here hx rfl (hb hby d12_51) k) ?_
    refine own_icmp_le X2 hx (hb hby d12_52) (pc' := 69) (by decide) (by decide) (fun c52_13 => ?_) (fun c52_13 => absurd c52_13 (by decide))
    show own_G p e below _ (T2.setTop (mkF m 69 #[.val (.ref x), .val (.int (1 : Int32)), .val (.int pl), .val (.int (0 : Int32)), .val (.int (0 : Int32)), .unset, .unset] []))
    refine own_step (b := T2.setTop (mkF m 70 #[.val (.ref x), .val (.int (1 : Int32)), .val (.int pl), .val (.int (0 : Int32)), .val (.int (0 : Int32)), .unset, .unset] [(.int (0 : Int32))])) (fun t k => XS.iconst X2.here hx rfl (hb hby d12_69) k) ?_
    refine own_step (b := T2.setTop (mkF m 72 #[.val (.ref x), .val (.int (1 : Int32)), .val (.int pl), .val (.int (0 : Int32)), .val (.int (0 : Int32)), .val (.int (0 : Int32)), .unset] [])) (fun t k => XS.istore X2.here hx rfl (hb hby d12_70) rfl (l' := #[.val (.ref x), .val (.int (1 : Int32)), .val (.int pl), .val (.int (0 : Int32)), .val (.int (0 : Int32)), .val (.int (0 : Int32)), .unset]) rfl k) ?_
    refine own_step (b := T2.setTop (mkF m 73 #[.val (.ref x), .val (.int (1 : Int32)), .val (.int pl), .val (.int (0 : Int32)), .val (.int (0 : Int32)), .val (.int (0 : Int32)), .unset] [(.int (0 : Int32))])) (fun t k => XS.iloadN X2.here hx rfl (hb hby d12_72) rfl k) ?_
    refine own_if_le X2 hx (hb hby d12_73) (pc' := 121) (by decide) (by decide) (fun c73_14 => ?_) (fun c73_14 => absurd c73_14 (by decide))
    show own_G p e below _ (T2.setTop (mkF m 121 #[.val (.ref x), .val (.int (1 : Int32)), .val (.int pl), .val (.int (0 : Int32)), .val (.int (0 : Int32)), .val (.int (0 : Int32)), .unset] []))
    refine own_step (b := T2.setTop (mkF m 122 #[.val (.ref x), .val (.int (1 : Int32)), .val (.int pl), .val (.int (0 : Int32)), .val (.int (0 : Int32)), .val (.int (0 : Int32)), .unset] [(.int (0 : Int32))])) (fun t k => XS.iconst X2.here hx rfl (hb hby d12_121) k) ?_
    refine own_step (b := T2.setTop (mkF m 124 #[.val (.ref x), .val (.int (1 : Int32)), .val (.int pl), .val (.int (0 : Int32)), .val (.int (0 : Int32)), .val (.int (0 : Int32)), .val (.int (0 : Int32))] [])) (fun t k => XS.istore X2.here hx rfl (hb hby d12_122) rfl (l' := #[.val (.ref x), .val (.int (1 : Int32)), .val (.int pl), .val (.int (0 : Int32)), .val (.int (0 : Int32)), .val (.int (0 : Int32)), .val (.int (0 : Int32))]) rfl k) ?_
    refine own_step (b := T2.setTop (mkF m 126 #[.val (.ref x), .val (.int (1 : Int32)), .val (.int pl), .val (.int (0 : Int32)), .val (.int (0 : Int32)), .val (.int (0 : Int32)), .val (.int (0 : Int32))] [(.int (0 : Int32))])) (fun t k => XS.iload X2.here hx rfl (hb hby d12_124) rfl k) ?_
    exact own_retN X2 hx hret (by simp) hlk (hb hby d12_126) ⟨by rw [show (if c0 = 46 then false else (own_dig c0)) = false by simp [c19_3, own_dig46]]; rfl, rfl, hh2⟩ (by decide) (by decide)
set_option maxRecDepth 65536 in
set_option maxHeartbeats 40000000 in
theorem rmMat_2 (l : Launch) (Z : State) (a0 : Array Value) (hw : ∀ d ∈ tables_1, d.before a0 Z = true) (ws : List Jvm.Cond) (pl : Int32) (x : Addr) (c0 c1 c2 c3 : Int32) (h0 : Heap) (SS : own_Str Z h0 x [c0, c1, c2, c3]) (OL0 : Old Z Z.heap.size h0) (G1 : Int32) (O2 : Sta Z Z.heap "java/lang/String" "COMPACT_STRINGS" "Z" (.int G1)) (P5 : ¬ (G1 = (0 : Int32))) (G3 : Value) (O4 : Sta Z Z.heap "jdk/internal/util/Preconditions" "SIOOBE_FORMATTER" "Ljava/util/function/BiFunction;" G3) (rG3 : G3.isRef = true) :
    own_Met l Z (⟨"com/example/drawdown/drawdown/PlainDecimal", "matches", "(Ljava/lang/String;II)Z"⟩ : MethodName) prog_8_method_2_code 7 (some .boolean) ws ⟨5, 0, 0, 69⟩ #[(.ref x), (.int (2 : Int32)), (.int pl)] h0 (own_P (some (.int (own_bi (if c0 = 46 then false else (if c1 = 46 then false else (!decide (c0 = 48) && (own_dig c0 && own_dig c1))))))) h0) := by
  refine own_enter (plainFor_of_name pn1) (fun m => ef_mat m x (2 : Int32) pl) ?_
  intro p e s m below meth c T0 hx hby hml hZ hown hnm hret hlk X0 e0
  show own_G p e below _ (T0.setTop (mkF m 0 #[.val (.ref x), .val (.int (2 : Int32)), .val (.int pl), .unset, .unset, .unset, .unset] []))
  refine own_step (b := T0.setTop (mkF m 1 #[.val (.ref x), .val (.int (2 : Int32)), .val (.int pl), .unset, .unset, .unset, .unset] [(.int (2 : Int32))])) (fun t k => XS.iloadN X0.here hx rfl (hb hby d12_0) rfl k) ?_
  refine own_step (b := T0.setTop (mkF m 2 #[.val (.ref x), .val (.int (2 : Int32)), .val (.int pl), .val (.int (2 : Int32)), .unset, .unset, .unset] [])) (fun t k => XS.istoreN X0.here hx rfl (hb hby d12_1) rfl (l' := #[.val (.ref x), .val (.int (2 : Int32)), .val (.int pl), .val (.int (2 : Int32)), .unset, .unset, .unset]) rfl k) ?_
  refine own_step (b := T0.setTop (mkF m 3 #[.val (.ref x), .val (.int (2 : Int32)), .val (.int pl), .val (.int (2 : Int32)), .unset, .unset, .unset] [(.int (0 : Int32))])) (fun t k => XS.iconst X0.here hx rfl (hb hby d12_2) k) ?_
  refine own_step (b := T0.setTop (mkF m 5 #[.val (.ref x), .val (.int (2 : Int32)), .val (.int pl), .val (.int (2 : Int32)), .val (.int (0 : Int32)), .unset, .unset] [])) (fun t k => XS.istore X0.here hx rfl (hb hby d12_3) rfl (l' := #[.val (.ref x), .val (.int (2 : Int32)), .val (.int pl), .val (.int (2 : Int32)), .val (.int (0 : Int32)), .unset, .unset]) rfl k) ?_
  refine own_step (b := T0.setTop (mkF m 7 #[.val (.ref x), .val (.int (2 : Int32)), .val (.int pl), .val (.int (2 : Int32)), .val (.int (0 : Int32)), .unset, .unset] [(.int (0 : Int32))])) (fun t k => XS.iload X0.here hx rfl (hb hby d12_5) rfl k) ?_
  refine own_step (b := T0.setTop (mkF m 8 #[.val (.ref x), .val (.int (2 : Int32)), .val (.int pl), .val (.int (2 : Int32)), .val (.int (0 : Int32)), .unset, .unset] [(.int (2 : Int32)), (.int (0 : Int32))])) (fun t k => XS.iloadN X0.here hx rfl (hb hby d12_7) rfl k) ?_
  refine own_icmp_ge X0 hx (hb hby d12_8) (pc' := 34) (by decide) (by decide) (fun c8_1 => absurd c8_1 (by decide)) (fun c8_1 => ?_)
  show own_G p e below _ (T0.setTop (mkF m 11 #[.val (.ref x), .val (.int (2 : Int32)), .val (.int pl), .val (.int (2 : Int32)), .val (.int (0 : Int32)), .unset, .unset] []))
  refine own_step (b := T0.setTop (mkF m 12 #[.val (.ref x), .val (.int (2 : Int32)), .val (.int pl), .val (.int (2 : Int32)), .val (.int (0 : Int32)), .unset, .unset] [(.ref x)])) (fun t k => XS.aloadN X0.here hx rfl (hb hby d12_11) rfl rfl k) ?_
  refine own_step (b := T0.setTop (mkF m 14 #[.val (.ref x), .val (.int (2 : Int32)), .val (.int pl), .val (.int (2 : Int32)), .val (.int (0 : Int32)), .unset, .unset] [(.int (0 : Int32)), (.ref x)])) (fun t k => XS.iload X0.here hx rfl (hb hby d12_12) rfl k) ?_
  refine own_virtual (a := x) (W := 0) (argsL := [(.int (0 : Int32))]) (st := []) X0 hx hZ hown (own_w hw 51 rfl) (own_w hw 52 rfl) (own_w hw 54 rfl) rfl (own_w hw 53 rfl) (by decide) e0 SS.1 (own_chB (W := 0) hZ hw (kI := 4) (own_w hw 6 rfl) SS O2 P5 O4 rG3 OL0 0 (Nat.le_of_ble_eq_true rfl) (j := (0 : Int32)) rfl (r := c0) rfl (by decide) (by decide)) (by decide) (by decide) (by rw [hml]; rfl) (lenOf pd3 rfl) rfl (Nat.le_of_ble_eq_true rfl) (hb hby d12_14) (fun v2 T2 L2 X2 hQ2 => ?_)
  obtain ⟨rfl, rfl, hh2⟩ := hQ2
  rw [List.append_nil] at X2
  show own_G p e below _ (T2.setTop (mkF m 17 #[.val (.ref x), .val (.int (2 : Int32)), .val (.int pl), .val (.int (2 : Int32)), .val (.int (0 : Int32)), .unset, .unset] [(.int c0)]))
  refine own_step (b := T2.setTop (mkF m 19 #[.val (.ref x), .val (.int (2 : Int32)), .val (.int pl), .val (.int (2 : Int32)), .val (.int (0 : Int32)), .unset, .unset] [(.int (46 : Int32)), (.int c0)])) (fun t k => XS.bipush X2.here hx rfl (hb hby d12_17) k) ?_
  refine own_icmp_ne X2 hx (hb hby d12_19) (pc' := 28) (by decide) (by decide) (fun c19_3 => ?_) (fun c19_3 => ?_)
  · show own_G p e below _ (T2.setTop (mkF m 28 #[.val (.ref x), .val (.int (2 : Int32)), .val (.int pl), .val (.int (2 : Int32)), .val (.int (0 : Int32)), .unset, .unset] []))
    refine own_step (b := T2.setTop (mkF m 31 #[.val (.ref x), .val (.int (2 : Int32)), .val (.int pl), .val (.int (2 : Int32)), .val (.int (1 : Int32)), .unset, .unset] [])) (fun t k => XS.iinc X2.here hx rfl (hb hby d12_28) rfl (l' := #[.val (.ref x), .val (.int (2 : Int32)), .val (.int pl), .val (.int (2 : Int32)), .val (.int (1 : Int32)), .unset, .unset]) rfl k) ?_
    refine own_step (b := T2.setTop (mkF m 5 #[.val (.ref x), .val (.int (2 : Int32)), .val (.int pl), .val (.int (2 : Int32)), .val (.int (1 : Int32)), .unset, .unset] [])) (fun t k => XS.goto X2.here hx rfl (pc0 := 31) (pc' := 5) rfl (hb hby d12_31) (by decide) (by decide) k) ?_
    refine own_step (b := T2.setTop (mkF m 7 #[.val (.ref x), .val (.int (2 : Int32)), .val (.int pl), .val (.int (2 : Int32)), .val (.int (1 : Int32)), .unset, .unset] [(.int (1 : Int32))])) (fun t k => XS.iload X2.here hx rfl (hb hby d12_5) rfl k) ?_
    refine own_step (b := T2.setTop (mkF m 8 #[.val (.ref x), .val (.int (2 : Int32)), .val (.int pl), .val (.int (2 : Int32)), .val (.int (1 : Int32)), .unset, .unset] [(.int (2 : Int32)), (.int (1 : Int32))])) (fun t k => XS.iloadN X2.here hx rfl (hb hby d12_7) rfl k) ?_
    refine own_icmp_ge X2 hx (hb hby d12_8) (pc' := 34) (by decide) (by decide) (fun c8_4 => absurd c8_4 (by decide)) (fun c8_4 => ?_)
    show own_G p e below _ (T2.setTop (mkF m 11 #[.val (.ref x), .val (.int (2 : Int32)), .val (.int pl), .val (.int (2 : Int32)), .val (.int (1 : Int32)), .unset, .unset] []))
    refine own_step (b := T2.setTop (mkF m 12 #[.val (.ref x), .val (.int (2 : Int32)), .val (.int pl), .val (.int (2 : Int32)), .val (.int (1 : Int32)), .unset, .unset] [(.ref x)])) (fun t k => XS.aloadN X2.here hx rfl (hb hby d12_11) rfl rfl k) ?_
    refine own_step (b := T2.setTop (mkF m 14 #[.val (.ref x), .val (.int (2 : Int32)), .val (.int pl), .val (.int (2 : Int32)), .val (.int (1 : Int32)), .unset, .unset] [(.int (1 : Int32)), (.ref x)])) (fun t k => XS.iload X2.here hx rfl (hb hby d12_12) rfl k) ?_
    refine own_virtual (a := x) (W := 0) (argsL := [(.int (1 : Int32))]) (st := []) X2 hx hZ hown (own_w hw 51 rfl) (own_w hw 52 rfl) (own_w hw 54 rfl) rfl (own_w hw 53 rfl) (by decide) hh2 SS.1 (own_chB (W := 0) hZ hw (kI := 4) (own_w hw 6 rfl) SS O2 P5 O4 rG3 OL0 1 (Nat.le_of_ble_eq_true rfl) (j := (1 : Int32)) rfl (r := c1) rfl (by decide) (by decide)) (by decide) (by decide) (by rw [hml]; rfl) (lenOf pd3 rfl) rfl (Nat.le_of_ble_eq_true rfl) (hb hby d12_14) (fun v5 T5 L5 X5 hQ5 => ?_)
    obtain ⟨rfl, rfl, hh5⟩ := hQ5
    rw [List.append_nil] at X5
    show own_G p e below _ (T5.setTop (mkF m 17 #[.val (.ref x), .val (.int (2 : Int32)), .val (.int pl), .val (.int (2 : Int32)), .val (.int (1 : Int32)), .unset, .unset] [(.int c1)]))
    refine own_step (b := T5.setTop (mkF m 19 #[.val (.ref x), .val (.int (2 : Int32)), .val (.int pl), .val (.int (2 : Int32)), .val (.int (1 : Int32)), .unset, .unset] [(.int (46 : Int32)), (.int c1)])) (fun t k => XS.bipush X5.here hx rfl (hb hby d12_17) k) ?_
    refine own_icmp_ne X5 hx (hb hby d12_19) (pc' := 28) (by decide) (by decide) (fun c19_6 => ?_) (fun c19_6 => ?_)
    · show own_G p e below _ (T5.setTop (mkF m 28 #[.val (.ref x), .val (.int (2 : Int32)), .val (.int pl), .val (.int (2 : Int32)), .val (.int (1 : Int32)), .unset, .unset] []))
      refine own_step (b := T5.setTop (mkF m 31 #[.val (.ref x), .val (.int (2 : Int32)), .val (.int pl), .val (.int (2 : Int32)), .val (.int (2 : Int32)), .unset, .unset] [])) (fun t k => XS.iinc X5.here hx rfl (hb hby d12_28) rfl (l' := #[.val (.ref x), .val (.int (2 : Int32)), .val (.int pl), .val (.int (2 : Int32)), .val (.int (2 : Int32)), .unset, .unset]) rfl k) ?_
      refine own_step (b := T5.setTop (mkF m 5 #[.val (.ref x), .val (.int (2 : Int32)), .val (.int pl), .val (.int (2 : Int32)), .val (.int (2 : Int32)), .unset, .unset] [])) (fun t k => XS.goto X5.here hx rfl (pc0 := 31) (pc' := 5) rfl (hb hby d12_31) (by decide) (by decide) k) ?_
      refine own_step (b := T5.setTop (mkF m 7 #[.val (.ref x), .val (.int (2 : Int32)), .val (.int pl), .val (.int (2 : Int32)), .val (.int (2 : Int32)), .unset, .unset] [(.int (2 : Int32))])) (fun t k => XS.iload X5.here hx rfl (hb hby d12_5) rfl k) ?_
      refine own_step (b := T5.setTop (mkF m 8 #[.val (.ref x), .val (.int (2 : Int32)), .val (.int pl), .val (.int (2 : Int32)), .val (.int (2 : Int32)), .unset, .unset] [(.int (2 : Int32)), (.int (2 : Int32))])) (fun t k => XS.iloadN X5.here hx rfl (hb hby d12_7) rfl k) ?_
      refine own_icmp_ge X5 hx (hb hby d12_8) (pc' := 34) (by decide) (by decide) (fun c8_7 => ?_) (fun c8_7 => absurd c8_7 (by decide))
      show own_G p e below _ (T5.setTop (mkF m 34 #[.val (.ref x), .val (.int (2 : Int32)), .val (.int pl), .val (.int (2 : Int32)), .val (.int (2 : Int32)), .unset, .unset] []))
      refine own_step (b := T5.setTop (mkF m 35 #[.val (.ref x), .val (.int (2 : Int32)), .val (.int pl), .val (.int (2 : Int32)), .val (.int (2 : Int32)), .unset, .unset] [(.int (2 : Int32))])) (fun t k => XS.iloadN X5.here hx rfl (hb hby d12_34) rfl k) ?_
      refine own_step (b := T5.setTop (mkF m 36 #[.val (.ref x), .val (.int (2 : Int32)), .val (.int pl), .val (.int (2 : Int32)), .val (.int (2 : Int32)), .unset, .unset] [(.int (2 : Int32)), (.int (2 : Int32))])) (fun t k => XS.iloadN X5.here hx rfl (hb hby d12_35) rfl k) ?_
      refine own_icmp_ne X5 hx (hb hby d12_36) (pc' := 43) (by decide) (by decide) (fun c36_8 => absurd c36_8 (by decide)) (fun c36_8 => ?_)
      show own_G p e below _ (T5.setTop (mkF m 39 #[.val (.ref x), .val (.int (2 : Int32)), .val (.int pl), .val (.int (2 : Int32)), .val (.int (2 : Int32)), .unset, .unset] []))
      refine own_step (b := T5.setTop (mkF m 40 #[.val (.ref x), .val (.int (2 : Int32)), .val (.int pl), .val (.int (2 : Int32)), .val (.int (2 : Int32)), .unset, .unset] [(.int (0 : Int32))])) (fun t k => XS.iconst X5.here hx rfl (hb hby d12_39) k) ?_
      refine own_step (b := T5.setTop (mkF m 48 #[.val (.ref x), .val (.int (2 : Int32)), .val (.int pl), .val (.int (2 : Int32)), .val (.int (2 : Int32)), .unset, .unset] [(.int (0 : Int32))])) (fun t k => XS.goto X5.here hx rfl (pc0 := 40) (pc' := 48) rfl (hb hby d12_40) (by decide) (by decide) k) ?_
      refine own_step (b := T5.setTop (mkF m 50 #[.val (.ref x), .val (.int (2 : Int32)), .val (.int pl), .val (.int (2 : Int32)), .val (.int (0 : Int32)), .unset, .unset] [])) (fun t k => XS.istore X5.here hx rfl (hb hby d12_48) rfl (l' := #[.val (.ref x), .val (.int (2 : Int32)), .val (.int pl), .val (.int (2 : Int32)), .val (.int (0 : Int32)), .unset, .unset]) rfl k) ?_
      refine own_step (b := T5.setTop (mkF m 51 #[.val (.ref x), .val (.int (2 : Int32)), .val (.int pl), .val (.int (2 : Int32)), .val (.int (0 : Int32)), .unset, .unset] [(.int (2 : Int32))])) (fun t k => XS.iloadN X5.here hx rfl (hb hby d12_50) rfl k) ?_
      refine own_step (b := T5.setTop (mkF m 52 #[.val (.ref x), .val (.int (2 : Int32)), .val (.int pl), .val (.int (2 : Int32)), .val (.int (0 : Int32)), .unset, .unset] [(.int (1 : Int32)), (.int (2 : Int32))])) (fun t k => XS.iconst X5.here hx rfl (hb hby d12_51) k) ?_
      refine own_icmp_le X5 hx (hb hby d12_52) (pc' := 69) (by decide) (by decide) (fun c52_9 => absurd c52_9 (by decide)) (fun c52_9 => ?_)
      show own_G p e below _ (T5.setTop (mkF m 55 #[.val (.ref x), .val (.int (2 : Int32)), .val (.int pl), .val (.int (2 : Int32)), .val (.int (0 : Int32)), .unset, .unset] []))
      refine own_step (b := T5.setTop (mkF m 56 #[.val (.ref x), .val (.int (2 : Int32)), .val (.int pl), .val (.int (2 : Int32)), .val (.int (0 : Int32)), .unset, .unset] [(.ref x)])) (fun t k => XS.aloadN X5.here hx rfl (hb hby d12_55) rfl rfl k) ?_
      refine own_step (b := T5.setTop (mkF m 57 #[.val (.ref x), .val (.int (2 : Int32)), .val (.int pl), .val (.int (2 : Int32)), .val (.int (0 : Int32)), .unset, .unset] [(.int (0 : Int32)), (.ref x)])) (fun t k => XS.iconst X5.here hx rfl (hb hby d12_56) k) ?_
      refine own_virtual (a := x) (W := 0) (argsL := [(.int (0 : Int32))]) (st := []) X5 hx hZ hown (own_w hw 51 rfl) (own_w hw 52 rfl) (own_w hw 54 rfl) rfl (own_w hw 53 rfl) (by decide) hh5 SS.1 (own_chB (W := 0) hZ hw (kI := 4) (own_w hw 6 rfl) SS O2 P5 O4 rG3 OL0 0 (Nat.le_of_ble_eq_true rfl) (j := (0 : Int32)) rfl (r := c0) rfl (by decide) (by decide)) (by decide) (by decide) (by rw [hml]; rfl) (lenOf pd3 rfl) rfl (Nat.le_of_ble_eq_true rfl) (hb hby d12_57) (fun v10 T10 L10 X10 hQ10 => ?_)
      obtain ⟨rfl, rfl, hh10⟩ := hQ10
      rw [List.append_nil] at X10
      show own_G p e below _ (T10.setTop (mkF m 60 #[.val (.ref x), .val (.int (2 : Int32)), .val (.int pl), .val (.int (2 : Int32)), .val (.int (0 : Int32)), .unset, .unset] [(.int c0)]))
      refine own_step (b := T10.setTop (mkF m 62 #[.val (.ref x), .val (.int (2 : Int32)), .val (.int pl), .val (.int (2 : Int32)), .val (.int (0 : Int32)), .unset, .unset] [(.int (48 : Int32)), (.int c0)])) (fun t k => XS.bipush X10.here hx rfl (hb hby d12_60) k) ?_
      refine own_icmp_ne X10 hx (hb hby d12_62) (pc' := 69) (by decide) (by decide) (fun c62_11 => ?_) (fun c62_11 => ?_)
      · show own_G p e below _ (T10.setTop (mkF m 69 #[.val (.ref x), .val (.int (2 : Int32)), .val (.int pl), .val (.int (2 : Int32)), .val (.int (0 : Int32)), .unset, .unset] []))
        refine own_step (b := T10.setTop (mkF m 70 #[.val (.ref x), .val (.int (2 : Int32)), .val (.int pl), .val (.int (2 : Int32)), .val (.int (0 : Int32)), .unset, .unset] [(.int (0 : Int32))])) (fun t k => XS.iconst X10.here hx rfl (hb hby d12_69) k) ?_
        refine own_step (b := T10.setTop (mkF m 72 #[.val (.ref x), .val (.int (2 : Int32)), .val (.int pl), .val (.int (2 : Int32)), .val (.int (0 : Int32)), .val (.int (0 : Int32)), .unset] [])) (fun t k => XS.istore X10.here hx rfl (hb hby d12_70) rfl (l' := #[.val (.ref x), .val (.int (2 : Int32)), .val (.int pl), .val (.int (2 : Int32)), .val (.int (0 : Int32)), .val (.int (0 : Int32)), .unset]) rfl k) ?_
        refine own_step (b := T10.setTop (mkF m 73 #[.val (.ref x), .val (.int (2 : Int32)), .val (.int pl), .val (.int (2 : Int32)), .val (.int (0 : Int32)), .val (.int (0 : Int32)), .unset] [(.int (2 : Int32))])) (fun t k => XS.iloadN X10.here hx rfl (hb hby d12_72) rfl k) ?_
        refine own_if_le X10 hx (hb hby d12_73) (pc' := 121) (by decide) (by decide) (fun c73_12 => absurd c73_12 (by decide)) (fun c73_12 => ?_)
        show own_G p e below _ (T10.setTop (mkF m 76 #[.val (.ref x), .val (.int (2 : Int32)), .val (.int pl), .val (.int (2 : Int32)), .val (.int (0 : Int32)), .val (.int (0 : Int32)), .unset] []))
        refine own_step (b := T10.setTop (mkF m 78 #[.val (.ref x), .val (.int (2 : Int32)), .val (.int pl), .val (.int (2 : Int32)), .val (.int (0 : Int32)), .val (.int (0 : Int32)), .unset] [(.int (0 : Int32))])) (fun t k => XS.iload X10.here hx rfl (hb hby d12_76) rfl k) ?_
        refine own_if_ne X10 hx (hb hby d12_78) (pc' := 121) (by decide) (by decide) (fun c78_13 => absurd c78_13 (by decide)) (fun c78_13 => ?_)
        show own_G p e below _ (T10.setTop (mkF m 81 #[.val (.ref x), .val (.int (2 : Int32)), .val (.int pl), .val (.int (2 : Int32)), .val (.int (0 : Int32)), .val (.int (0 : Int32)), .unset] []))
        refine own_step (b := T10.setTop (mkF m 82 #[.val (.ref x), .val (.int (2 : Int32)), .val (.int pl), .val (.int (2 : Int32)), .val (.int (0 : Int32)), .val (.int (0 : Int32)), .unset] [(.ref x)])) (fun t k => XS.aloadN X10.here hx rfl (hb hby d12_81) rfl rfl k) ?_
        refine own_step (b := T10.setTop (mkF m 83 #[.val (.ref x), .val (.int (2 : Int32)), .val (.int pl), .val (.int (2 : Int32)), .val (.int (0 : Int32)), .val (.int (0 : Int32)), .unset] [(.int (0 : Int32)), (.ref x)])) (fun t k => XS.iconst X10.here hx rfl (hb hby d12_82) k) ?_
        refine own_step (b := T10.setTop (mkF m 84 #[.val (.ref x), .val (.int (2 : Int32)), .val (.int pl), .val (.int (2 : Int32)), .val (.int (0 : Int32)), .val (.int (0 : Int32)), .unset] [(.int (2 : Int32)), (.int (0 : Int32)), (.ref x)])) (fun t k => XS.iloadN X10.here hx rfl (hb hby d12_83) rfl k) ?_
        refine own_staticP (W := 0) (argsL := [(.ref x), (.int (0 : Int32)), (.int (2 : Int32))]) (st := []) X10 hx hZ hown (own_w hw 73 rfl) (own_w hw 74 rfl) (own_w hw 49 rfl) (own_w hw 75 rfl) (by decide) hh10 (rmIsd_0_2 l Z a0 hw [] x c0 c1 c2 c3 h0 SS OL0 G1 O2 P5 G3 O4 rG3) (by decide) (by decide) (by decide) (by decide) (by rw [hml]; rfl) (lenOf pd4 rfl) rfl (Nat.le_of_ble_eq_true rfl) (hb hby d12_84) (fun T14 X14 e14 => ?_)
        show own_G p e below _ (T14.setTop (mkF m 87 #[.val (.ref x), .val (.int (2 : Int32)), .val (.int pl), .val (.int (2 : Int32)), .val (.int (0 : Int32)), .val (.int (0 : Int32)), .unset] [(.int (own_bi (own_dig c0 && own_dig c1)))]))
        refine own_if_eq X14 hx (hb hby d12_87) (pc' := 121) (by decide) (by decide) (fun c87_15 => ?_) (fun c87_15 => ?_)
        · show own_G p e below _ (T14.setTop (mkF m 121 #[.val (.ref x), .val (.int (2 : Int32)), .val (.int pl), .val (.int (2 : Int32)), .val (.int (0 : Int32)), .val (.int (0 : Int32)), .unset] []))
          have c87_15b : (own_dig c0 && own_dig c1) = false := own_bi_f c87_15
          refine own_step (b := T14.setTop (mkF m 122 #[.val (.ref x), .val (.int (2 : Int32)), .val (.int pl), .val (.int (2 : Int32)), .val (.int (0 : Int32)), .val (.int (0 : Int32)), .unset] [(.int (0 : Int32))])) (fun t k => XS.iconst X14.here hx rfl (hb hby d12_121) k) ?_
          refine own_step (b := T14.setTop (mkF m 124 #[.val (.ref x), .val (.int (2 : Int32)), .val (.int pl), .val (.int (2 : Int32)), .val (.int (0 : Int32)), .val (.int (0 : Int32)), .val (.int (0 : Int32))] [])) (fun t k => XS.istore X14.here hx rfl (hb hby d12_122) rfl (l' := #[.val (.ref x), .val (.int (2 : Int32)), .val (.int pl), .val (.int (2 : Int32)), .val (.int (0 : Int32)), .val (.int (0 : Int32)), .val (.int (0 : Int32))]) rfl k) ?_
          refine own_step (b := T14.setTop (mkF m 126 #[.val (.ref x), .val (.int (2 : Int32)), .val (.int pl), .val (.int (2 : Int32)), .val (.int (0 : Int32)), .val (.int (0 : Int32)), .val (.int (0 : Int32))] [(.int (0 : Int32))])) (fun t k => XS.iload X14.here hx rfl (hb hby d12_124) rfl k) ?_
          exact own_retN X14 hx hret (by simp) hlk (hb hby d12_126) ⟨by rw [show (if c0 = 46 then false else (if c1 = 46 then false else (!decide (c0 = 48) && (own_dig c0 && own_dig c1)))) = false by simp [c19_3, c19_6, c62_11, c87_15b, own_dig46]]; rfl, rfl, e14⟩ (by decide) (by decide)
        · show own_G p e below _ (T14.setTop (mkF m 90 #[.val (.ref x), .val (.int (2 : Int32)), .val (.int pl), .val (.int (2 : Int32)), .val (.int (0 : Int32)), .val (.int (0 : Int32)), .unset] []))
          have c87_15b : (own_dig c0 && own_dig c1) = true := own_bi_t c87_15
          refine own_step (b := T14.setTop (mkF m 91 #[.val (.ref x), .val (.int (2 : Int32)), .val (.int pl), .val (.int (2 : Int32)), .val (.int (0 : Int32)), .val (.int (0 : Int32)), .unset] [(.int (2 : Int32))])) (fun t k => XS.iloadN X14.here hx rfl (hb hby d12_90) rfl k) ?_
          refine own_step (b := T14.setTop (mkF m 92 #[.val (.ref x), .val (.int (2 : Int32)), .val (.int pl), .val (.int (2 : Int32)), .val (.int (0 : Int32)), .val (.int (0 : Int32)), .unset] [(.int (2 : Int32)), (.int (2 : Int32))])) (fun t k => XS.iloadN X14.here hx rfl (hb hby d12_91) rfl k) ?_
          refine own_icmp_eq X14 hx (hb hby d12_92) (pc' := 117) (by decide) (by decide) (fun c92_16 => ?_) (fun c92_16 => absurd c92_16 (by decide))
          show own_G p e below _ (T14.setTop (mkF m 117 #[.val (.ref x), .val (.int (2 : Int32)), .val (.int pl), .val (.int (2 : Int32)), .val (.int (0 : Int32)), .val (.int (0 : Int32)), .unset] []))
          refine own_step (b := T14.setTop (mkF m 118 #[.val (.ref x), .val (.int (2 : Int32)), .val (.int pl), .val (.int (2 : Int32)), .val (.int (0 : Int32)), .val (.int (0 : Int32)), .unset] [(.int (1 : Int32))])) (fun t k => XS.iconst X14.here hx rfl (hb hby d12_117) k) ?_
          refine own_step (b := T14.setTop (mkF m 122 #[.val (.ref x), .val (.int (2 : Int32)), .val (.int pl), .val (.int (2 : Int32)), .val (.int (0 : Int32)), .val (.int (0 : Int32)), .unset] [(.int (1 : Int32))])) (fun t k => XS.goto X14.here hx rfl (pc0 := 118) (pc' := 122) rfl (hb hby d12_118) (by decide) (by decide) k) ?_
          refine own_step (b := T14.setTop (mkF m 124 #[.val (.ref x), .val (.int (2 : Int32)), .val (.int pl), .val (.int (2 : Int32)), .val (.int (0 : Int32)), .val (.int (0 : Int32)), .val (.int (1 : Int32))] [])) (fun t k => XS.istore X14.here hx rfl (hb hby d12_122) rfl (l' := #[.val (.ref x), .val (.int (2 : Int32)), .val (.int pl), .val (.int (2 : Int32)), .val (.int (0 : Int32)), .val (.int (0 : Int32)), .val (.int (1 : Int32))]) rfl k) ?_
          refine own_step (b := T14.setTop (mkF m 126 #[.val (.ref x), .val (.int (2 : Int32)), .val (.int pl), .val (.int (2 : Int32)), .val (.int (0 : Int32)), .val (.int (0 : Int32)), .val (.int (1 : Int32))] [(.int (1 : Int32))])) (fun t k => XS.iload X14.here hx rfl (hb hby d12_124) rfl k) ?_
          exact own_retN X14 hx hret (by simp) hlk (hb hby d12_126) ⟨by rw [show (if c0 = 46 then false else (if c1 = 46 then false else (!decide (c0 = 48) && (own_dig c0 && own_dig c1)))) = true by simp [c19_3, c19_6, c62_11, c87_15b, own_dig46]]; rfl, rfl, e14⟩ (by decide) (by decide)
      · show own_G p e below _ (T10.setTop (mkF m 65 #[.val (.ref x), .val (.int (2 : Int32)), .val (.int pl), .val (.int (2 : Int32)), .val (.int (0 : Int32)), .unset, .unset] []))
        refine own_step (b := T10.setTop (mkF m 66 #[.val (.ref x), .val (.int (2 : Int32)), .val (.int pl), .val (.int (2 : Int32)), .val (.int (0 : Int32)), .unset, .unset] [(.int (1 : Int32))])) (fun t k => XS.iconst X10.here hx rfl (hb hby d12_65) k) ?_
        refine own_step (b := T10.setTop (mkF m 70 #[.val (.ref x), .val (.int (2 : Int32)), .val (.int pl), .val (.int (2 : Int32)), .val (.int (0 : Int32)), .unset, .unset] [(.int (1 : Int32))])) (fun t k => XS.goto X10.here hx rfl (pc0 := 66) (pc' := 70) rfl (hb hby d12_66) (by decide) (by decide) k) ?_
        refine own_step (b := T10.setTop (mkF m 72 #[.val (.ref x), .val (.int (2 : Int32)), .val (.int pl), .val (.int (2 : Int32)), .val (.int (0 : Int32)), .val (.int (1 : Int32)), .unset] [])) (fun t k => XS.istore X10.here hx rfl (hb hby d12_70) rfl (l' := #[.val (.ref x), .val (.int (2 : Int32)), .val (.int pl), .val (.int (2 : Int32)), .val (.int (0 : Int32)), .val (.int (1 : Int32)), .unset]) rfl k) ?_
        refine own_step (b := T10.setTop (mkF m 73 #[.val (.ref x), .val (.int (2 : Int32)), .val (.int pl), .val (.int (2 : Int32)), .val (.int (0 : Int32)), .val (.int (1 : Int32)), .unset] [(.int (2 : Int32))])) (fun t k => XS.iloadN X10.here hx rfl (hb hby d12_72) rfl k) ?_
        refine own_if_le X10 hx (hb hby d12_73) (pc' := 121) (by decide) (by decide) (fun c73_17 => absurd c73_17 (by decide)) (fun c73_17 => ?_)
        show own_G p e below _ (T10.setTop (mkF m 76 #[.val (.ref x), .val (.int (2 : Int32)), .val (.int pl), .val (.int (2 : Int32)), .val (.int (0 : Int32)), .val (.int (1 : Int32)), .unset] []))
        refine own_step (b := T10.setTop (mkF m 78 #[.val (.ref x), .val (.int (2 : Int32)), .val (.int pl), .val (.int (2 : Int32)), .val (.int (0 : Int32)), .val (.int (1 : Int32)), .unset] [(.int (1 : Int32))])) (fun t k => XS.iload X10.here hx rfl (hb hby d12_76) rfl k) ?_
        refine own_if_ne X10 hx (hb hby d12_78) (pc' := 121) (by decide) (by decide) (fun c78_18 => ?_) (fun c78_18 => absurd c78_18 (by decide))
        show own_G p e below _ (T10.setTop (mkF m 121 #[.val (.ref x), .val (.int (2 : Int32)), .val (.int pl), .val (.int (2 : Int32)), .val (.int (0 : Int32)), .val (.int (1 : Int32)), .unset] []))
        refine own_step (b := T10.setTop (mkF m 122 #[.val (.ref x), .val (.int (2 : Int32)), .val (.int pl), .val (.int (2 : Int32)), .val (.int (0 : Int32)), .val (.int (1 : Int32)), .unset] [(.int (0 : Int32))])) (fun t k => XS.iconst X10.here hx rfl (hb hby d12_121) k) ?_
        refine own_step (b := T10.setTop (mkF m 124 #[.val (.ref x), .val (.int (2 : Int32)), .val (.int pl), .val (.int (2 : Int32)), .val (.int (0 : Int32)), .val (.int (1 : Int32)), .val (.int (0 : Int32))] [])) (fun t k => XS.istore X10.here hx rfl (hb hby d12_122) rfl (l' := #[.val (.ref x), .val (.int (2 : Int32)), .val (.int pl), .val (.int (2 : Int32)), .val (.int (0 : Int32)), .val (.int (1 : Int32)), .val (.int (0 : Int32))]) rfl k) ?_
        refine own_step (b := T10.setTop (mkF m 126 #[.val (.ref x), .val (.int (2 : Int32)), .val (.int pl), .val (.int (2 : Int32)), .val (.int (0 : Int32)), .val (.int (1 : Int32)), .val (.int (0 : Int32))] [(.int (0 : Int32))])) (fun t k => XS.iload X10.here hx rfl (hb hby d12_124) rfl k) ?_
        exact own_retN X10 hx hret (by simp) hlk (hb hby d12_126) ⟨by rw [show (if c0 = 46 then false else (if c1 = 46 then false else (!decide (c0 = 48) && (own_dig c0 && own_dig c1)))) = false by simp [c19_3, c19_6, c62_11, own_dig46]]; rfl, rfl, hh10⟩ (by decide) (by decide)
    · show own_G p e below _ (T5.setTop (mkF m 22 #[.val (.ref x), .val (.int (2 : Int32)), .val (.int pl), .val (.int (2 : Int32)), .val (.int (1 : Int32)), .unset, .unset] []))
      refine own_step (b := T5.setTop (mkF m 24 #[.val (.ref x), .val (.int (2 : Int32)), .val (.int pl), .val (.int (2 : Int32)), .val (.int (1 : Int32)), .unset, .unset] [(.int (1 : Int32))])) (fun t k => XS.iload X5.here hx rfl (hb hby d12_22) rfl k) ?_
      refine own_step (b := T5.setTop (mkF m 25 #[.val (.ref x), .val (.int (2 : Int32)), .val (.int pl), .val (.int (1 : Int32)), .val (.int (1 : Int32)), .unset, .unset] [])) (fun t k => XS.istoreN X5.here hx rfl (hb hby d12_24) rfl (l' := #[.val (.ref x), .val (.int (2 : Int32)), .val (.int pl), .val (.int (1 : Int32)), .val (.int (1 : Int32)), .unset, .unset]) rfl k) ?_
      refine own_step (b := T5.setTop (mkF m 34 #[.val (.ref x), .val (.int (2 : Int32)), .val (.int pl), .val (.int (1 : Int32)), .val (.int (1 : Int32)), .unset, .unset] [])) (fun t k => XS.goto X5.here hx rfl (pc0 := 25) (pc' := 34) rfl (hb hby d12_25) (by decide) (by decide) k) ?_
      refine own_step (b := T5.setTop (mkF m 35 #[.val (.ref x), .val (.int (2 : Int32)), .val (.int pl), .val (.int (1 : Int32)), .val (.int (1 : Int32)), .unset, .unset] [(.int (1 : Int32))])) (fun t k => XS.iloadN X5.here hx rfl (hb hby d12_34) rfl k) ?_
      refine own_step (b := T5.setTop (mkF m 36 #[.val (.ref x), .val (.int (2 : Int32)), .val (.int pl), .val (.int (1 : Int32)), .val (.int (1 : Int32)), .unset, .unset] [(.int (2 : Int32)), (.int (1 : Int32))])) (fun t k => XS.iloadN X5.here hx rfl (hb hby d12_35) rfl k) ?_
      refine own_icmp_ne X5 hx (hb hby d12_36) (pc' := 43) (by decide) (by decide) (fun c36_19 => ?_) (fun c36_19 => absurd c36_19 (by decide))
      show own_G p e below _ (T5.setTop (mkF m 43 #[.val (.ref x), .val (.int (2 : Int32)), .val (.int pl), .val (.int (1 : Int32)), .val (.int (1 : Int32)), .unset, .unset] []))
      refine own_step (b := T5.setTop (mkF m 44 #[.val (.ref x), .val (.int (2 : Int32)), .val (.int pl), .val (.int (1 : Int32)), .val (.int (1 : Int32)), .unset, .unset] [(.int (2 : Int32))])) (fun t k => XS.iloadN X5.here hx rfl (hb hby d12_43) rfl k) ?_
      refine own_step (b := T5.setTop (mkF m 45 #[.val (.ref x), .val (.int (2 : Int32)), .val (.int pl), .val (.int (1 : Int32)), .val (.int (1 : Int32)), .unset, .unset] [(.int (1 : Int32)), (.int (2 : Int32))])) (fun t k => XS.iloadN X5.here hx rfl (hb hby d12_44) rfl k) ?_
      refine own_step (b := T5.setTop (mkF m 46 #[.val (.ref x), .val (.int (2 : Int32)), .val (.int pl), .val (.int (1 : Int32)), .val (.int (1 : Int32)), .unset, .unset] [(.int (1 : Int32))])) (fun t k => XS.isub X5.here hx rfl (hb hby d12_45) rfl k) ?_
      refine own_step (b := T5.setTop (mkF m 47 #[.val (.ref x), .val (.int (2 : Int32)), .val (.int pl), .val (.int (1 : Int32)), .val (.int (1 : Int32)), .unset, .unset] [(.int (1 : Int32)), (.int (1 : Int32))])) (fun t k => XS.iconst X5.here hx rfl (hb hby d12_46) k) ?_
      refine own_step (b := T5.setTop (mkF m 48 #[.val (.ref x), .val (.int (2 : Int32)), .val (.int pl), .val (.int (1 : Int32)), .val (.int (1 : Int32)), .unset, .unset] [(.int (0 : Int32))])) (fun t k => XS.isub X5.here hx rfl (hb hby d12_47) rfl k) ?_
      refine own_step (b := T5.setTop (mkF m 50 #[.val (.ref x), .val (.int (2 : Int32)), .val (.int pl), .val (.int (1 : Int32)), .val (.int (0 : Int32)), .unset, .unset] [])) (fun t k => XS.istore X5.here hx rfl (hb hby d12_48) rfl (l' := #[.val (.ref x), .val (.int (2 : Int32)), .val (.int pl), .val (.int (1 : Int32)), .val (.int (0 : Int32)), .unset, .unset]) rfl k) ?_
      refine own_step (b := T5.setTop (mkF m 51 #[.val (.ref x), .val (.int (2 : Int32)), .val (.int pl), .val (.int (1 : Int32)), .val (.int (0 : Int32)), .unset, .unset] [(.int (1 : Int32))])) (fun t k => XS.iloadN X5.here hx rfl (hb hby d12_50) rfl k) ?_
      refine own_step (b := T5.setTop (mkF m 52 #[.val (.ref x), .val (.int (2 : Int32)), .val (.int pl), .val (.int (1 : Int32)), .val (.int (0 : Int32)), .unset, .unset] [(.int (1 : Int32)), (.int (1 : Int32))])) (fun t k => XS.iconst X5.here hx rfl (hb hby d12_51) k) ?_
      refine own_icmp_le X5 hx (hb hby d12_52) (pc' := 69) (by decide) (by decide) (fun c52_20 => ?_) (fun c52_20 => absurd c52_20 (by decide))
      show own_G p e below _ (T5.setTop (mkF m 69 #[.val (.ref x), .val (.int (2 : Int32)), .val (.int pl), .val (.int (1 : Int32)), .val (.int (0 : Int32)), .unset, .unset] []))
      refine own_step (b := T5.setTop (mkF m 70 #[.val (.ref x), .val (.int (2 : Int32)), .val (.int pl), .val (.int (1 : Int32)), .val (.int (0 : Int32)), .unset, .unset] [(.int (0 : Int32))])) (fun t k => XS.iconst X5.here hx rfl (hb hby d12_69) k) ?_
      refine own_step (b := T5.setTop (mkF m 72 #[.val (.ref x), .val (.int (2 : Int32)), .val (.int pl), .val (.int (1 : Int32)), .val (.int (0 : Int32)), .val (.int (0 : Int32)), .unset] [])) (fun t k => XS.istore X5.here hx rfl (hb hby d12_70) rfl (l' := #[.val (.ref x), .val (.int (2 : Int32)), .val (.int pl), .val (.int (1 : Int32)), .val (.int (0 : Int32)), .val (.int (0 : Int32)), .unset]) rfl k) ?_
      refine own_step (b := T5.setTop (mkF m 73 #[.val (.ref x), .val (.int (2 : Int32)), .val (.int pl), .val (.int (1 : Int32)), .val (.int (0 : Int32)), .val (.int (0 : Int32)), .unset] [(.int (1 : Int32))])) (fun t k => XS.iloadN X5.here hx rfl (hb hby d12_72) rfl k) ?_
      refine own_if_le X5 hx (hb hby d12_73) (pc' := 121) (by decide) (by decide) (fun c73_21 => absurd c73_21 (by decide)) (fun c73_21 => ?_)
      show own_G p e below _ (T5.setTop (mkF m 76 #[.val (.ref x), .val (.int (2 : Int32)), .val (.int pl), .val (.int (1 : Int32)), .val (.int (0 : Int32)), .val (.int (0 : Int32)), .unset] []))
      refine own_step (b := T5.setTop (mkF m 78 #[.val (.ref x), .val (.int (2 : Int32)), .val (.int pl), .val (.int (1 : Int32)), .val (.int (0 : Int32)), .val (.int (0 : Int32)), .unset] [(.int (0 : Int32))])) (fun t k => XS.iload X5.here hx rfl (hb hby d12_76) rfl k) ?_
      refine own_if_ne X5 hx (hb hby d12_78) (pc' := 121) (by decide) (by decide) (fun c78_22 => absurd c78_22 (by decide)) (fun c78_22 => ?_)
      show own_G p e below _ (T5.setTop (mkF m 81 #[.val (.ref x), .val (.int (2 : Int32)), .val (.int pl), .val (.int (1 : Int32)), .val (.int (0 : Int32)), .val (.int (0 : Int32)), .unset] []))
      refine own_step (b := T5.setTop (mkF m 82 #[.val (.ref x), .val (.int (2 : Int32)), .val (.int pl), .val (.int (1 : Int32)), .val (.int (0 : Int32)), .val (.int (0 : Int32)), .unset] [(.ref x)])) (fun t k => XS.aloadN X5.here hx rfl (hb hby d12_81) rfl rfl k) ?_
      refine own_step (b := T5.setTop (mkF m 83 #[.val (.ref x), .val (.int (2 : Int32)), .val (.int pl), .val (.int (1 : Int32)), .val (.int (0 : Int32)), .val (.int (0 : Int32)), .unset] [(.int (0 : Int32)), (.ref x)])) (fun t k => XS.iconst X5.here hx rfl (hb hby d12_82) k) ?_
      refine own_step (b := T5.setTop (mkF m 84 #[.val (.ref x), .val (.int (2 : Int32)), .val (.int pl), .val (.int (1 : Int32)), .val (.int (0 : Int32)), .val (.int (0 : Int32)), .unset] [(.int (1 : Int32)), (.int (0 : Int32)), (.ref x)])) (fun t k => XS.iloadN X5.here hx rfl (hb hby d12_83) rfl k) ?_
      refine own_staticP (W := 0) (argsL := [(.ref x), (.int (0 : Int32)), (.int (1 : Int32))]) (st := []) X5 hx hZ hown (own_w hw 73 rfl) (own_w hw 74 rfl) (own_w hw 49 rfl) (own_w hw 75 rfl) (by decide) hh5 (rmIsd_0_1 l Z a0 hw [] x c0 c1 c2 c3 h0 SS OL0 G1 O2 P5 G3 O4 rG3) (by decide) (by decide) (by decide) (by decide) (by rw [hml]; rfl) (lenOf pd4 rfl) rfl (Nat.le_of_ble_eq_true rfl) (hb hby d12_84) (fun T23 X23 e23 => ?_)
      show own_G p e below _ (T23.setTop (mkF m 87 #[.val (.ref x), .val (.int (2 : Int32)), .val (.int pl), .val (.int (1 : Int32)), .val (.int (0 : Int32)), .val (.int (0 : Int32)), .unset] [(.int (own_bi (own_dig c0)))]))
      refine own_if_eq X23 hx (hb hby d12_87) (pc' := 121) (by decide) (by decide) (fun c87_24 => ?_) (fun c87_24 => ?_)
      · show own_G p e below _ (T23.setTop (mkF m 121 #[.val (.ref x), .val (.int (2 : Int32)), .val (.int pl), .val (.int (1 : Int32)), .val (.int (0 : Int32)), .val (.int (0 : Int32)), .unset] []))
        have c87_24b : (own_dig c0) = false := own_bi_f c87_24
        refine own_step (b := T23.setTop (mkF m 122 #[.val (.ref x), .val (.int (2 : Int32)), .val (.int pl), .val (.int (1 : Int32)), .val (.int (0 : Int32)), .val (.int (0 : Int32)), .unset] [(.int (0 : Int32))])) (fun t k => XS.iconst X23.here hx rfl (hb hby d12_121) k) ?_
        refine own_step (b := T23.setTop (mkF m 124 #[.val (.ref x), .val (.int (2 : Int32)), .val (.int pl), .val (.int (1 : Int32)), .val (.int (0 : Int32)), .val (.int (0 : Int32)), .val (.int (0 : Int32))] [])) (fun t k => XS.istore X23.here hx rfl (hb hby d12_122) rfl (l' := #[.val (.ref x), .val (.int (2 : Int32)), .val (.int pl), .val (.int (1 : Int32)), .val (.int (0 : Int32)), .val (.int (0 : Int32)), .val (.int (0 : Int32))]) rfl k) ?_
        refine own_step (b := T23.setTop (mkF m 126 #[.val (.ref x), .val (.int (2 : Int32)), .val (.int pl), .val (.int (1 : Int32)), .val (.int (0 : Int32)), .val (.int (0 : Int32)), .val (.int (0 : Int32))] [(.int (0 : Int32))])) (fun t k => XS.iload X23.here hx rfl (hb hby d12_124) rfl k) ?_
        exact own_retN X23 hx hret (by simp) hlk (hb hby d12_126) ⟨by rw [show (if c0 = 46 then false else (if c1 = 46 then false else (!decide (c0 = 48) && (own_dig c0 && own_dig c1)))) = false by simp [c19_3, c19_6, c87_24b, own_dig46]]; rfl, rfl, e23⟩ (by decide) (by decide)
      · show own_G p e below _ (T23.setTop (mkF m 90 #[.val (.ref x), .val (.int (2 : Int32)), .val (.int pl), .val (.int (1 : Int32)), .val (.int (0 : Int32)), .val (.int (0 : Int32)), .unset] []))
        have c87_24b : (own_dig c0) = true := own_bi_t c87_24
        refine own_step (b := T23.setTop (mkF m 91 #[.val (.ref x), .val (.int (2 : Int32)), .val (.int pl), .val (.int (1 : Int32)), .val (.int (0 : Int32)), .val (.int (0 : Int32)), .unset] [(.int (1 : Int32))])) (fun t k => XS.iloadN X23.here hx rfl (hb hby d12_90) rfl k) ?_
        refine own_step (b := T23.setTop (mkF m 92 #[.val (.ref x), .val (.int (2 : Int32)), .val (.int pl), .val (.int (1 : Int32)), .val (.int (0 : Int32)), .val (.int (0 : Int32)), .unset] [(.int (2 : Int32)), (.int (1 : Int32))])) (fun t k => XS.iloadN X23.here hx rfl (hb hby d12_91) rfl k) ?_
        refine own_icmp_eq X23 hx (hb hby d12_92) (pc' := 117) (by decide) (by decide) (fun c92_25 => absurd c92_25 (by decide)) (fun c92_25 => ?_)
        show own_G p e below _ (T23.setTop (mkF m 95 #[.val (.ref x), .val (.int (2 : Int32)), .val (.int pl), .val (.int (1 : Int32)), .val (.int (0 : Int32)), .val (.int (0 : Int32)), .unset] []))
        refine own_step (b := T23.setTop (mkF m 97 #[.val (.ref x), .val (.int (2 : Int32)), .val (.int pl), .val (.int (1 : Int32)), .val (.int (0 : Int32)), .val (.int (0 : Int32)), .unset] [(.int (0 : Int32))])) (fun t k => XS.iload X23.here hx rfl (hb hby d12_95) rfl k) ?_
        refine own_if_le X23 hx (hb hby d12_97) (pc' := 121) (by decide) (by decide) (fun c97_26 => ?_) (fun c97_26 => absurd c97_26 (by decide))
        show own_G p e below _ (T23.setTop (mkF m 121 #[.val (.ref x), .val (.int (2 : Int32)), .val (.int pl), .val (.int (1 : Int32)), .val (.int (0 : Int32)), .val (.int (0 : Int32)), .unset] []))
        refine own_step (b := T23.setTop (mkF m 122 #[.val (.ref x), .val (.int (2 : Int32)), .val (.int pl), .val (.int (1 : Int32)), .val (.int (0 : Int32)), .val (.int (0 : Int32)), .unset] [(.int (0 : Int32))])) (fun t k => XS.iconst X23.here hx rfl (hb hby d12_121) k) ?_
        refine own_step (b := T23.setTop (mkF m 124 #[.val (.ref x), .val (.int (2 : Int32)), .val (.int pl), .val (.int (1 : Int32)), .val (.int (0 : Int32)), .val (.int (0 : Int32)), .val (.int (0 : Int32))] [])) (fun t k => XS.istore X23.here hx rfl (hb hby d12_122) rfl (l' := #[.val (.ref x), .val (.int (2 : Int32)), .val (.int pl), .val (.int (1 : Int32)), .val (.int (0 : Int32)), .val (.int (0 : Int32)), .val (.int (0 : Int32))]) rfl k) ?_
        refine own_step (b := T23.setTop (mkF m 126 #[.val (.ref x), .val (.int (2 : Int32)), .val (.int pl), .val (.int (1 : Int32)), .val (.int (0 : Int32)), .val (.int (0 : Int32)), .val (.int (0 : Int32))] [(.int (0 : Int32))])) (fun t k => XS.iload X23.here hx rfl (hb hby d12_124) rfl k) ?_
        exact own_retN X23 hx hret (by simp) hlk (hb hby d12_126) ⟨by rw [show (if c0 = 46 then false else (if c1 = 46 then false else (!decide (c0 = 48) && (own_dig c0 && own_dig c1)))) = false by simp [c19_3, c19_6, c87_24b, own_dig46]]; rfl, rfl, e23⟩ (by decide) (by decide)
  · show own_G p e below _ (T2.setTop (mkF m 22 #[.val (.ref x), .val (.int (2 : Int32)), .val (.int pl), .val (.int (2 : Int32)), .val (.int (0 : Int32)), .unset, .unset] []))
    refine own_step (b := T2.setTop (mkF m 24 #[.val (.ref x), .val (.int (2 : Int32)), .val (.int pl), .val (.int (2 : Int32)), .val (.int (0 : Int32)), .unset, .unset] [(.int (0 : Int32))])) (fun t k => XS.iload X2.here hx rfl (hb hby d12_22) rfl k) ?_
    refine own_step (b := T2.setTop (mkF m 25 #[.val (.ref x), .val (.int (2 : Int32)), .val (.int pl), .val (.int (0 : Int32)), .val (.int (0 : Int32)), .unset, .unset] [])) (fun t k => XS.istoreN X2.here hx rfl (hb hby d12_24) rfl (l' := #[.val (.ref x), .val (.int (2 : Int32)), .val (.int pl), .val (.int (0 : Int32)), .val (.int (0 : Int32)), .unset, .unset]) rfl k) ?_
    refine own_step (b := T2.setTop (mkF m 34 #[.val (.ref x), .val (.int (2 : Int32)), .val (.int pl), .val (.int (0 : Int32)), .val (.int (0 : Int32)), .unset, .unset] [])) (fun t k => XS.goto X2.here hx rfl (pc0 := 25) (pc' := 34) rfl (hb hby d12_25) (by decide) (by decide) k) ?_
    refine own_step (b := T2.setTop (mkF m 35 #[.val (.ref x), .val (.int (2 : Int32)), .val (.int pl), .val (.int (0 : Int32)), .val (.int (0 : Int32)), .unset, .unset] [(.int (0 : Int32))])) (fun t k => XS.iloadN X2.here hx rfl (hb hby d12_34) rfl k) ?_
    refine own_step (b := T2.setTop (mkF m 36 #[.val (.ref x), .val (.int (2 : Int32)), .val (.int pl), .val (.int (0 : Int32)), .val (.int (0 : Int32)), .unset, .unset] [(.int (2 : Int32)), (.int (0 : Int32))])) (fun t k => XS.iloadN X2.here hx rfl (hb hby d12_35) rfl k) ?_
    refine own_icmp_ne X2 hx (hb hby d12_36) (pc' := 43) (by decide) (by decide) (fun c36_27 => ?_) (fun c36_27 => absurd c36_27 (by decide))
    show own_G p e below _ (T2.setTop (mkF m 43 #[.val (.ref x), .val (.int (2 : Int32)), .val (.int pl), .val (.int (0 : Int32)), .val (.int (0 : Int32)), .unset, .unset] []))
    refine own_step (b := T2.setTop (mkF m 44 #[.val (.ref x), .val (.int (2 : Int32)), .val (.int pl), .val (.int (0 : Int32)), .val (.int (0 : Int32)), .unset, .unset] [(.int (2 : Int32))])) (fun t k => XS.iloadN X2.here hx rfl (hb hby d12_43) rfl k) ?_
    refine own_step (b := T2.setTop (mkF m 45 #[.val (.ref x), .val (.int (2 : Int32)), .val (.int pl), .val (.int (0 : Int32)), .val (.int (0 : Int32)), .unset, .unset] [(.int (0 : Int32)), (.int (2 : Int32))])) (fun t k => XS.iloadN X2.here hx rfl (hb hby d12_44) rfl k) ?_
    refine own_step (b := T2.setTop (mkF m 46 #[.val (.ref x), .val (.int (2 : Int32)), .val (.int pl), .val (.int (0 : Int32)), .val (.int (0 : Int32)), .unset, .unset] [(.int (2 : Int32))])) (fun t k => XS.isub X2.here hx rfl (hb hby d12_45) rfl k) ?_
    refine own_step (b := T2.setTop (mkF m 47 #[.val (.ref x), .val (.int (2 : Int32)), .val (.int pl), .val (.int (0 : Int32)), .val (.int (0 : Int32)), .unset, .unset] [(.int (1 : Int32)), (.int (2 : Int32))])) (fun t k => XS.iconst X2.here hx rfl (hb hby d12_46) k) ?_
    refine own_step (b := T2.setTop (mkF m 48 #[.val (.ref x), .val (.int (2 : Int32)), .val (.int pl), .val (.int (0 : Int32)), .val (.int (0 : Int32)), .unset, .unset] [(.int (1 : Int32))])) (fun t k => XS.isub X2.here hx rfl (hb hby d12_47) rfl k) ?_
    refine own_step (b := T2.setTop (mkF m 50 #[.val (.ref x), .val (.int (2 : Int32)), .val (.int pl), .val (.int (0 : Int32)), .val (.int (1 : Int32)), .unset, .unset] [])) (fun t k => XS.istore X2.here hx rfl (hb hby d12_48) rfl (l' := #[.val (.ref x), .val (.int (2 : Int32)), .val (.int pl), .val (.int (0 : Int32)), .val (.int (1 : Int32)), .unset, .unset]) rfl k) ?_
    refine own_step (b := T2.setTop (mkF m 51 #[.val (.ref x), .val (.int (2 : Int32)), .val (.int pl), .val (.int (0 : Int32)), .val (.int (1 : Int32)), .unset, .unset] [(.int (0 : Int32))])) (fun t k => XS.iloadN X2.here hx rfl (hb hby d12_50) rfl k) ?_
    refine own_step (b := T2.setTop (mkF m 52 #[.val (.ref x), .val (.int (2 : Int32)), .val (.int pl), .val (.int (0 : Int32)), .val (.int (1 : Int32)), .unset, .unset] [(.int (1 : Int32)), (.int (0 : Int32))])) (fun t k => XS.iconst X2.here hx rfl (hb hby d12_51) k) ?_
    refine own_icmp_le X2 hx (hb hby d12_52) (pc' := 69) (by decide) (by decide) (fun c52_28 => ?_) (fun c52_28 => absurd c52_28 (by decide))
    show own_G p e below _ (T2.setTop (mkF m 69 #[.val (.ref x), .val (.int (2 : Int32)), .val (.int pl), .val (.int (0 : Int32)), .val (.int (1 : Int32)), .unset, .unset] []))
    refine own_step (b := T2.setTop (mkF m 70 #[.val (.ref x), .val (.int (2 : Int32)), .val (.int pl), .val (.int (0 : Int32)), .val (.int (1 : Int32)), .unset, .unset] [(.int (0 : Int32))])) (fun t k => XS.iconst X2.here hx rfl (hb hby d12_69) k) ?_
    refine own_step (b := T2.setTop (mkF m 72 #[.val (.ref x), .val (.int (2 : Int32)), .val (.int pl), .val (.int (0 : Int32)), .val (.int (1 : Int32)), .val (.int (0 : Int32)), .unset] [])) (fun t k => XS.istore X2.here hx rfl (hb hby d12_70) rfl (l' := #[.val (.ref x), .val (.int (2 : Int32)), .val (.int pl), .val (.int (0 : Int32)), .val (.int (1 : Int32)), .val (.int (0 : Int32)), .unset]) rfl k) ?_
    refine own_step (b := T2.setTop (mkF m 73 #[.val (.ref x), .val (.int (2 : Int32)), .val (.int pl), .val (.int (0 : Int32)), .val (.int (1 : Int32)), .val (.int (0 : Int32)), .unset] [(.int (0 : Int32))])) (fun t k => XS.iloadN X2.here hx rfl (hb hby d12_72) rfl k) ?_
    refine own_if_le X2 hx (hb hby d12_73) (pc' := 121) (by decide) (by decide) (fun c73_29 => ?_) (fun c73_29 => absurd c73_29 (by decide))
    show own_G p e below _ (T2.setTop (mkF m 121 #[.val (.ref x), .val (.int (2 : Int32)), .val (.int pl), .val (.int (0 : Int32)), .val (.int (1 : Int32)), .val (.int (0 : Int32)), .unset] []))
    refine own_step (b := T2.setTop (mkF m 122 #[.val (.ref x), .val (.int (2 : Int32)), .val (.int pl), .val (.int (0 : Int32)), .val (.int (1 : Int32)), .val (.int (0 : Int32)), .unset] [(.int (0 : Int32))])) (fun t k => XS.iconst X2.here hx rfl (hb hby d12_121) k) ?_
    refine own_step (b := T2.setTop (mkF m 124 #[.val (.ref x), .val (.int (2 : Int32)), .val (.int pl), .val (.int (0 : Int32)), .val (.int (1 : Int32)), .val (.int (0 : Int32)), .val (.int (0 : Int32))] [])) (fun t k => XS.istore X2.here hx rfl (hb hby d12_122) rfl (l' := #[.val (.ref x), .val (.int (2 : Int32)), .val (.int pl), .val (.int (0 : Int32)), .val (.int (1 : Int32)), .val (.int (0 : Int32)), .val (.int (0 : Int32))]) rfl k) ?_
    refine own_step (b := T2.setTop (mkF m 126 #[.val (.ref x), .val (.int (2 : Int32)), .val (.int pl), .val (.int (0 : Int32)), .val (.int (1 : Int32)), .val (.int (0 : Int32)), .val (.int (0 : Int32))] [(.int (0 : Int32))])) (fun t k => XS.iload X2.here hx rfl (hb hby d12_124) rfl k) ?_
    exact own_retN X2 hx hret (by simp) hlk (hb hby d12_126) ⟨by rw [show (if c0 = 46 then false else (if c1 = 46 then false else (!decide (c0 = 48) && (own_dig c0 && own_dig c1)))) = false by simp [c19_3, own_dig46]]; rfl, rfl, hh2⟩ (by decide) (by decide)
set_option maxRecDepth 65536 in
set_option maxHeartbeats 40000000 in
theorem rmMat_3 (l : Launch) (Z : State) (a0 : Array Value) (hw : ∀ d ∈ tables_1, d.before a0 Z = true) (ws : List Jvm.Cond) (pl : Int32) (x : Addr) (c0 c1 c2 c3 : Int32) (h0 : Heap) (SS : own_Str Z h0 x [c0, c1, c2, c3]) (OL0 : Old Z Z.heap.size h0) (G1 : Int32) (O2 : Sta Z Z.heap "java/lang/String" "COMPACT_STRINGS" "Z" (.int G1)) (P5 : ¬ (G1 = (0 : Int32))) (G3 : Value) (O4 : Sta Z Z.heap "jdk/internal/util/Preconditions" "SIOOBE_FORMATTER" "Ljava/util/function/BiFunction;" G3) (rG3 : G3.isRef = true) :
    own_Met l Z (⟨"com/example/drawdown/drawdown/PlainDecimal", "matches", "(Ljava/lang/String;II)Z"⟩ : MethodName) prog_8_method_2_code 7 (some .boolean) ws ⟨5, 0, 0, 69⟩ #[(.ref x), (.int (3 : Int32)), (.int pl)] h0 (own_P (some (.int (own_bi (if c0 = 46 then false else (if c1 = 46 then ((own_dig c0) && !decide (pl < 1) && (own_dig c2)) else (if c2 = 46 then false else (!decide (c0 = 48) && (own_dig c0 && own_dig c1 && own_dig c2)))))))) h0) := by
  refine own_enter (plainFor_of_name pn1) (fun m => ef_mat m x (3 : Int32) pl) ?_
  intro p e s m below meth c T0 hx hby hml hZ hown hnm hret hlk X0 e0
  show own_G p e below _ (T0.setTop (mkF m 0 #[.val (.ref x), .val (.int (3 : Int32)), .val (.int pl), .unset, .unset, .unset, .unset] []))
  refine own_step (b := T0.setTop (mkF m 1 #[.val (.ref x), .val (.int (3 : Int32)), .val (.int pl), .unset, .unset, .unset, .unset] [(.int (3 : Int32))])) (fun t k => XS.iloadN X0.here hx rfl (hb hby d12_0) rfl k) ?_
  refine own_step (b := T0.setTop (mkF m 2 #[.val (.ref x), .val (.int (3 : Int32)), .val (.int pl), .val (.int (3 : Int32)), .unset, .unset, .unset] [])) (fun t k => XS.istoreN X0.here hx rfl (hb hby d12_1) rfl (l' := #[.val (.ref x), .val (.int (3 : Int32)), .val (.int pl), .val (.int (3 : Int32)), .unset, .unset, .unset]) rfl k) ?_
  refine own_step (b := T0.setTop (mkF m 3 #[.val (.ref x), .val (.int (3 : Int32)), .val (.int pl), .val (.int (3 : Int32)), .unset, .unset, .unset] [(.int (0 : Int32))])) (fun t k => XS.iconst X0.here hx rfl (hb hby d12_2) k) ?_
  refine own_step (b := T0.setTop (mkF m 5 #[.val (.ref x), .val (.int (3 : Int32)), .val (.int pl), .val (.int (3 : Int32)), .val (.int (0 : Int32)), .unset, .unset] [])) (fun t k => XS.istore X0.here hx rfl (hb hby d12_3) rfl (l' := #[.val (.ref x), .val (.int (3 : Int32)), .val (.int pl), .val (.int (3 : Int32)), .val (.int (0 : Int32)), .unset, .unset]) rfl k) ?_
  refine own_step (b := T0.setTop (mkF m 7 #[.val (.ref x), .val (.int (3 : Int32)), .val (.int pl), .val (.int (3 : Int32)), .val (.int (0 : Int32)), .unset, .unset] [(.int (0 : Int32))])) (fun t k => XS.iload X0.here hx rfl (hb hby d12_5) rfl k) ?_
  refine own_step (b := T0.setTop (mkF m 8 #[.val (.ref x), .val (.int (3 : Int32)), .val (.int pl), .val (.int (3 : Int32)), .val (.int (0 : Int32)), .unset, .unset] [(.int (3 : Int32)), (.int (0 : Int32))])) (fun t k => XS.iloadN X0.here hx rfl (hb hby d12_7) rfl k) ?_
  refine own_icmp_ge X0 hx (hb hby d12_8) (pc' := 34) (by decide) (by decide) (fun c8_1 => absurd c8_1 (by decide)) (fun c8_1 => ?_)
  show own_G p e below _ (T0.setTop (mkF m 11 #[.val (.ref x), .val (.int (3 : Int32)), .val (.int pl), .val (.int (3 : Int32)), .val (.int (0 : Int32)), .unset, .unset] []))
  refine own_step (b := T0.setTop (mkF m 12 #[.val (.ref x), .val (.int (3 : Int32)), .val (.int pl), .val (.int (3 : Int32)), .val (.int (0 : Int32)), .unset, .unset] [(.ref x)])) (fun t k => XS.aloadN X0.here hx rfl (hb hby d12_11) rfl rfl k) ?_
  refine own_step (b := T0.setTop (mkF m 14 #[.val (.ref x), .val (.int (3 : Int32)), .val (.int pl), .val (.int (3 : Int32)), .val (.int (0 : Int32)), .unset, .unset] [(.int (0 : Int32)), (.ref x)])) (fun t k => XS.iload X0.here hx rfl (hb hby d12_12) rfl k) ?_
  refine own_virtual (a := x) (W := 0) (argsL := [(.int (0 : Int32))]) (st := []) X0 hx hZ hown (own_w hw 51 rfl) (own_w hw 52 rfl) (own_w hw 54 rfl) rfl (own_w hw 53 rfl) (by decide) e0 SS.1 (own_chB (W := 0) hZ hw (kI := 4) (own_w hw 6 rfl) SS O2 P5 O4 rG3 OL0 0 (Nat.le_of_ble_eq_true rfl) (j := (0 : Int32)) rfl (r := c0) rfl (by decide) (by decide)) (by decide) (by decide) (by rw [hml]; rfl) (lenOf pd3 rfl) rfl (Nat.le_of_ble_eq_true rfl) (hb hby d12_14) (fun v2 T2 L2 X2 hQ2 => ?_)
  obtain ⟨rfl, rfl, hh2⟩ := hQ2
  rw [List.append_nil] at X2
  show own_G p e below _ (T2.setTop (mkF m 17 #[.val (.ref x), .val (.int (3 : Int32)), .val (.int pl), .val (.int (3 : Int32)), .val (.int (0 : Int32)), .unset, .unset] [(.int c0)]))
  refine own_step (b := T2.setTop (mkF m 19 #[.val (.ref x), .val (.int (3 : Int32)), .val (.int pl), .val (.int (3 : Int32)), .val (.int (0 : Int32)), .unset, .unset] [(.int (46 : Int32)), (.int c0)])) (fun t k => XS.bipush X2.here hx rfl (hb hby d12_17) k) ?_
  refine own_icmp_ne X2 hx (hb hby d12_19) (pc' := 28) (by decide) (by decide) (fun c19_3 => ?_) (fun c19_3 => ?_)
  · show own_G p e below _ (T2.setTop (mkF m 28 #[.val (.ref x), .val (.int (3 : Int32)), .val (.int pl), .val (.int (3 : Int32)), .val (.int (0 : Int32)), .unset, .unset] []))
    refine own_step (b := T2.setTop (mkF m 31 #[.val (.ref x), .val (.int (3 : Int32)), .val (.int pl), .val (.int (3 : Int32)), .val (.int (1 : Int32)), .unset, .unset] [])) (fun t k => XS.iinc X2.here hx rfl (hb hby d12_28) rfl (l' := #[.val (.ref x), .val (.int (3 : Int32)), .val (.int pl), .val (.int (3 : Int32)), .val (.int (1 : Int32)), .unset, .unset]) rfl k) ?_
    refine own_step (b := T2.setTop (mkF m 5 #[.val (.ref x), .val (.int (3 : Int32)), .val (.int pl), .val (.int (3 : Int32)), .val (.int (1 : Int32)), .unset, .unset] [])) (fun t k => XS.goto X2.here hx rfl (pc0 := 31) (pc' := 5) rfl (hb hby d12_31) (by decide) (by decide) k) ?_
    refine own_step (b := T2.setTop (mkF m 7 #[.val (.ref x), .val (.int (3 : Int32)), .val (.int pl), .val (.int (3 : Int32)), .val (.int (1 : Int32)), .unset, .unset] [(.int (1 : Int32))])) (fun t k => XS.iload X2.here hx rfl (hb hby d12_5) rfl k) ?_
    refine own_step (b := T2.setTop (mkF m 8 #[.val (.ref x), .val (.int (3 : Int32)), .val (.int pl), .val (.int (3 : Int32)), .val (.int (1 : Int32)), .unset, .unset] [(.int (3 : Int32)), (.int (1 : Int32))])) (fun t k => XS.iloadN X2.here hx rfl (hb hby d12_7) rfl k) ?_
    refine own_icmp_ge X2 hx (hb hby d12_8) (pc' := 34) (by decide) (by decide) (fun c8_4 => absurd c8_4 (by decide)) (fun c8_4 => ?_)
    show own_G p e below _ (T2.setTop (mkF m 11 #[.val (.ref x), .val (.int (3 : Int32)), .val (.int pl), .val (.int (3 : Int32)), .val (.int (1 : Int32)), .unset, .unset] []))
    refine own_step (b := T2.setTop (mkF m 12 #[.val (.ref x), .val (.int (3 : Int32)), .val (.int pl), .val (.int (3 : Int32)), .val (.int (1 : Int32)), .unset, .unset] [(.ref x)])) (fun t k => XS.aloadN X2.here hx rfl (hb hby d12_11) rfl rfl k) ?_
    refine own_step (b := T2.setTop (mkF m 14 #[.val (.ref x), .val (.int (3 : Int32)), .val (.int pl), .val (.int (3 : Int32)), .val (.int (1 : Int32)), .unset, .unset] [(.int (1 : Int32)), (.ref x)])) (fun t k => XS.iload X2.here hx rfl (hb hby d12_12) rfl k) ?_
    refine own_virtual (a := x) (W := 0) (argsL := [(.int (1 : Int32))]) (st := []) X2 hx hZ hown (own_w hw 51 rfl) (own_w hw 52 rfl) (own_w hw 54 rfl) rfl (own_w hw 53 rfl) (by decide) hh2 SS.1 (own_chB (W := 0) hZ hw (kI := 4) (own_w hw 6 rfl) SS O2 P5 O4 rG3 OL0 1 (Nat.le_of_ble_eq_true rfl) (j := (1 : Int32)) rfl (r := c1) rfl (by decide) (by decide)) (by decide) (by decide) (by rw [hml]; rfl) (lenOf pd3 rfl) rfl (Nat.le_of_ble_eq_true rfl) (hb hby d12_14) (fun v5 T5 L5 X5 hQ5 => ?_)
    obtain ⟨rfl, rfl, hh5⟩ := hQ5
    rw [List.append_nil] at X5
    show own_G p e below _ (T5.setTop (mkF m 17 #[.val (.ref x), .val (.int (3 : Int32)), .val (.int pl), .val (.int (3 : Int32)), .val (.int (1 : Int32)), .unset, .unset] [(.int c1)]))
    refine own_step (b := T5.setTop (mkF m 19 #[.val (.ref x), .val (.int (3 : Int32)), .val (.int pl), .val (.int (3 : Int32)), .val (.int (1 : Int32)), .unset, .unset] [(.int (46 : Int32)), (.int c1)])) (fun t k => XS.bipush X5.here hx rfl (hb hby d12_17) k) ?_
    refine own_icmp_ne X5 hx (hb hby d12_19) (pc' := 28) (by decide) (by decide) (fun c19_6 => ?_) (fun c19_6 => ?_)
    · show own_G p e below _ (T5.setTop (mkF m 28 #[.val (.ref x), .val (.int (3 : Int32)), .val (.int pl), .val (.int (3 : Int32)), .val (.int (1 : Int32)), .unset, .unset] []))
      refine own_step (b := T5.setTop (mkF m 31 #[.val (.ref x), .val (.int (3 : Int32)), .val (.int pl), .val (.int (3 : Int32)), .val (.int (2 : Int32)), .unset, .unset] [])) (fun t k => XS.iinc X5.here hx rfl (hb hby d12_28) rfl (l' := #[.val (.ref x), .val (.int (3 : Int32)), .val (.int pl), .val (.int (3 : Int32)), .val (.int (2 : Int32)), .unset, .unset]) rfl k) ?_
      refine own_step (b := T5.setTop (mkF m 5 #[.val (.ref x), .val (.int (3 : Int32)), .val (.int pl), .val (.int (3 : Int32)), .val (.int (2 : Int32)), .unset, .unset] [])) (fun t k => XS.goto X5.here hx rfl (pc0 := 31) (pc' := 5) rfl (hb hby d12_31) (by decide) (by decide) k) ?_
      refine own_step (b := T5.setTop (mkF m 7 #[.val (.ref x), .val (.int (3 : Int32)), .val (.int pl), .val (.int (3 : Int32)), .val (.int (2 : Int32)), .unset, .unset] [(.int (2 : Int32))])) (fun t k => XS.iload X5.here hx rfl (hb hby d12_5) rfl k) ?_
      refine own_step (b := T5.setTop (mkF m 8 #[.val (.ref x), .val (.int (3 : Int32)), .val (.int pl), .val (.int (3 : Int32)), .val (.int (2 : Int32)), .unset, .unset] [(.int (3 : Int32)), (.int (2 : Int32))])) (fun t k => XS.iloadN X5.here hx rfl (hb hby d12_7) rfl k) ?_
      refine own_icmp_ge X5 hx (hb hby d12_8) (pc' := 34) (by decide) (by decide) (fun c8_7 => absurd c8_7 (by decide)) (fun c8_7 => ?_)
      show own_G p e below _ (T5.setTop (mkF m 11 #[.val (.ref x), .val (.int (3 : Int32)), .val (.int pl), .val (.int (3 : Int32)), .val (.int (2 : Int32)), .unset, .unset] []))
      refine own_step (b := T5.setTop (mkF m 12 #[.val (.ref x), .val (.int (3 : Int32)), .val (.int pl), .val (.int (3 : Int32)), .val (.int (2 : Int32)), .unset, .unset] [(.ref x)])) (fun t k => XS.aloadN X5.here hx rfl (hb hby d12_11) rfl rfl k) ?_
      refine own_step (b := T5.setTop (mkF m 14 #[.val (.ref x), .val (.int (3 : Int32)), .val (.int pl), .val (.int (3 : Int32)), .val (.int (2 : Int32)), .unset, .unset] [(.int (2 : Int32)), (.ref x)])) (fun t k => XS.iload X5.here hx rfl (hb hby d12_12) rfl k) ?_
      refine own_virtual (a := x) (W := 0) (argsL := [(.int (2 : Int32))]) (st := []) X5 hx hZ hown (own_w hw 51 rfl) (own_w hw 52 rfl) (own_w hw 54 rfl) rfl (own_w hw 53 rfl) (by decide) hh5 SS.1 (own_chB (W := 0) hZ hw (kI := 4) (own_w hw 6 rfl) SS O2 P5 O4 rG3 OL0 2 (Nat.le_of_ble_eq_true rfl) (j := (2 : Int32)) rfl (r := c2) rfl (by decide) (by decide)) (by decide) (by decide) (by rw [hml]; rfl) (lenOf pd3 rfl) rfl (Nat.le_of_ble_eq_true rfl) (hb hby d12_14) (fun v8 T8 L8 X8 hQ8 => ?_)
      obtain ⟨rfl, rfl, hh8⟩ := hQ8
      rw [List.append_nil] at X8
      show own_G p e below _ (T8.setTop (mkF m 17 #[.val (.ref x), .val (.int (3 : Int32)), .val (.int pl), .val (.int (3 : Int32)), .val (.int (2 : Int32)), .unset, .unset] [(.int c2)]))
      refine own_step (b := T8.setTop (mkF m 19 #[.val (.ref x), .val (.int (3 : Int32)), .val (.int pl), .val (.int (3 : Int32)), .val (.int (2 : Int32)), .unset, .unset] [(.int (46 : Int32)), (.int c2)])) (fun t k => XS.bipush X8.here hx rfl (hb hby d12_17) k) ?_
      refine own_icmp_ne X8 hx (hb hby d12_19) (pc' := 28) (by decide) (by decide) (fun c19_9 => ?_) (fun c19_9 => ?_)
      · show own_G p e below _ (T8.setTop (mkF m 28 #[.val (.ref x), .val (.int (3 : Int32)), .val (.int pl), .val (.int (3 : Int32)), .val (.int (2 : Int32)), .unset, .unset] []))
        refine own_step (b := T8.setTop (mkF m 31 #[.val (.ref x), .val (.int (3 : Int32)), .val (.int pl), .val (.int (3 : Int32)), .val (.int (3 : Int32)), .unset, .unset] [])) (fun t k => XS.iinc X8.here hx rfl (hb hby d12_28) rfl (l' := #[.val (.ref x), .val (.int (3 : Int32)), .val (.int pl), .val (.int (3 : Int32)), .val (.int (3 : Int32)), .unset, .unset]) rfl k) ?_
        refine own_step (b := T8.setTop (mkF m 5 #[.val (.ref x), .val (.int (3 : Int32)), .val (.int pl), .val (.int (3 : Int32)), .val (.int (3 : Int32)), .unset, .unset] [])) (fun t k => XS.goto X8.here hx rfl (pc0 := 31) (pc' := 5) rfl (hb hby d12_31) (by decide) (by decide) k) ?_
        refine own_step (b := T8.setTop (mkF m 7 #[.val (.ref x), .val (.int (3 : Int32)), .val (.int pl), .val (.int (3 : Int32)), .val (.int (3 : Int32)), .unset, .unset] [(.int (3 : Int32))])) (fun t k => XS.iload X8.here hx rfl (hb hby d12_5) rfl k) ?_
        refine own_step (b := T8.setTop (mkF m 8 #[.val (.ref x), .val (.int (3 : Int32)), .val (.int pl), .val (.int (3 : Int32)), .val (.int (3 : Int32)), .unset, .unset] [(.int (3 : Int32)), (.int (3 : Int32))])) (fun t k => XS.iloadN X8.here hx rfl (hb hby d12_7) rfl k) ?_
        refine own_icmp_ge X8 hx (hb hby d12_8) (pc' := 34) (by decide) (by decide) (fun c8_10 => ?_) (fun c8_10 => absurd c8_10 (by decide))
        show own_G p e below _ (T8.setTop (mkF m 34 #[.val (.ref x), .val (.int (3 : Int32)), .val (.int pl), .val (.int (3 : Int32)), .val (.int (3 : Int32)), .unset, .unset] []))
        refine own_step (b := T8.setTop (mkF m 35 #[.val (.ref x), .val (.int (3 : Int32)), .val (.int pl), .val (.int (3 : Int32)), .val (.int (3 : Int32)), .unset, .unset] [(.int (3 : Int32))])) (fun t k => XS.iloadN X8.here hx rfl (hb hby d12_34) rfl k) ?_
        refine own_step (b := T8.setTop (mkF m 36 #[.val (.ref x), .val (.int (3 : Int32)), .val (.int pl), .val (.int (3 : Int32)), .val (.int (3 : Int32)), .unset, .unset] [(.int (3 : Int32)), (.int (3 : Int32))])) (fun t k => XS.iloadN X8.here hx rfl (hb hby d12_35) rfl k) ?_
        refine own_icmp_ne X8 hx (hb hby d12_36) (pc' := 43) (by decide) (by decide) (fun c36_11 => absurd c36_11 (by decide)) (fun c36_11 => ?_)
        show own_G p e below _ (T8.setTop (mkF m 39 #[.val (.ref x), .val (.int (3 : Int32)), .val (.int pl), .val (.int (3 : Int32)), .val (.int (3 : Int32)), .unset, .unset] []))
        refine own_step (b := T8.setTop (mkF m 40 #[.val (.ref x), .val (.int (3 : Int32)), .val (.int pl), .val (.int (3 : Int32)), .val (.int (3 : Int32)), .unset, .unset] [(.int (0 : Int32))])) (fun t k => XS.iconst X8.here hx rfl (hb hby d12_39) k) ?_
        refine own_step (b := T8.setTop (mkF m 48 #[.val (.ref x), .val (.int (3 : Int32)), .val (.int pl), .val (.int (3 : Int32)), .val (.int (3 : Int32)), .unset, .unset] [(.int (0 : Int32))])) (fun t k => XS.goto X8.here hx rfl (pc0 := 40) (pc' := 48) rfl (hb hby d12_40) (by decide) (by decide) k) ?_
        refine own_step (b := T8.setTop (mkF m 50 #[.val (.ref x), .val (.int (3 : Int32)), .val (.int pl), .val (.int (3 : Int32)), .val (.int (0 : Int32)), .unset, .unset] [])) (fun t k => XS.istore X8.here hx rfl (hb hby d12_48) rfl (l' := #[.val (.ref x), .val (.int (3 : Int32)), .val (.int pl), .val (.int (3 : Int32)), .val (.int (0 : Int32)), .unset, .unset]) rfl k) ?_
        refine own_step (b := T8.setTop (mkF m 51 #[.val (.ref x), .val (.int (3 : Int32)), .val (.int pl), .val (.int (3 : Int32)), .val (.int (0 : Int32)), .unset, .unset] [(.int (3 : Int32))])) (fun t k => XS.iloadN X8.here hx rfl (hb hby d12_50) rfl k) ?_
        refine own_step (b := T8.setTop (mkF m 52 #[.val (.ref x), .val (.int (3 : Int32)), .val (.int pl), .val (.int (3 : Int32)), .val (.int (0 : Int32)), .unset, .unset] [(.int (1 : Int32)), (.int (3 : Int32))])) (fun t k => XS.iconst X8.here hx rfl (hb hby d12_51) k) ?_
        refine own_icmp_le X8 hx (hb hby d12_52) (pc' := 69) (by decide) (by decide) (fun c52_12 => absurd c52_12 (by decide)) (fun c52_12 => ?_)
        show own_G p e below _ (T8.setTop (mkF m 55 #[.val (.ref x), .val (.int (3 : Int32)), .val (.int pl), .val (.int (3 : Int32)), .val (.int (0 : Int32)), .unset, .unset] []))
        refine own_step (b := T8.setTop (mkF m 56 #[.val (.ref x), .val (.int (3 : Int32)), .val (.int pl), .val (.int (3 : Int32)), .val (.int (0 : Int32)), .unset, .unset] [(.ref x)])) (fun t k => XS.aloadN X8.here hx rfl (hb hby d12_55) rfl rfl k) ?_
        refine own_step (b := T8.setTop (mkF m 57 #[.val (.ref x), .val (.int (3 : Int32)), .val (.int pl), .val (.int (3 : Int32)), .val (.int (0 : Int32)), .unset, .unset] [(.int (0 : Int32)), (.ref x)])) (fun t k => XS.iconst X8.here hx rfl (hb hby d12_56) k) ?_
        refine own_virtual (a := x) (W := 0) (argsL := [(.int (0 : Int32))]) (st := []) X8 hx hZ hown (own_w hw 51 rfl) (own_w hw 52 rfl) (own_w hw 54 rfl) rfl (own_w hw 53 rfl) (by decide) hh8 SS.1 (own_chB (W := 0) hZ hw (kI := 4) (own_w hw 6 rfl) SS O2 P5 O4 rG3 OL0 0 (Nat.le_of_ble_eq_true rfl) (j := (0 : Int32)) rfl (r := c0) rfl (by decide) (by decide)) (by decide) (by decide) (by rw [hml]; rfl) (lenOf pd3 rfl) rfl (Nat.le_of_ble_eq_true rfl) (hb hby d12_57) (fun v13 T13 L13 X13 hQ13 => ?_)
        obtain ⟨rfl, rfl, hh13⟩ := hQ13
        rw [List.append_nil] at X13
        show own_G p e below _ (T13.setTop (mkF m 60 #[.val (.ref x), .val (.int (3 : Int32)), .val (.int pl), .val (.int (3 : Int32)), .val (.int (0 : Int32)), .unset, .unset] [(.int c0)]))
        refine own_step (b := T13.setTop (mkF m 62 #[.val (.ref x), .val (.int (3 : Int32)), .val (.int pl), .val (.int (3 : Int32)), .val (.int (0 : Int32)), .unset, .unset] [(.int (48 : Int32)), (.int c0)])) (fun t k => XS.bipush X13.here hx rfl (hb hby d12_60) k) ?_
        refine own_icmp_ne X13 hx (hb hby d12_62) (pc' := 69) (by decide) (by decide) (fun c62_14 => ?_) (fun c62_14 => ?_)
        · show own_G p e below _ (T13.setTop (mkF m 69 #[.val (.ref x), .val (.int (3 : Int32)), .val (.int pl), .val (.int (3 : Int32)), .val (.int (0 : Int32)), .unset, .unset] []))
          refine own_step (b := T13.setTop (mkF m 70 #[.val (.ref x), .val (.int (3 : Int32)), .val (.int pl), .val (.int (3 : Int32)), .val (.int (0 : Int32)), .unset, .unset] [(.int (0 : Int32))])) (fun t k => XS.iconst X13.here hx rfl (hb hby d12_69) k) ?_
          refine own_step (b := T13.setTop (mkF m 72 #[.val (.ref x), .val (.int (3 : Int32)), .val (.int pl), .val (.int (3 : Int32)), .val (.int (0 : Int32)), .val (.int (0 : Int32)), .unset] [])) (fun t k => XS.istore X13.here hx rfl (hb hby d12_70) rfl (l' := #[.val (.ref x), .val (.int (3 : Int32)), .val (.int pl), .val (.int (3 : Int32)), .val (.int (0 : Int32)), .val (.int (0 : Int32)), .unset]) rfl k) ?_
          refine own_step (b := T13.setTop (mkF m 73 #[.val (.ref x), .val (.int (3 : Int32)), .val (.int pl), .val (.int (3 : Int32)), .val (.int (0 : Int32)), .val (.int (0 : Int32)), .unset] [(.int (3 : Int32))])) (fun t k => XS.iloadN X13.here hx rfl (hb hby d12_72) rfl k) ?_
          refine own_if_le X13 hx (hb hby d12_73) (pc' := 121) (by decide) (by decide) (fun c73_15 => absurd c73_15 (by decide)) (fun c73_15 => ?_)
          show own_G p e below _ (T13.setTop (mkF m 76 #[.val (.ref x), .val (.int (3 : Int32)), .val (.int pl), .val (.int (3 : Int32)), .val (.int (0 : Int32)), .val (.int (0 : Int32)), .unset] []))
          refine own_step (b := T13.setTop (mkF m 78 #[.val (.ref x), .val (.int (3 : Int32)), .val (.int pl), .val (.int (3 : Int32)), .val (.int (0 : Int32)), .val (.int (0 : Int32)), .unset] [(.int (0 : Int32))])) (fun t k => XS.iload X13.here hx rfl (hb hby d12_76) rfl k) ?_
          refine own_if_ne X13 hx (hb hby d12_78) (pc' := 121) (by decide) (by decide) (fun c78_16 => absurd c78_16 (by decide)) (fun c78_16 => ?_)
          show own_G p e below _ (T13.setTop (mkF m 81 #[.val (.ref x), .val (.int (3 : Int32)), .val (.int pl), .val (.int (3 : Int32)), .val (.int (0 : Int32)), .val (.int (0 : Int32)), .unset] []))
          refine own_step (b := T13.setTop (mkF m 82 #[.val (.ref x), .val (.int (3 : Int32)), .val (.int pl), .val (.int (3 : Int32)), .val (.int (0 : Int32)), .val (.int (0 : Int32)), .unset] [(.ref x)])) (fun t k => XS.aloadN X13.here hx rfl (hb hby d12_81) rfl rfl k) ?_
          refine own_step (b := T13.setTop (mkF m 83 #[.val (.ref x), .val (.int (3 : Int32)), .val (.int pl), .val (.int (3 : Int32)), .val (.int (0 : Int32)), .val (.int (0 : Int32)), .unset] [(.int (0 : Int32)), (.ref x)])) (fun t k => XS.iconst X13.here hx rfl (hb hby d12_82) k) ?_
          refine own_step (b := T13.setTop (mkF m 84 #[.val (.ref x), .val (.int (3 : Int32)), .val (.int pl), .val (.int (3 : Int32)), .val (.int (0 : Int32)), .val (.int (0 : Int32)), .unset] [(.int (3 : Int32)), (.int (0 : Int32)), (.ref x)])) (fun t k => XS.iloadN X13.here hx rfl (hb hby d12_83) rfl k) ?_
          refine own_staticP (W := 0) (argsL := [(.ref x), (.int (0 : Int32)), (.int (3 : Int32))]) (st := []) X13 hx hZ hown (own_w hw 73 rfl) (own_w hw 74 rfl) (own_w hw 49 rfl) (own_w hw 75 rfl) (by decide) hh13 (rmIsd_0_3 l Z a0 hw [] x c0 c1 c2 c3 h0 SS OL0 G1 O2 P5 G3 O4 rG3) (by decide) (by decide) (by decide) (by decide) (by rw [hml]; rfl) (lenOf pd4 rfl) rfl (Nat.le_of_ble_eq_true rfl) (hb hby d12_84) (fun T17 X17 e17 => ?_)
          show own_G p e below _ (T17.setTop (mkF m 87 #[.val (.ref x), .val (.int (3 : Int32)), .val (.int pl), .val (.int (3 : Int32)), .val (.int (0 : Int32)), .val (.int (0 : Int32)), .unset] [(.int (own_bi (own_dig c0 && own_dig c1 && own_dig c2)))]))
          refine own_if_eq X17 hx (hb hby d12_87) (pc' := 121) (by decide) (by decide) (fun c87_18 => ?_) (fun c87_18 => ?_)
          · show own_G p e below _ (T17.setTop (mkF m 121 #[.val (.ref x), .val (.int (3 : Int32)), .val (.int pl), .val (.int (3 : Int32)), .val (.int (0 : Int32)), .val (.int (0 : Int32)), .unset] []))
            have c87_18b : (own_dig c0 && own_dig c1 && own_dig c2) = false := own_bi_f c87_18
            refine own_step (b := T17.setTop (mkF m 122 #[.val (.ref x), .val (.int (3 : Int32)), .val (.int pl), .val (.int (3 : Int32)), .val (.int (0 : Int32)), .val (.int (0 : Int32)), .unset] [(.int (0 : Int32))])) (fun t k => XS.iconst X17.here hx rfl (hb hby d12_121) k) ?_
            refine own_step (b := T17.setTop (mkF m 124 #[.val (.ref x), .val (.int (3 : Int32)), .val (.int pl), .val (.int (3 : Int32)), .val (.int (0 : Int32)), .val (.int (0 : Int32)), .val (.int (0 : Int32))] [])) (fun t k => XS.istore X17.here hx rfl (hb hby d12_122) rfl (l' := #[.val (.ref x), .val (.int (3 : Int32)), .val (.int pl), .val (.int (3 : Int32)), .val (.int (0 : Int32)), .val (.int (0 : Int32)), .val (.int (0 : Int32))]) rfl k) ?_
            refine own_step (b := T17.setTop (mkF m 126 #[.val (.ref x), .val (.int (3 : Int32)), .val (.int pl), .val (.int (3 : Int32)), .val (.int (0 : Int32)), .val (.int (0 : Int32)), .val (.int (0 : Int32))] [(.int (0 : Int32))])) (fun t k => XS.iload X17.here hx rfl (hb hby d12_124) rfl k) ?_
            exact own_retN X17 hx hret (by simp) hlk (hb hby d12_126) ⟨by rw [show (if c0 = 46 then false else (if c1 = 46 then ((own_dig c0) && !decide (pl < 1) && (own_dig c2)) else (if c2 = 46 then false else (!decide (c0 = 48) && (own_dig c0 && own_dig c1 && own_dig c2))))) = false by simp [c19_3, c19_6, c19_9, c62_14, c87_18b, own_dig46]]; rfl, rfl, e17⟩ (by decide) (by decide)
          · show own_G p e below _ (T17.setTop (mkF m 90 #[.val (.ref x), .val (.int (3 : Int32)), .val (.int pl), .val (.int (3 : Int32)), .val (.int (0 : Int32)), .val (.int (0 : Int32)), .unset] []))
            have c87_18b : (own_dig c0 && own_dig c1 && own_dig c2) = true := own_bi_t c87_18
            refine own_step (b := T17.setTop (mkF m 91 #[.val (.ref x), .val (.int (3 : Int32)), .val (.int pl), .val (.int (3 : Int32)), .val (.int (0 : Int32)), .val (.int (0 : Int32)), .unset] [(.int (3 : Int32))])) (fun t k => XS.iloadN X17.here hx rfl (hb hby d12_90) rfl k) ?_
            refine own_step (b := T17.setTop (mkF m 92 #[.val (.ref x), .val (.int (3 : Int32)), .val (.int pl), .val (.int (3 : Int32)), .val (.int (0 : Int32)), .val (.int (0 : Int32)), .unset] [(.int (3 : Int32)), (.int (3 : Int32))])) (fun t k => XS.iloadN X17.here hx rfl (hb hby d12_91) rfl k) ?_
            refine own_icmp_eq X17 hx (hb hby d12_92) (pc' := 117) (by decide) (by decide) (fun c92_19 => ?_) (fun c92_19 => absurd c92_19 (by decide))
            show own_G p e below _ (T17.setTop (mkF m 117 #[.val (.ref x), .val (.int (3 : Int32)), .val (.int pl), .val (.int (3 : Int32)), .val (.int (0 : Int32)), .val (.int (0 : Int32)), .unset] []))
            refine own_step (b := T17.setTop (mkF m 118 #[.val (.ref x), .val (.int (3 : Int32)), .val (.int pl), .val (.int (3 : Int32)), .val (.int (0 : Int32)), .val (.int (0 : Int32)), .unset] [(.int (1 : Int32))])) (fun t k => XS.iconst X17.here hx rfl (hb hby d12_117) k) ?_
            refine own_step (b := T17.setTop (mkF m 122 #[.val (.ref x), .val (.int (3 : Int32)), .val (.int pl), .val (.int (3 : Int32)), .val (.int (0 : Int32)), .val (.int (0 : Int32)), .unset] [(.int (1 : Int32))])) (fun t k => XS.goto X17.here hx rfl (pc0 := 118) (pc' := 122) rfl (hb hby d12_118) (by decide) (by decide) k) ?_
            refine own_step (b := T17.setTop (mkF m 124 #[.val (.ref x), .val (.int (3 : Int32)), .val (.int pl), .val (.int (3 : Int32)), .val (.int (0 : Int32)), .val (.int (0 : Int32)), .val (.int (1 : Int32))] [])) (fun t k => XS.istore X17.here hx rfl (hb hby d12_122) rfl (l' := #[.val (.ref x), .val (.int (3 : Int32)), .val (.int pl), .val (.int (3 : Int32)), .val (.int (0 : Int32)), .val (.int (0 : Int32)), .val (.int (1 : Int32))]) rfl k) ?_
            refine own_step (b := T17.setTop (mkF m 126 #[.val (.ref x), .val (.int (3 : Int32)), .val (.int pl), .val (.int (3 : Int32)), .val (.int (0 : Int32)), .val (.int (0 : Int32)), .val (.int (1 : Int32))] [(.int (1 : Int32))])) (fun t k => XS.iload X17.here hx rfl (hb hby d12_124) rfl k) ?_
            exact own_retN X17 hx hret (by simp) hlk (hb hby d12_126) ⟨by rw [show (if c0 = 46 then false else (if c1 = 46 then ((own_dig c0) && !decide (pl < 1) && (own_dig c2)) else (if c2 = 46 then false else (!decide (c0 = 48) && (own_dig c0 && own_dig c1 && own_dig c2))))) = true by simp [c19_3, c19_6, c19_9, c62_14, c87_18b, own_dig46]]; rfl, rfl, e17⟩ (by decide) (by decide)
        · show own_G p e below _ (T13.setTop (mkF m 65 #[.val (.ref x), .val (.int (3 : Int32)), .val (.int pl), .val (.int (3 : Int32)), .val (.int (0 : Int32)), .unset, .unset] []))
          refine own_step (b := T13.setTop (mkF m 66 #[.val (.ref x), .val (.int (3 : Int32)), .val (.int pl), .val (.int (3 : Int32)), .val (.int (0 : Int32)), .unset, .unset] [(.int (1 : Int32))])) (fun t k => XS.iconst X13.here hx rfl (hb hby d12_65) k) ?_
          refine own_step (b := T13.setTop (mkF m 70 #[.val (.ref x), .val (.int (3 : Int32)), .val (.int pl), .val (.int (3 : Int32)), .val (.int (0 : Int32)), .unset, .unset] [(.int (1 : Int32))])) (fun t k => XS.goto X13.here hx rfl (pc0 := 66) (pc' := 70) rfl (hb hby d12_66) (by decide) (by decide) k) ?_
          refine own_step (b := T13.setTop (mkF m 72 #[.val (.ref x), .val (.int (3 : Int32)), .val (.int pl), .val (.int (3 : Int32)), .val (.int (0 : Int32)), .val (.int (1 : Int32)), .unset] [])) (fun t k => XS.istore X13.here hx rfl (hb hby d12_70) rfl (l' := #[.val (.ref x), .val (.int (3 : Int32)), .val (.int pl), .val (.int (3 : Int32)), .val (.int (0 : Int32)), .val (.int (1 : Int32)), .unset]) rfl k) ?_
          refine own_step (b := T13.setTop (mkF m 73 #[.val (.ref x), .val (.int (3 : Int32)), .val (.int pl), .val (.int (3 : Int32)), .val (.int (0 : Int32)), .val (.int (1 : Int32)), .unset] [(.int (3 : Int32))])) (fun t k => XS.iloadN X13.here hx rfl (hb hby d12_72) rfl k) ?_
          refine own_if_le X13 hx (hb hby d12_73) (pc' := 121) (by decide) (by decide) (fun c73_20 => absurd c73_20 (by decide)) (fun c73_20 => ?_)
          show own_G p e below _ (T13.setTop (mkF m 76 #[.val (.ref x), .val (.int (3 : Int32)), .val (.int pl), .val (.int (3 : Int32)), .val (.int (0 : Int32)), .val (.int (1 : Int32)), .unset] []))
          refine own_step (b := T13.setTop (mkF m 78 #[.val (.ref x), .val (.int (3 : Int32)), .val (.int pl), .val (.int (3 : Int32)), .val (.int (0 : Int32)), .val (.int (1 : Int32)), .unset] [(.int (1 : Int32))])) (fun t k => XS.iload X13.here hx rfl (hb hby d12_76) rfl k) ?_
          refine own_if_ne X13 hx (hb hby d12_78) (pc' := 121) (by decide) (by decide) (fun c78_21 => ?_) (fun c78_21 => absurd c78_21 (by decide))
          show own_G p e below _ (T13.setTop (mkF m 121 #[.val (.ref x), .val (.int (3 : Int32)), .val (.int pl), .val (.int (3 : Int32)), .val (.int (0 : Int32)), .val (.int (1 : Int32)), .unset] []))
          refine own_step (b := T13.setTop (mkF m 122 #[.val (.ref x), .val (.int (3 : Int32)), .val (.int pl), .val (.int (3 : Int32)), .val (.int (0 : Int32)), .val (.int (1 : Int32)), .unset] [(.int (0 : Int32))])) (fun t k => XS.iconst X13.here hx rfl (hb hby d12_121) k) ?_
          refine own_step (b := T13.setTop (mkF m 124 #[.val (.ref x), .val (.int (3 : Int32)), .val (.int pl), .val (.int (3 : Int32)), .val (.int (0 : Int32)), .val (.int (1 : Int32)), .val (.int (0 : Int32))] [])) (fun t k => XS.istore X13.here hx rfl (hb hby d12_122) rfl (l' := #[.val (.ref x), .val (.int (3 : Int32)), .val (.int pl), .val (.int (3 : Int32)), .val (.int (0 : Int32)), .val (.int (1 : Int32)), .val (.int (0 : Int32))]) rfl k) ?_
          refine own_step (b := T13.setTop (mkF m 126 #[.val (.ref x), .val (.int (3 : Int32)), .val (.int pl), .val (.int (3 : Int32)), .val (.int (0 : Int32)), .val (.int (1 : Int32)), .val (.int (0 : Int32))] [(.int (0 : Int32))])) (fun t k => XS.iload X13.here hx rfl (hb hby d12_124) rfl k) ?_
          exact own_retN X13 hx hret (by simp) hlk (hb hby d12_126) ⟨by rw [show (if c0 = 46 then false else (if c1 = 46 then ((own_dig c0) && !decide (pl < 1) && (own_dig c2)) else (if c2 = 46 then false else (!decide (c0 = 48) && (own_dig c0 && own_dig c1 && own_dig c2))))) = false by simp [c19_3, c19_6, c19_9, c62_14, own_dig46]]; rfl, rfl, hh13⟩ (by decide) (by decide)
      · show own_G p e below _ (T8.setTop (mkF m 22 #[.val (.ref x), .val (.int (3 : Int32)), .val (.int pl), .val (.int (3 : Int32)), .val (.int (2 : Int32)), .unset, .unset] []))
        refine own_step (b := T8.setTop (mkF m 24 #[.val (.ref x), .val (.int (3 : Int32)), .val (.int pl), .val (.int (3 : Int32)), .val (.int (2 : Int32)), .unset, .unset] [(.int (2 : Int32))])) (fun t k => XS.iload X8.here hx rfl (hb hby d12_22) rfl k) ?_
        refine own_step (b := T8.setTop (mkF m 25 #[.val (.ref x), .val (.int (3 : Int32)), .val (.int pl), .val (.int (2 : Int32)), .val (.int (2 : Int32)), .unset, .unset] [])) (fun t k => XS.istoreN X8.here hx rfl (hb hby d12_24) rfl (l' := #[.val (.ref x), .val (.int (3 : Int32)), .val (.int pl), .val (.int (2 : Int32)), .val (.int (2 : Int32)), .unset, .unset]) rfl k) ?_
        refine own_step (b := T8.setTop (mkF m 34 #[.val (.ref x), .val (.int (3 : Int32)), .val (.int pl), .val (.int (2 : Int32)), .val (.int (2 : Int32)), .unset, .unset] [])) (fun t k => XS.goto X8.here hx rfl (pc0 := 25) (pc' := 34) rfl (hb hby d12_25) (by decide) (by decide) k) ?_
        refine own_step (b := T8.setTop (mkF m 35 #[.val (.ref x), .val (.int (3 : Int32)), .val (.int pl), .val (.int (2 : Int32)), .val (.int (2 : Int32)), .unset, .unset] [(.int (2 : Int32))])) (fun t k => XS.iloadN X8.here hx rfl (hb hby d12_34) rfl k) ?_
        refine own_step (b := T8.setTop (mkF m 36 #[.val (.ref x), .val (.int (3 : Int32)), .val (.int pl), .val (.int (2 : Int32)), .val (.int (2 : Int32)), .unset, .unset] [(.int (3 : Int32)), (.int (2 : Int32))])) (fun t k => XS.iloadN X8.here hx rfl (hb hby d12_35) rfl k) ?_
        refine own_icmp_ne X8 hx (hb hby d12_36) (pc' := 43) (by decide) (by decide) (fun c36_22 => ?_) (fun c36_22 => absurd c36_22 (by decide))
        show own_G p e below _ (T8.setTop (mkF m 43 #[.val (.ref x), .val (.int (3 : Int32)), .val (.int pl), .val (.int (2 : Int32)), .val (.int (2 : Int32)), .unset, .unset] []))
        refine own_step (b := T8.setTop (mkF m 44 #[.val (.ref x), .val (.int (3 : Int32)), .val (.int pl), .val (.int (2 : Int32)), .val (.int (2 : Int32)), .unset, .unset] [(.int (3 : Int32))])) (fun t k => XS.iloadN X8.here hx rfl (hb hby d12_43) rfl k) ?_
        refine own_step (b := T8.setTop (mkF m 45 #[.val (.ref x), .val (.int (3 : Int32)), .val (.int pl), .val (.int (2 : Int32)), .val (.int (2 : Int32)), .unset, .unset] [(.int (2 : Int32)), (.int (3 : Int32))])) (fun t k => XS.iloadN X8.here hx rfl (hb hby d12_44) rfl k) ?_
        refine own_step (b := T8.setTop (mkF m 46 #[.val (.ref x), .val (.int (3 : Int32)), .val (.int pl), .val (.int (2 : Int32)), .val (.int (2 : Int32)), .unset, .unset] [(.int (1 : Int32))])) (fun t k => XS.isub X8.here hx rfl (hb hby d12_45) rfl k) ?_
        refine own_step (b := T8.setTop (mkF m 47 #[.val (.ref x), .val (.int (3 : Int32)), .val (.int pl), .val (.int (2 : Int32)), .val (.int (2 : Int32)), .unset, .unset] [(.int (1 : Int32)), (.int (1 : Int32))])) (fun t k => XS.iconst X8.here hx rfl (hb hby d12_46) k) ?_
        refine own_step (b := T8.setTop (mkF m 48 #[.val (.ref x), .val (.int (3 : Int32)), .val (.int pl), .val (.int (2 : Int32)), .val (.int (2 : Int32)), .unset, .unset] [(.int (0 : Int32))])) (fun t k => XS.isub X8.here hx rfl (hb hby d12_47) rfl k) ?_
        refine own_step (b := T8.setTop (mkF m 50 #[.val (.ref x), .val (.int (3 : Int32)), .val (.int pl), .val (.int (2 : Int32)), .val (.int (0 : Int32)), .unset, .unset] [])) (fun t k => XS.istore X8.here hx rfl (hb hby d12_48) rfl (l' := #[.val (.ref x), .val (.int (3 : Int32)), .val (.int pl), .val (.int (2 : Int32)), .val (.int (0 : Int32)), .unset, .unset]) rfl k) ?_
        refine own_step (b := T8.setTop (mkF m 51 #[.val (.ref x), .val (.int (3 : Int32)), .val (.int pl), .val (.int (2 : Int32)), .val (.int (0 : Int32)), .unset, .unset] [(.int (2 : Int32))])) (fun t k => XS.iloadN X8.here hx rfl (hb hby d12_50) rfl k) ?_
        refine own_step (b := T8.setTop (mkF m 52 #[.val (.ref x), .val (.int (3 : Int32)), .val (.int pl), .val (.int (2 : Int32)), .val (.int (0 : Int32)), .unset, .unset] [(.int (1 : Int32)), (.int (2 : Int32))])) (fun t k => XS.iconst X8.here hx rfl (hb hby d12_51) k) ?_
        refine own_icmp_le X8 hx (hb hby d12_52) (pc' := 69) (by decide) (by decide) (fun c52_23 => absurd c52_23 (by decide)) (fun c52_23 => ?_)
        show own_G p e below _ (T8.setTop (mkF m 55 #[.val (.ref x), .val (.int (3 : Int32)), .val (.int pl), .val (.int (2 : Int32)), .val (.int (0 : Int32)), .unset, .unset] []))
        refine own_step (b := T8.setTop (mkF m 56 #[.val (.ref x), .val (.int (3 : Int32)), .val (.int pl), .val (.int (2 : Int32)), .val (.int (0 : Int32)), .unset, .unset] [(.ref x)])) (fun t k => XS.aloadN X8.here hx rfl (hb hby d12_55) rfl rfl k) ?_
        refine own_step (b := T8.setTop (mkF m 57 #[.val (.ref x), .val (.int (3 : Int32)), .val (.int pl), .val (.int (2 : Int32)), .val (.int (0 : Int32)), .unset, .unset] [(.int (0 : Int32)), (.ref x)])) (fun t k => XS.iconst X8.here hx rfl (hb hby d12_56) k) ?_
        refine own_virtual (a := x) (W := 0) (argsL := [(.int (0 : Int32))]) (st := []) X8 hx hZ hown (own_w hw 51 rfl) (own_w hw 52 rfl) (own_w hw 54 rfl) rfl (own_w hw 53 rfl) (by decide) hh8 SS.1 (own_chB (W := 0) hZ hw (kI := 4) (own_w hw 6 rfl) SS O2 P5 O4 rG3 OL0 0 (Nat.le_of_ble_eq_true rfl) (j := (0 : Int32)) rfl (r := c0) rfl (by decide) (by decide)) (by decide) (by decide) (by rw [hml]; rfl) (lenOf pd3 rfl) rfl (Nat.le_of_ble_eq_true rfl) (hb hby d12_57) (fun v24 T24 L24 X24 hQ24 => ?_)
        obtain ⟨rfl, rfl, hh24⟩ := hQ24
        rw [List.append_nil] at X24
        show own_G p e below _ (T24.setTop (mkF m 60 #[.val (.ref x), .val (.int (3 : Int32)), .val (.int pl), .val (.int (2 : Int32)), .val (.int (0 : Int32)), .unset, .unset] [(.int c0)]))
        refine own_step (b := T24.setTop (mkF m 62 #[.val (.ref x), .val (.int (3 : Int32)), .val (.int pl), .val (.int (2 : Int32)), .val (.int (0 : Int32)), .unset, .unset] [(.int (48 : Int32)), (.int c0)])) (fun t k => XS.bipush X24.here hx rfl (hb hby d12_60) k) ?_
        refine own_icmp_ne X24 hx (hb hby d12_62) (pc' := 69) (by decide) (by decide) (fun c62_25 => ?_) (fun c62_25 => ?_)
        · show own_G p e below _ (T24.setTop (mkF m 69 #[.val (.ref x), .val (.int (3 : Int32)), .val (.int pl), .val (.int (2 : Int32)), .val (.int (0 : Int32)), .unset, .unset] []))
          refine own_step (b := T24.setTop (mkF m 70 #[.val (.ref x), .val (.int (3 : Int32)), .val (.int pl), .val (.int (2 : Int32)), .val (.int (0 : Int32)), .unset, .unset] [(.int (0 : Int32))])) (fun t k => XS.iconst X24.here hx rfl (hb hby d12_69) k) ?_
          refine own_step (b := T24.setTop (mkF m 72 #[.val (.ref x), .val (.int (3 : Int32)), .val (.int pl), .val (.int (2 : Int32)), .val (.int (0 : Int32)), .val (.int (0 : Int32)), .unset] [])) (fun t k => XS.istore X24.here hx rfl (hb hby d12_70) rfl (l' := #[.val (.ref x), .val (.int (3 : Int32)), .val (.int pl), .val (.int (2 : Int32)), .val (.int (0 : Int32)), .val (.int (0 : Int32)), .unset]) rfl k) ?_
          refine own_step (b := T24.setTop (mkF m 73 #[.val (.ref x), .val (.int (3 : Int32)), .val (.int pl), .val (.int (2 : Int32)), .val (.int (0 : Int32)), .val (.int (0 : Int32)), .unset] [(.int (2 : Int32))])) (fun t k => XS.iloadN X24.here hx rfl (hb hby d12_72) rfl k) ?_
          refine own_if_le X24 hx (hb hby d12_73) (pc' := 121) (by decide) (by decide) (fun c73_26 => absurd c73_26 (by decide)) (fun c73_26 => ?_)
          show own_G p e below _ (T24.setTop (mkF m 76 #[.val (.ref x), .val (.int (3 : Int32)), .val (.int pl), .val (.int (2 : Int32)), .val (.int (0 : Int32)), .val (.int (0 : Int32)), .unset] []))
          refine own_step (b := T24.setTop (mkF m 78 #[.val (.ref x), .val (.int (3 : Int32)), .val (.int pl), .val (.int (2 : Int32)), .val (.int (0 : Int32)), .val (.int (0 : Int32)), .unset] [(.int (0 : Int32))])) (fun t k => XS.iload X24.here hx rfl (hb hby d12_76) rfl k) ?_
          refine own_if_ne X24 hx (hb hby d12_78) (pc' := 121) (by decide) (by decide) (fun c78_27 => absurd c78_27 (by decide)) (fun c78_27 => ?_)
          show own_G p e below _ (T24.setTop (mkF m 81 #[.val (.ref x), .val (.int (3 : Int32)), .val (.int pl), .val (.int (2 : Int32)), .val (.int (0 : Int32)), .val (.int (0 : Int32)), .unset] []))
          refine own_step (b := T24.setTop (mkF m 82 #[.val (.ref x), .val (.int (3 : Int32)), .val (.int pl), .val (.int (2 : Int32)), .val (.int (0 : Int32)), .val (.int (0 : Int32)), .unset] [(.ref x)])) (fun t k => XS.aloadN X24.here hx rfl (hb hby d12_81) rfl rfl k) ?_
          refine own_step (b := T24.setTop (mkF m 83 #[.val (.ref x), .val (.int (3 : Int32)), .val (.int pl), .val (.int (2 : Int32)), .val (.int (0 : Int32)), .val (.int (0 : Int32)), .unset] [(.int (0 : Int32)), (.ref x)])) (fun t k => XS.iconst X24.here hx rfl (hb hby d12_82) k) ?_
          refine own_step (b := T24.setTop (mkF m 84 #[.val (.ref x), .val (.int (3 : Int32)), .val (.int pl), .val (.int (2 : Int32)), .val (.int (0 : Int32)), .val (.int (0 : Int32)), .unset] [(.int (2 : Int32)), (.int (0 : Int32)), (.ref x)])) (fun t k => XS.iloadN X24.here hx rfl (hb hby d12_83) rfl k) ?_
          refine own_staticP (W := 0) (argsL := [(.ref x), (.int (0 : Int32)), (.int (2 : Int32))]) (st := []) X24 hx hZ hown (own_w hw 73 rfl) (own_w hw 74 rfl) (own_w hw 49 rfl) (own_w hw 75 rfl) (by decide) hh24 (rmIsd_0_2 l Z a0 hw [] x c0 c1 c2 c3 h0 SS OL0 G1 O2 P5 G3 O4 rG3) (by decide) (by decide) (by decide) (by decide) (by rw [hml]; rfl) (lenOf pd4 rfl) rfl (Nat.le_of_ble_eq_true rfl) (hb hby d12_84) (fun T28 X28 e28 => ?_)
          show own_G p e below _ (T28.setTop (mkF m 87 #[.val (.ref x), .val (.int (3 : Int32)), .val (.int pl), .val (.int (2 : Int32)), .val (.int (0 : Int32)), .val (.int (0 : Int32)), .unset] [(.int (own_bi (own_dig c0 && own_dig c1)))]))
          refine own_if_eq X28 hx (hb hby d12_87) (pc' := 121) (by decide) (by decide) (fun c87_29 => ?_) (fun c87_29 => ?_)
          · show own_G p e below _ (T28.setTop (mkF m 121 #[.val (.ref x), .val (.int (3 : Int32)), .val (.int pl), .val (.int (2 : Int32)), .val (.int (0 : Int32)), .val (.int (0 : Int32)), .unset] []))
            have c87_29b : (own_dig c0 && own_dig c1) = false := own_bi_f c87_29
            refine own_step (b := T28.setTop (mkF m 122 #[.val (.ref x), .val (.int (3 : Int32)), .val (.int pl), .val (.int (2 : Int32)), .val (.int (0 : Int32)), .val (.int (0 : Int32)), .unset] [(.int (0 : Int32))])) (fun t k => XS.iconst X28.here hx rfl (hb hby d12_121) k) ?_
            refine own_step (b := T28.setTop (mkF m 124 #[.val (.ref x), .val (.int (3 : Int32)), .val (.int pl), .val (.int (2 : Int32)), .val (.int (0 : Int32)), .val (.int (0 : Int32)), .val (.int (0 : Int32))] [])) (fun t k => XS.istore X28.here hx rfl (hb hby d12_122) rfl (l' := #[.val (.ref x), .val (.int (3 : Int32)), .val (.int pl), .val (.int (2 : Int32)), .val (.int (0 : Int32)), .val (.int (0 : Int32)), .val (.int (0 : Int32))]) rfl k) ?_
            refine own_step (b := T28.setTop (mkF m 126 #[.val (.ref x), .val (.int (3 : Int32)), .val (.int pl), .val (.int (2 : Int32)), .val (.int (0 : Int32)), .val (.int (0 : Int32)), .val (.int (0 : Int32))] [(.int (0 : Int32))])) (fun t k => XS.iload X28.here hx rfl (hb hby d12_124) rfl k) ?_
            exact own_retN X28 hx hret (by simp) hlk (hb hby d12_126) ⟨by rw [show (if c0 = 46 then false else (if c1 = 46 then ((own_dig c0) && !decide (pl < 1) && (own_dig c2)) else (if c2 = 46 then false else (!decide (c0 = 48) && (own_dig c0 && own_dig c1 && own_dig c2))))) = false by simp [c19_3, c19_6, c19_9, c62_25, c87_29b, own_dig46]]; rfl, rfl, e28⟩ (by decide) (by decide)
          · show own_G p e below _ (T28.setTop (mkF m 90 #[.val (.ref x), .val (.int (3 : Int32)), .val (.int pl), .val (.int (2 : Int32)), .val (.int (0 : Int32)), .val (.int (0 : Int32)), .unset] []))
            have c87_29b : (own_dig c0 && own_dig c1) = true := own_bi_t c87_29
            refine own_step (b := T28.setTop (mkF m 91 #[.val (.ref x), .val (.int (3 : Int32)), .val (.int pl), .val (.int (2 : Int32)), .val (.int (0 : Int32)), .val (.int (0 : Int32)), .unset] [(.int (2 : Int32))])) (fun t k => XS.iloadN X28.here hx rfl (hb hby d12_90) rfl k) ?_
            refine own_step (b := T28.setTop (mkF m 92 #[.val (.ref x), .val (.int (3 : Int32)), .val (.int pl), .val (.int (2 : Int32)), .val (.int (0 : Int32)), .val (.int (0 : Int32)), .unset] [(.int (3 : Int32)), (.int (2 : Int32))])) (fun t k => XS.iloadN X28.here hx rfl (hb hby d12_91) rfl k) ?_
            refine own_icmp_eq X28 hx (hb hby d12_92) (pc' := 117) (by decide) (by decide) (fun c92_30 => absurd c92_30 (by decide)) (fun c92_30 => ?_)
            show own_G p e below _ (T28.setTop (mkF m 95 #[.val (.ref x), .val (.int (3 : Int32)), .val (.int pl), .val (.int (2 : Int32)), .val (.int (0 : Int32)), .val (.int (0 : Int32)), .unset] []))
            refine own_step (b := T28.setTop (mkF m 97 #[.val (.ref x), .val (.int (3 : Int32)), .val (.int pl), .val (.int (2 : Int32)), .val (.int (0 : Int32)), .val (.int (0 : Int32)), .unset] [(.int (0 : Int32))])) (fun t k => XS.iload X28.here hx rfl (hb hby d12_95) rfl k) ?_
            refine own_if_le X28 hx (hb hby d12_97) (pc' := 121) (by decide) (by decide) (fun c97_31 => ?_) (fun c97_31 => absurd c97_31 (by decide))
            show own_G p e below _ (T28.setTop (mkF m 121 #[.val (.ref x), .val (.int (3 : Int32)), .val (.int pl), .val (.int (2 : Int32)), .val (.int (0 : Int32)), .val (.int (0 : Int32)), .unset] []))
            refine own_step (b := T28.setTop (mkF m 122 #[.val (.ref x), .val (.int (3 : Int32)), .val (.int pl), .val (.int (2 : Int32)), .val (.int (0 : Int32)), .val (.int (0 : Int32)), .unset] [(.int (0 : Int32))])) (fun t k => XS.iconst X28.here hx rfl (hb hby d12_121) k) ?_
            refine own_step (b := T28.setTop (mkF m 124 #[.val (.ref x), .val (.int (3 : Int32)), .val (.int pl), .val (.int (2 : Int32)), .val (.int (0 : Int32)), .val (.int (0 : Int32)), .val (.int (0 : Int32))] [])) (fun t k => XS.istore X28.here hx rfl (hb hby d12_122) rfl (l' := #[.val (.ref x), .val (.int (3 : Int32)), .val (.int pl), .val (.int (2 : Int32)), .val (.int (0 : Int32)), .val (.int (0 : Int32)), .val (.int (0 : Int32))]) rfl k) ?_
            refine own_step (b := T28.setTop (mkF m 126 #[.val (.ref x), .val (.int (3 : Int32)), .val (.int pl), .val (.int (2 : Int32)), .val (.int (0 : Int32)), .val (.int (0 : Int32)), .val (.int (0 : Int32))] [(.int (0 : Int32))])) (fun t k => XS.iload X28.here hx rfl (hb hby d12_124) rfl k) ?_
            exact own_retN X28 hx hret (by simp) hlk (hb hby d12_126) ⟨by rw [show (if c0 = 46 then false else (if c1 = 46 then ((own_dig c0) && !decide (pl < 1) && (own_dig c2)) else (if c2 = 46 then false else (!decide (c0 = 48) && (own_dig c0 && own_dig c1 && own_dig c2))))) = false by simp [c19_3, c19_6, c19_9, c62_25, c87_29b, own_dig46]]; rfl, rfl, e28⟩ (by decide) (by decide)
        · show own_G p e below _ (T24.setTop (mkF m 65 #[.val (.ref x), .val (.int (3 : Int32)), .val (.int pl), .val (.int (2 : Int32)), .val (.int (0 : Int32)), .unset, .unset] []))
          refine own_step (b := T24.setTop (mkF m 66 #[.val (.ref x), .val (.int (3 : Int32)), .val (.int pl), .val (.int (2 : Int32)), .val (.int (0 : Int32)), .unset, .unset] [(.int (1 : Int32))])) (fun t k => XS.iconst X24.here hx rfl (hb hby d12_65) k) ?_
          refine own_step (b := T24.setTop (mkF m 70 #[.val (.ref x), .val (.int (3 : Int32)), .val (.int pl), .val (.int (2 : Int32)), .val (.int (0 : Int32)), .unset, .unset] [(.int (1 : Int32))])) (fun t k => XS.goto X24.here hx rfl (pc0 := 66) (pc' := 70) rfl (hb hby d12_66) (by decide) (by decide) k) ?_
          refine own_step (b := T24.setTop (mkF m 72 #[.val (.ref x), .val (.int (3 : Int32)), .val (.int pl), .val (.int (2 : Int32)), .val (.int (0 : Int32)), .val (.int (1 : Int32)), .unset] [])) (fun t k => XS.istore X24.here hx rfl (hb hby d12_70) rfl (l' := #[.val (.ref x), .val (.int (3 : Int32)), .val (.int pl), .val (.int (2 : Int32)), .val (.int (0 : Int32)), .val (.int (1 : Int32)), .unset]) rfl k) ?_
          refine own_step (b := T24.setTop (mkF m 73 #[.val (.ref x), .val (.int (3 : Int32)), .val (.int pl), .val (.int (2 : Int32)), .val (.int (0 : Int32)), .val (.int (1 : Int32)), .unset] [(.int (2 : Int32))])) (fun t k => XS.iloadN X24.here hx rfl (hb hby d12_72) rfl k) ?_
          refine own_if_le X24 hx (hb hby d12_73) (pc' := 121) (by decide) (by decide) (fun c73_32 => absurd c73_32 (by decide)) (fun c73_32 => ?_)
          show own_G p e below _ (T24.setTop (mkF m 76 #[.val (.ref x), .val (.int (3 : Int32)), .val (.int pl), .val (.int (2 : Int32)), .val (.int (0 : Int32)), .val (.int (1 : Int32)), .unset] []))
          refine own_step (b := T24.setTop (mkF m 78 #[.val (.ref x), .val (.int (3 : Int32)), .val (.int pl), .val (.int (2 : Int32)), .val (.int (0 : Int32)), .val (.int (1 : Int32)), .unset] [(.int (1 : Int32))])) (fun t k => XS.iload X24.here hx rfl (hb hby d12_76) rfl k) ?_
          refine own_if_ne X24 hx (hb hby d12_78) (pc' := 121) (by decide) (by decide) (fun c78_33 => ?_) (fun c78_33 => absurd c78_33 (by decide))
          show own_G p e below _ (T24.setTop (mkF m 121 #[.val (.ref x), .val (.int (3 : Int32)), .val (.int pl), .val (.int (2 : Int32)), .val (.int (0 : Int32)), .val (.int (1 : Int32)), .unset] []))
          refine own_step (b := T24.setTop (mkF m 122 #[.val (.ref x), .val (.int (3 : Int32)), .val (.int pl), .val (.int (2 : Int32)), .val (.int (0 : Int32)), .val (.int (1 : Int32)), .unset] [(.int (0 : Int32))])) (fun t k => XS.iconst X24.here hx rfl (hb hby d12_121) k) ?_
          refine own_step (b := T24.setTop (mkF m 124 #[.val (.ref x), .val (.int (3 : Int32)), .val (.int pl), .val (.int (2 : Int32)), .val (.int (0 : Int32)), .val (.int (1 : Int32)), .val (.int (0 : Int32))] [])) (fun t k => XS.istore X24.here hx rfl (hb hby d12_122) rfl (l' := #[.val (.ref x), .val (.int (3 : Int32)), .val (.int pl), .val (.int (2 : Int32)), .val (.int (0 : Int32)), .val (.int (1 : Int32)), .val (.int (0 : Int32))]) rfl k) ?_
          refine own_step (b := T24.setTop (mkF m 126 #[.val (.ref x), .val (.int (3 : Int32)), .val (.int pl), .val (.int (2 : Int32)), .val (.int (0 : Int32)), .val (.int (1 : Int32)), .val (.int (0 : Int32))] [(.int (0 : Int32))])) (fun t k => XS.iload X24.here hx rfl (hb hby d12_124) rfl k) ?_
          exact own_retN X24 hx hret (by simp) hlk (hb hby d12_126) ⟨by rw [show (if c0 = 46 then false else (if c1 = 46 then ((own_dig c0) && !decide (pl < 1) && (own_dig c2)) else (if c2 = 46 then false else (!decide (c0 = 48) && (own_dig c0 && own_dig c1 && own_dig c2))))) = false by simp [c19_3, c19_6, c19_9, c62_25, own_dig46]]; rfl, rfl, hh24⟩ (by decide) (by decide)
    · show own_G p e below _ (T5.setTop (mkF m 22 #[.val (.ref x), .val (.int (3 : Int32)), .val (.int pl), .val (.int (3 : Int32)), .val (.int (1 : Int32)), .unset, .unset] []))
      refine own_step (b := T5.setTop (mkF m 24 #[.val (.ref x), .val (.int (3 : Int32)), .val (.int pl), .val (.int (3 : Int32)), .val (.int (1 : Int32)), .unset, .unset] [(.int (1 : Int32))])) (fun t k => XS.iload X5.here hx rfl (hb hby d12_22) rfl k) ?_
      refine own_step (b := T5.setTop (mkF m 25 #[.val (.ref x), .val (.int (3 : Int32)), .val (.int pl), .val (.int (1 : Int32)), .val (.int (1 : Int32)), .unset, .unset] [])) (fun t k => XS.istoreN X5.here hx rfl (hb hby d12_24) rfl (l' := #[.val (.ref x), .val (.int (3 : Int32)), .val (.int pl), .val (.int (1 : Int32)), .val (.int (1 : Int32)), .unset, .unset]) rfl k) ?_
      refine own_step (b := T5.setTop (mkF m 34 #[.val (.ref x), .val (.int (3 : Int32)), .val (.int pl), .val (.int (1 : Int32)), .val (.int (1 : Int32)), .unset, .unset] [])) (fun t k => XS.goto X5.here hx rfl (pc0 := 25) (pc' := 34) rfl (hb hby d12_25) (by decide) (by decide) k) ?_
      refine own_step (b := T5.setTop (mkF m 35 #[.val (.ref x), .val (.int (3 : Int32)), .val (.int pl), .val (.int (1 : Int32)), .val (.int (1 : Int32)), .unset, .unset] [(.int (1 : Int32))])) (fun t k => XS.iloadN X5.here hx rfl (hb hby d12_34) rfl k) ?_
      refine own_step (b := T5.setTop (mkF m 36 #[.val (.ref x), .val (.int (3 : Int32)), .val (.int pl), .val (.int (1 : Int32)), .val (.int (1 : Int32)), .unset, .unset] [(.int (3 : Int32)), (.int (1 : Int32))])) (fun t k => XS.iloadN X5.here hx rfl (hb hby d12_35) rfl k) ?_
      refine own_icmp_ne X5 hx (hb hby d12_36) (pc' := 43) (by decide) (by decide) (fun c36_34 => ?_) (fun c36_34 => absurd c36_34 (by decide))
      show own_G p e below _ (T5.setTop (mkF m 43 #[.val (.ref x), .val (.int (3 : Int32)), .val (.int pl), .val (.int (1 : Int32)), .val (.int (1 : Int32)), .unset, .unset] []))
      refine own_step (b := T5.setTop (mkF m 44 #[.val (.ref x), .val (.int (3 : Int32)), .val (.int pl), .val (.int (1 : Int32)), .val (.int (1 : Int32)), .unset, .unset] [(.int (3 : Int32))])) (fun t k => XS.iloadN X5.here hx rfl (hb hby d12_43) rfl k) ?_
      refine own_step (b := T5.setTop (mkF m 45 #[.val (.ref x), .val (.int (3 : Int32)), .val (.int pl), .val (.int (1 : Int32)), .val (.int (1 : Int32)), .unset, .unset] [(.int (1 : Int32)), (.int (3 : Int32))])) (fun t k => XS.iloadN X5.here hx rfl (hb hby d12_44) rfl k) ?_
      refine own_step (b := T5.setTop (mkF m 46 #[.val (.ref x), .val (.int (3 : Int32)), .val (.int pl), .val (.int (1 : Int32)), .val (.int (1 : Int32)), .unset, .unset] [(.int (2 : Int32))])) (fun t k => XS.isub X5.here hx rfl (hb hby d12_45) rfl k) ?_
      refine own_step (b := T5.setTop (mkF m 47 #[.val (.ref x), .val (.int (3 : Int32)), .val (.int pl), .val (.int (1 : Int32)), .val (.int (1 : Int32)), .unset, .unset] [(.int (1 : Int32)), (.int (2 : Int32))])) (fun t k => XS.iconst X5.here hx rfl (hb hby d12_46) k) ?_
      refine own_step (b := T5.setTop (mkF m 48 #[.val (.ref x), .val (.int (3 : Int32)), .val (.int pl), .val (.int (1 : Int32)), .val (.int (1 : Int32)), .unset, .unset] [(.int (1 : Int32))])) (fun t k => XS.isub X5.here hx rfl (hb hby d12_47) rfl k) ?_
      refine own_step (b := T5.setTop (mkF m 50 #[.val (.ref x), .val (.int (3 : Int32)), .val (.int pl), .val (.int (1 : Int32)), .val (.int (1 : Int32)), .unset, .unset] [])) (fun t k => XS.istore X5.here hx rfl (hb hby d12_48) rfl (l' := #[.val (.ref x), .val (.int (3 : Int32)), .val (.int pl), .val (.int (1 : Int32)), .val (.int (1 : Int32)), .unset, .unset]) rfl k) ?_
      refine own_step (b := T5.setTop (mkF m 51 #[.val (.ref x), .val (.int (3 : Int32)), .val (.int pl), .val (.int (1 : Int32)), .val (.int (1 : Int32)), .unset, .unset] [(.int (1 : Int32))])) (fun t k => XS.iloadN X5.here hx rfl (hb hby d12_50) rfl k) ?_
      refine own_step (b := T5.setTop (mkF m 52 #[.val (.ref x), .val (.int (3 : Int32)), .val (.int pl), .val (.int (1 : Int32)), .val (.int (1 : Int32)), .unset, .unset] [(.int (1 : Int32)), (.int (1 : Int32))])) (fun t k => XS.iconst X5.here hx rfl (hb hby d12_51) k) ?_
      refine own_icmp_le X5 hx (hb hby d12_52) (pc' := 69) (by decide) (by decide) (fun c52_35 => ?_) (fun c52_35 => absurd c52_35 (by decide))
      show own_G p e below _ (T5.setTop (mkF m 69 #[.val (.ref x), .val (.int (3 : Int32)), .val (.int pl), .val (.int (1 : Int32)), .val (.int (1 : Int32)), .unset, .unset] []))
      refine own_step (b := T5.setTop (mkF m 70 #[.val (.ref x), .val (.int (3 : Int32)), .val (.int pl), .val (.int (1 : Int32)), .val (.int (1 : Int32)), .unset, .unset] [(.int (0 : Int32))])) (fun t k => XS.iconst X5.here hx rfl (hb hby d12_69) k) ?_
      refine own_step (b := T5.setTop (mkF m 72 #[.val (.ref x), .val (.int (3 : Int32)), .val (.int pl), .val (.int (1 : Int32)), .val (.int (1 : Int32)), .val (.int (0 : Int32)), .unset] [])) (fun t k => XS.istore X5.here hx rfl (hb hby d12_70) rfl (l' := #[.val (.ref x), .val (.int (3 : Int32)), .val (.int pl), .val (.int (1 : Int32)), .val (.int (1 : Int32)), .val (.int (0 : Int32)), .unset]) rfl k) ?_
      refine own_step (b := T5.setTop (mkF m 73 #[.val (.ref x), .val (.int (3 : Int32)), .val (.int pl), .val (.int (1 : Int32)), .val (.int (1 : Int32)), .val (.int (0 : Int32)), .unset] [(.int (1 : Int32))])) (fun t k => XS.iloadN X5.here hx rfl (hb hby d12_72) rfl k) ?_
      refine own_if_le X5 hx (hb hby d12_73) (pc' := 121) (by decide) (by decide) (fun c73_36 => absurd c73_36 (by decide)) (fun c73_36 => ?_)
      show own_G p e below _ (T5.setTop (mkF m 76 #[.val (.ref x), .val (.int (3 : Int32)), .val (.int pl), .val (.int (1 : Int32)), .val (.int (1 : Int32)), .val (.int (0 : Int32)), .unset] []))
      refine own_step (b := T5.setTop (mkF m 78 #[.val (.ref x), .val (.int (3 : Int32)), .val (.int pl), .val (.int (1 : Int32)), .val (.int (1 : Int32)), .val (.int (0 : Int32)), .unset] [(.int (0 : Int32))])) (fun t k => XS.iload X5.here hx rfl (hb hby d12_76) rfl k) ?_
      refine own_if_ne X5 hx (hb hby d12_78) (pc' := 121) (by decide) (by decide) (fun c78_37 => absurd c78_37 (by decide)) (fun c78_37 => ?_)
      show own_G p e below _ (T5.setTop (mkF m 81 #[.val (.ref x), .val (.int (3 : Int32)), .val (.int pl), .val (.int (1 : Int32)), .val (.int (1 : Int32)), .val (.int (0 : Int32)), .unset] []))
      refine own_step (b := T5.setTop (mkF m 82 #[.val (.ref x), .val (.int (3 : Int32)), .val (.int pl), .val (.int (1 : Int32)), .val (.int (1 : Int32)), .val (.int (0 : Int32)), .unset] [(.ref x)])) (fun t k => XS.aloadN X5.here hx rfl (hb hby d12_81) rfl rfl k) ?_
      refine own_step (b := T5.setTop (mkF m 83 #[.val (.ref x), .val (.int (3 : Int32)), .val (.int pl), .val (.int (1 : Int32)), .val (.int (1 : Int32)), .val (.int (0 : Int32)), .unset] [(.int (0 : Int32)), (.ref x)])) (fun t k => XS.iconst X5.here hx rfl (hb hby d12_82) k) ?_
      refine own_step (b := T5.setTop (mkF m 84 #[.val (.ref x), .val (.int (3 : Int32)), .val (.int pl), .val (.int (1 : Int32)), .val (.int (1 : Int32)), .val (.int (0 : Int32)), .unset] [(.int (1 : Int32)), (.int (0 : Int32)), (.ref x)])) (fun t k => XS.iloadN X5.here hx rfl (hb hby d12_83) rfl k) ?_
      refine own_staticP (W := 0) (argsL := [(.ref x), (.int (0 : Int32)), (.int (1 : Int32))]) (st := []) X5 hx hZ hown (own_w hw 73 rfl) (own_w hw 74 rfl) (own_w hw 49 rfl) (own_w hw 75 rfl) (by decide) hh5 (rmIsd_0_1 l Z a0 hw [] x c0 c1 c2 c3 h0 SS OL0 G1 O2 P5 G3 O4 rG3) (by decide) (by decide) (by decide) (by decide) (by rw [hml]; rfl) (lenOf pd4 rfl) rfl (Nat.le_of_ble_eq_true rfl) (hb hby d12_84) (fun T38 X38 e38 => ?_)
      show own_G p e below _ (T38.setTop (mkF m 87 #[.val (.ref x), .val (.int (3 : Int32)), .val (.int pl), .val (.int (1 : Int32)), .val (.int (1 : Int32)), .val (.int (0 : Int32)), .unset] [(.int (own_bi (own_dig c0)))]))
      refine own_if_eq X38 hx (hb hby d12_87) (pc' := 121) (by decide) (by decide) (fun c87_39 => ?_) (fun c87_39 => ?_)
      · show own_G p e below _ (T38.setTop (mkF m 121 #[.val (.ref x), .val (.int (3 : Int32)), .val (.int pl), .val (.int (1 : Int32)), .val (.int (1 : Int32)), .val (.int (0 : Int32)), .unset] []))
        have c87_39b : (own_dig c0) = false := own_bi_f c87_39
        refine own_step (b := T38.setTop (mkF m 122 #[.val (.ref x), .val (.int (3 : Int32)), .val (.int pl), .val (.int (1 : Int32)), .val (.int (1 : Int32)), .val (.int (0 : Int32)), .unset] [(.int (0 : Int32))])) (fun t k => XS.iconst X38.here hx rfl (hb hby d12_121) k) ?_
        refine own_step (b := T38.setTop (mkF m 124 #[.val (.ref x), .val (.int (3 : Int32)), .val (.int pl), .val (.int (1 : Int32)), .val (.int (1 : Int32)), .val (.int (0 : Int32)), .val (.int (0 : Int32))] [])) (fun t k => XS.istore X38.here hx rfl (hb hby d12_122) rfl (l' := #[.val (.ref x), .val (.int (3 : Int32)), .val (.int pl), .val (.int (1 : Int32)), .val (.int (1 : Int32)), .val (.int (0 : Int32)), .val (.int (0 : Int32))]) rfl k) ?_
        refine own_step (b := T38.setTop (mkF m 126 #[.val (.ref x), .val (.int (3 : Int32)), .val (.int pl), .val (.int (1 : Int32)), .val (.int (1 : Int32)), .val (.int (0 : Int32)), .val (.int (0 : Int32))] [(.int (0 : Int32))])) (fun t k => XS.iload X38.here hx rfl (hb hby d12_124) rfl k) ?_
        exact own_retN X38 hx hret (by simp) hlk (hb hby d12_126) ⟨by rw [show (if c0 = 46 then false else (if c1 = 46 then ((own_dig c0) && !decide (pl < 1) && (own_dig c2)) else (if c2 = 46 then false else (!decide (c0 = 48) && (own_dig c0 && own_dig c1 && own_dig c2))))) = false by simp [c19_3, c19_6, c87_39b, own_dig46]]; rfl, rfl, e38⟩ (by decide) (by decide)
      · show own_G p e below _ (T38.setTop (mkF m 90 #[.val (.ref x), .val (.int (3 : Int32)), .val (.int pl), .val (.int (1 : Int32)), .val (.int (1 : Int32)), .val (.int (0 : Int32)), .unset] []))
        have c87_39b : (own_dig c0) = true := own_bi_t c87_39
        refine own_step (b := T38.setTop (mkF m 91 #[.val (.ref x), .val (.int (3 : Int32)), .val (.int pl), .val (.int (1 : Int32)), .val (.int (1 : Int32)), .val (.int (0 : Int32)), .unset] [(.int (1 : Int32))])) (fun t k => XS.iloadN X38.here hx rfl (hb hby d12_90) rfl k) ?_
        refine own_step (b := T38.setTop (mkF m 92 #[.val (.ref x), .val (.int (3 : Int32)), .val (.int pl), .val (.int (1 : Int32)), .val (.int (1 : Int32)), .val (.int (0 : Int32)), .unset] [(.int (3 : Int32)), (.int (1 : Int32))])) (fun t k => XS.iloadN X38.here hx rfl (hb hby d12_91) rfl k) ?_
        refine own_icmp_eq X38 hx (hb hby d12_92) (pc' := 117) (by decide) (by decide) (fun c92_40 => absurd c92_40 (by decide)) (fun c92_40 => ?_)
        show own_G p e below _ (T38.setTop (mkF m 95 #[.val (.ref x), .val (.int (3 : Int32)), .val (.int pl), .val (.int (1 : Int32)), .val (.int (1 : Int32)), .val (.int (0 : Int32)), .unset] []))
        refine own_step (b := T38.setTop (mkF m 97 #[.val (.ref x), .val (.int (3 : Int32)), .val (.int pl), .val (.int (1 : Int32)), .val (.int (1 : Int32)), .val (.int (0 : Int32)), .unset] [(.int (1 : Int32))])) (fun t k => XS.iload X38.here hx rfl (hb hby d12_95) rfl k) ?_
        refine own_if_le X38 hx (hb hby d12_97) (pc' := 121) (by decide) (by decide) (fun c97_41 => absurd c97_41 (by decide)) (fun c97_41 => ?_)
        show own_G p e below _ (T38.setTop (mkF m 100 #[.val (.ref x), .val (.int (3 : Int32)), .val (.int pl), .val (.int (1 : Int32)), .val (.int (1 : Int32)), .val (.int (0 : Int32)), .unset] []))
        refine own_step (b := T38.setTop (mkF m 102 #[.val (.ref x), .val (.int (3 : Int32)), .val (.int pl), .val (.int (1 : Int32)), .val (.int (1 : Int32)), .val (.int (0 : Int32)), .unset] [(.int (1 : Int32))])) (fun t k => XS.iload X38.here hx rfl (hb hby d12_100) rfl k) ?_
        refine own_step (b := T38.setTop (mkF m 103 #[.val (.ref x), .val (.int (3 : Int32)), .val (.int pl), .val (.int (1 : Int32)), .val (.int (1 : Int32)), .val (.int (0 : Int32)), .unset] [(.int pl), (.int (1 : Int32))])) (fun t k => XS.iloadN X38.here hx rfl (hb hby d12_102) rfl k) ?_
        refine own_icmp_gt X38 hx (hb hby d12_103) (pc' := 121) (by decide) (by decide) (fun c103_42 => ?_) (fun c103_42 => ?_)
        · show own_G p e below _ (T38.setTop (mkF m 121 #[.val (.ref x), .val (.int (3 : Int32)), .val (.int pl), .val (.int (1 : Int32)), .val (.int (1 : Int32)), .val (.int (0 : Int32)), .unset] []))
          refine own_step (b := T38.setTop (mkF m 122 #[.val (.ref x), .val (.int (3 : Int32)), .val (.int pl), .val (.int (1 : Int32)), .val (.int (1 : Int32)), .val (.int (0 : Int32)), .unset] [(.int (0 : Int32))])) (fun t k => XS.iconst X38.here hx rfl (hb hby d12_121) k) ?_
          refine own_step (b := T38.setTop (mkF m 124 #[.val (.ref x), .val (.int (3 : Int32)), .val (.int pl), .val (.int (1 : Int32)), .val (.int (1 : Int32)), .val (.int (0 : Int32)), .val (.int (0 : Int32))] [])) (fun t k => XS.istore X38.here hx rfl (hb hby d12_122) rfl (l' := #[.val (.ref x), .val (.int (3 : Int32)), .val (.int pl), .val (.int (1 : Int32)), .val (.int (1 : Int32)), .val (.int (0 : Int32)), .val (.int (0 : Int32))]) rfl k) ?_
          refine own_step (b := T38.setTop (mkF m 126 #[.val (.ref x), .val (.int (3 : Int32)), .val (.int pl), .val (.int (1 : Int32)), .val (.int (1 : Int32)), .val (.int (0 : Int32)), .val (.int (0 : Int32))] [(.int (0 : Int32))])) (fun t k => XS.iload X38.here hx rfl (hb hby d12_124) rfl k) ?_
          exact own_retN X38 hx hret (by simp) hlk (hb hby d12_126) ⟨by rw [show (if c0 = 46 then false else (if c1 = 46 then ((own_dig c0) && !decide (pl < 1) && (own_dig c2)) else (if c2 = 46 then false else (!decide (c0 = 48) && (own_dig c0 && own_dig c1 && own_dig c2))))) = false by simp [c19_3, c19_6, c87_39b, c103_42, own_dig46]]; rfl, rfl, e38⟩ (by decide) (by decide)
        · show own_G p e below _ (T38.setTop (mkF m 106 #[.val (.ref x), .val (.int (3 : Int32)), .val (.int pl), .val (.int (1 : Int32)), .val (.int (1 : Int32)), .val (.int (0 : Int32)), .unset] []))
          refine own_step (b := T38.setTop (mkF m 107 #[.val (.ref x), .val (.int (3 : Int32)), .val (.int pl), .val (.int (1 : Int32)), .val (.int (1 : Int32)), .val (.int (0 : Int32)), .unset] [(.ref x)])) (fun t k => XS.aloadN X38.here hx rfl (hb hby d12_106) rfl rfl k) ?_
          refine own_step (b := T38.setTop (mkF m 108 #[.val (.ref x), .val (.int (3 : Int32)), .val (.int pl), .val (.int (1 : Int32)), .val (.int (1 : Int32)), .val (.int (0 : Int32)), .unset] [(.int (1 : Int32)), (.ref x)])) (fun t k => XS.iloadN X38.here hx rfl (hb hby d12_107) rfl k) ?_
          refine own_step (b := T38.setTop (mkF m 109 #[.val (.ref x), .val (.int (3 : Int32)), .val (.int pl), .val (.int (1 : Int32)), .val (.int (1 : Int32)), .val (.int (0 : Int32)), .unset] [(.int (1 : Int32)), (.int (1 : Int32)), (.ref x)])) (fun t k => XS.iconst X38.here hx rfl (hb hby d12_108) k) ?_
          refine own_step (b := T38.setTop (mkF m 110 #[.val (.ref x), .val (.int (3 : Int32)), .val (.int pl), .val (.int (1 : Int32)), .val (.int (1 : Int32)), .val (.int (0 : Int32)), .unset] [(.int (2 : Int32)), (.ref x)])) (fun t k => XS.iadd X38.here hx rfl (hb hby d12_109) rfl k) ?_
          refine own_step (b := T38.setTop (mkF m 111 #[.val (.ref x), .val (.int (3 : Int32)), .val (.int pl), .val (.int (1 : Int32)), .val (.int (1 : Int32)), .val (.int (0 : Int32)), .unset] [(.int (3 : Int32)), (.int (2 : Int32)), (.ref x)])) (fun t k => XS.iloadN X38.here hx rfl (hb hby d12_110) rfl k) ?_
          refine own_staticP (W := 0) (argsL := [(.ref x), (.int (2 : Int32)), (.int (3 : Int32))]) (st := []) X38 hx hZ hown (own_w hw 73 rfl) (own_w hw 74 rfl) (own_w hw 49 rfl) (own_w hw 75 rfl) (by decide) e38 (rmIsd_2_3 l Z a0 hw [] x c0 c1 c2 c3 h0 SS OL0 G1 O2 P5 G3 O4 rG3) (by decide) (by decide) (by decide) (by decide) (by rw [hml]; rfl) (lenOf pd4 rfl) rfl (Nat.le_of_ble_eq_true rfl) (hb hby d12_111) (fun T43 X43 e43 => ?_)
          show own_G p e below _ (T43.setTop (mkF m 114 #[.val (.ref x), .val (.int (3 : Int32)), .val (.int pl), .val (.int (1 : Int32)), .val (.int (1 : Int32)), .val (.int (0 : Int32)), .unset] [(.int (own_bi (own_dig c2)))]))
          refine own_if_eq X43 hx (hb hby d12_114) (pc' := 121) (by decide) (by decide) (fun c114_44 => ?_) (fun c114_44 => ?_)
          · show own_G p e below _ (T43.setTop (mkF m 121 #[.val (.ref x), .val (.int (3 : Int32)), .val (.int pl), .val (.int (1 : Int32)), .val (.int (1 : Int32)), .val (.int (0 : Int32)), .unset] []))
            have c114_44b : (own_dig c2) = false := own_bi_f c114_44
            refine own_step (b := T43.setTop (mkF m 122 #[.val (.ref x), .val (.int (3 : Int32)), .val (.int pl), .val (.int (1 : Int32)), .val (.int (1 : Int32)), .val (.int (0 : Int32)), .unset] [(.int (0 : Int32))])) (fun t k => XS.iconst X43.here hx rfl (hb hby d12_121) k) ?_
            refine own_step (b := T43.setTop (mkF m 124 #[.val (.ref x), .val (.int (3 : Int32)), .val (.int pl), .val (.int (1 : Int32)), .val (.int (1 : Int32)), .val (.int (0 : Int32)), .val (.int (0 : Int32))] [])) (fun t k => XS.istore X43.here hx rfl (hb hby d12_122) rfl (l' := #[.val (.ref x), .val (.int (3 : Int32)), .val (.int pl), .val (.int (1 : Int32)), .val (.int (1 : Int32)), .val (.int (0 : Int32)), .val (.int (0 : Int32))]) rfl k) ?_
            refine own_step (b := T43.setTop (mkF m 126 #[.val (.ref x), .val (.int (3 : Int32)), .val (.int pl), .val (.int (1 : Int32)), .val (.int (1 : Int32)), .val (.int (0 : Int32)), .val (.int (0 : Int32))] [(.int (0 : Int32))])) (fun t k => XS.iload X43.here hx rfl (hb hby d12_124) rfl k) ?_
            exact own_retN X43 hx hret (by simp) hlk (hb hby d12_126) ⟨by rw [show (if c0 = 46 then false else (if c1 = 46 then ((own_dig c0) && !decide (pl < 1) && (own_dig c2)) else (if c2 = 46 then false else (!decide (c0 = 48) && (own_dig c0 && own_dig c1 && own_dig c2))))) = false by simp [c19_3, c19_6, c87_39b, c103_42, c114_44b, own_dig46]]; rfl, rfl, e43⟩ (by decide) (by decide)
          · show own_G p e below _ (T43.setTop (mkF m 117 #[.val (.ref x), .val (.int (3 : Int32)), .val (.int pl), .val (.int (1 : Int32)), .val (.int (1 : Int32)), .val (.int (0 : Int32)), .unset] []))
            have c114_44b : (own_dig c2) = true := own_bi_t c114_44
            refine own_step (b := T43.setTop (mkF m 118 #[.val (.ref x), .val (.int (3 : Int32)), .val (.int pl), .val (.int (1 : Int32)), .val (.int (1 : Int32)), .val (.int (0 : Int32)), .unset] [(.int (1 : Int32))])) (fun t k => XS.iconst X43.here hx rfl (hb hby d12_117) k) ?_
            refine own_step (b := T43.setTop (mkF m 122 #[.val (.ref x), .val (.int (3 : Int32)), .val (.int pl), .val (.int (1 : Int32)), .val (.int (1 : Int32)), .val (.int (0 : Int32)), .unset] [(.int (1 : Int32))])) (fun t k => XS.goto X43.here hx rfl (pc0 := 118) (pc' := 122) rfl (hb hby d12_118) (by decide) (by decide) k) ?_
            refine own_step (b := T43.setTop (mkF m 124 #[.val (.ref x), .val (.int (3 : Int32)), .val (.int pl), .val (.int (1 : Int32)), .val (.int (1 : Int32)), .val (.int (0 : Int32)), .val (.int (1 : Int32))] [])) (fun t k => XS.istore X43.here hx rfl (hb hby d12_122) rfl (l' := #[.val (.ref x), .val (.int (3 : Int32)), .val (.int pl), .val (.int (1 : Int32)), .val (.int (1 : Int32)), .val (.int (0 : Int32)), .val (.int (1 : Int32))]) rfl k) ?_
            refine own_step (b := T43.setTop (mkF m 126 #[.val (.ref x), .val (.int (3 : Int32)), .val (.int pl), .val (.int (1 : Int32)), .val (.int (1 : Int32)), .val (.int (0 : Int32)), .val (.int (1 : Int32))] [(.int (1 : Int32))])) (fun t k => XS.iload X43.here hx rfl (hb hby d12_124) rfl k) ?_
            exact own_retN X43 hx hret (by simp) hlk (hb hby d12_126) ⟨by rw [show (if c0 = 46 then false else (if c1 = 46 then ((own_dig c0) && !decide (pl < 1) && (own_dig c2)) else (if c2 = 46 then false else (!decide (c0 = 48) && (own_dig c0 && own_dig c1 && own_dig c2))))) = true by simp [c19_3, c19_6, c87_39b, c103_42, c114_44b, own_dig46]]; rfl, rfl, e43⟩ (by decide) (by decide)
  · show own_G p e below _ (T2.setTop (mkF m 22 #[.val (.ref x), .val (.int (3 : Int32)), .val (.int pl), .val (.int (3 : Int32)), .val (.int (0 : Int32)), .unset, .unset] []))
    refine own_step (b := T2.setTop (mkF m 24 #[.val (.ref x), .val (.int (3 : Int32)), .val (.int pl), .val (.int (3 : Int32)), .val (.int (0 : Int32)), .unset, .unset] [(.int (0 : Int32))])) (fun t k => XS.iload X2.here hx rfl (hb hby d12_22) rfl k) ?_
    refine own_step (b := T2.setTop (mkF m 25 #[.val (.ref x), .val (.int (3 : Int32)), .val (.int pl), .val (.int (0 : Int32)), .val (.int (0 : Int32)), .unset, .unset] [])) (fun t k => XS.istoreN X2.here hx rfl (hb hby d12_24) rfl (l' := #[.val (.ref x), .val (.int (3 : Int32)), .val (.int pl), .val (.int (0 : Int32)), .val (.int (0 : Int32)), .unset, .unset]) rfl k) ?_
    refine own_step (b := T2.setTop (mkF m 34 #[.val (.ref x), .val (.int (3 : Int32)), .val (.int pl), .val (.int (0 : Int32)), .val (.int (0 : Int32)), .unset, .unset] [])) (fun t k => XS.goto X2.here hx rfl (pc0 := 25) (pc' := 34) rfl (hb hby d12_25) (by decide) (by decide) k) ?_
    refine own_step (b := T2.setTop (mkF m 35 #[.val (.ref x), .val (.int (3 : Int32)), .val (.int pl), .val (.int (0 : Int32)), .val (.int (0 : Int32)), .unset, .unset] [(.int (0 : Int32))])) (fun t k => XS.iloadN X2.here hx rfl (hb hby d12_34) rfl k) ?_
    refine own_step (b := T2.setTop (mkF m 36 #[.val (.ref x), .val (.int (3 : Int32)), .val (.int pl), .val (.int (0 : Int32)), .val (.int (0 : Int32)), .unset, .unset] [(.int (3 : Int32)), (.int (0 : Int32))])) (fun t k => XS.iloadN X2.here hx rfl (hb hby d12_35) rfl k) ?_
    refine own_icmp_ne X2 hx (hb hby d12_36) (pc' := 43) (by decide) (by decide) (fun c36_45 => ?_) (fun c36_45 => absurd c36_45 (by decide))
    show own_G p e below _ (T2.setTop (mkF m 43 #[.val (.ref x), .val (.int (3 : Int32)), .val (.int pl), .val (.int (0 : Int32)), .val (.int (0 : Int32)), .unset, .unset] []))
    refine own_step (b := T2.setTop (mkF m 44 #[.val (.ref x), .val (.int (3 : Int32)), .val (.int pl), .val (.int (0 : Int32)), .val (.int (0 : Int32)), .unset, .unset] [(.int (3 : Int32))])) (fun t k => XS.iloadN X2.here hx rfl (hb hby d12_43) rfl k) ?_
    refine own_step (b := T2.setTop (mkF m 45 #[.val (.ref x), .val (.int (3 : Int32)), .val (.int pl), .val (.int (0 : Int32)), .val (.int (0 : Int32)), .unset, .unset] [(.int (0 : Int32)), (.int (3 : Int32))])) (fun t k => XS.iloadN X2.here hx rfl (hb hby d12_44) rfl k) ?_
    refine own_step (b := T2.setTop (mkF m 46 #[.val (.ref x), .val (.int (3 : Int32)), .val (.int pl), .val (.int (0 : Int32)), .val (.int (0 : Int32)), .unset, .unset] [(.int (3 : Int32))])) (fun t k => XS.isub X2.here hx rfl (hb hby d12_45) rfl k) ?_
    refine own_step (b := T2.setTop (mkF m 47 #[.val (.ref x), .val (.int (3 : Int32)), .val (.int pl), .val (.int (0 : Int32)), .val (.int (0 : Int32)), .unset, .unset] [(.int (1 : Int32)), (.int (3 : Int32))])) (fun t k => XS.iconst X2.here hx rfl (hb hby d12_46) k) ?_
    refine own_step (b := T2.setTop (mkF m 48 #[.val (.ref x), .val (.int (3 : Int32)), .val (.int pl), .val (.int (0 : Int32)), .val (.int (0 : Int32)), .unset, .unset] [(.int (2 : Int32))])) (fun t k => XS.isub X2.here hx rfl (hb hby d12_47) rfl k) ?_
    refine own_step (b := T2.setTop (mkF m 50 #[.val (.ref x), .val (.int (3 : Int32)), .val (.int pl), .val (.int (0 : Int32)), .val (.int (2 : Int32)), .unset, .unset] [])) (fun t k => XS.istore X2.here hx rfl (hb hby d12_48) rfl (l' := #[.val (.ref x), .val (.int (3 : Int32)), .val (.int pl), .val (.int (0 : Int32)), .val (.int (2 : Int32)), .unset, .unset]) rfl k) ?_
    refine own_step (b := T2.setTop (mkF m 51 #[.val (.ref x), .val (.int (3 : Int32)), .val (.int pl), .val (.int (0 : Int32)), .val (.int (2 : Int32)), .unset, .unset] [(.int (0 : Int32))])) (fun t k => XS.iloadN X2.here hx rfl (hb hby d12_50) rfl k) ?_
    refine own_step (b := T2.setTop (mkF m 52 #[.val (.ref x), .val (.int (3 : Int32)), .val (.int pl), .val (.int (0 : Int32)), .val (.int (2 : Int32)), .unset, .unset] [(.int (1 : Int32)), (.int (0 : Int32))])) (fun t k => XS.iconst X2.here hx rfl (hb hby d12_51) k) ?_
    refine own_icmp_le X2 hx (hb hby d12_52) (pc' := 69) (by decide) (by decide) (fun c52_46 => ?_) (fun c52_46 => absurd c52_46 (by decide))
    show own_G p e below _ (T2.setTop (mkF m 69 #[.val (.ref x), .val (.int (3 : Int32)), .val (.int pl), .val (.int (0 : Int32)), .val (.int (2 : Int32)), .unset, .unset] []))
    refine own_step (b := T2.setTop (mkF m 70 #[.val (.ref x), .val (.int (3 : Int32)), .val (.int pl), .val (.int (0 : Int32)), .val (.int (2 : Int32)), .unset, .unset] [(.int (0 : Int32))])) (fun t k => XS.iconst X2.here hx rfl (hb hby d12_69) k) ?_
    refine own_step (b := T2.setTop (mkF m 72 #[.val (.ref x), .val (.int (3 : Int32)), .val (.int pl), .val (.int (0 : Int32)), .val (.int (2 : Int32)), .val (.int (0 : Int32)), .unset] [])) (fun t k => XS.istore X2.here hx rfl (hb hby d12_70) rfl (l' := #[.val (.ref x), .val (.int (3 : Int32)), .val (.int pl), .val (.int (0 : Int32)), .val (.int (2 : Int32)), .val (.int (0 : Int32)), .unset]) rfl k) ?_
    refine own_step (b := T2.setTop (mkF m 73 #[.val (.ref x), .val (.int (3 : Int32)), .val (.int pl), .val (.int (0 : Int32)), .val (.int (2 : Int32)), .val (.int (0 : Int32)), .unset] [(.int (0 : Int32))])) (fun t k => XS.iloadN X2.here hx rfl (hb hby d12_72) rfl k) ?_
    refine own_if_le X2 hx (hb hby d12_73) (pc' := 121) (by decide) (by decide) (fun c73_47 => ?_) (fun c73_47 => absurd c73_47 (by decide))
    show own_G p e below _ (T2.setTop (mkF m 121 #[.val (.ref x), .val (.int (3 : Int32)), .val (.int pl), .val (.int (0 : Int32)), .val (.int (2 : Int32)), .val (.int (0 : Int32)), .unset] []))
    refine own_step (b := T2.setTop (mkF m 122 #[.val (.ref x), .val (.int (3 : Int32)), .val (.int pl), .val (.int (0 : Int32)), .val (.int (2 : Int32)), .val (.int (0 : Int32)), .unset] [(.int (0 : Int32))])) (fun t k => XS.iconst X2.here hx rfl (hb hby d12_121) k) ?_
    refine own_step (b := T2.setTop (mkF m 124 #[.val (.ref x), .val (.int (3 : Int32)), .val (.int pl), .val (.int (0 : Int32)), .val (.int (2 : Int32)), .val (.int (0 : Int32)), .val (.int (0 : Int32))] [])) (fun t k => XS.istore X2.here hx rfl (hb hby d12_122) rfl (l' := #[.val (.ref x), .val (.int (3 : Int32)), .val (.int pl), .val (.int (0 : Int32)), .val (.int (2 : Int32)), .val (.int (0 : Int32)), .val (.int (0 : Int32))]) rfl k) ?_
    refine own_step (b := T2.setTop (mkF m 126 #[.val (.ref x), .val (.int (3 : Int32)), .val (.int pl), .val (.int (0 : Int32)), .val (.int (2 : Int32)), .val (.int (0 : Int32)), .val (.int (0 : Int32))] [(.int (0 : Int32))])) (fun t k => XS.iload X2.here hx rfl (hb hby d12_124) rfl k) ?_
    exact own_retN X2 hx hret (by simp) hlk (hb hby d12_126) ⟨by rw [show (if c0 = 46 then false else (if c1 = 46 then ((own_dig c0) && !decide (pl < 1) && (own_dig c2)) else (if c2 = 46 then false else (!decide (c0 = 48) && (own_dig c0 && own_dig c1 && own_dig c2))))) = false by simp [c19_3, own_dig46]]; rfl, rfl, hh2⟩ (by decide) (by decide)
set_option maxRecDepth 65536 in
set_option maxHeartbeats 40000000 in
theorem rmMat_4 (l : Launch) (Z : State) (a0 : Array Value) (hw : ∀ d ∈ tables_1, d.before a0 Z = true) (ws : List Jvm.Cond) (pl : Int32) (x : Addr) (c0 c1 c2 c3 : Int32) (h0 : Heap) (SS : own_Str Z h0 x [c0, c1, c2, c3]) (OL0 : Old Z Z.heap.size h0) (G1 : Int32) (O2 : Sta Z Z.heap "java/lang/String" "COMPACT_STRINGS" "Z" (.int G1)) (P5 : ¬ (G1 = (0 : Int32))) (G3 : Value) (O4 : Sta Z Z.heap "jdk/internal/util/Preconditions" "SIOOBE_FORMATTER" "Ljava/util/function/BiFunction;" G3) (rG3 : G3.isRef = true) :
    own_Met l Z (⟨"com/example/drawdown/drawdown/PlainDecimal", "matches", "(Ljava/lang/String;II)Z"⟩ : MethodName) prog_8_method_2_code 7 (some .boolean) ws ⟨5, 0, 0, 69⟩ #[(.ref x), (.int (4 : Int32)), (.int pl)] h0 (own_P (some (.int (own_bi (if c0 = 46 then false else (if c1 = 46 then ((own_dig c0) && !decide (pl < 2) && (own_dig c2 && own_dig c3)) else (if c2 = 46 then ((!decide (c0 = 48) && (own_dig c0 && own_dig c1)) && !decide (pl < 1) && (own_dig c3)) else (if c3 = 46 then false else (!decide (c0 = 48) && (own_dig c0 && own_dig c1 && own_dig c2 && own_dig c3))))))))) h0) := by
  refine own_enter (plainFor_of_name pn1) (fun m => ef_mat m x (4 : Int32) pl) ?_
  intro p e s m below meth c T0 hx hby hml hZ hown hnm hret hlk X0 e0
  show own_G p e below _ (T0.setTop (mkF m 0 #[.val (.ref x), .val (.int (4 : Int32)), .val (.int pl), .unset, .unset, .unset, .unset] []))
  refine own_step (b := T0.setTop (mkF m 1 #[.val (.ref x), .val (.int (4 : Int32)), .val (.int pl), .unset, .unset, .unset, .unset] [(.int (4 : Int32))])) (fun t k => XS.iloadN X0.here hx rfl (hb hby d12_0) rfl k) ?_
  refine own_step (b := T0.setTop (mkF m 2 #[.val (.ref x), .val (.int (4 : Int32)), .val (.int pl), .val (.int (4 : Int32)), .unset, .unset, .unset] [])) (fun t k => XS.istoreN X0.here hx rfl (hb hby d12_1) rfl (l' := #[.val (.ref x), .val (.int (4 : Int32)), .val (.int pl), .val (.int (4 : Int32)), .unset, .unset, .unset]) rfl k) ?_
  refine own_step (b := T0.setTop (mkF m 3 #[.val (.ref x), .val (.int (4 : Int32)), .val (.int pl), .val (.int (4 : Int32)), .unset, .unset, .unset] [(.int (0 : Int32))])) (fun t k => XS.iconst X0.here hx rfl (hb hby d12_2) k) ?_
  refine own_step (b := T0.setTop (mkF m 5 #[.val (.ref x), .val (.int (4 : Int32)), .val (.int pl), .val (.int (4 : Int32)), .val (.int (0 : Int32)), .unset, .unset] [])) (fun t k => XS.istore X0.here hx rfl (hb hby d12_3) rfl (l' := #[.val (.ref x), .val (.int (4 : Int32)), .val (.int pl), .val (.int (4 : Int32)), .val (.int (0 : Int32)), .unset, .unset]) rfl k) ?_
  refine own_step (b := T0.setTop (mkF m 7 #[.val (.ref x), .val (.int (4 : Int32)), .val (.int pl), .val (.int (4 : Int32)), .val (.int (0 : Int32)), .unset, .unset] [(.int (0 : Int32))])) (fun t k => XS.iload X0.here hx rfl (hb hby d12_5) rfl k) ?_
  refine own_step (b := T0.setTop (mkF m 8 #[.val (.ref x), .val (.int (4 : Int32)), .val (.int pl), .val (.int (4 : Int32)), .val (.int (0 : Int32)), .unset, .unset] [(.int (4 : Int32)), (.int (0 : Int32))])) (fun t k => XS.iloadN X0.here hx rfl (hb hby d12_7) rfl k) ?_
  refine own_icmp_ge X0 hx (hb hby d12_8) (pc' := 34) (by decide) (by decide) (fun c8_1 => absurd c8_1 (by decide)) (fun c8_1 => ?_)
  show own_G p e below _ (T0.setTop (mkF m 11 #[.val (.ref x), .val (.int (4 : Int32)), .val (.int pl), .val (.int (4 : Int32)), .val (.int (0 : Int32)), .unset, .unset] []))
  refine own_step (b := T0.setTop (mkF m 12 #[.val (.ref x), .val (.int (4 : Int32)), .val (.int pl), .val (.int (4 : Int32)), .val (.int (0 : Int32)), .unset, .unset] [(.ref x)])) (fun t k => XS.aloadN X0.here hx rfl (hb hby d12_11) rfl rfl k) ?_
  refine own_step (b := T0.setTop (mkF m 14 #[.val (.ref x), .val (.int (4 : Int32)), .val (.int pl), .val (.int (4 : Int32)), .val (.int (0 : Int32)), .unset, .unset] [(.int (0 : Int32)), (.ref x)])) (fun t k => XS.iload X0.here hx rfl (hb hby d12_12) rfl k) ?_
  refine own_virtual (a := x) (W := 0) (argsL := [(.int (0 : Int32))]) (st := []) X0 hx hZ hown (own_w hw 51 rfl) (own_w hw 52 rfl) (own_w hw 54 rfl) rfl (own_w hw 53 rfl) (by decide) e0 SS.1 (own_chB (W := 0) hZ hw (kI := 4) (own_w hw 6 rfl) SS O2 P5 O4 rG3 OL0 0 (Nat.le_of_ble_eq_true rfl) (j := (0 : Int32)) rfl (r := c0) rfl (by decide) (by decide)) (by decide) (by decide) (by rw [hml]; rfl) (lenOf pd3 rfl) rfl (Nat.le_of_ble_eq_true rfl) (hb hby d12_14) (fun v2 T2 L2 X2 hQ2 => ?_)
  obtain ⟨rfl, rfl, hh2⟩ := hQ2
  rw [List.append_nil] at X2
  show own_G p e below _ (T2.setTop (mkF m 17 #[.val (.ref x), .val (.int (4 : Int32)), .val (.int pl), .val (.int (4 : Int32)), .val (.int (0 : Int32)), .unset, .unset] [(.int c0)]))
  refine own_step (b := T2.setTop (mkF m 19 #[.val (.ref x), .val (.int (4 : Int32)), .val (.int pl), .val (.int (4 : Int32)), .val (.int (0 : Int32)), .unset, .unset] [(.int (46 : Int32)), (.int c0)])) (fun t k => XS.bipush X2.here hx rfl (hb hby d12_17) k) ?_
  refine own_icmp_ne X2 hx (hb hby d12_19) (pc' := 28) (by decide) (by decide) (fun c19_3 => ?_) (fun c19_3 => ?_)
  · show own_G p e below _ (T2.setTop (mkF m 28 #[.val (.ref x), .val (.int (4 : Int32)), .val (.int pl), .val (.int (4 : Int32)), .val (.int (0 : Int32)), .unset, .unset] []))
    refine own_step (b := T2.setTop (mkF m 31 #[.val (.ref x), .val (.int (4 : Int32)), .val (.int pl), .val (.int (4 : Int32)), .val (.int (1 : Int32)), .unset, .unset] [])) (fun t k => XS.iinc X2.here hx rfl (hb hby d12_28) rfl (l' := #[.val (.ref x), .val (.int (4 : Int32)), .val (.int pl), .val (.int (4 : Int32)), .val (.int (1 : Int32)), .unset, .unset]) rfl k) ?_
    refine own_step (b := T2.setTop (mkF m 5 #[.val (.ref x), .val (.int (4 : Int32)), .val (.int pl), .val (.int (4 : Int32)), .val (.int (1 : Int32)), .unset, .unset] [])) (fun t k => XS.goto X2.here hx rfl (pc0 := 31) (pc' := 5) rfl (hb hby d12_31) (by decide) (by decide) k) ?_
    refine own_step (b := T2.setTop (mkF m 7 #[.val (.ref x), .val (.int (4 : Int32)), .val (.int pl), .val (.int (4 : Int32)), .val (.int (1 : Int32)), .unset, .unset] [(.int (1 : Int32))])) (fun t k => XS.iload X2.here hx rfl (hb hby d12_5) rfl k) ?_
    refine own_step (b := T2.setTop (mkF m 8 #[.val (.ref x), .val (.int (4 : Int32)), .val (.int pl), .val (.int (4 : Int32)), .val (.int (1 : Int32)), .unset, .unset] [(.int (4 : Int32)), (.int (1 : Int32))])) (fun t k => XS.iloadN X2.here hx rfl (hb hby d12_7) rfl k) ?_
    refine own_icmp_ge X2 hx (hb hby d12_8) (pc' := 34) (by decide) (by decide) (fun c8_4 => absurd c8_4 (by decide)) (fun c8_4 => ?_)
    show own_G p e below _ (T2.setTop (mkF m 11 #[.val (.ref x), .val (.int (4 : Int32)), .val (.int pl), .val (.int (4 : Int32)), .val (.int (1 : Int32)), .unset, .unset] []))
    refine own_step (b := T2.setTop (mkF m 12 #[.val (.ref x), .val (.int (4 : Int32)), .val (.int pl), .val (.int (4 : Int32)), .val (.int (1 : Int32)), .unset, .unset] [(.ref x)])) (fun t k => XS.aloadN X2.here hx rfl (hb hby d12_11) rfl rfl k) ?_
    refine own_step (b := T2.setTop (mkF m 14 #[.val (.ref x), .val (.int (4 : Int32)), .val (.int pl), .val (.int (4 : Int32)), .val (.int (1 : Int32)), .unset, .unset] [(.int (1 : Int32)), (.ref x)])) (fun t k => XS.iload X2.here hx rfl (hb hby d12_12) rfl k) ?_
    refine own_virtual (a := x) (W := 0) (argsL := [(.int (1 : Int32))]) (st := []) X2 hx hZ hown (own_w hw 51 rfl) (own_w hw 52 rfl) (own_w hw 54 rfl) rfl (own_w hw 53 rfl) (by decide) hh2 SS.1 (own_chB (W := 0) hZ hw (kI := 4) (own_w hw 6 rfl) SS O2 P5 O4 rG3 OL0 1 (Nat.le_of_ble_eq_true rfl) (j := (1 : Int32)) rfl (r := c1) rfl (by decide) (by decide)) (by decide) (by decide) (by rw [hml]; rfl) (lenOf pd3 rfl) rfl (Nat.le_of_ble_eq_true rfl) (hb hby d12_14) (fun v5 T5 L5 X5 hQ5 => ?_)
    obtain ⟨rfl, rfl, hh5⟩ := hQ5
    rw [List.append_nil] at X5
    show own_G p e below _ (T5.setTop (mkF m 17 #[.val (.ref x), .val (.int (4 : Int32)), .val (.int pl), .val (.int (4 : Int32)), .val (.int (1 : Int32)), .unset, .unset] [(.int c1)]))
    refine own_step (b := T5.setTop (mkF m 19 #[.val (.ref x), .val (.int (4 : Int32)), .val (.int pl), .val (.int (4 : Int32)), .val (.int (1 : Int32)), .unset, .unset] [(.int (46 : Int32)), (.int c1)])) (fun t k => XS.bipush X5.here hx rfl (hb hby d12_17) k) ?_
    refine own_icmp_ne X5 hx (hb hby d12_19) (pc' := 28) (by decide) (by decide) (fun c19_6 => ?_) (fun c19_6 => ?_)
    · show own_G p e below _ (T5.setTop (mkF m 28 #[.val (.ref x), .val (.int (4 : Int32)), .val (.int pl), .val (.int (4 : Int32)), .val (.int (1 : Int32)), .unset, .unset] []))
      refine own_step (b := T5.setTop (mkF m 31 #[.val (.ref x), .val (.int (4 : Int32)), .val (.int pl), .val (.int (4 : Int32)), .val (.int (2 : Int32)), .unset, .unset] [])) (fun t k => XS.iinc X5.here hx rfl (hb hby d12_28) rfl (l' := #[.val (.ref x), .val (.int (4 : Int32)), .val (.int pl), .val (.int (4 : Int32)), .val (.int (2 : Int32)), .unset, .unset]) rfl k) ?_
      refine own_step (b := T5.setTop (mkF m 5 #[.val (.ref x), .val (.int (4 : Int32)), .val (.int pl), .val (.int (4 : Int32)), .val (.int (2 : Int32)), .unset, .unset] [])) (fun t k => XS.goto X5.here hx rfl (pc0 := 31) (pc' := 5) rfl (hb hby d12_31) (by decide) (by decide) k) ?_
      refine own_step (b := T5.setTop (mkF m 7 #[.val (.ref x), .val (.int (4 : Int32)), .val (.int pl), .val (.int (4 : Int32)), .val (.int (2 : Int32)), .unset, .unset] [(.int (2 : Int32))])) (fun t k => XS.iload X5.here hx rfl (hb hby d12_5) rfl k) ?_
      refine own_step (b := T5.setTop (mkF m 8 #[.val (.ref x), .val (.int (4 : Int32)), .val (.int pl), .val (.int (4 : Int32)), .val (.int (2 : Int32)), .unset, .unset] [(.int (4 : Int32)), (.int (2 : Int32))])) (fun t k => XS.iloadN X5.here hx rfl (hb hby d12_7) rfl k) ?_
      refine own_icmp_ge X5 hx (hb hby d12_8) (pc' := 34) (by decide) (by decide) (fun c8_7 => absurd c8_7 (by decide)) (fun c8_7 => ?_)
      show own_G p e below _ (T5.setTop (mkF m 11 #[.val (.ref x), .val (.int (4 : Int32)), .val (.int pl), .val (.int (4 : Int32)), .val (.int (2 : Int32)), .unset, .unset] []))
      refine own_step (b := T5.setTop (mkF m 12 #[.val (.ref x), .val (.int (4 : Int32)), .val (.int pl), .val (.int (4 : Int32)), .val (.int (2 : Int32)), .unset, .unset] [(.ref x)])) (fun t k => XS.aloadN X5.here hx rfl (hb hby d12_11) rfl rfl k) ?_
      refine own_step (b := T5.setTop (mkF m 14 #[.val (.ref x), .val (.int (4 : Int32)), .val (.int pl), .val (.int (4 : Int32)), .val (.int (2 : Int32)), .unset, .unset] [(.int (2 : Int32)), (.ref x)])) (fun t k => XS.iload X5.here hx rfl (hb hby d12_12) rfl k) ?_
      refine own_virtual (a := x) (W := 0) (argsL := [(.int (2 : Int32))]) (st := []) X5 hx hZ hown (own_w hw 51 rfl) (own_w hw 52 rfl) (own_w hw 54 rfl) rfl (own_w hw 53 rfl) (by decide) hh5 SS.1 (own_chB (W := 0) hZ hw (kI := 4) (own_w hw 6 rfl) SS O2 P5 O4 rG3 OL0 2 (Nat.le_of_ble_eq_true rfl) (j := (2 : Int32)) rfl (r := c2) rfl (by decide) (by decide)) (by decide) (by decide) (by rw [hml]; rfl) (lenOf pd3 rfl) rfl (Nat.le_of_ble_eq_true rfl) (hb hby d12_14) (fun v8 T8 L8 X8 hQ8 => ?_)
      obtain ⟨rfl, rfl, hh8⟩ := hQ8
      rw [List.append_nil] at X8
      show own_G p e below _ (T8.setTop (mkF m 17 #[.val (.ref x), .val (.int (4 : Int32)), .val (.int pl), .val (.int (4 : Int32)), .val (.int (2 : Int32)), .unset, .unset] [(.int c2)]))
      refine own_step (b := T8.setTop (mkF m 19 #[.val (.ref x), .val (.int (4 : Int32)), .val (.int pl), .val (.int (4 : Int32)), .val (.int (2 : Int32)), .unset, .unset] [(.int (46 : Int32)), (.int c2)])) (fun t k => XS.bipush X8.here hx rfl (hb hby d12_17) k) ?_
      refine own_icmp_ne X8 hx (hb hby d12_19) (pc' := 28) (by decide) (by decide) (fun c19_9 => ?_) (fun c19_9 => ?_)
      · show own_G p e below _ (T8.setTop (mkF m 28 #[.val (.ref x), .val (.int (4 : Int32)), .val (.int pl), .val (.int (4 : Int32)), .val (.int (2 : Int32)), .unset, .unset] []))
        refine own_step (b := T8.setTop (mkF m 31 #[.val (.ref x), .val (.int (4 : Int32)), .val (.int pl), .val (.int (4 : Int32)), .val (.int (3 : Int32)), .unset, .unset] [])) (fun t k => XS.iinc X8.here hx rfl (hb hby d12_28) rfl (l' := #[.val (.ref x), .val (.int (4 : Int32)), .val (.int pl), .val (.int (4 : Int32)), .val (.int (3 : Int32)), .unset, .unset]) rfl k) ?_
        refine own_step (b := T8.setTop (mkF m 5 #[.val (.ref x), .val (.int (4 : Int32)), .val (.int pl), .val (.int (4 : Int32)), .val (.int (3 : Int32)), .unset, .unset] [])) (fun t k => XS.goto X8.here hx rfl (pc0 := 31) (pc' := 5) rfl (hb hby d12_31) (by decide) (by decide) k) ?_
        refine own_step (b := T8.setTop (mkF m 7 #[.val (.ref x), .val (.int (4 : Int32)), .val (.int pl), .val (.int (4 : Int32)), .val (.int (3 : Int32)), .unset, .unset] [(.int (3 : Int32))])) (fun t k => XS.iload X8.here hx rfl (hb hby d12_5) rfl k) ?_
        refine own_step (b := T8.setTop (mkF m 8 #[.val (.ref x), .val (.int (4 : Int32)), .val (.int pl), .val (.int (4 : Int32)), .val (.int (3 : Int32)), .unset, .unset] [(.int (4 : Int32)), (.int (3 : Int32))])) (fun t k => XS.iloadN X8.here hx rfl (hb hby d12_7) rfl k) ?_
        refine own_icmp_ge X8 hx (hb hby d12_8) (pc' := 34) (by decide) (by decide) (fun c8_10 => absurd c8_10 (by decide)) (fun c8_10 => ?_)
        show own_G p e below _ (T8.setTop (mkF m 11 #[.val (.ref x), .val (.int (4 : Int32)), .val (.int pl), .val (.int (4 : Int32)), .val (.int (3 : Int32)), .unset, .unset] []))
        refine own_step (b := T8.setTop (mkF m 12 #[.val (.ref x), .val (.int (4 : Int32)), .val (.int pl), .val (.int (4 : Int32)), .val (.int (3 : Int32)), .unset, .unset] [(.ref x)])) (fun t k => XS.aloadN X8.here hx rfl (hb hby d12_11) rfl rfl k) ?_
        refine own_step (b := T8.setTop (mkF m 14 #[.val (.ref x), .val (.int (4 : Int32)), .val (.int pl), .val (.int (4 : Int32)), .val (.int (3 : Int32)), .unset, .unset] [(.int (3 : Int32)), (.ref x)])) (fun t k => XS.iload X8.here hx rfl (hb hby d12_12) rfl k) ?_
        refine own_virtual (a := x) (W := 0) (argsL := [(.int (3 : Int32))]) (st := []) X8 hx hZ hown (own_w hw 51 rfl) (own_w hw 52 rfl) (own_w hw 54 rfl) rfl (own_w hw 53 rfl) (by decide) hh8 SS.1 (own_chB (W := 0) hZ hw (kI := 4) (own_w hw 6 rfl) SS O2 P5 O4 rG3 OL0 3 (Nat.le_of_ble_eq_true rfl) (j := (3 : Int32)) rfl (r := c3) rfl (by decide) (by decide)) (by decide) (by decide) (by rw [hml]; rfl) (lenOf pd3 rfl) rfl (Nat.le_of_ble_eq_true rfl) (hb hby d12_14) (fun v11 T11 L11 X11 hQ11 => ?_)
        obtain ⟨rfl, rfl, hh11⟩ := hQ11
        rw [List.append_nil] at X11
        show own_G p e below _ (T11.setTop (mkF m 17 #[.val (.ref x), .val (.int (4 : Int32)), .val (.int pl), .val (.int (4 : Int32)), .val (.int (3 : Int32)), .unset, .unset] [(.int c3)]))
        refine own_step (b := T11.setTop (mkF m 19 #[.val (.ref x), .val (.int (4 : Int32)), .val (.int pl), .val (.int (4 : Int32)), .val (.int (3 : Int32)), .unset, .unset] [(.int (46 : Int32)), (.int c3)])) (fun t k => XS.bipush X11.here hx rfl (hb hby d12_17) k) ?_
        refine own_icmp_ne X11 hx (hb hby d12_19) (pc' := 28) (by decide) (by decide) (fun c19_12 => ?_) (fun c19_12 => ?_)
        · show own_G p e below _ (T11.setTop (mkF m 28 #[.val (.ref x), .val (.int (4 : Int32)), .val (.int pl), .val (.int (4 : Int32)), .val (.int (3 : Int32)), .unset, .unset] []))
          refine own_step (b := T11.setTop (mkF m 31 #[.val (.ref x), .val (.int (4 : Int32)), .val (.int pl), .val (.int (4 : Int32)), .val (.int (4 : Int32)), .unset, .unset] [])) (fun t k => XS.iinc X11.here hx rfl (hb hby d12_28) rfl (l' := #[.val (.ref x), .val (.int (4 : Int32)), .val (.int pl), .val (.int (4 : Int32)), .val (.int (4 : Int32)), .unset, .unset]) rfl k) ?_
          refine own_step (b := T11.setTop (mkF m 5 #[.val (.ref x), .val (.int (4 : Int32)), .val (.int pl), .val (.int (4 : Int32)), .val (.int (4 : Int32)), .unset, .unset] [])) (fun t k => XS.goto X11.here hx rfl (pc0 := 31) (pc' := 5) rfl (hb hby d12_31) (by decide) (by decide) k) ?_
          refine own_step (b := T11.setTop (mkF m 7 #[.val (.ref x), .val (.int (4 : Int32)), .val (.int pl), .val (.int (4 : Int32)), .val (.int (4 : Int32)), .unset, .unset] [(.int (4 : Int32))])) (fun t k => XS.iload X11.here hx rfl (hb hby d12_5) rfl k) ?_
          refine own_step (b := T11.setTop (mkF m 8 #[.val (.ref x), .val (.int (4 : Int32)), .val (.int pl), .val (.int (4 : Int32)), .val (.int (4 : Int32)), .unset, .unset] [(.int (4 : Int32)), (.int (4 : Int32))])) (fun t k => XS.iloadN X11.here hx rfl (hb hby d12_7) rfl k) ?_
          refine own_icmp_ge X11 hx (hb hby d12_8) (pc' := 34) (by decide) (by decide) (fun c8_13 => ?_) (fun c8_13 => absurd c8_13 (by decide))
          show own_G p e below _ (T11.setTop (mkF m 34 #[.val (.ref x), .val (.int (4 : Int32)), .val (.int pl), .val (.int (4 : Int32)), .val (.int (4 : Int32)), .unset, .unset] []))
          refine own_step (b := T11.setTop (mkF m 35 #[.val (.ref x), .val (.int (4 : Int32)), .val (.int pl), .val (.int (4 : Int32)), .val (.int (4 : Int32)), .unset, .unset] [(.int (4 : Int32))])) (fun t k => XS.iloadN X11.here hx rfl (hb hby d12_34) rfl k) ?_
          refine own_step (b := T11.setTop (mkF m 36 #[.val (.ref x), .val (.int (4 : Int32)), .val (.int pl), .val (.int (4 : Int32)), .val (.int (4 : Int32)), .unset, .unset] [(.int (4 : Int32)), (.int (4 : Int32))])) (fun t k => XS.iloadN X11.here hx rfl (hb hby d12_35) rfl k) ?_
          refine own_icmp_ne X11 hx (hb hby d12_36) (pc' := 43) (by decide) (by decide) (fun c36_14 => absurd c36_14 (by decide)) (fun c36_14 => ?_)
          show own_G p e below _ (T11.setTop (mkF m 39 #[.val (.ref x), .val (.int (4 : Int32)), .val (.int pl), .val (.int (4 : Int32)), .val (.int (4 : Int32)), .unset, .unset] []))
          refine own_step (b := T11.setTop (mkF m 40 #[.val (.ref x), .val (.int (4 : Int32)), .val (.int pl), .val (.int (4 : Int32)), .val (.int (4 : Int32)), .unset, .unset] [(.int (0 : Int32))])) (fun t k => XS.iconst X11.here hx rfl (hb hby d12_39) k) ?_
          refine own_step (b := T11.setTop (mkF m 48 #[.val (.ref x), .val (.int (4 : Int32)), .val (.int pl), .val (.int (4 : Int32)), .val (.int (4 : Int32)), .unset, .unset] [(.int (0 : Int32))])) (fun t k => XS.goto X11.here hx rfl (pc0 := 40) (pc' := 48) rfl (hb hby d12_40) (by decide) (by decide) k) ?_
          refine own_step (b := T11.setTop (mkF m 50 #[.val (.ref x), .val (.int (4 : Int32)), .val (.int pl), .val (.int (4 : Int32)), .val (.int (0 : Int32)), .unset, .unset] [])) (fun t k => XS.istore X11.here hx rfl (hb hby d12_48) rfl (l' := #[.val (.ref x), .val (.int (4 : Int32)), .val (.int pl), .val (.int (4 : Int32)), .val (.int (0 : Int32)), .unset, .unset]) rfl k) ?_
          refine own_step (b := T11.setTop (mkF m 51 #[.val (.ref x), .val (.int (4 : Int32)), .val (.int pl), .val (.int (4 : Int32)), .val (.int (0 : Int32)), .unset, .unset] [(.int (4 : Int32))])) (fun t k => XS.iloadN X11.here hx rfl (hb hby d12_50) rfl k) ?_
          refine own_step (b := T11.setTop (mkF m 52 #[.val (.ref x), .val (.int (4 : Int32)), .val (.int pl), .val (.int (4 : Int32)), .val (.int (0 : Int32)), .unset, .unset] [(.int (1 : Int32)), (.int (4 : Int32))])) (fun t k => XS.iconst X11.here hx rfl (hb hby d12_51) k) ?_
          refine own_icmp_le X11 hx (hb hby d12_52) (pc' := 69) (by decide) (by decide) (fun c52_15 => absurd c52_15 (by decide)) (fun c52_15 => ?_)
          show own_G p e below _ (T11.setTop (mkF m 55 #[.val (.ref x), .val (.int (4 : Int32)), .val (.int pl), .val (.int (4 : Int32)), .val (.int (0 : Int32)), .unset, .unset] []))
          refine own_step (b := T11.setTop (mkF m 56 #[.val (.ref x), .val (.int (4 : Int32)), .val (.int pl), .val (.int (4 : Int32)), .val (.int (0 : Int32)), .unset, .unset] [(.ref x)])) (fun t k => XS.aloadN X11.here hx rfl (hb hby d12_55) rfl rfl k) ?_
          refine own_step (b := T11.setTop (mkF m 57 #[.val (.ref x), .val (.int (4 : Int32)), .val (.int pl), .val (.int (4 : Int32)), .val (.int (0 : Int32)), .unset, .unset] [(.int (0 : Int32)), (.ref x)])) (fun t k => XS.iconst X11.here hx rfl (hb hby d12_56) k) ?_
          refine own_virtual (a := x) (W := 0) (argsL := [(.int (0 : Int32))]) (st := []) X11 hx hZ hown (own_w hw 51 rfl) (own_w hw 52 rfl) (own_w hw 54 rfl) rfl (own_w hw 53 rfl) (by decide) hh11 SS.1 (own_chB (W := 0) hZ hw (kI := 4) (own_w hw 6 rfl) SS O2 P5 O4 rG3 OL0 0 (Nat.le_of_ble_eq_true rfl) (j := (0 : Int32)) rfl (r := c0) rfl (by decide) (by decide)) (by decide) (by decide) (by rw [hml]; rfl) (lenOf pd3 rfl) rfl (Nat.le_of_ble_eq_true rfl) (hb hby d12_57) (fun v16 T16 L16 X16 hQ16 => ?_)
          obtain ⟨rfl, rfl, hh16⟩ := hQ16
          rw [List.append_nil] at X16
          show own_G p e below _ (T16.setTop (mkF m 60 #[.val (.ref x), .val (.int (4 : Int32)), .val (.int pl), .val (.int (4 : Int32)), .val (.int (0 : Int32)), .unset, .unset] [(.int c0)]))
          refine own_step (b := T16.setTop (mkF m 62 #[.val (.ref x), .val (.int (4 : Int32)), .val (.int pl), .val (.int (4 : Int32)), .val (.int (0 : Int32)), .unset, .unset] [(.int (48 : Int32)), (.int c0)])) (fun t k => XS.bipush X16.here hx rfl (hb hby d12_60) k) ?_
          refine own_icmp_ne X16 hx (hb hby d12_62) (pc' := 69) (by decide) (by decide) (fun c62_17 => ?_) (fun c62_17 => ?_)
          · show own_G p e below _ (T16.setTop (mkF m 69 #[.val (.ref x), .val (.int (4 : Int32)), .val (.int pl), .val (.int (4 : Int32)), .val (.int (0 : Int32)), .unset, .unset] []))
            refine own_step (b := T16.setTop (mkF m 70 #[.val (.ref x), .val (.int (4 : Int32)), .val (.int pl), .val (.int (4 : Int32)), .val (.int (0 : Int32)), .unset, .unset] [(.int (0 : Int32))])) (fun t k => XS.iconst X16.here hx rfl (hb hby d12_69) k) ?_
            refine own_step (b := T16.setTop (mkF m 72 #[.val (.ref x), .val (.int (4 : Int32)), .val (.int pl), .val (.int (4 : Int32)), .val (.int (0 : Int32)), .val (.int (0 : Int32)), .unset] [])) (fun t k => XS.istore X16.here hx rfl (hb hby d12_70) rfl (l' := #[.val (.ref x), .val (.int (4 : Int32)), .val (.int pl), .val (.int (4 : Int32)), .val (.int (0 : Int32)), .val (.int (0 : Int32)), .unset]) rfl k) ?_
            refine own_step (b := T16.setTop (mkF m 73 #[.val (.ref x), .val (.int (4 : Int32)), .val (.int pl), .val (.int (4 : Int32)), .val (.int (0 : Int32)), .val (.int (0 : Int32)), .unset] [(.int (4 : Int32))])) (fun t k => XS.iloadN X16.here hx rfl (hb hby d12_72) rfl k) ?_
            refine own_if_le X16 hx (hb hby d12_73) (pc' := 121) (by decide) (by decide) (fun c73_18 => absurd c73_18 (by decide)) (fun c73_18 => ?_)
            show own_G p e below _ (T16.setTop (mkF m 76 #[.val (.ref x), .val (.int (4 : Int32)), .val (.int pl), .val (.int (4 : Int32)), .val (.int (0 : Int32)), .val (.int (0 : Int32)), .unset] []))
            refine own_step (b := T16.setTop (mkF m 78 #[.val (.ref x), .val (.int (4 : Int32)), .val (.int pl), .val (.int (4 : Int32)), .val (.int (0 : Int32)), .val (.int (0 : Int32)), .unset] [(.int (0 : Int32))])) (fun t k => XS.iload X16.here hx rfl (hb hby d12_76) rfl k) ?_
            refine own_if_ne X16 hx (hb hby d12_78) (pc' := 121) (by decide) (by decide) (fun c78_19 => absurd c78_19 (by decide)) (fun c78_19 => ?_)
            show own_G p e below _ (T16.setTop (mkF m 81 #[.val (.ref x), .val (.int (4 : Int32)), .val (.int pl), .val (.int (4 : Int32)), .val (.int (0 : Int32)), .val (.int (0 : Int32)), .unset] []))
            refine own_step (b := T16.setTop (mkF m 82 #[.val (.ref x), .val (.int (4 : Int32)), .val (.int pl), .val (.int (4 : Int32)), .val (.int (0 : Int32)), .val (.int (0 : Int32)), .unset] [(.ref x)])) (fun t k => XS.aloadN X16.here hx rfl (hb hby d12_81) rfl rfl k) ?_
            refine own_step (b := T16.setTop (mkF m 83 #[.val (.ref x), .val (.int (4 : Int32)), .val (.int pl), .val (.int (4 : Int32)), .val (.int (0 : Int32)), .val (.int (0 : Int32)), .unset] [(.int (0 : Int32)), (.ref x)])) (fun t k => XS.iconst X16.here hx rfl (hb hby d12_82) k) ?_
            refine own_step (b := T16.setTop (mkF m 84 #[.val (.ref x), .val (.int (4 : Int32)), .val (.int pl), .val (.int (4 : Int32)), .val (.int (0 : Int32)), .val (.int (0 : Int32)), .unset] [(.int (4 : Int32)), (.int (0 : Int32)), (.ref x)])) (fun t k => XS.iloadN X16.here hx rfl (hb hby d12_83) rfl k) ?_
            refine own_staticP (W := 0) (argsL := [(.ref x), (.int (0 : Int32)), (.int (4 : Int32))]) (st := []) X16 hx hZ hown (own_w hw 73 rfl) (own_w hw 74 rfl) (own_w hw 49 rfl) (own_w hw 75 rfl) (by decide) hh16 (rmIsd_0_4 l Z a0 hw [] x c0 c1 c2 c3 h0 SS OL0 G1 O2 P5 G3 O4 rG3) (by decide) (by decide) (by decide) (by decide) (by rw [hml]; rfl) (lenOf pd4 rfl) rfl (Nat.le_of_ble_eq_true rfl) (hb hby d12_84) (fun T20 X20 e20 => ?_)
            show own_G p e below _ (T20.setTop (mkF m 87 #[.val (.ref x), .val (.int (4 : Int32)), .val (.int pl), .val (.int (4 : Int32)), .val (.int (0 : Int32)), .val (.int (0 : Int32)), .unset] [(.int (own_bi (own_dig c0 && own_dig c1 && own_dig c2 && own_dig c3)))]))
            refine own_if_eq X20 hx (hb hby d12_87) (pc' := 121) (by decide) (by decide) (fun c87_21 => ?_) (fun c87_21 => ?_)
            · show own_G p e below _ (T20.setTop (mkF m 121 #[.val (.ref x), .val (.int (4 : Int32)), .val (.int pl), .val (.int (4 : Int32)), .val (.int (0 : Int32)), .val (.int (0 : Int32)), .unset] []))
              have c87_21b : (own_dig c0 && own_dig c1 && own_dig c2 && own_dig c3) = false := own_bi_f c87_21
              refine own_step (b := T20.setTop (mkF m 122 #[.val (.ref x), .val (.int (4 : Int32)), .val (.int pl), .val (.int (4 : Int32)), .val (.int (0 : Int32)), .val (.int (0 : Int32)), .unset] [(.int (0 : Int32))])) (fun t k => XS.iconst X20.here hx rfl (hb hby d12_121) k) ?_
              refine own_step (b := T20.setTop (mkF m 124 #[.val (.ref x), .val (.int (4 : Int32)), .val (.int pl), .val (.int (4 : Int32)), .val (.int (0 : Int32)), .val (.int (0 : Int32)), .val (.int (0 : Int32))] [])) (fun t k => XS.istore X20.here hx rfl (hb hby d12_122) rfl (l' := #[.val (.ref x), .val (.int (4 : Int32)), .val (.int pl), .val (.int (4 : Int32)), .val (.int (0 : Int32)), .val (.int (0 : Int32)), .val (.int (0 : Int32))]) rfl k) ?_
              refine own_step (b := T20.setTop (mkF m 126 #[.val (.ref x), .val (.int (4 : Int32)), .val (.int pl), .val (.int (4 : Int32)), .val (.int (0 : Int32)), .val (.int (0 : Int32)), .val (.int (0 : Int32))] [(.int (0 : Int32))])) (fun t k => XS.iload X20.here hx rfl (hb hby d12_124) rfl k) ?_
              exact own_retN X20 hx hret (by simp) hlk (hb hby d12_126) ⟨by rw [show (if c0 = 46 then false else (if c1 = 46 then ((own_dig c0) && !decide (pl < 2) && (own_dig c2 && own_dig c3)) else (if c2 = 46 then ((!decide (c0 = 48) && (own_dig c0 && own_dig c1)) && !decide (pl < 1) && (own_dig c3)) else (if c3 = 46 then false else (!decide (c0 = 48) && (own_dig c0 && own_dig c1 && own_dig c2 && own_dig c3)))))) = false by simp [c19_3, c19_6, c19_9, c19_12, c62_17, c87_21b, own_dig46]]; rfl, rfl, e20⟩ (by decide) (by decide)
            · show own_G p e below _ (T20.setTop (mkF m 90 #[.val (.ref x), .val (.int (4 : Int32)), .val (.int pl), .val (.int (4 : Int32)), .val (.int (0 : Int32)), .val (.int (0 : Int32)), .unset] []))
              have c87_21b : (own_dig c0 && own_dig c1 && own_dig c2 && own_dig c3) = true := own_bi_t c87_21
              refine own_step (b := T20.setTop (mkF m 91 #[.val (.ref x), .val (.int (4 : Int32)), .val (.int pl), .val (.int (4 : Int32)), .val (.int (0 : Int32)), .val (.int (0 : Int32)), .unset] [(.int (4 : Int32))])) (fun t k => XS.iloadN X20.here hx rfl (hb hby d12_90) rfl k) ?_
              refine own_step (b := T20.setTop (mkF m 92 #[.val (.ref x), .val (.int (4 : Int32)), .val (.int pl), .val (.int (4 : Int32)), .val (.int (0 : Int32)), .val (.int (0 : Int32)), .unset] [(.int (4 : Int32)), (.int (4 : Int32))])) (fun t k => XS.iloadN X20.here hx rfl (hb hby d12_91) rfl k) ?_
              refine own_icmp_eq X20 hx (hb hby d12_92) (pc' := 117) (by decide) (by decide) (fun c92_22 => ?_) (fun c92_22 => absurd c92_22 (by decide))
              show own_G p e below _ (T20.setTop (mkF m 117 #[.val (.ref x), .val (.int (4 : Int32)), .val (.int pl), .val (.int (4 : Int32)), .val (.int (0 : Int32)), .val (.int (0 : Int32)), .unset] []))
              refine own_step (b := T20.setTop (mkF m 118 #[.val (.ref x), .val (.int (4 : Int32)), .val (.int pl), .val (.int (4 : Int32)), .val (.int (0 : Int32)), .val (.int (0 : Int32)), .unset] [(.int (1 : Int32))])) (fun t k => XS.iconst X20.here hx rfl (hb hby d12_117) k) ?_
              refine own_step (b := T20.setTop (mkF m 122 #[.val (.ref x), .val (.int (4 : Int32)), .val (.int pl), .val (.int (4 : Int32)), .val (.int (0 : Int32)), .val (.int (0 : Int32)), .unset] [(.int (1 : Int32))])) (fun t k => XS.goto X20.here hx rfl (pc0 := 118) (pc' := 122) rfl (hb hby d12_118) (by decide) (by decide) k) ?_
              refine own_step (b := T20.setTop (mkF m 124 #[.val (.ref x), .val (.int (4 : Int32)), .val (.int pl), .val (.int (4 : Int32)), .val (.int (0 : Int32)), .val (.int (0 : Int32)), .val (.int (1 : Int32))] [])) (fun t k => XS.istore X20.here hx rfl (hb hby d12_122) rfl (l' := #[.val (.ref x), .val (.int (4 : Int32)), .val (.int pl), .val (.int (4 : Int32)), .val (.int (0 : Int32)), .val (.int (0 : Int32)), .val (.int (1 : Int32))]) rfl k) ?_
              refine own_step (b := T20.setTop (mkF m 126 #[.val (.ref x), .val (.int (4 : Int32)), .val (.int pl), .val (.int (4 : Int32)), .val (.int (0 : Int32)), .val (.int (0 : Int32)), .val (.int (1 : Int32))] [(.int (1 : Int32))])) (fun t k => XS.iload X20.here hx rfl (hb hby d12_124) rfl k) ?_
              exact own_retN X20 hx hret (by simp) hlk (hb hby d12_126) ⟨by rw [show (if c0 = 46 then false else (if c1 = 46 then ((own_dig c0) && !decide (pl < 2) && (own_dig c2 && own_dig c3)) else (if c2 = 46 then ((!decide (c0 = 48) && (own_dig c0 && own_dig c1)) && !decide (pl < 1) && (own_dig c3)) else (if c3 = 46 then false else (!decide (c0 = 48) && (own_dig c0 && own_dig c1 && own_dig c2 && own_dig c3)))))) = true by simp [c19_3, c19_6, c19_9, c19_12, c62_17, c87_21b, own_dig46]]; rfl, rfl, e20⟩ (by decide) (by decide)
          · show own_G p e below _ (T16.setTop (mkF m 65 #[.val (.ref x), .val (.int (4 : Int32)), .val (.int pl), .val (.int (4 : Int32)), .val (.int (0 : Int32)), .unset, .unset] []))
            refine own_step (b := T16.setTop (mkF m 66 #[.val (.ref x), .val (.int (4 : Int32)), .val (.int pl), .val (.int (4 : Int32)), .val (.int (0 : Int32)), .unset, .unset] [(.int (1 : Int32))])) (fun t k => XS.iconst X16.here hx rfl (hb hby d12_65) k) ?_
            refine own_step (b := T16.setTop (mkF m 70 #[.val (.ref x), .val (.int (4 : Int32)), .val (.int pl), .val (.int (4 : Int32)), .val (.int (0 : Int32)), .unset, .unset] [(.int (1 : Int32))])) (fun t k => XS.goto X16.here hx rfl (pc0 := 66) (pc' := 70) rfl (hb hby d12_66) (by decide) (by decide) k) ?_
            refine own_step (b := T16.setTop (mkF m 72 #[.val (.ref x), .val (.int (4 : Int32)), .val (.int pl), .val (.int (4 : Int32)), .val (.int (0 : Int32)), .val (.int (1 : Int32)), .unset] [])) (fun t k => XS.istore X16.here hx rfl (hb hby d12_70) rfl (l' := #[.val (.ref x), .val (.int (4 : Int32)), .val (.int pl), .val (.int (4 : Int32)), .val (.int (0 : Int32)), .val (.int (1 : Int32)), .unset]) rfl k) ?_
            refine own_step (b := T16.setTop (mkF m 73 #[.val (.ref x), .val (.int (4 : Int32)), .val (.int pl), .val (.int (4 : Int32)), .val (.int (0 : Int32)), .val (.int (1 : Int32)), .unset] [(.int (4 : Int32))])) (fun t k => XS.iloadN X16.here hx rfl (hb hby d12_72) rfl k) ?_
            refine own_if_le X16 hx (hb hby d12_73) (pc' := 121) (by decide) (by decide) (fun c73_23 => absurd c73_23 (by decide)) (fun c73_23 => ?_)
            show own_G p e below _ (T16.setTop (mkF m 76 #[.val (.ref x), .val (.int (4 : Int32)), .val (.int pl), .val (.int (4 : Int32)), .val (.int (0 : Int32)), .val (.int (1 : Int32)), .unset] []))
            refine own_step (b := T16.setTop (mkF m 78 #[.val (.ref x), .val (.int (4 : Int32)), .val (.int pl), .val (.int (4 : Int32)), .val (.int (0 : Int32)), .val (.int (1 : Int32)), .unset] [(.int (1 : Int32))])) (fun t k => XS.iload X16.here hx rfl (hb hby d12_76) rfl k) ?_
            refine own_if_ne X16 hx (hb hby d12_78) (pc' := 121) (by decide) (by decide) (fun c78_24 => ?_) (fun c78_24 => absurd c78_24 (by decide))
            show own_G p e below _ (T16.setTop (mkF m 121 #[.val (.ref x), .val (.int (4 : Int32)), .val (.int pl), .val (.int (4 : Int32)), .val (.int (0 : Int32)), .val (.int (1 : Int32)), .unset] []))
            refine own_step (b := T16.setTop (mkF m 122 #[.val (.ref x), .val (.int (4 : Int32)), .val (.int pl), .val (.int (4 : Int32)), .val (.int (0 : Int32)), .val (.int (1 : Int32)), .unset] [(.int (0 : Int32))])) (fun t k => XS.iconst X16.here hx rfl (hb hby d12_121) k) ?_
            refine own_step (b := T16.setTop (mkF m 124 #[.val (.ref x), .val (.int (4 : Int32)), .val (.int pl), .val (.int (4 : Int32)), .val (.int (0 : Int32)), .val (.int (1 : Int32)), .val (.int (0 : Int32))] [])) (fun t k => XS.istore X16.here hx rfl (hb hby d12_122) rfl (l' := #[.val (.ref x), .val (.int (4 : Int32)), .val (.int pl), .val (.int (4 : Int32)), .val (.int (0 : Int32)), .val (.int (1 : Int32)), .val (.int (0 : Int32))]) rfl k) ?_
            refine own_step (b := T16.setTop (mkF m 126 #[.val (.ref x), .val (.int (4 : Int32)), .val (.int pl), .val (.int (4 : Int32)), .val (.int (0 : Int32)), .val (.int (1 : Int32)), .val (.int (0 : Int32))] [(.int (0 : Int32))])) (fun t k => XS.iload X16.here hx rfl (hb hby d12_124) rfl k) ?_
            exact own_retN X16 hx hret (by simp) hlk (hb hby d12_126) ⟨by rw [show (if c0 = 46 then false else (if c1 = 46 then ((own_dig c0) && !decide (pl < 2) && (own_dig c2 && own_dig c3)) else (if c2 = 46 then ((!decide (c0 = 48) && (own_dig c0 && own_dig c1)) && !decide (pl < 1) && (own_dig c3)) else (if c3 = 46 then false else (!decide (c0 = 48) && (own_dig c0 && own_dig c1 && own_dig c2 && own_dig c3)))))) = false by simp [c19_3, c19_6, c19_9, c19_12, c62_17, own_dig46]]; rfl, rfl, hh16⟩ (by decide) (by decide)
        · show own_G p e below _ (T11.setTop (mkF m 22 #[.val (.ref x), .val (.int (4 : Int32)), .val (.int pl), .val (.int (4 : Int32)), .val (.int (3 : Int32)), .unset, .unset] []))
          refine own_step (b := T11.setTop (mkF m 24 #[.val (.ref x), .val (.int (4 : Int32)), .val (.int pl), .val (.int (4 : Int32)), .val (.int (3 : Int32)), .unset, .unset] [(.int (3 : Int32))])) (fun t k => XS.iload X11.here hx rfl (hb hby d12_22) rfl k) ?_
          refine own_step (b := T11.setTop (mkF m 25 #[.val (.ref x), .val (.int (4 : Int32)), .val (.int pl), .val (.int (3 : Int32)), .val (.int (3 : Int32)), .unset, .unset] [])) (fun t k => XS.istoreN X11.here hx rfl (hb hby d12_24) rfl (l' := #[.val (.ref x), .val (.int (4 : Int32)), .val (.int pl), .val (.int (3 : Int32)), .val (.int (3 : Int32)), .unset, .unset]) rfl k) ?_
          refine own_step (b := T11.setTop (mkF m 34 #[.val (.ref x), .val (.int (4 : Int32)), .val (.int pl), .val (.int (3 : Int32)), .val (.int (3 : Int32)), .unset, .unset] [])) (fun t k => XS.goto X11.here hx rfl (pc0 := 25) (pc' := 34) rfl (hb hby d12_25) (by decide) (by decide) k) ?_
          refine own_step (b := T11.setTop (mkF m 35 #[.val (.ref x), .val (.int (4 : Int32)), .val (.int pl), .val (.int (3 : Int32)), .val (.int (3 : Int32)), .unset, .unset] [(.int (3 : Int32))])) (fun t k => XS.iloadN X11.here hx rfl (hb hby d12_34) rfl k) ?_
          refine own_step (b := T11.setTop (mkF m 36 #[.val (.ref x), .val (.int (4 : Int32)), .val (.int pl), .val (.int (3 : Int32)), .val (.int (3 : Int32)), .unset, .unset] [(.int (4 : Int32)), (.int (3 : Int32))])) (fun t k => XS.iloadN X11.here hx rfl (hb hby d12_35) rfl k) ?_
          refine own_icmp_ne X11 hx (hb hby d12_36) (pc' := 43) (by decide) (by decide) (fun c36_25 => ?_) (fun c36_25 => absurd c36_25 (by decide))
          show own_G p e below _ (T11.setTop (mkF m 43 #[.val (.ref x), .val (.int (4 : Int32)), .val (.int pl), .val (.int (3 : Int32)), .val (.int (3 : Int32)), .unset, .unset] []))
          refine own_step (b := T11.setTop (mkF m 44 #[.val (.ref x), .val (.int (4 : Int32)), .val (.int pl), .val (.int (3 : Int32)), .val (.int (3 : Int32)), .unset, .unset] [(.int (4 : Int32))])) (fun t k => XS.iloadN X11.here hx rfl (hb hby d12_43) rfl k) ?_
          refine own_step (b := T11.setTop (mkF m 45 #[.val (.ref x), .val (.int (4 : Int32)), .val (.int pl), .val (.int (3 : Int32)), .val (.int (3 : Int32)), .unset, .unset] [(.int (3 : Int32)), (.int (4 : Int32))])) (fun t k => XS.iloadN X11.here hx rfl (hb hby d12_44) rfl k) ?_
          refine own_step (b := T11.setTop (mkF m 46 #[.val (.ref x), .val (.int (4 : Int32)), .val (.int pl), .val (.int (3 : Int32)), .val (.int (3 : Int32)), .unset, .unset] [(.int (1 : Int32))])) (fun t k => XS.isub X11.here hx rfl (hb hby d12_45) rfl k) ?_
          refine own_step (b := T11.setTop (mkF m 47 #[.val (.ref x), .val (.int (4 : Int32)), .val (.int pl), .val (.int (3 : Int32)), .val (.int (3 : Int32)), .unset, .unset] [(.int (1 : Int32)), (.int (1 : Int32))])) (fun t k => XS.iconst X11.here hx rfl (hb hby d12_46) k) ?_
          refine own_step (b := T11.setTop (mkF m 48 #[.val (.ref x), .val (.int (4 : Int32)), .val (.int pl), .val (.int (3 : Int32)), .val (.int (3 : Int32)), .unset, .unset] [(.int (0 : Int32))])) (fun t k => XS.isub X11.here hx rfl (hb hby d12_47) rfl k) ?_
          refine own_step (b := T11.setTop (mkF m 50 #[.val (.ref x), .val (.int (4 : Int32)), .val (.int pl), .val (.int (3 : Int32)), .val (.int (0 : Int32)), .unset, .unset] [])) (fun t k => XS.istore X11.here hx rfl (hb hby d12_48) rfl (l' := #[.val (.ref x), .val (.int (4 : Int32)), .val (.int pl), .val (.int (3 : Int32)), .val (.int (0 : Int32)), .unset, .unset]) rfl k) ?_
          refine own_step (b := T11.setTop (mkF m 51 #[.val (.ref x), .val (.int (4 : Int32)), .val (.int pl), .val (.int (3 : Int32)), .val (.int (0 : Int32)), .unset, .unset] [(.int (3 : Int32))])) (fun t k => XS.iloadN X11.here hx rfl (hb hby d12_50) rfl k) ?_
          refine own_step (b := T11.setTop (mkF m 52 #[.val (.ref x), .val (.int (4 : Int32)), .val (.int pl), .val (.int (3 : Int32)), .val (.int (0 : Int32)), .unset, .unset] [(.int (1 : Int32)), (.int (3 : Int32))])) (fun t k => XS.iconst X11.here hx rfl (hb hby d12_51) k) ?_
          refine own_icmp_le X11 hx (hb hby d12_52) (pc' := 69) (by decide) (by decide) (fun c52_26 => absurd c52_26 (by decide)) (fun c52_26 => ?_)
          show own_G p e below _ (T11.setTop (mkF m 55 #[.val (.ref x), .val (.int (4 : Int32)), .val (.int pl), .val (.int (3 : Int32)), .val (.int (0 : Int32)), .unset, .unset] []))
          refine own_step (b := T11.setTop (mkF m 56 #[.val (.ref x), .val (.int (4 : Int32)), .val (.int pl), .val (.int (3 : Int32)), .val (.int (0 : Int32)), .unset, .unset] [(.ref x)])) (fun t k => XS.aloadN X11.here hx rfl (hb hby d12_55) rfl rfl k) ?_
          refine own_step (b := T11.setTop (mkF m 57 #[.val (.ref x), .val (.int (4 : Int32)), .val (.int pl), .val (.int (3 : Int32)), .val (.int (0 : Int32)), .unset, .unset] [(.int (0 : Int32)), (.ref x)])) (fun t k => XS.iconst X11.here hx rfl (hb hby d12_56) k) ?_
          refine own_virtual (a := x) (W := 0) (argsL := [(.int (0 : Int32))]) (st := []) X11 hx hZ hown (own_w hw 51 rfl) (own_w hw 52 rfl) (own_w hw 54 rfl) rfl (own_w hw 53 rfl) (by decide) hh11 SS.1 (own_chB (W := 0) hZ hw (kI := 4) (own_w hw 6 rfl) SS O2 P5 O4 rG3 OL0 0 (Nat.le_of_ble_eq_true rfl) (j := (0 : Int32)) rfl (r := c0) rfl (by decide) (by decide)) (by decide) (by decide) (by rw [hml]; rfl) (lenOf pd3 rfl) rfl (Nat.le_of_ble_eq_true rfl) (hb hby d12_57) (fun v27 T27 L27 X27 hQ27 => ?_)
          obtain ⟨rfl, rfl, hh27⟩ := hQ27
          rw [List.append_nil] at X27
          show own_G p e below _ (T27.setTop (mkF m 60 #[.val (.ref x), .val (.int (4 : Int32)), .val (.int pl), .val (.int (3 : Int32)), .val (.int (0 : Int32)), .unset, .unset] [(.int c0)]))
          refine own_step (b := T27.setTop (mkF m 62 #[.val (.ref x), .val (.int (4 : Int32)), .val (.int pl), .val (.int (3 : Int32)), .val (.int (0 : Int32)), .unset, .unset] [(.int (48 : Int32)), (.int c0)])) (fun t k => XS.bipush X27.here hx rfl (hb hby d12_60) k) ?_
          refine own_icmp_ne X27 hx (hb hby d12_62) (pc' := 69) (by decide) (by decide) (fun c62_28 => ?_) (fun c62_28 => ?_)
          · show own_G p e below _ (T27.setTop (mkF m 69 #[.val (.ref x), .val (.int (4 : Int32)), .val (.int pl), .val (.int (3 : Int32)), .val (.int (0 : Int32)), .unset, .unset] []))
            refine own_step (b := T27.setTop (mkF m 70 #[.val (.ref x), .val (.int (4 : Int32)), .val (.int pl), .val (.int (3 : Int32)), .val (.int (0 : Int32)), .unset, .unset] [(.int (0 : Int32))])) (fun t k => XS.iconst X27.here hx rfl (hb hby d12_69) k) ?_
            refine own_step (b := T27.setTop (mkF m 72 #[.val (.ref x), .val (.int (4 : Int32)), .val (.int pl), .val (.int (3 : Int32)), .val (.int (0 : Int32)), .val (.int (0 : Int32)), .unset] [])) (fun t k => XS.istore X27.here hx rfl (hb hby d12_70) rfl (l' := #[.val (.ref x), .val (.int (4 : Int32)), .val (.int pl), .val (.int (3 : Int32)), .val (.int (0 : Int32)), .val (.int (0 : Int32)), .unset]) rfl k) ?_
            refine own_step (b := T27.setTop (mkF m 73 #[.val (.ref x), .val (.int (4 : Int32)), .val (.int pl), .val (.int (3 : Int32)), .val (.int (0 : Int32)), .val (.int (0 : Int32)), .unset] [(.int (3 : Int32))])) (fun t k => XS.iloadN X27.here hx rfl (hb hby d12_72) rfl k) ?_
            refine own_if_le X27 hx (hb hby d12_73) (pc' := 121) (by decide) (by decide) (fun c73_29 => absurd c73_29 (by decide)) (fun c73_29 => ?_)
            show own_G p e below _ (T27.setTop (mkF m 76 #[.val (.ref x), .val (.int (4 : Int32)), .val (.int pl), .val (.int (3 : Int32)), .val (.int (0 : Int32)), .val (.int (0 : Int32)), .unset] []))
            refine own_step (b := T27.setTop (mkF m 78 #[.val (.ref x), .val (.int (4 : Int32)), .val (.int pl), .val (.int (3 : Int32)), .val (.int (0 : Int32)), .val (.int (0 : Int32)), .unset] [(.int (0 : Int32))])) (fun t k => XS.iload X27.here hx rfl (hb hby d12_76) rfl k) ?_
            refine own_if_ne X27 hx (hb hby d12_78) (pc' := 121) (by decide) (by decide) (fun c78_30 => absurd c78_30 (by decide)) (fun c78_30 => ?_)
            show own_G p e below _ (T27.setTop (mkF m 81 #[.val (.ref x), .val (.int (4 : Int32)), .val (.int pl), .val (.int (3 : Int32)), .val (.int (0 : Int32)), .val (.int (0 : Int32)), .unset] []))
            refine own_step (b := T27.setTop (mkF m 82 #[.val (.ref x), .val (.int (4 : Int32)), .val (.int pl), .val (.int (3 : Int32)), .val (.int (0 : Int32)), .val (.int (0 : Int32)), .unset] [(.ref x)])) (fun t k => XS.aloadN X27.here hx rfl (hb hby d12_81) rfl rfl k) ?_
            refine own_step (b := T27.setTop (mkF m 83 #[.val (.ref x), .val (.int (4 : Int32)), .val (.int pl), .val (.int (3 : Int32)), .val (.int (0 : Int32)), .val (.int (0 : Int32)), .unset] [(.int (0 : Int32)), (.ref x)])) (fun t k => XS.iconst X27.here hx rfl (hb hby d12_82) k) ?_
            refine own_step (b := T27.setTop (mkF m 84 #[.val (.ref x), .val (.int (4 : Int32)), .val (.int pl), .val (.int (3 : Int32)), .val (.int (0 : Int32)), .val (.int (0 : Int32)), .unset] [(.int (3 : Int32)), (.int (0 : Int32)), (.ref x)])) (fun t k => XS.iloadN X27.here hx rfl (hb hby d12_83) rfl k) ?_
            refine own_staticP (W := 0) (argsL := [(.ref x), (.int (0 : Int32)), (.int (3 : Int32))]) (st := []) X27 hx hZ hown (own_w hw 73 rfl) (own_w hw 74 rfl) (own_w hw 49 rfl) (own_w hw 75 rfl) (by decide) hh27 (rmIsd_0_3 l Z a0 hw [] x c0 c1 c2 c3 h0 SS OL0 G1 O2 P5 G3 O4 rG3) (by decide) (by decide) (by decide) (by decide) (by rw [hml]; rfl) (lenOf pd4 rfl) rfl (Nat.le_of_ble_eq_true rfl) (hb hby d12_84) (fun T31 X31 e31 => ?_)
            show own_G p e below _ (T31.setTop (mkF m 87 #[.val (.ref x), .val (.int (4 : Int32)), .val (.int pl), .val (.int (3 : Int32)), .val (.int (0 : Int32)), .val (.int (0 : Int32)), .unset] [(.int (own_bi (own_dig c0 && own_dig c1 && own_dig c2)))]))
            refine own_if_eq X31 hx (hb hby d12_87) (pc' := 121) (by decide) (by decide) (fun c87_32 => ?_) (fun c87_32 => ?_)
            · show own_G p e below _ (T31.setTop (mkF m 121 #[.val (.ref x), .val (.int (4 : Int32)), .val (.int pl), .val (.int (3 : Int32)), .val (.int (0 : Int32)), .val (.int (0 : Int32)), .unset] []))
              have c87_32b : (own_dig c0 && own_dig c1 && own_dig c2) = false := own_bi_f c87_32
              refine own_step (b := T31.setTop (mkF m 122 #[.val (.ref x), .val (.int (4 : Int32)), .val (.int pl), .val (.int (3 : Int32)), .val (.int (0 : Int32)), .val (.int (0 : Int32)), .unset] [(.int (0 : Int32))])) (fun t k => XS.iconst X31.here hx rfl (hb hby d12_121) k) ?_
              refine own_step (b := T31.setTop (mkF m 124 #[.val (.ref x), .val (.int (4 : Int32)), .val (.int pl), .val (.int (3 : Int32)), .val (.int (0 : Int32)), .val (.int (0 : Int32)), .val (.int (0 : Int32))] [])) (fun t k => XS.istore X31.here hx rfl (hb hby d12_122) rfl (l' := #[.val (.ref x), .val (.int (4 : Int32)), .val (.int pl), .val (.int (3 : Int32)), .val (.int (0 : Int32)), .val (.int (0 : Int32)), .val (.int (0 : Int32))]) rfl k) ?_
              refine own_step (b := T31.setTop (mkF m 126 #[.val (.ref x), .val (.int (4 : Int32)), .val (.int pl), .val (.int (3 : Int32)), .val (.int (0 : Int32)), .val (.int (0 : Int32)), .val (.int (0 : Int32))] [(.int (0 : Int32))])) (fun t k => XS.iload X31.here hx rfl (hb hby d12_124) rfl k) ?_
              exact own_retN X31 hx hret (by simp) hlk (hb hby d12_126) ⟨by rw [show (if c0 = 46 then false else (if c1 = 46 then ((own_dig c0) && !decide (pl < 2) && (own_dig c2 && own_dig c3)) else (if c2 = 46 then ((!decide (c0 = 48) && (own_dig c0 && own_dig c1)) && !decide (pl < 1) && (own_dig c3)) else (if c3 = 46 then false else (!decide (c0 = 48) && (own_dig c0 && own_dig c1 && own_dig c2 && own_dig c3)))))) = false by simp [c19_3, c19_6, c19_9, c19_12, c62_28, c87_32b, own_dig46]]; rfl, rfl, e31⟩ (by decide) (by decide)
            · show own_G p e below _ (T31.setTop (mkF m 90 #[.val (.ref x), .val (.int (4 : Int32)), .val (.int pl), .val (.int (3 : Int32)), .val (.int (0 : Int32)), .val (.int (0 : Int32)), .unset] []))
              have c87_32b : (own_dig c0 && own_dig c1 && own_dig c2) = true := own_bi_t c87_32
              refine own_step (b := T31.setTop (mkF m 91 #[.val (.ref x), .val (.int (4 : Int32)), .val (.int pl), .val (.int (3 : Int32)), .val (.int (0 : Int32)), .val (.int (0 : Int32)), .unset] [(.int (3 : Int32))])) (fun t k => XS.iloadN X31.here hx rfl (hb hby d12_90) rfl k) ?_
              refine own_step (b := T31.setTop (mkF m 92 #[.val (.ref x), .val (.int (4 : Int32)), .val (.int pl), .val (.int (3 : Int32)), .val (.int (0 : Int32)), .val (.int (0 : Int32)), .unset] [(.int (4 : Int32)), (.int (3 : Int32))])) (fun t k => XS.iloadN X31.here hx rfl (hb hby d12_91) rfl k) ?_
              refine own_icmp_eq X31 hx (hb hby d12_92) (pc' := 117) (by decide) (by decide) (fun c92_33 => absurd c92_33 (by decide)) (fun c92_33 => ?_)
              show own_G p e below _ (T31.setTop (mkF m 95 #[.val (.ref x), .val (.int (4 : Int32)), .val (.int pl), .val (.int (3 : Int32)), .val (.int (0 : Int32)), .val (.int (0 : Int32)), .unset] []))
              refine own_step (b := T31.setTop (mkF m 97 #[.val (.ref x), .val (.int (4 : Int32)), .val (.int pl), .val (.int (3 : Int32)), .val (.int (0 : Int32)), .val (.int (0 : Int32)), .unset] [(.int (0 : Int32))])) (fun t k => XS.iload X31.here hx rfl (hb hby d12_95) rfl k) ?_
              refine own_if_le X31 hx (hb hby d12_97) (pc' := 121) (by decide) (by decide) (fun c97_34 => ?_) (fun c97_34 => absurd c97_34 (by decide))
              show own_G p e below _ (T31.setTop (mkF m 121 #[.val (.ref x), .val (.int (4 : Int32)), .val (.int pl), .val (.int (3 : Int32)), .val (.int (0 : Int32)), .val (.int (0 : Int32)), .unset] []))
              refine own_step (b := T31.setTop (mkF m 122 #[.val (.ref x), .val (.int (4 : Int32)), .val (.int pl), .val (.int (3 : Int32)), .val (.int (0 : Int32)), .val (.int (0 : Int32)), .unset] [(.int (0 : Int32))])) (fun t k => XS.iconst X31.here hx rfl (hb hby d12_121) k) ?_
              refine own_step (b := T31.setTop (mkF m 124 #[.val (.ref x), .val (.int (4 : Int32)), .val (.int pl), .val (.int (3 : Int32)), .val (.int (0 : Int32)), .val (.int (0 : Int32)), .val (.int (0 : Int32))] [])) (fun t k => XS.istore X31.here hx rfl (hb hby d12_122) rfl (l' := #[.val (.ref x), .val (.int (4 : Int32)), .val (.int pl), .val (.int (3 : Int32)), .val (.int (0 : Int32)), .val (.int (0 : Int32)), .val (.int (0 : Int32))]) rfl k) ?_
              refine own_step (b := T31.setTop (mkF m 126 #[.val (.ref x), .val (.int (4 : Int32)), .val (.int pl), .val (.int (3 : Int32)), .val (.int (0 : Int32)), .val (.int (0 : Int32)), .val (.int (0 : Int32))] [(.int (0 : Int32))])) (fun t k => XS.iload X31.here hx rfl (hb hby d12_124) rfl k) ?_
              exact own_retN X31 hx hret (by simp) hlk (hb hby d12_126) ⟨by rw [show (if c0 = 46 then false else (if c1 = 46 then ((own_dig c0) && !decide (pl < 2) && (own_dig c2 && own_dig c3)) else (if c2 = 46 then ((!decide (c0 = 48) && (own_dig c0 && own_dig c1)) && !decide (pl < 1) && (own_dig c3)) else (if c3 = 46 then false else (!decide (c0 = 48) && (own_dig c0 && own_dig c1 && own_dig c2 && own_dig c3)))))) = false by simp [c19_3, c19_6, c19_9, c19_12, c62_28, c87_32b, own_dig46]]; rfl, rfl, e31⟩ (by decide) (by decide)
          · show own_G p e below _ (T27.setTop (mkF m 65 #[.val (.ref x), .val (.int (4 : Int32)), .val (.int pl), .val (.int (3 : Int32)), .val (.int (0 : Int32)), .unset, .unset] []))
            refine own_step (b := T27.setTop (mkF m 66 #[.val (.ref x), .val (.int (4 : Int32)), .val (.int pl), .val (.int (3 : Int32)), .val (.int (0 : Int32)), .unset, .unset] [(.int (1 : Int32))])) (fun t k => XS.iconst X27.here hx rfl (hb hby d12_65) k) ?_
            refine own_step (b := T27.setTop (mkF m 70 #[.val (.ref x), .val (.int (4 : Int32)), .val (.int pl), .val (.int (3 : Int32)), .val (.int (0 : Int32)), .unset, .unset] [(.int (1 : Int32))])) (fun t k => XS.goto X27.here hx rfl (pc0 := 66) (pc' := 70) rfl (hb hby d12_66) (by decide) (by decide) k) ?_
            refine own_step (b := T27.setTop (mkF m 72 #[.val (.ref x), .val (.int (4 : Int32)), .val (.int pl), .val (.int (3 : Int32)), .val (.int (0 : Int32)), .val (.int (1 : Int32)), .unset] [])) (fun t k => XS.istore X27.here hx rfl (hb hby d12_70) rfl (l' := #[.val (.ref x), .val (.int (4 : Int32)), .val (.int pl), .val (.int (3 : Int32)), .val (.int (0 : Int32)), .val (.int (1 : Int32)), .unset]) rfl k) ?_
            refine own_step (b := T27.setTop (mkF m 73 #[.val (.ref x), .val (.int (4 : Int32)), .val (.int pl), .val (.int (3 : Int32)), .val (.int (0 : Int32)), .val (.int (1 : Int32)), .unset] [(.int (3 : Int32))])) (fun t k => XS.iloadN X27.here hx rfl (hb hby d12_72) rfl k) ?_
            refine own_if_le X27 hx (hb hby d12_73) (pc' := 121) (by decide) (by decide) (fun c73_35 => absurd c73_35 (by decide)) (fun c73_35 => ?_)
            show own_G p e below _ (T27.setTop (mkF m 76 #[.val (.ref x), .val (.int (4 : Int32)), .val (.int pl), .val (.int (3 : Int32)), .val (.int (0 : Int32)), .val (.int (1 : Int32)), .unset] []))
            refine own_step (b := T27.setTop (mkF m 78 #[.val (.ref x), .val (.int (4 : Int32)), .val (.int pl), .val (.int (3 : Int32)), .val (.int (0 : Int32)), .val (.int (1 : Int32)), .unset] [(.int (1 : Int32))])) (fun t k => XS.iload X27.here hx rfl (hb hby d12_76) rfl k) ?_
            refine own_if_ne X27 hx (hb hby d12_78) (pc' := 121) (by decide) (by decide) (fun c78_36 => ?_) (fun c78_36 => absurd c78_36 (by decide))
            show own_G p e below _ (T27.setTop (mkF m 121 #[.val (.ref x), .val (.int (4 : Int32)), .val (.int pl), .val (.int (3 : Int32)), .val (.int (0 : Int32)), .val (.int (1 : Int32)), .unset] []))
            refine own_step (b := T27.setTop (mkF m 122 #[.val (.ref x), .val (.int (4 : Int32)), .val (.int pl), .val (.int (3 : Int32)), .val (.int (0 : Int32)), .val (.int (1 : Int32)), .unset] [(.int (0 : Int32))])) (fun t k => XS.iconst X27.here hx rfl (hb hby d12_121) k) ?_
            refine own_step (b := T27.setTop (mkF m 124 #[.val (.ref x), .val (.int (4 : Int32)), .val (.int pl), .val (.int (3 : Int32)), .val (.int (0 : Int32)), .val (.int (1 : Int32)), .val (.int (0 : Int32))] [])) (fun t k => XS.istore X27.here hx rfl (hb hby d12_122) rfl (l' := #[.val (.ref x), .val (.int (4 : Int32)), .val (.int pl), .val (.int (3 : Int32)), .val (.int (0 : Int32)), .val (.int (1 : Int32)), .val (.int (0 : Int32))]) rfl k) ?_
            refine own_step (b := T27.setTop (mkF m 126 #[.val (.ref x), .val (.int (4 : Int32)), .val (.int pl), .val (.int (3 : Int32)), .val (.int (0 : Int32)), .val (.int (1 : Int32)), .val (.int (0 : Int32))] [(.int (0 : Int32))])) (fun t k => XS.iload X27.here hx rfl (hb hby d12_124) rfl k) ?_
            exact own_retN X27 hx hret (by simp) hlk (hb hby d12_126) ⟨by rw [show (if c0 = 46 then false else (if c1 = 46 then ((own_dig c0) && !decide (pl < 2) && (own_dig c2 && own_dig c3)) else (if c2 = 46 then ((!decide (c0 = 48) && (own_dig c0 && own_dig c1)) && !decide (pl < 1) && (own_dig c3)) else (if c3 = 46 then false else (!decide (c0 = 48) && (own_dig c0 && own_dig c1 && own_dig c2 && own_dig c3)))))) = false by simp [c19_3, c19_6, c19_9, c19_12, c62_28, own_dig46]]; rfl, rfl, hh27⟩ (by decide) (by decide)
      · show own_G p e below _ (T8.setTop (mkF m 22 #[.val (.ref x), .val (.int (4 : Int32)), .val (.int pl), .val (.int (4 : Int32)), .val (.int (2 : Int32)), .unset, .unset] []))
        refine own_step (b := T8.setTop (mkF m 24 #[.val (.ref x), .val (.int (4 : Int32)), .val (.int pl), .val (.int (4 : Int32)), .val (.int (2 : Int32)), .unset, .unset] [(.int (2 : Int32))])) (fun t k => XS.iload X8.here hx rfl (hb hby d12_22) rfl k) ?_
        refine own_step (b := T8.setTop (mkF m 25 #[.val (.ref x), .val (.int (4 : Int32)), .val (.int pl), .val (.int (2 : Int32)), .val (.int (2 : Int32)), .unset, .unset] [])) (fun t k => XS.istoreN X8.here hx rfl (hb hby d12_24) rfl (l' := #[.val (.ref x), .val (.int (4 : Int32)), .val (.int pl), .val (.int (2 : Int32)), .val (.int (2 : Int32)), .unset, .unset]) rfl k) ?_
        refine own_step (b := T8.setTop (mkF m 34 #[.val (.ref x), .val (.int (4 : Int32)), .val (.int pl), .val (.int (2 : Int32)), .val (.int (2 : Int32)), .unset, .unset] [])) (fun t k => XS.goto X8.here hx rfl (pc0 := 25) (pc' := 34) rfl (hb hby d12_25) (by decide) (by decide) k) ?_
        refine own_step (b := T8.setTop (mkF m 35 #[.val (.ref x), .val (.int (4 : Int32)), .val (.int pl), .val (.int (2 : Int32)), .val (.int (2 : Int32)), .unset, .unset] [(.int (2 : Int32))])) (fun t k => XS.iloadN X8.here hx rfl (hb hby d12_34) rfl k) ?_
        refine own_step (b := T8.setTop (mkF m 36 #[.val (.ref x), .val (.int (4 : Int32)), .val (.int pl), .val (.int (2 : Int32)), .val (.int (2 : Int32)), .unset, .unset] [(.int (4 : Int32)), (.int (2 : Int32))])) (fun t k => XS.iloadN X8.here hx rfl (hb hby d12_35) rfl k) ?_
        refine own_icmp_ne X8 hx (hb hby d12_36) (pc' := 43) (by decide) (by decide) (fun c36_37 => ?_) (fun c36_37 => absurd c36_37 (by decide))
        show own_G p e below _ (T8.setTop (mkF m 43 #[.val (.ref x), .val (.int (4 : Int32)), .val (.int pl), .val (.int (2 : Int32)), .val (.int (2 : Int32)), .unset, .unset] []))
        refine own_step (b := T8.setTop (mkF m 44 #[.val (.ref x), .val (.int (4 : Int32)), .val (.int pl), .val (.int (2 : Int32)), .val (.int (2 : Int32)), .unset, .unset] [(.int (4 : Int32))])) (fun t k => XS.iloadN X8.here hx rfl (hb hby d12_43) rfl k) ?_
        refine own_step (b := T8.setTop (mkF m 45 #[.val (.ref x), .val (.int (4 : Int32)), .val (.int pl), .val (.int (2 : Int32)), .val (.int (2 : Int32)), .unset, .unset] [(.int (2 : Int32)), (.int (4 : Int32))])) (fun t k => XS.iloadN X8.here hx rfl (hb hby d12_44) rfl k) ?_
        refine own_step (b := T8.setTop (mkF m 46 #[.val (.ref x), .val (.int (4 : Int32)), .val (.int pl), .val (.int (2 : Int32)), .val (.int (2 : Int32)), .unset, .unset] [(.int (2 : Int32))])) (fun t k => XS.isub X8.here hx rfl (hb hby d12_45) rfl k) ?_
        refine own_step (b := T8.setTop (mkF m 47 #[.val (.ref x), .val (.int (4 : Int32)), .val (.int pl), .val (.int (2 : Int32)), .val (.int (2 : Int32)), .unset, .unset] [(.int (1 : Int32)), (.int (2 : Int32))])) (fun t k => XS.iconst X8.here hx rfl (hb hby d12_46) k) ?_
        refine own_step (b := T8.setTop (mkF m 48 #[.val (.ref x), .val (.int (4 : Int32)), .val (.int pl), .val (.int (2 : Int32)), .val (.int (2 : Int32)), .unset, .unset] [(.int (1 : Int32))])) (fun t k => XS.isub X8.here hx rfl (hb hby d12_47) rfl k) ?_
        refine own_step (b := T8.setTop (mkF m 50 #[.val (.ref x), .val (.int (4 : Int32)), .val (.int pl), .val (.int (2 : Int32)), .val (.int (1 : Int32)), .unset, .unset] [])) (fun t k => XS.istore X8.here hx rfl (hb hby d12_48) rfl (l' := #[.val (.ref x), .val (.int (4 : Int32)), .val (.int pl), .val (.int (2 : Int32)), .val (.int (1 : Int32)), .unset, .unset]) rfl k) ?_
        refine own_step (b := T8.setTop (mkF m 51 #[.val (.ref x), .val (.int (4 : Int32)), .val (.int pl), .val (.int (2 : Int32)), .val (.int (1 : Int32)), .unset, .unset] [(.int (2 : Int32))])) (fun t k => XS.iloadN X8.here hx rfl (hb hby d12_50) rfl k) ?_
        refine own_step (b := T8.setTop (mkF m 52 #[.val (.ref x), .val (.int (4 : Int32)), .val (.int pl), .val (.int (2 : Int32)), .val (.int (1 : Int32)), .unset, .unset] [(.int (1 : Int32)), (.int (2 : Int32))])) (fun t k => XS.iconst X8.here hx rfl (hb hby d12_51) k) ?_
        refine own_icmp_le X8 hx (hb hby d12_52) (pc' := 69) (by decide) (by decide) (fun c52_38 => absurd c52_38 (by decide)) (fun c52_38 => ?_)
        show own_G p e below _ (T8.setTop (mkF m 55 #[.val (.ref x), .val (.int (4 : Int32)), .val (.int pl), .val (.int (2 : Int32)), .val (.int (1 : Int32)), .unset, .unset] []))
        refine own_step (b := T8.setTop (mkF m 56 #[.val (.ref x), .val (.int (4 : Int32)), .val (.int pl), .val (.int (2 : Int32)), .val (.int (1 : Int32)), .unset, .unset] [(.ref x)])) (fun t k => XS.aloadN X8.here hx rfl (hb hby d12_55) rfl rfl k) ?_
        refine own_step (b := T8.setTop (mkF m 57 #[.val (.ref x), .val (.int (4 : Int32)), .val (.int pl), .val (.int (2 : Int32)), .val (.int (1 : Int32)), .unset, .unset] [(.int (0 : Int32)), (.ref x)])) (fun t k => XS.iconst X8.here hx rfl (hb hby d12_56) k) ?_
        refine own_virtual (a := x) (W := 0) (argsL := [(.int (0 : Int32))]) (st := []) X8 hx hZ hown (own_w hw 51 rfl) (own_w hw 52 rfl) (own_w hw 54 rfl) rfl (own_w hw 53 rfl) (by decide) hh8 SS.1 (own_chB (W := 0) hZ hw (kI := 4) (own_w hw 6 rfl) SS O2 P5 O4 rG3 OL0 0 (Nat.le_of_ble_eq_true rfl) (j := (0 : Int32)) rfl (r := c0) rfl (by decide) (by decide)) (by decide) (by decide) (by rw [hml]; rfl) (lenOf pd3 rfl) rfl (Nat.le_of_ble_eq_true rfl) (hb hby d12_57) (fun v39 T39 L39 X39 hQ39 => ?_)
        obtain ⟨rfl, rfl, hh39⟩ := hQ39
        rw [List.append_nil] at X39
        show own_G p e below _ (T39.setTop (mkF m 60 #[.val (.ref x), .val (.int (4 : Int32)), .val (.int pl), .val (.int (2 : Int32)), .val (.int (1 : Int32)), .unset, .unset] [(.int c0)]))
        refine own_step (b := T39.setTop (mkF m 62 #[.val (.ref x), .val (.int (4 : Int32)), .val (.int pl), .val (.int (2 : Int32)), .val (.int (1 : Int32)), .unset, .unset] [(.int (48 : Int32)), (.int c0)])) (fun t k => XS.bipush X39.here hx rfl (hb hby d12_60) k) ?_
        refine own_icmp_ne X39 hx (hb hby d12_62) (pc' := 69) (by decide) (by decide) (fun c62_40 => ?_) (fun c62_40 => ?_)
        · show own_G p e below _ (T39.setTop (mkF m 69 #[.val (.ref x), .val (.int (4 : Int32)), .val (.int pl), .val (.int (2 : Int32)), .val (.int (1 : Int32)), .unset, .unset] []))
          refine own_step (b := T39.setTop (mkF m 70 #[.val (.ref x), .val (.int (4 : Int32)), .val (.int pl), .val (.int (2 : Int32)), .val (.int (1 : Int32)), .unset, .unset] [(.int (0 : Int32))])) (fun t k => XS.iconst X39.here hx rfl (hb hby d12_69) k) ?_
          refine own_step (b := T39.setTop (mkF m 72 #[.val (.ref x), .val (.int (4 : Int32)), .val (.int pl), .val (.int (2 : Int32)), .val (.int (1 : Int32)), .val (.int (0 : Int32)), .unset] [])) (fun t k => XS.istore X39.here hx rfl (hb hby d12_70) rfl (l' := #[.val (.ref x), .val (.int (4 : Int32)), .val (.int pl), .val (.int (2 : Int32)), .val (.int (1 : Int32)), .val (.int (0 : Int32)), .unset]) rfl k) ?_
          refine own_step (b := T39.setTop (mkF m 73 #[.val (.ref x), .val (.int (4 : Int32)), .val (.int pl), .val (.int (2 : Int32)), .val (.int (1 : Int32)), .val (.int (0 : Int32)), .unset] [(.int (2 : Int32))])) (fun t k => XS.iloadN X39.here hx rfl (hb hby d12_72) rfl k) ?_
          refine own_if_le X39 hx (hb hby d12_73) (pc' := 121) (by decide) (by decide) (fun c73_41 => absurd c73_41 (by decide)) (fun c73_41 => ?_)
          show own_G p e below _ (T39.setTop (mkF m 76 #[.val (.ref x), .val (.int (4 : Int32)), .val (.int pl), .val (.int (2 : Int32)), .val (.int (1 : Int32)), .val (.int (0 : Int32)), .unset] []))
          refine own_step (b := T39.setTop (mkF m 78 #[.val (.ref x), .val (.int (4 : Int32)), .val (.int pl), .val (.int (2 : Int32)), .val (.int (1 : Int32)), .val (.int (0 : Int32)), .unset] [(.int (0 : Int32))])) (fun t k => XS.iload X39.here hx rfl (hb hby d12_76) rfl k) ?_
          refine own_if_ne X39 hx (hb hby d12_78) (pc' := 121) (by decide) (by decide) (fun c78_42 => absurd c78_42 (by decide)) (fun c78_42 => ?_)
          show own_G p e below _ (T39.setTop (mkF m 81 #[.val (.ref x), .val (.int (4 : Int32)), .val (.int pl), .val (.int (2 : Int32)), .val (.int (1 : Int32)), .val (.int (0 : Int32)), .unset] []))
          refine own_step (b := T39.setTop (mkF m 82 #[.val (.ref x), .val (.int (4 : Int32)), .val (.int pl), .val (.int (2 : Int32)), .val (.int (1 : Int32)), .val (.int (0 : Int32)), .unset] [(.ref x)])) (fun t k => XS.aloadN X39.here hx rfl (hb hby d12_81) rfl rfl k) ?_
          refine own_step (b := T39.setTop (mkF m 83 #[.val (.ref x), .val (.int (4 : Int32)), .val (.int pl), .val (.int (2 : Int32)), .val (.int (1 : Int32)), .val (.int (0 : Int32)), .unset] [(.int (0 : Int32)), (.ref x)])) (fun t k => XS.iconst X39.here hx rfl (hb hby d12_82) k) ?_
          refine own_step (b := T39.setTop (mkF m 84 #[.val (.ref x), .val (.int (4 : Int32)), .val (.int pl), .val (.int (2 : Int32)), .val (.int (1 : Int32)), .val (.int (0 : Int32)), .unset] [(.int (2 : Int32)), (.int (0 : Int32)), (.ref x)])) (fun t k => XS.iloadN X39.here hx rfl (hb hby d12_83) rfl k) ?_
          refine own_staticP (W := 0) (argsL := [(.ref x), (.int (0 : Int32)), (.int (2 : Int32))]) (st := []) X39 hx hZ hown (own_w hw 73 rfl) (own_w hw 74 rfl) (own_w hw 49 rfl) (own_w hw 75 rfl) (by decide) hh39 (rmIsd_0_2 l Z a0 hw [] x c0 c1 c2 c3 h0 SS OL0 G1 O2 P5 G3 O4 rG3) (by decide) (by decide) (by decide) (by decide) (by rw [hml]; rfl) (lenOf pd4 rfl) rfl (Nat.le_of_ble_eq_true rfl) (hb hby d12_84) (fun T43 X43 e43 => ?_)
          show own_G p e below _ (T43.setTop (mkF m 87 #[.val (.ref x), .val (.int (4 : Int32)), .val (.int pl), .val (.int (2 : Int32)), .val (.int (1 : Int32)), .val (.int (0 : Int32)), .unset] [(.int (own_bi (own_dig c0 && own_dig c1)))]))
          refine own_if_eq X43 hx (hb hby d12_87) (pc' := 121) (by decide) (by decide) (fun c87_44 => ?_) (fun c87_44 => ?_)
          · show own_G p e below _ (T43.setTop (mkF m 121 #[.val (.ref x), .val (.int (4 : Int32)), .val (.int pl), .val (.int (2 : Int32)), .val (.int (1 : Int32)), .val (.int (0 : Int32)), .unset] []))
            have c87_44b : (own_dig c0 && own_dig c1) = false := own_bi_f c87_44
            refine own_step (b := T43.setTop (mkF m 122 #[.val (.ref x), .val (.int (4 : Int32)), .val (.int pl), .val (.int (2 : Int32)), .val (.int (1 : Int32)), .val (.int (0 : Int32)), .unset] [(.int (0 : Int32))])) (fun t k => XS.iconst X43.here hx rfl (hb hby d12_121) k) ?_
            refine own_step (b := T43.setTop (mkF m 124 #[.val (.ref x), .val (.int (4 : Int32)), .val (.int pl), .val (.int (2 : Int32)), .val (.int (1 : Int32)), .val (.int (0 : Int32)), .val (.int (0 : Int32))] [])) (fun t k => XS.istore X43.here hx rfl (hb hby d12_122) rfl (l' := #[.val (.ref x), .val (.int (4 : Int32)), .val (.int pl), .val (.int (2 : Int32)), .val (.int (1 : Int32)), .val (.int (0 : Int32)), .val (.int (0 : Int32))]) rfl k) ?_
            refine own_step (b := T43.setTop (mkF m 126 #[.val (.ref x), .val (.int (4 : Int32)), .val (.int pl), .val (.int (2 : Int32)), .val (.int (1 : Int32)), .val (.int (0 : Int32)), .val (.int (0 : Int32))] [(.int (0 : Int32))])) (fun t k => XS.iload X43.here hx rfl (hb hby d12_124) rfl k) ?_
            exact own_retN X43 hx hret (by simp) hlk (hb hby d12_126) ⟨by rw [show (if c0 = 46 then false else (if c1 = 46 then ((own_dig c0) && !decide (pl < 2) && (own_dig c2 && own_dig c3)) else (if c2 = 46 then ((!decide (c0 = 48) && (own_dig c0 && own_dig c1)) && !decide (pl < 1) && (own_dig c3)) else (if c3 = 46 then false else (!decide (c0 = 48) && (own_dig c0 && own_dig c1 && own_dig c2 && own_dig c3)))))) = false by simp [c19_3, c19_6, c19_9, c62_40, c87_44b, own_dig46]]; rfl, rfl, e43⟩ (by decide) (by decide)
          · show own_G p e below _ (T43.setTop (mkF m 90 #[.val (.ref x), .val (.int (4 : Int32)), .val (.int pl), .val (.int (2 : Int32)), .val (.int (1 : Int32)), .val (.int (0 : Int32)), .unset] []))
            have c87_44b : (own_dig c0 && own_dig c1) = true := own_bi_t c87_44
            refine own_step (b := T43.setTop (mkF m 91 #[.val (.ref x), .val (.int (4 : Int32)), .val (.int pl), .val (.int (2 : Int32)), .val (.int (1 : Int32)), .val (.int (0 : Int32)), .unset] [(.int (2 : Int32))])) (fun t k => XS.iloadN X43.here hx rfl (hb hby d12_90) rfl k) ?_
            refine own_step (b := T43.setTop (mkF m 92 #[.val (.ref x), .val (.int (4 : Int32)), .val (.int pl), .val (.int (2 : Int32)), .val (.int (1 : Int32)), .val (.int (0 : Int32)), .unset] [(.int (4 : Int32)), (.int (2 : Int32))])) (fun t k => XS.iloadN X43.here hx rfl (hb hby d12_91) rfl k) ?_
            refine own_icmp_eq X43 hx (hb hby d12_92) (pc' := 117) (by decide) (by decide) (fun c92_45 => absurd c92_45 (by decide)) (fun c92_45 => ?_)
            show own_G p e below _ (T43.setTop (mkF m 95 #[.val (.ref x), .val (.int (4 : Int32)), .val (.int pl), .val (.int (2 : Int32)), .val (.int (1 : Int32)), .val (.int (0 : Int32)), .unset] []))
            refine own_step (b := T43.setTop (mkF m 97 #[.val (.ref x), .val (.int (4 : Int32)), .val (.int pl), .val (.int (2 : Int32)), .val (.int (1 : Int32)), .val (.int (0 : Int32)), .unset] [(.int (1 : Int32))])) (fun t k => XS.iload X43.here hx rfl (hb hby d12_95) rfl k) ?_
            refine own_if_le X43 hx (hb hby d12_97) (pc' := 121) (by decide) (by decide) (fun c97_46 => absurd c97_46 (by decide)) (fun c97_46 => ?_)
            show own_G p e below _ (T43.setTop (mkF m 100 #[.val (.ref x), .val (.int (4 : Int32)), .val (.int pl), .val (.int (2 : Int32)), .val (.int (1 : Int32)), .val (.int (0 : Int32)), .unset] []))
            refine own_step (b := T43.setTop (mkF m 102 #[.val (.ref x), .val (.int (4 : Int32)), .val (.int pl), .val (.int (2 : Int32)), .val (.int (1 : Int32)), .val (.int (0 : Int32)), .unset] [(.int (1 : Int32))])) (fun t k => XS.iload X43.here hx rfl (hb hby d12_100) rfl k) ?_
            refine own_step (b := T43.setTop (mkF m 103 #[.val (.ref x), .val (.int (4 : Int32)), .val (.int pl), .val (.int (2 : Int32)), .val (.int (1 : Int32)), .val (.int (0 : Int32)), .unset] [(.int pl), (.int (1 : Int32))])) (fun t k => XS.iloadN X43.here hx rfl (hb hby d12_102) rfl k) ?_
            refine own_icmp_gt X43 hx (hb hby d12_103) (pc' := 121) (by decide) (by decide) (fun c103_47 => ?_) (fun c103_47 => ?_)
            · show own_G p e below _ (T43.setTop (mkF m 121 #[.val (.ref x), .val (.int (4 : Int32)), .val (.int pl), .val (.int (2 : Int32)), .val (.int (1 : Int32)), .val (.int (0 : Int32)), .unset] []))
              refine own_step (b := T43.setTop (mkF m 122 #[.val (.ref x), .val (.int (4 : Int32)), .val (.int pl), .val (.int (2 : Int32)), .val (.int (1 : Int32)), .val (.int (0 : Int32)), .unset] [(.int (0 : Int32))])) (fun t k => XS.iconst X43.here hx rfl (hb hby d12_121) k) ?_
              refine own_step (b := T43.setTop (mkF m 124 #[.val (.ref x), .val (.int (4 : Int32)), .val (.int pl), .val (.int (2 : Int32)), .val (.int (1 : Int32)), .val (.int (0 : Int32)), .val (.int (0 : Int32))] [])) (fun t k => XS.istore X43.here hx rfl (hb hby d12_122) rfl (l' := #[.val (.ref x), .val (.int (4 : Int32)), .val (.int pl), .val (.int (2 : Int32)), .val (.int (1 : Int32)), .val (.int (0 : Int32)), .val (.int (0 : Int32))]) rfl k) ?_
              refine own_step (b := T43.setTop (mkF m 126 #[.val (.ref x), .val (.int (4 : Int32)), .val (.int pl), .val (.int (2 : Int32)), .val (.int (1 : Int32)), .val (.int (0 : Int32)), .val (.int (0 : Int32))] [(.int (0 : Int32))])) (fun t k => XS.iload X43.here hx rfl (hb hby d12_124) rfl k) ?_
              exact own_retN X43 hx hret (by simp) hlk (hb hby d12_126) ⟨by rw [show (if c0 = 46 then false else (if c1 = 46 then ((own_dig c0) && !decide (pl < 2) && (own_dig c2 && own_dig c3)) else (if c2 = 46 then ((!decide (c0 = 48) && (own_dig c0 && own_dig c1)) && !decide (pl < 1) && (own_dig c3)) else (if c3 = 46 then false else (!decide (c0 = 48) && (own_dig c0 && own_dig c1 && own_dig c2 && own_dig c3)))))) = false by simp [c19_3, c19_6, c19_9, c62_40, c87_44b, c103_47, own_dig46]]; rfl, rfl, e43⟩ (by decide) (by decide)
            · show own_G p e below _ (T43.setTop (mkF m 106 #[.val (.ref x), .val (.int (4 : Int32)), .val (.int pl), .val (.int (2 : Int32)), .val (.int (1 : Int32)), .val (.int (0 : Int32)), .unset] []))
              refine own_step (b := T43.setTop (mkF m 107 #[.val (.ref x), .val (.int (4 : Int32)), .val (.int pl), .val (.int (2 : Int32)), .val (.int (1 : Int32)), .val (.int (0 : Int32)), .unset] [(.ref x)])) (fun t k => XS.aloadN X43.here hx rfl (hb hby d12_106) rfl rfl k) ?_
              refine own_step (b := T43.setTop (mkF m 108 #[.val (.ref x), .val (.int (4 : Int32)), .val (.int pl), .val (.int (2 : Int32)), .val (.int (1 : Int32)), .val (.int (0 : Int32)), .unset] [(.int (2 : Int32)), (.ref x)])) (fun t k => XS.iloadN X43.here hx rfl (hb hby d12_107) rfl k) ?_
              refine own_step (b := T43.setTop (mkF m 109 #[.val (.ref x), .val (.int (4 : Int32)), .val (.int pl), .val (.int (2 : Int32)), .val (.int (1 : Int32)), .val (.int (0 : Int32)), .unset] [(.int (1 : Int32)), (.int (2 : Int32)), (.ref x)])) (fun t k => XS.iconst X43.here hx rfl (hb hby d12_108) k) ?_
              refine own_step (b := T43.setTop (mkF m 110 #[.val (.ref x), .val (.int (4 : Int32)), .val (.int pl), .val (.int (2 : Int32)), .val (.int (1 : Int32)), .val (.int (0 : Int32)), .unset] [(.int (3 : Int32)), (.ref x)])) (fun t k => XS.iadd X43.here hx rfl (hb hby d12_109) rfl k) ?_
              refine own_step (b := T43.setTop (mkF m 111 #[.val (.ref x), .val (.int (4 : Int32)), .val (.int pl), .val (.int (2 : Int32)), .val (.int (1 : Int32)), .val (.int (0 : Int32)), .unset] [(.int (4 : Int32)), (.int (3 : Int32)), (.ref x)])) (fun t k => XS.iloadN X43.here hx rfl (hb hby d12_110) rfl k) ?_
              refine own_staticP (W := 0) (argsL := [(.ref x), (.int (3 : Int32)), (.int (4 : Int32))]) (st := []) X43 hx hZ hown (own_w hw 73 rfl) (own_w hw 74 rfl) (own_w hw 49 rfl) (own_w hw 75 rfl) (by decide) e43 (rmIsd_3_4 l Z a0 hw [] x c0 c1 c2 c3 h0 SS OL0 G1 O2 P5 G3 O4 rG3) (by decide) (by decide) (by decide) (by decide) (by rw [hml]; rfl) (lenOf pd4 rfl) rfl (Nat.le_of_ble_eq_true rfl) (hb hby d12_111) (fun T48 X48 e48 => ?_)
              show own_G p e below _ (T48.setTop (mkF m 114 #[.val (.ref x), .val (.int (4 : Int32)), .val (.int pl), .val (.int (2 : Int32)), .val (.int (1 : Int32)), .val (.int (0 : Int32)), .unset] [(.int (own_bi (own_dig c3)))]))
              refine own_if_eq X48 hx (hb hby d12_114) (pc' := 121) (by decide) (by decide) (fun c114_49 => ?_) (fun c114_49 => ?_)
              · show own_G p e below _ (T48.setTop (mkF m 121 #[.val (.ref x), .val (.int (4 : Int32)), .val (.int pl), .val (.int (2 : Int32)), .val (.int (1 : Int32)), .val (.int (0 : Int32)), .unset] []))
                have c114_49b : (own_dig c3) = false := own_bi_f c114_49
                refine own_step (b := T48.setTop (mkF m 122 #[.val (.ref x), .val (.int (4 : Int32)), .val (.int pl), .val (.int (2 : Int32)), .val (.int (1 : Int32)), .val (.int (0 : Int32)), .unset] [(.int (0 : Int32))])) (fun t k => XS.iconst X48.here hx rfl (hb hby d12_121) k) ?_
                refine own_step (b := T48.setTop (mkF m 124 #[.val (.ref x), .val (.int (4 : Int32)), .val (.int pl), .val (.int (2 : Int32)), .val (.int (1 : Int32)), .val (.int (0 : Int32)), .val (.int (0 : Int32))] [])) (fun t k => XS.istore X48.here hx rfl (hb hby d12_122) rfl (l' := #[.val (.ref x), .val (.int (4 : Int32)), .val (.int pl), .val (.int (2 : Int32)), .val (.int (1 : Int32)), .val (.int (0 : Int32)), .val (.int (0 : Int32))]) rfl k) ?_
                refine own_step (b := T48.setTop (mkF m 126 #[.val (.ref x), .val (.int (4 : Int32)), .val (.int pl), .val (.int (2 : Int32)), .val (.int (1 : Int32)), .val (.int (0 : Int32)), .val (.int (0 : Int32))] [(.int (0 : Int32))])) (fun t k => XS.iload X48.here hx rfl (hb hby d12_124) rfl k) ?_
                exact own_retN X48 hx hret (by simp) hlk (hb hby d12_126) ⟨by rw [show (if c0 = 46 then false else (if c1 = 46 then ((own_dig c0) && !decide (pl < 2) && (own_dig c2 && own_dig c3)) else (if c2 = 46 then ((!decide (c0 = 48) && (own_dig c0 && own_dig c1)) && !decide (pl < 1) && (own_dig c3)) else (if c3 = 46 then false else (!decide (c0 = 48) && (own_dig c0 && own_dig c1 && own_dig c2 && own_dig c3)))))) = false by simp [c19_3, c19_6, c19_9, c62_40, c87_44b, c103_47, c114_49b, own_dig46]]; rfl, rfl, e48⟩ (by decide) (by decide)
              · show own_G p e below _ (T48.setTop (mkF m 117 #[.val (.ref x), .val (.int (4 : Int32)), .val (.int pl), .val (.int (2 : Int32)), .val (.int (1 : Int32)), .val (.int (0 : Int32)), .unset] []))
                have c114_49b : (own_dig c3) = true := own_bi_t c114_49
                refine own_step (b := T48.setTop (mkF m 118 #[.val (.ref x), .val (.int (4 : Int32)), .val (.int pl), .val (.int (2 : Int32)), .val (.int (1 : Int32)), .val (.int (0 : Int32)), .unset] [(.int (1 : Int32))])) (fun t k => XS.iconst X48.here hx rfl (hb hby d12_117) k) ?_
                refine own_step (b := T48.setTop (mkF m 122 #[.val (.ref x), .val (.int (4 : Int32)), .val (.int pl), .val (.int (2 : Int32)), .val (.int (1 : Int32)), .val (.int (0 : Int32)), .unset] [(.int (1 : Int32))])) (fun t k => XS.goto X48.here hx rfl (pc0 := 118) (pc' := 122) rfl (hb hby d12_118) (by decide) (by decide) k) ?_
                refine own_step (b := T48.setTop (mkF m 124 #[.val (.ref x), .val (.int (4 : Int32)), .val (.int pl), .val (.int (2 : Int32)), .val (.int (1 : Int32)), .val (.int (0 : Int32)), .val (.int (1 : Int32))] [])) (fun t k => XS.istore X48.here hx rfl (hb hby d12_122) rfl (l' := #[.val (.ref x), .val (.int (4 : Int32)), .val (.int pl), .val (.int (2 : Int32)), .val (.int (1 : Int32)), .val (.int (0 : Int32)), .val (.int (1 : Int32))]) rfl k) ?_
                refine own_step (b := T48.setTop (mkF m 126 #[.val (.ref x), .val (.int (4 : Int32)), .val (.int pl), .val (.int (2 : Int32)), .val (.int (1 : Int32)), .val (.int (0 : Int32)), .val (.int (1 : Int32))] [(.int (1 : Int32))])) (fun t k => XS.iload X48.here hx rfl (hb hby d12_124) rfl k) ?_
                exact own_retN X48 hx hret (by simp) hlk (hb hby d12_126) ⟨by rw [show (if c0 = 46 then false else (if c1 = 46 then ((own_dig c0) && !decide (pl < 2) && (own_dig c2 && own_dig c3)) else (if c2 = 46 then ((!decide (c0 = 48) && (own_dig c0 && own_dig c1)) && !decide (pl < 1) && (own_dig c3)) else (if c3 = 46 then false else (!decide (c0 = 48) && (own_dig c0 && own_dig c1 && own_dig c2 && own_dig c3)))))) = true by simp [c19_3, c19_6, c19_9, c62_40, c87_44b, c103_47, c114_49b, own_dig46]]; rfl, rfl, e48⟩ (by decide) (by decide)
        · show own_G p e below _ (T39.setTop (mkF m 65 #[.val (.ref x), .val (.int (4 : Int32)), .val (.int pl), .val (.int (2 : Int32)), .val (.int (1 : Int32)), .unset, .unset] []))
          refine own_step (b := T39.setTop (mkF m 66 #[.val (.ref x), .val (.int (4 : Int32)), .val (.int pl), .val (.int (2 : Int32)), .val (.int (1 : Int32)), .unset, .unset] [(.int (1 : Int32))])) (fun t k => XS.iconst X39.here hx rfl (hb hby d12_65) k) ?_
          refine own_step (b := T39.setTop (mkF m 70 #[.val (.ref x), .val (.int (4 : Int32)), .val (.int pl), .val (.int (2 : Int32)), .val (.int (1 : Int32)), .unset, .unset] [(.int (1 : Int32))])) (fun t k => XS.goto X39.here hx rfl (pc0 := 66) (pc' := 70) rfl (hb hby d12_66) (by decide) (by decide) k) ?_
          refine own_step (b := T39.setTop (mkF m 72 #[.val (.ref x), .val (.int (4 : Int32)), .val (.int pl), .val (.int (2 : Int32)), .val (.int (1 : Int32)), .val (.int (1 : Int32)), .unset] [])) (fun t k => XS.istore X39.here hx rfl (hb hby d12_70) rfl (l' := #[.val (.ref x), .val (.int (4 : Int32)), .val (.int pl), .val (.int (2 : Int32)), .val (.int (1 : Int32)), .val (.int (1 : Int32)), .unset]) rfl k) ?_
          refine own_step (b := T39.setTop (mkF m 73 #[.val (.ref x), .val (.int (4 : Int32)), .val (.int pl), .val (.int (2 : Int32)), .val (.int (1 : Int32)), .val (.int (1 : Int32)), .unset] [(.int (2 : Int32))])) (fun t k => XS.iloadN X39.here hx rfl (hb hby d12_72) rfl k) ?_
          refine own_if_le X39 hx (hb hby d12_73) (pc' := 121) (by decide) (by decide) (fun c73_50 => absurd c73_50 (by decide)) (fun c73_50 => ?_)
          show own_G p e below _ (T39.setTop (mkF m 76 #[.val (.ref x), .val (.int (4 : Int32)), .val (.int pl), .val (.int (2 : Int32)), .val (.int (1 : Int32)), .val (.int (1 : Int32)), .unset] []))
          refine own_step (b := T39.setTop (mkF m 78 #[.val (.ref x), .val (.int (4 : Int32)), .val (.int pl), .val (.int (2 : Int32)), .val (.int (1 : Int32)), .val (.int (1 : Int32)), .unset] [(.int (1 : Int32))])) (fun t k => XS.iload X39.here hx rfl (hb hby d12_76) rfl k) ?_
          refine own_if_ne X39 hx (hb hby d12_78) (pc' := 121) (by decide) (by decide) (fun c78_51 => ?_) (fun c78_51 => absurd c78_51 (by decide))
          show own_G p e below _ (T39.setTop (mkF m 121 #[.val (.ref x), .val (.int (4 : Int32)), .val (.int pl), .val (.int (2 : Int32)), .val (.int (1 : Int32)), .val (.int (1 : Int32)), .unset] []))
          refine own_step (b := T39.setTop (mkF m 122 #[.val (.ref x), .val (.int (4 : Int32)), .val (.int pl), .val (.int (2 : Int32)), .val (.int (1 : Int32)), .val (.int (1 : Int32)), .unset] [(.int (0 : Int32))])) (fun t k => XS.iconst X39.here hx rfl (hb hby d12_121) k) ?_
          refine own_step (b := T39.setTop (mkF m 124 #[.val (.ref x), .val (.int (4 : Int32)), .val (.int pl), .val (.int (2 : Int32)), .val (.int (1 : Int32)), .val (.int (1 : Int32)), .val (.int (0 : Int32))] [])) (fun t k => XS.istore X39.here hx rfl (hb hby d12_122) rfl (l' := #[.val (.ref x), .val (.int (4 : Int32)), .val (.int pl), .val (.int (2 : Int32)), .val (.int (1 : Int32)), .val (.int (1 : Int32)), .val (.int (0 : Int32))]) rfl k) ?_
          refine own_step (b := T39.setTop (mkF m 126 #[.val (.ref x), .val (.int (4 : Int32)), .val (.int pl), .val (.int (2 : Int32)), .val (.int (1 : Int32)), .val (.int (1 : Int32)), .val (.int (0 : Int32))] [(.int (0 : Int32))])) (fun t k => XS.iload X39.here hx rfl (hb hby d12_124) rfl k) ?_
          exact own_retN X39 hx hret (by simp) hlk (hb hby d12_126) ⟨by rw [show (if c0 = 46 then false else (if c1 = 46 then ((own_dig c0) && !decide (pl < 2) && (own_dig c2 && own_dig c3)) else (if c2 = 46 then ((!decide (c0 = 48) && (own_dig c0 && own_dig c1)) && !decide (pl < 1) && (own_dig c3)) else (if c3 = 46 then false else (!decide (c0 = 48) && (own_dig c0 && own_dig c1 && own_dig c2 && own_dig c3)))))) = false by simp [c19_3, c19_6, c19_9, c62_40, own_dig46]]; rfl, rfl, hh39⟩ (by decide) (by decide)
    · show own_G p e below _ (T5.setTop (mkF m 22 #[.val (.ref x), .val (.int (4 : Int32)), .val (.int pl), .val (.int (4 : Int32)), .val (.int (1 : Int32)), .unset, .unset] []))
      refine own_step (b := T5.setTop (mkF m 24 #[.val (.ref x), .val (.int (4 : Int32)), .val (.int pl), .val (.int (4 : Int32)), .val (.int (1 : Int32)), .unset, .unset] [(.int (1 : Int32))])) (fun t k => XS.iload X5.here hx rfl (hb hby d12_22) rfl k) ?_
      refine own_step (b := T5.setTop (mkF m 25 #[.val (.ref x), .val (.int (4 : Int32)), .val (.int pl), .val (.int (1 : Int32)), .val (.int (1 : Int32)), .unset, .unset] [])) (fun t k => XS.istoreN X5.here hx rfl (hb hby d12_24) rfl (l' := #[.val (.ref x), .val (.int (4 : Int32)), .val (.int pl), .val (.int (1 : Int32)), .val (.int (1 : Int32)), .unset, .unset]) rfl k) ?_
      refine own_step (b := T5.setTop (mkF m 34 #[.val (.ref x), .val (.int (4 : Int32)), .val (.int pl), .val (.int (1 : Int32)), .val (.int (1 : Int32)), .unset, .unset] [])) (fun t k => XS.goto X5.here hx rfl (pc0 := 25) (pc' := 34) rfl (hb hby d12_25) (by decide) (by decide) k) ?_
      refine own_step (b := T5.setTop (mkF m 35 #[.val (.ref x), .val (.int (4 : Int32)), .val (.int pl), .val (.int (1 : Int32)), .val (.int (1 : Int32)), .unset, .unset] [(.int (1 : Int32))])) (fun t k => XS.iloadN X5.here hx rfl (hb hby d12_34) rfl k) ?_
      refine own_step (b := T5.setTop (mkF m 36 #[.val (.ref x), .val (.int (4 : Int32)), .val (.int pl), .val (.int (1 : Int32)), .val (.int (1 : Int32)), .unset, .unset] [(.int (4 : Int32)), (.int (1 : Int32))])) (fun t k => XS.iloadN X5.here hx rfl (hb hby d12_35) rfl k) ?_
      refine own_icmp_ne X5 hx (hb hby d12_36) (pc' := 43) (by decide) (by decide) (fun c36_52 => ?_) (fun c36_52 => absurd c36_52 (by decide))
      show own_G p e below _ (T5.setTop (mkF m 43 #[.val (.ref x), .val (.int (4 : Int32)), .val (.int pl), .val (.int (1 : Int32)), .val (.int (1 : Int32)), .unset, .unset] []))
      refine own_step (b := T5.setTop (mkF m 44 #[.val (.ref x), .val (.int (4 : Int32)), .val (.int pl), .val (.int (1 : Int32)), .val (.int (1 : Int32)), .unset, .unset] [(.int (4 : Int32))])) (fun t k => XS.iloadN X5.here hx rfl (hb hby d12_43) rfl k) ?_
      refine own_step (b := T5.setTop (mkF m 45 #[.val (.ref x), .val (.int (4 : Int32)), .val (.int pl), .val (.int (1 : Int32)), .val (.int (1 : Int32)), .unset, .unset] [(.int (1 : Int32)), (.int (4 : Int32))])) (fun t k => XS.iloadN X5.here hx rfl (hb hby d12_44) rfl k) ?_
      refine own_step (b := T5.setTop (mkF m 46 #[.val (.ref x), .val (.int (4 : Int32)), .val (.int pl), .val (.int (1 : Int32)), .val (.int (1 : Int32)), .unset, .unset] [(.int (3 : Int32))])) (fun t k => XS.isub X5.here hx rfl (hb hby d12_45) rfl k) ?_
      refine own_step (b := T5.setTop (mkF m 47 #[.val (.ref x), .val (.int (4 : Int32)), .val (.int pl), .val (.int (1 : Int32)), .val (.int (1 : Int32)), .unset, .unset] [(.int (1 : Int32)), (.int (3 : Int32))])) (fun t k => XS.iconst X5.here hx rfl (hb hby d12_46) k) ?_
      refine own_step (b := T5.setTop (mkF m 48 #[.val (.ref x), .val (.int (4 : Int32)), .val (.int pl), .val (.int (1 : Int32)), .val (.int (1 : Int32)), .unset, .unset] [(.int (2 : Int32))])) (fun t k => XS.isub X5.here hx rfl (hb hby d12_47) rfl k) ?_
      refine own_step (b := T5.setTop (mkF m 50 #[.val (.ref x), .val (.int (4 : Int32)), .val (.int pl), .val (.int (1 : Int32)), .val (.int (2 : Int32)), .unset, .unset] [])) (fun t k => XS.istore X5.here hx rfl (hb hby d12_48) rfl (l' := #[.val (.ref x), .val (.int (4 : Int32)), .val (.int pl), .val (.int (1 : Int32)), .val (.int (2 : Int32)), .unset, .unset]) rfl k) ?_
      refine own_step (b := T5.setTop (mkF m 51 #[.val (.ref x), .val (.int (4 : Int32)), .val (.int pl), .val (.int (1 : Int32)), .val (.int (2 : Int32)), .unset, .unset] [(.int (1 : Int32))])) (fun t k => XS.iloadN X5.here hx rfl (hb hby d12_50) rfl k) ?_
      refine own_step (b := T5.setTop (mkF m 52 #[.val (.ref x), .val (.int (4 : Int32)), .val (.int pl), .val (.int (1 : Int32)), .val (.int (2 : Int32)), .unset, .unset] [(.int (1 : Int32)), (.int (1 : Int32))])) (fun t k => XS.iconst X5.here hx rfl (hb hby d12_51) k) ?_
      refine own_icmp_le X5 hx (hb hby d12_52) (pc' := 69) (by decide) (by decide) (fun c52_53 => ?_) (fun c52_53 => absurd c52_53 (by decide))
      show own_G p e below _ (T5.setTop (mkF m 69 #[.val (.ref x), .val (.int (4 : Int32)), .val (.int pl), .val (.int (1 : Int32)), .val (.int (2 : Int32)), .unset, .unset] []))
      refine own_step (b := T5.setTop (mkF m 70 #[.val (.ref x), .val (.int (4 : Int32)), .val (.int pl), .val (.int (1 : Int32)), .val (.int (2 : Int32)), .unset, .unset] [(.int (0 : Int32))])) (fun t k => XS.iconst X5.here hx rfl (hb hby d12_69) k) ?_
      refine own_step (b := T5.setTop (mkF m 72 #[.val (.ref x), .val (.int (4 : Int32)), .val (.int pl), .val (.int (1 : Int32)), .val (.int (2 : Int32)), .val (.int (0 : Int32)), .unset] [])) (fun t k => XS.istore X5.here hx rfl (hb hby d12_70) rfl (l' := #[.val (.ref x), .val (.int (4 : Int32)), .val (.int pl), .val (.int (1 : Int32)), .val (.int (2 : Int32)), .val (.int (0 : Int32)), .unset]) rfl k) ?_
      refine own_step (b := T5.setTop (mkF m 73 #[.val (.ref x), .val (.int (4 : Int32)), .val (.int pl), .val (.int (1 : Int32)), .val (.int (2 : Int32)), .val (.int (0 : Int32)), .unset] [(.int (1 : Int32))])) (fun t k => XS.iloadN X5.here hx rfl (hb hby d12_72) rfl k) ?_
      refine own_if_le X5 hx (hb hby d12_73) (pc' := 121) (by decide) (by decide) (fun c73_54 => absurd c73_54 (by decide)) (fun c73_54 => ?_)
      show own_G p e below _ (T5.setTop (mkF m 76 #[.val (.ref x), .val (.int (4 : Int32)), .val (.int pl), .val (.int (1 : Int32)), .val (.int (2 : Int32)), .val (.int (0 : Int32)), .unset] []))
      refine own_step (b := T5.setTop (mkF m 78 #[.val (.ref x), .val (.int (4 : Int32)), .val (.int pl), .val (.int (1 : Int32)), .val (.int (2 : Int32)), .val (.int (0 : Int32)), .unset] [(.int (0 : Int32))])) (fun t k => XS.iload X5.here hx rfl (hb hby d12_76) rfl k) ?_
      refine own_if_ne X5 hx (hb hby d12_78) (pc' := 121) (by decide) (by decide) (fun c78_55 => absurd c78_55 (by decide)) (fun c78_55 => ?_)
      show own_G p e below _ (T5.setTop (mkF m 81 #[.val (.ref x), .val (.int (4 : Int32)), .val (.int pl), .val (.int (1 : Int32)), .val (.int (2 : Int32)), .val (.int (0 : Int32)), .unset] []))
      refine own_step (b := T5.setTop (mkF m 82 #[.val (.ref x), .val (.int (4 : Int32)), .val (.int pl), .val (.int (1 : Int32)), .val (.int (2 : Int32)), .val (.int (0 : Int32)), .unset] [(.ref x)])) (fun t k => XS.aloadN X5.here hx rfl (hb hby d12_81) rfl rfl k) ?_
      refine own_step (b := T5.setTop (mkF m 83 #[.val (.ref x), .val (.int (4 : Int32)), .val (.int pl), .val (.int (1 : Int32)), .val (.int (2 : Int32)), .val (.int (0 : Int32)), .unset] [(.int (0 : Int32)), (.ref x)])) (fun t k => XS.iconst X5.here hx rfl (hb hby d12_82) k) ?_
      refine own_step (b := T5.setTop (mkF m 84 #[.val (.ref x), .val (.int (4 : Int32)), .val (.int pl), .val (.int (1 : Int32)), .val (.int (2 : Int32)), .val (.int (0 : Int32)), .unset] [(.int (1 : Int32)), (.int (0 : Int32)), (.ref x)])) (fun t k => XS.iloadN X5.here hx rfl (hb hby d12_83) rfl k) ?_
      refine own_staticP (W := 0) (argsL := [(.ref x), (.int (0 : Int32)), (.int (1 : Int32))]) (st := []) X5 hx hZ hown (own_w hw 73 rfl) (own_w hw 74 rfl) (own_w hw 49 rfl) (own_w hw 75 rfl) (by decide) hh5 (rmIsd_0_1 l Z a0 hw [] x c0 c1 c2 c3 h0 SS OL0 G1 O2 P5 G3 O4 rG3) (by decide) (by decide) (by decide) (by decide) (by rw [hml]; rfl) (lenOf pd4 rfl) rfl (Nat.le_of_ble_eq_true rfl) (hb hby d12_84) (fun T56 X56 e56 => ?_)
      show own_G p e below _ (T56.setTop (mkF m 87 #[.val (.ref x), .val (.int (4 : Int32)), .val (.int pl), .val (.int (1 : Int32)), .val (.int (2 : Int32)), .val (.int (0 : Int32)), .unset] [(.int (own_bi (own_dig c0)))]))
      refine own_if_eq X56 hx (hb hby d12_87) (pc' := 121) (by decide) (by decide) (fun c87_57 => ?_) (fun c87_57 => ?_)
      · show own_G p e below _ (T56.setTop (mkF m 121 #[.val (.ref x), .val (.int (4 : Int32)), .val (.int pl), .val (.int (1 : Int32)), .val (.int (2 : Int32)), .val (.int (0 : Int32)), .unset] []))
        have c87_57b : (own_dig c0) = false := own_bi_f c87_57
        refine own_step (b := T56.setTop (mkF m 122 #[.val (.ref x), .val (.int (4 : Int32)), .val (.int pl), .val (.int (1 : Int32)), .val (.int (2 : Int32)), .val (.int (0 : Int32)), .unset] [(.int (0 : Int32))])) (fun t k => XS.iconst X56.here hx rfl (hb hby d12_121) k) ?_
        refine own_step (b := T56.setTop (mkF m 124 #[.val (.ref x), .val (.int (4 : Int32)), .val (.int pl), .val (.int (1 : Int32)), .val (.int (2 : Int32)), .val (.int (0 : Int32)), .val (.int (0 : Int32))] [])) (fun t k => XS.istore X56.here hx rfl (hb hby d12_122) rfl (l' := #[.val (.ref x), .val (.int (4 : Int32)), .val (.int pl), .val (.int (1 : Int32)), .val (.int (2 : Int32)), .val (.int (0 : Int32)), .val (.int (0 : Int32))]) rfl k) ?_
        refine own_step (b := T56.setTop (mkF m 126 #[.val (.ref x), .val (.int (4 : Int32)), .val (.int pl), .val (.int (1 : Int32)), .val (.int (2 : Int32)), .val (.int (0 : Int32)), .val (.int (0 : Int32))] [(.int (0 : Int32))])) (fun t k => XS.iload X56.here hx rfl (hb hby d12_124) rfl k) ?_
        exact own_retN X56 hx hret (by simp) hlk (hb hby d12_126) ⟨by rw [show (if c0 = 46 then false else (if c1 = 46 then ((own_dig c0) && !decide (pl < 2) && (own_dig c2 && own_dig c3)) else (if c2 = 46 then ((!decide (c0 = 48) && (own_dig c0 && own_dig c1)) && !decide (pl < 1) && (own_dig c3)) else (if c3 = 46 then false else (!decide (c0 = 48) && (own_dig c0 && own_dig c1 && own_dig c2 && own_dig c3)))))) = false by simp [c19_3, c19_6, c87_57b, own_dig46]]; rfl, rfl, e56⟩ (by decide) (by decide)
      · show own_G p e below _ (T56.setTop (mkF m 90 #[.val (.ref x), .val (.int (4 : Int32)), .val (.int pl), .val (.int (1 : Int32)), .val (.int (2 : Int32)), .val (.int (0 : Int32)), .unset] []))
        have c87_57b : (own_dig c0) = true := own_bi_t c87_57
        refine own_step (b := T56.setTop (mkF m 91 #[.val (.ref x), .val (.int (4 : Int32)), .val (.int pl), .val (.int (1 : Int32)), .val (.int (2 : Int32)), .val (.int (0 : Int32)), .unset] [(.int (1 : Int32))])) (fun t k => XS.iloadN X56.here hx rfl (hb hby d12_90) rfl k) ?_
        refine own_step (b := T56.setTop (mkF m 92 #[.val (.ref x), .val (.int (4 : Int32)), .val (.int pl), .val (.int (1 : Int32)), .val (.int (2 : Int32)), .val (.int (0 : Int32)), .unset] [(.int (4 : Int32)), (.int (1 : Int32))])) (fun t k => XS.iloadN X56.here hx rfl (hb hby d12_91) rfl k) ?_
        refine own_icmp_eq X56 hx (hb hby d12_92) (pc' := 117) (by decide) (by decide) (fun c92_58 => absurd c92_58 (by decide)) (fun c92_58 => ?_)
        show own_G p e below _ (T56.setTop (mkF m 95 #[.val (.ref x), .val (.int (4 : Int32)), .val (.int pl), .val (.int (1 : Int32)), .val (.int (2 : Int32)), .val (.int (0 : Int32)), .unset] []))
        refine own_step (b := T56.setTop (mkF m 97 #[.val (.ref x), .val (.int (4 : Int32)), .val (.int pl), .val (.int (1 : Int32)), .val (.int (2 : Int32)), .val (.int (0 : Int32)), .unset] [(.int (2 : Int32))])) (fun t k => XS.iload X56.here hx rfl (hb hby d12_95) rfl k) ?_
        refine own_if_le X56 hx (hb hby d12_97) (pc' := 121) (by decide) (by decide) (fun c97_59 => absurd c97_59 (by decide)) (fun c97_59 => ?_)
        show own_G p e below _ (T56.setTop (mkF m 100 #[.val (.ref x), .val (.int (4 : Int32)), .val (.int pl), .val (.int (1 : Int32)), .val (.int (2 : Int32)), .val (.int (0 : Int32)), .unset] []))
        refine own_step (b := T56.setTop (mkF m 102 #[.val (.ref x), .val (.int (4 : Int32)), .val (.int pl), .val (.int (1 : Int32)), .val (.int (2 : Int32)), .val (.int (0 : Int32)), .unset] [(.int (2 : Int32))])) (fun t k => XS.iload X56.here hx rfl (hb hby d12_100) rfl k) ?_
        refine own_step (b := T56.setTop (mkF m 103 #[.val (.ref x), .val (.int (4 : Int32)), .val (.int pl), .val (.int (1 : Int32)), .val (.int (2 : Int32)), .val (.int (0 : Int32)), .unset] [(.int pl), (.int (2 : Int32))])) (fun t k => XS.iloadN X56.here hx rfl (hb hby d12_102) rfl k) ?_
        refine own_icmp_gt X56 hx (hb hby d12_103) (pc' := 121) (by decide) (by decide) (fun c103_60 => ?_) (fun c103_60 => ?_)
        · show own_G p e below _ (T56.setTop (mkF m 121 #[.val (.ref x), .val (.int (4 : Int32)), .val (.int pl), .val (.int (1 : Int32)), .val (.int (2 : Int32)), .val (.int (0 : Int32)), .unset] []))
          refine own_step (b := T56.setTop (mkF m 122 #[.val (.ref x), .val (.int (4 : Int32)), .val (.int pl), .val (.int (1 : Int32)), .val (.int (2 : Int32)), .val (.int (0 : Int32)), .unset] [(.int (0 : Int32))])) (fun t k => XS.iconst X56.here hx rfl (hb hby d12_121) k) ?_
          refine own_step (b := T56.setTop (mkF m 124 #[.val (.ref x), .val (.int (4 : Int32)), .val (.int pl), .val (.int (1 : Int32)), .val (.int (2 : Int32)), .val (.int (0 : Int32)), .val (.int (0 : Int32))] [])) (fun t k => XS.istore X56.here hx rfl (hb hby d12_122) rfl (l' := #[.val (.ref x), .val (.int (4 : Int32)), .val (.int pl), .val (.int (1 : Int32)), .val (.int (2 : Int32)), .val (.int (0 : Int32)), .val (.int (0 : Int32))]) rfl k) ?_
          refine own_step (b := T56.setTop (mkF m 126 #[.val (.ref x), .val (.int (4 : Int32)), .val (.int pl), .val (.int (1 : Int32)), .val (.int (2 : Int32)), .val (.int (0 : Int32)), .val (.int (0 : Int32))] [(.int (0 : Int32))])) (fun t k => XS.iload X56.here hx rfl (hb hby d12_124) rfl k) ?_
          exact own_retN X56 hx hret (by simp) hlk (hb hby d12_126) ⟨by rw [show (if c0 = 46 then false else (if c1 = 46 then ((own_dig c0) && !decide (pl < 2) && (own_dig c2 && own_dig c3)) else (if c2 = 46 then ((!decide (c0 = 48) && (own_dig c0 && own_dig c1)) && !decide (pl < 1) && (own_dig c3)) else (if c3 = 46 then false else (!decide (c0 = 48) && (own_dig c0 && own_dig c1 && own_dig c2 && own_dig c3)))))) = false by simp [c19_3, c19_6, c87_57b, c103_60, own_dig46]]; rfl, rfl, e56⟩ (by decide) (by decide)
        · show own_G p e below _ (T56.setTop (mkF m 106 #[.val (.ref x), .val (.int (4 : Int32)), .val (.int pl), .val (.int (1 : Int32)), .val (.int (2 : Int32)), .val (.int (0 : Int32)), .unset] []))
          refine own_step (b := T56.setTop (mkF m 107 #[.val (.ref x), .val (.int (4 : Int32)), .val (.int pl), .val (.int (1 : Int32)), .val (.int (2 : Int32)), .val (.int (0 : Int32)), .unset] [(.ref x)])) (fun t k => XS.aloadN X56.here hx rfl (hb hby d12_106) rfl rfl k) ?_
          refine own_step (b := T56.setTop (mkF m 108 #[.val (.ref x), .val (.int (4 : Int32)), .val (.int pl), .val (.int (1 : Int32)), .val (.int (2 : Int32)), .val (.int (0 : Int32)), .unset] [(.int (1 : Int32)), (.ref x)])) (fun t k => XS.iloadN X56.here hx rfl (hb hby d12_107) rfl k) ?_
          refine own_step (b := T56.setTop (mkF m 109 #[.val (.ref x), .val (.int (4 : Int32)), .val (.int pl), .val (.int (1 : Int32)), .val (.int (2 : Int32)), .val (.int (0 : Int32)), .unset] [(.int (1 : Int32)), (.int (1 : Int32)), (.ref x)])) (fun t k => XS.iconst X56.here hx rfl (hb hby d12_108) k) ?_
          refine own_step (b := T56.setTop (mkF m 110 #[.val (.ref x), .val (.int (4 : Int32)), .val (.int pl), .val (.int (1 : Int32)), .val (.int (2 : Int32)), .val (.int (0 : Int32)), .unset] [(.int (2 : Int32)), (.ref x)])) (fun t k => XS.iadd X56.here hx rfl (hb hby d12_109) rfl k) ?_
          refine own_step (b := T56.setTop (mkF m 111 #[.val (.ref x), .val (.int (4 : Int32)), .val (.int pl), .val (.int (1 : Int32)), .val (.int (2 : Int32)), .val (.int (0 : Int32)), .unset] [(.int (4 : Int32)), (.int (2 : Int32)), (.ref x)])) (fun t k => XS.iloadN X56.here hx rfl (hb hby d12_110) rfl k) ?_
          refine own_staticP (W := 0) (argsL := [(.ref x), (.int (2 : Int32)), (.int (4 : Int32))]) (st := []) X56 hx hZ hown (own_w hw 73 rfl) (own_w hw 74 rfl) (own_w hw 49 rfl) (own_w hw 75 rfl) (by decide) e56 (rmIsd_2_4 l Z a0 hw [] x c0 c1 c2 c3 h0 SS OL0 G1 O2 P5 G3 O4 rG3) (by decide) (by decide) (by decide) (by decide) (by rw [hml]; rfl) (lenOf pd4 rfl) rfl (Nat.le_of_ble_eq_true rfl) (hb hby d12_111) (fun T61 X61 e61 => ?_)
          show own_G p e below _ (T61.setTop (mkF m 114 #[.val (.ref x), .val (.int (4 : Int32)), .val (.int pl), .val (.int (1 : Int32)), .val (.int (2 : Int32)), .val (.int (0 : Int32)), .unset] [(.int (own_bi (own_dig c2 && own_dig c3)))]))
          refine own_if_eq X61 hx (hb hby d12_114) (pc' := 121) (by decide) (by decide) (fun c114_62 => ?_) (fun c114_62 => ?_)
          · show own_G p e below _ (T61.setTop (mkF m 121 #[.val (.ref x), .val (.int (4 : Int32)), .val (.int pl), .val (.int (1 : Int32)), .val (.int (2 : Int32)), .val (.int (0 : Int32)), .unset] []))
            have c114_62b : (own_dig c2 && own_dig c3) = false := own_bi_f c114_62
            refine own_step (b := T61.setTop (mkF m 122 #[.val (.ref x), .val (.int (4 : Int32)), .val (.int pl), .val (.int (1 : Int32)), .val (.int (2 : Int32)), .val (.int (0 : Int32)), .unset] [(.int (0 : Int32))])) (fun t k => XS.iconst X61.here hx rfl (hb hby d12_121) k) ?_
            refine own_step (b := T61.setTop (mkF m 124 #[.val (.ref x), .val (.int (4 : Int32)), .val (.int pl), .val (.int (1 : Int32)), .val (.int (2 : Int32)), .val (.int (0 : Int32)), .val (.int (0 : Int32))] [])) (fun t k => XS.istore X61.here hx rfl (hb hby d12_122) rfl (l' := #[.val (.ref x), .val (.int (4 : Int32)), .val (.int pl), .val (.int (1 : Int32)), .val (.int (2 : Int32)), .val (.int (0 : Int32)), .val (.int (0 : Int32))]) rfl k) ?_
            refine own_step (b := T61.setTop (mkF m 126 #[.val (.ref x), .val (.int (4 : Int32)), .val (.int pl), .val (.int (1 : Int32)), .val (.int (2 : Int32)), .val (.int (0 : Int32)), .val (.int (0 : Int32))] [(.int (0 : Int32))])) (fun t k => XS.iload X61.here hx rfl (hb hby d12_124) rfl k) ?_
            exact own_retN X61 hx hret (by simp) hlk (hb hby d12_126) ⟨by rw [show (if c0 = 46 then false else (if c1 = 46 then ((own_dig c0) && !decide (pl < 2) && (own_dig c2 && own_dig c3)) else (if c2 = 46 then ((!decide (c0 = 48) && (own_dig c0 && own_dig c1)) && !decide (pl < 1) && (own_dig c3)) else (if c3 = 46 then false else (!decide (c0 = 48) && (own_dig c0 && own_dig c1 && own_dig c2 && own_dig c3)))))) = false by simp [c19_3, c19_6, c87_57b, c103_60, c114_62b, own_dig46]]; rfl, rfl, e61⟩ (by decide) (by decide)
          · show own_G p e below _ (T61.setTop (mkF m 117 #[.val (.ref x), .val (.int (4 : Int32)), .val (.int pl), .val (.int (1 : Int32)), .val (.int (2 : Int32)), .val (.int (0 : Int32)), .unset] []))
            have c114_62b : (own_dig c2 && own_dig c3) = true := own_bi_t c114_62
            refine own_step (b := T61.setTop (mkF m 118 #[.val (.ref x), .val (.int (4 : Int32)), .val (.int pl), .val (.int (1 : Int32)), .val (.int (2 : Int32)), .val (.int (0 : Int32)), .unset] [(.int (1 : Int32))])) (fun t k => XS.iconst X61.here hx rfl (hb hby d12_117) k) ?_
            refine own_step (b := T61.setTop (mkF m 122 #[.val (.ref x), .val (.int (4 : Int32)), .val (.int pl), .val (.int (1 : Int32)), .val (.int (2 : Int32)), .val (.int (0 : Int32)), .unset] [(.int (1 : Int32))])) (fun t k => XS.goto X61.here hx rfl (pc0 := 118) (pc' := 122) rfl (hb hby d12_118) (by decide) (by decide) k) ?_
            refine own_step (b := T61.setTop (mkF m 124 #[.val (.ref x), .val (.int (4 : Int32)), .val (.int pl), .val (.int (1 : Int32)), .val (.int (2 : Int32)), .val (.int (0 : Int32)), .val (.int (1 : Int32))] [])) (fun t k => XS.istore X61.here hx rfl (hb hby d12_122) rfl (l' := #[.val (.ref x), .val (.int (4 : Int32)), .val (.int pl), .val (.int (1 : Int32)), .val (.int (2 : Int32)), .val (.int (0 : Int32)), .val (.int (1 : Int32))]) rfl k) ?_
            refine own_step (b := T61.setTop (mkF m 126 #[.val (.ref x), .val (.int (4 : Int32)), .val (.int pl), .val (.int (1 : Int32)), .val (.int (2 : Int32)), .val (.int (0 : Int32)), .val (.int (1 : Int32))] [(.int (1 : Int32))])) (fun t k => XS.iload X61.here hx rfl (hb hby d12_124) rfl k) ?_
            exact own_retN X61 hx hret (by simp) hlk (hb hby d12_126) ⟨by rw [show (if c0 = 46 then false else (if c1 = 46 then ((own_dig c0) && !decide (pl < 2) && (own_dig c2 && own_dig c3)) else (if c2 = 46 then ((!decide (c0 = 48) && (own_dig c0 && own_dig c1)) && !decide (pl < 1) && (own_dig c3)) else (if c3 = 46 then false else (!decide (c0 = 48) && (own_dig c0 && own_dig c1 && own_dig c2 && own_dig c3)))))) = true by simp [c19_3, c19_6, c87_57b, c103_60, c114_62b, own_dig46]]; rfl, rfl, e61⟩ (by decide) (by decide)
  · show own_G p e below _ (T2.setTop (mkF m 22 #[.val (.ref x), .val (.int (4 : Int32)), .val (.int pl), .val (.int (4 : Int32)), .val (.int (0 : Int32)), .unset, .unset] []))
    refine own_step (b := T2.setTop (mkF m 24 #[.val (.ref x), .val (.int (4 : Int32)), .val (.int pl), .val (.int (4 : Int32)), .val (.int (0 : Int32)), .unset, .unset] [(.int (0 : Int32))])) (fun t k => XS.iload X2.here hx rfl (hb hby d12_22) rfl k) ?_
    refine own_step (b := T2.setTop (mkF m 25 #[.val (.ref x), .val (.int (4 : Int32)), .val (.int pl), .val (.int (0 : Int32)), .val (.int (0 : Int32)), .unset, .unset] [])) (fun t k => XS.istoreN X2.here hx rfl (hb hby d12_24) rfl (l' := #[.val (.ref x), .val (.int (4 : Int32)), .val (.int pl), .val (.int (0 : Int32)), .val (.int (0 : Int32)), .unset, .unset]) rfl k) ?_
    refine own_step (b := T2.setTop (mkF m 34 #[.val (.ref x), .val (.int (4 : Int32)), .val (.int pl), .val (.int (0 : Int32)), .val (.int (0 : Int32)), .unset, .unset] [])) (fun t k => XS.goto X2.here hx rfl (pc0 := 25) (pc' := 34) rfl (hb hby d12_25) (by decide) (by decide) k) ?_
    refine own_step (b := T2.setTop (mkF m 35 #[.val (.ref x), .val (.int (4 : Int32)), .val (.int pl), .val (.int (0 : Int32)), .val (.int (0 : Int32)), .unset, .unset] [(.int (0 : Int32))])) (fun t k => XS.iloadN X2.here hx rfl (hb hby d12_34) rfl k) ?_
    refine own_step (b := T2.setTop (mkF m 36 #[.val (.ref x), .val (.int (4 : Int32)), .val (.int pl), .val (.int (0 : Int32)), .val (.int (0 : Int32)), .unset, .unset] [(.int (4 : Int32)), (.int (0 : Int32))])) (fun t k => XS.iloadN X2.here hx rfl (hb hby d12_35) rfl k) ?_
    refine own_icmp_ne X2 hx (hb hby d12_36) (pc' := 43) (by decide) (by decide) (fun c36_63 => ?_) (fun c36_63 => absurd c36_63 (by decide))
    show own_G p e below _ (T2.setTop (mkF m 43 #[.val (.ref x), .val (.int (4 : Int32)), .val (.int pl), .val (.int (0 : Int32)), .val (.int (0 : Int32)), .unset, .unset] []))
    refine own_step (b := T2.setTop (mkF m 44 #[.val (.ref x), .val (.int (4 : Int32)), .val (.int pl), .val (.int (0 : Int32)), .val (.int (0 : Int32)), .unset, .unset] [(.int (4 : Int32))])) (fun t k => XS.iloadN X2.here hx rfl (hb hby d12_43) rfl k) ?_
    refine own_step (b := T2.setTop (mkF m 45 #[.val (.ref x), .val (.int (4 : Int32)), .val (.int pl), .val (.int (0 : Int32)), .val (.int (0 : Int32)), .unset, .unset] [(.int (0 : Int32)), (.int (4 : Int32))])) (fun t k => XS.iloadN X2.here hx rfl (hb hby d12_44) rfl k) ?_
    refine own_step (b := T2.setTop (mkF m 46 #[.val (.ref x), .val (.int (4 : Int32)), .val (.int pl), .val (.int (0 : Int32)), .val (.int (0 : Int32)), .unset, .unset] [(.int (4 : Int32))])) (fun t k => XS.isub X2.here hx rfl (hb hby d12_45) rfl k) ?_
    refine own_step (b := T2.setTop (mkF m 47 #[.val (.ref x), .val (.int (4 : Int32)), .val (.int pl), .val (.int (0 : Int32)), .val (.int (0 : Int32)), .unset, .unset] [(.int (1 : Int32)), (.int (4 : Int32))])) (fun t k => XS.iconst X2.here hx rfl (hb hby d12_46) k) ?_
    refine own_step (b := T2.setTop (mkF m 48 #[.val (.ref x), .val (.int (4 : Int32)), .val (.int pl), .val (.int (0 : Int32)), .val (.int (0 : Int32)), .unset, .unset] [(.int (3 : Int32))])) (fun t k => XS.isub X2.here hx rfl (hb hby d12_47) rfl k) ?_
    refine own_step (b := T2.setTop (mkF m 50 #[.val (.ref x), .val (.int (4 : Int32)), .val (.int pl), .val (.int (0 : Int32)), .val (.int (3 : Int32)), .unset, .unset] [])) (fun t k => XS.istore X2.here hx rfl (hb hby d12_48) rfl (l' := #[.val (.ref x), .val (.int (4 : Int32)), .val (.int pl), .val (.int (0 : Int32)), .val (.int (3 : Int32)), .unset, .unset]) rfl k) ?_
    refine own_step (b := T2.setTop (mkF m 51 #[.val (.ref x), .val (.int (4 : Int32)), .val (.int pl), .val (.int (0 : Int32)), .val (.int (3 : Int32)), .unset, .unset] [(.int (0 : Int32))])) (fun t k => XS.iloadN X2.here hx rfl (hb hby d12_50) rfl k) ?_
    refine own_step (b := T2.setTop (mkF m 52 #[.val (.ref x), .val (.int (4 : Int32)), .val (.int pl), .val (.int (0 : Int32)), .val (.int (3 : Int32)), .unset, .unset] [(.int (1 : Int32)), (.int (0 : Int32))])) (fun t k => XS.iconst X2.here hx rfl (hb hby d12_51) k) ?_
    refine own_icmp_le X2 hx (hb hby d12_52) (pc' := 69) (by decide) (by decide) (fun c52_64 => ?_) (fun c52_64 => absurd c52_64 (by decide))
    show own_G p e below _ (T2.setTop (mkF m 69 #[.val (.ref x), .val (.int (4 : Int32)), .val (.int pl), .val (.int (0 : Int32)), .val (.int (3 : Int32)), .unset, .unset] []))
    refine own_step (b := T2.setTop (mkF m 70 #[.val (.ref x), .val (.int (4 : Int32)), .val (.int pl), .val (.int (0 : Int32)), .val (.int (3 : Int32)), .unset, .unset] [(.int (0 : Int32))])) (fun t k => XS.iconst X2.here hx rfl (hb hby d12_69) k) ?_
    refine own_step (b := T2.setTop (mkF m 72 #[.val (.ref x), .val (.int (4 : Int32)), .val (.int pl), .val (.int (0 : Int32)), .val (.int (3 : Int32)), .val (.int (0 : Int32)), .unset] [])) (fun t k => XS.istore X2.here hx rfl (hb hby d12_70) rfl (l' := #[.val (.ref x), .val (.int (4 : Int32)), .val (.int pl), .val (.int (0 : Int32)), .val (.int (3 : Int32)), .val (.int (0 : Int32)), .unset]) rfl k) ?_
    refine own_step (b := T2.setTop (mkF m 73 #[.val (.ref x), .val (.int (4 : Int32)), .val (.int pl), .val (.int (0 : Int32)), .val (.int (3 : Int32)), .val (.int (0 : Int32)), .unset] [(.int (0 : Int32))])) (fun t k => XS.iloadN X2.here hx rfl (hb hby d12_72) rfl k) ?_
    refine own_if_le X2 hx (hb hby d12_73) (pc' := 121) (by decide) (by decide) (fun c73_65 => ?_) (fun c73_65 => absurd c73_65 (by decide))
    show own_G p e below _ (T2.setTop (mkF m 121 #[.val (.ref x), .val (.int (4 : Int32)), .val (.int pl), .val (.int (0 : Int32)), .val (.int (3 : Int32)), .val (.int (0 : Int32)), .unset] []))
    refine own_step (b := T2.setTop (mkF m 122 #[.val (.ref x), .val (.int (4 : Int32)), .val (.int pl), .val (.int (0 : Int32)), .val (.int (3 : Int32)), .val (.int (0 : Int32)), .unset] [(.int (0 : Int32))])) (fun t k => XS.iconst X2.here hx rfl (hb hby d12_121) k) ?_
    refine own_step (b := T2.setTop (mkF m 124 #[.val (.ref x), .val (.int (4 : Int32)), .val (.int pl), .val (.int (0 : Int32)), .val (.int (3 : Int32)), .val (.int (0 : Int32)), .val (.int (0 : Int32))] [])) (fun t k => XS.istore X2.here hx rfl (hb hby d12_122) rfl (l' := #[.val (.ref x), .val (.int (4 : Int32)), .val (.int pl), .val (.int (0 : Int32)), .val (.int (3 : Int32)), .val (.int (0 : Int32)), .val (.int (0 : Int32))]) rfl k) ?_
    refine own_step (b := T2.setTop (mkF m 126 #[.val (.ref x), .val (.int (4 : Int32)), .val (.int pl), .val (.int (0 : Int32)), .val (.int (3 : Int32)), .val (.int (0 : Int32)), .val (.int (0 : Int32))] [(.int (0 : Int32))])) (fun t k => XS.iload X2.here hx rfl (hb hby d12_124) rfl k) ?_
    exact own_retN X2 hx hret (by simp) hlk (hb hby d12_126) ⟨by rw [show (if c0 = 46 then false else (if c1 = 46 then ((own_dig c0) && !decide (pl < 2) && (own_dig c2 && own_dig c3)) else (if c2 = 46 then ((!decide (c0 = 48) && (own_dig c0 && own_dig c1)) && !decide (pl < 1) && (own_dig c3)) else (if c3 = 46 then false else (!decide (c0 = 48) && (own_dig c0 && own_dig c1 && own_dig c2 && own_dig c3)))))) = false by simp [c19_3, own_dig46]]; rfl, rfl, hh2⟩ (by decide) (by decide)
theorem own_eq_0 (c0 c1 c2 c3 pl : Int32) : false = (false || false || false) := by
  simp [own_dig46, *]
theorem own_eq_1 (c0 c1 c2 c3 pl : Int32) : (if c0 = 46 then false else (own_dig c0)) = ((own_dig c0) || false || false) := by
  by_cases q0 : c0 = 46 <;> simp [own_dig46, *] <;> (first | done | (cases own_dig c0 <;> cases own_dig c1 <;> cases own_dig c2 <;> cases own_dig c3 <;> simp <;> (try omega)) | grind)
theorem own_eq_2 (c0 c1 c2 c3 pl : Int32) : (if c0 = 46 then false else (if c1 = 46 then false else (!decide (c0 = 48) && (own_dig c0 && own_dig c1)))) = (((own_dig c0 && own_dig c1) && !decide (c0 = 48)) || false || false) := by
  by_cases q0 : c0 = 46 <;>  by_cases q1 : c1 = 46 <;> simp [own_dig46, *] <;> (first | done | (cases own_dig c0 <;> cases own_dig c1 <;> cases own_dig c2 <;> cases own_dig c3 <;> simp <;> (try omega)) | grind)
theorem own_eq_3 (c0 c1 c2 c3 pl : Int32) : (if c0 = 46 then false else (if c1 = 46 then ((own_dig c0) && !decide (pl < 1) && (own_dig c2)) else (if c2 = 46 then false else (!decide (c0 = 48) && (own_dig c0 && own_dig c1 && own_dig c2))))) = (((own_dig c0 && own_dig c1 && own_dig c2) && !decide (c0 = 48)) || (decide (c1 = 46) && (own_dig c0) && (own_dig c2) && !decide (pl < 1)) || false) := by
  by_cases q0 : c0 = 46 <;>  by_cases q1 : c1 = 46 <;>  by_cases q2 : c2 = 46 <;> simp [own_dig46, *] <;> (first | done | (cases own_dig c0 <;> cases own_dig c1 <;> cases own_dig c2 <;> cases own_dig c3 <;> simp <;> (try omega)) | grind)
theorem own_eq_4 (c0 c1 c2 c3 pl : Int32) : (if c0 = 46 then false else (if c1 = 46 then ((own_dig c0) && !decide (pl < 2) && (own_dig c2 && own_dig c3)) else (if c2 = 46 then ((!decide (c0 = 48) && (own_dig c0 && own_dig c1)) && !decide (pl < 1) && (own_dig c3)) else (if c3 = 46 then false else (!decide (c0 = 48) && (own_dig c0 && own_dig c1 && own_dig c2 && own_dig c3)))))) = (((own_dig c0 && own_dig c1 && own_dig c2 && own_dig c3) && !decide (c0 = 48)) || (decide (c1 = 46) && (own_dig c0) && (own_dig c2 && own_dig c3) && !decide (pl < 2)) || (decide (c2 = 46) && ((own_dig c0 && own_dig c1) && !decide (c0 = 48)) && (own_dig c3) && !decide (pl < 1))) := by
  by_cases q0 : c0 = 46 <;>  by_cases q1 : c1 = 46 <;>  by_cases q2 : c2 = 46 <;>  by_cases q3 : c3 = 46 <;> simp [own_dig46, *] <;> (first | done | (cases own_dig c0 <;> cases own_dig c1 <;> cases own_dig c2 <;> cases own_dig c3 <;> simp <;> (try omega)) | grind)
theorem ef_0 (m : MethodId) (p0 p1 p2 p3 : Int32) : entryFrame m #[(.int p0), (.int p1), (.int p2), (.int p3)] maxLocals = mkF m 0 #[.val (.int p0), .val (.int p1), .val (.int p2), .val (.int p3), .unset, .unset, .unset, .unset, .unset] [] := by first | (simp [entryFrame, mkF, argsToLocals, Value.category, maxLocals]; done) | rfl
set_option maxRecDepth 65536 in
set_option maxHeartbeats 40000000 in
theorem rm0 (l : Launch) (Z : State) (a0 : Array Value) (hw : ∀ d ∈ tables_1, d.before a0 Z = true) (ws : List Jvm.Cond) (p0 p1 p2 p3 : Int32) (h0 : Heap) (G1 : Int32) (O2 : Sta Z Z.heap "java/lang/String" "COMPACT_STRINGS" "Z" (.int G1)) (P5 : ¬ (G1 = (0 : Int32))) (G3 : Value) (O4 : Sta Z Z.heap "jdk/internal/util/Preconditions" "SIOOBE_FORMATTER" "Ljava/util/function/BiFunction;" G3) (rG3 : G3.isRef = true) (OL0 : Old Z Z.heap.size h0) :
    own_Met l Z x code maxLocals ret ws room_1 #[(.int p0), (.int p1), (.int p2), (.int p3)] h0 (fun v h L => v = some (.int 1) ∧ Fr Z.heap.size L) := by
  refine own_enter (plainFor_of_name pn0) (fun m => ef_0 m p0 p1 p2 p3) ?_
  intro p e s m below meth c T0 hx hby hml hZ hown hnm hret hlk X0 e0
  have zz0 : Z.heap.size ≤ h0.size := OL0.2.1
  have N0 := Fr.nil Z.heap.size
  have hws : ∀ d ∈ StrChars.Road.words, d.before a0 Z = true := fun d hd => hw d ((by decide +kernel : ∀ d ∈ StrChars.Road.words, d ∈ tables_1) d hd)
  show own_G p e below _ (T0.setTop (mkF m 0 #[.val (.int p0), .val (.int p1), .val (.int p2), .val (.int p3), .unset, .unset, .unset, .unset, .unset] []))
  refine own_step (b := T0.setTop (mkF m 1 #[.val (.int p0), .val (.int p1), .val (.int p2), .val (.int p3), .unset, .unset, .unset, .unset, .unset] [(.int (4 : Int32))])) (fun t k => XS.iconst X0.here hx rfl (hb hby at_0) k) ?_
  refine own_newP X0 hx hZ (own_w hw 0 rfl) e0 (hb hby at_1) (n := (4 : Int32)) (by decide) 4 (by decide) (by decide) (by decide) (by decide) (fun T1 h1 a1 k1 X1 e1 g1 l1 E1 V1 => ?_)
  have V1' : Arv Z h1 a1 k1 .char (4 : Int32) [.int 0, .int 0, .int 0, .int 0] (.int 0) := V1
  show own_G p e below _ (T1.setTop (mkF m 3 #[.val (.int p0), .val (.int p1), .val (.int p2), .val (.int p3), .unset, .unset, .unset, .unset, .unset] [(.ref a1)]))
  have OL1 := OL0.ext E1
  refine own_step (b := T1.setTop (mkF m 5 #[.val (.int p0), .val (.int p1), .val (.int p2), .val (.int p3), .val (.ref a1), .unset, .unset, .unset, .unset] [])) (fun t k => XS.astore X1.here hx rfl (hb hby at_3) rfl rfl (l' := #[.val (.int p0), .val (.int p1), .val (.int p2), .val (.int p3), .val (.ref a1), .unset, .unset, .unset, .unset]) rfl k) ?_
  refine own_step (b := T1.setTop (mkF m 7 #[.val (.int p0), .val (.int p1), .val (.int p2), .val (.int p3), .val (.ref a1), .unset, .unset, .unset, .unset] [(.ref a1)])) (fun t k => XS.aload X1.here hx rfl (hb hby at_5) rfl rfl k) ?_
  refine own_step (b := T1.setTop (mkF m 8 #[.val (.int p0), .val (.int p1), .val (.int p2), .val (.int p3), .val (.ref a1), .unset, .unset, .unset, .unset] [(.int (0 : Int32)), (.ref a1)])) (fun t k => XS.iconst X1.here hx rfl (hb hby at_7) k) ?_
  refine own_step (b := T1.setTop (mkF m 9 #[.val (.int p0), .val (.int p1), .val (.int p2), .val (.int p3), .val (.ref a1), .unset, .unset, .unset, .unset] [(.int p0), (.int (0 : Int32)), (.ref a1)])) (fun t k => XS.iloadN X1.here hx rfl (hb hby at_8) rfl k) ?_
  refine own_static (W := 2) (argsL := [(.int p0)]) (st := [(.int (0 : Int32)), (.ref a1)]) X1 hx hZ hown (own_w hw 1 rfl) (own_w hw 2 rfl) (own_w hw 3 rfl) (own_w hw 4 rfl) (by decide) e1 (own_back (W := 2) (rmPick l Z a0 hw [] p0 h1) hZ (own_w hw 4 rfl) (own_w hw 3 rfl) (by decide) (by decide)) (by decide) (by decide) (by rw [hml]; rfl) (lenOf pd3 rfl) rfl (Nat.le_of_ble_eq_true rfl) (hb hby at_9) (fun v2 T2 L2 X2 hQ2 => ?_)
  obtain ⟨c0, rfl, hc0, rfl, hh2⟩ := hQ2
  rw [List.append_nil] at X2
  show own_G p e below _ (T2.setTop (mkF m 12 #[.val (.int p0), .val (.int p1), .val (.int p2), .val (.int p3), .val (.ref a1), .unset, .unset, .unset, .unset] [(.int c0), (.int (0 : Int32)), (.ref a1)]))
  refine own_stC X2 hx hZ hh2 V1' 0 (by decide) (by decide) (by decide) (Nat.le_of_ble_eq_true rfl) N0 (by omega) (hb hby at_12) (fun T3 h3 X3 e3 N3 W3 z3 V3 => ?_)
  have V3' : Arv Z h3 a1 k1 .char (4 : Int32) [.int (nar .char c0), .int 0, .int 0, .int 0] (.int 0) := V3
  show own_G p e below _ (T3.setTop (mkF m 13 #[.val (.int p0), .val (.int p1), .val (.int p2), .val (.int p3), .val (.ref a1), .unset, .unset, .unset, .unset] []))
  have V3s : Arv Z h3 a1 k1 .char (4 : Int32) [.int c0, .int 0, .int 0, .int 0] (.int 0) := by have q := V3'; rw [own_narC hc0.1 hc0.2] at q; exact q
  have OL3 := OL1.wr W3 (by omega)
  refine own_step (b := T3.setTop (mkF m 15 #[.val (.int p0), .val (.int p1), .val (.int p2), .val (.int p3), .val (.ref a1), .unset, .unset, .unset, .unset] [(.ref a1)])) (fun t k => XS.aload X3.here hx rfl (hb hby at_13) rfl rfl k) ?_
  refine own_step (b := T3.setTop (mkF m 16 #[.val (.int p0), .val (.int p1), .val (.int p2), .val (.int p3), .val (.ref a1), .unset, .unset, .unset, .unset] [(.int (1 : Int32)), (.ref a1)])) (fun t k => XS.iconst X3.here hx rfl (hb hby at_15) k) ?_
  refine own_step (b := T3.setTop (mkF m 17 #[.val (.int p0), .val (.int p1), .val (.int p2), .val (.int p3), .val (.ref a1), .unset, .unset, .unset, .unset] [(.int p0), (.int (1 : Int32)), (.ref a1)])) (fun t k => XS.iloadN X3.here hx rfl (hb hby at_16) rfl k) ?_
  refine own_step (b := T3.setTop (mkF m 19 #[.val (.int p0), .val (.int p1), .val (.int p2), .val (.int p3), .val (.ref a1), .unset, .unset, .unset, .unset] [(.int (16 : Int32)), (.int p0), (.int (1 : Int32)), (.ref a1)])) (fun t k => XS.bipush X3.here hx rfl (hb hby at_17) k) ?_
  refine own_step (b := T3.setTop (mkF m 20 #[.val (.int p0), .val (.int p1), .val (.int p2), .val (.int p3), .val (.ref a1), .unset, .unset, .unset, .unset] [(.int (XT.ushr p0 (16 : Int32))), (.int (1 : Int32)), (.ref a1)])) (fun t k => XT.iushr X3.here hx rfl (hb hby at_19) rfl k) ?_
  refine own_static (W := 2) (argsL := [(.int (XT.ushr p0 (16 : Int32)))]) (st := [(.int (1 : Int32)), (.ref a1)]) X3 hx hZ hown (own_w hw 1 rfl) (own_w hw 2 rfl) (own_w hw 3 rfl) (own_w hw 4 rfl) (by decide) e3 (own_back (W := 2) (rmPick l Z a0 hw [] (XT.ushr p0 (16 : Int32)) h3) hZ (own_w hw 4 rfl) (own_w hw 3 rfl) (by decide) (by decide)) (by decide) (by decide) (by rw [hml]; rfl) (lenOf pd3 rfl) rfl (Nat.le_of_ble_eq_true rfl) (hb hby at_20) (fun v4 T4 L4 X4 hQ4 => ?_)
  obtain ⟨c1, rfl, hc1, rfl, hh4⟩ := hQ4
  rw [List.append_nil] at X4
  show own_G p e below _ (T4.setTop (mkF m 23 #[.val (.int p0), .val (.int p1), .val (.int p2), .val (.int p3), .val (.ref a1), .unset, .unset, .unset, .unset] [(.int c1), (.int (1 : Int32)), (.ref a1)]))
  refine own_stC X4 hx hZ hh4 V3s 1 (by decide) (by decide) (by decide) (Nat.le_of_ble_eq_true rfl) N3 (by omega) (hb hby at_23) (fun T5 h5 X5 e5 N5 W5 z5 V5 => ?_)
  have V5' : Arv Z h5 a1 k1 .char (4 : Int32) [.int c0, .int (nar .char c1), .int 0, .int 0] (.int 0) := V5
  show own_G p e below _ (T5.setTop (mkF m 24 #[.val (.int p0), .val (.int p1), .val (.int p2), .val (.int p3), .val (.ref a1), .unset, .unset, .unset, .unset] []))
  have V5s : Arv Z h5 a1 k1 .char (4 : Int32) [.int c0, .int c1, .int 0, .int 0] (.int 0) := by have q := V5'; rw [own_narC hc1.1 hc1.2] at q; exact q
  have OL5 := OL3.wr W5 (by omega)
  refine own_step (b := T5.setTop (mkF m 26 #[.val (.int p0), .val (.int p1), .val (.int p2), .val (.int p3), .val (.ref a1), .unset, .unset, .unset, .unset] [(.ref a1)])) (fun t k => XS.aload X5.here hx rfl (hb hby at_24) rfl rfl k) ?_
  refine own_step (b := T5.setTop (mkF m 27 #[.val (.int p0), .val (.int p1), .val (.int p2), .val (.int p3), .val (.ref a1), .unset, .unset, .unset, .unset] [(.int (2 : Int32)), (.ref a1)])) (fun t k => XS.iconst X5.here hx rfl (hb hby at_26) k) ?_
  refine own_step (b := T5.setTop (mkF m 28 #[.val (.int p0), .val (.int p1), .val (.int p2), .val (.int p3), .val (.ref a1), .unset, .unset, .unset, .unset] [(.int p1), (.int (2 : Int32)), (.ref a1)])) (fun t k => XS.iloadN X5.here hx rfl (hb hby at_27) rfl k) ?_
  refine own_static (W := 2) (argsL := [(.int p1)]) (st := [(.int (2 : Int32)), (.ref a1)]) X5 hx hZ hown (own_w hw 1 rfl) (own_w hw 2 rfl) (own_w hw 3 rfl) (own_w hw 4 rfl) (by decide) e5 (own_back (W := 2) (rmPick l Z a0 hw [] p1 h5) hZ (own_w hw 4 rfl) (own_w hw 3 rfl) (by decide) (by decide)) (by decide) (by decide) (by rw [hml]; rfl) (lenOf pd3 rfl) rfl (Nat.le_of_ble_eq_true rfl) (hb hby at_28) (fun v6 T6 L6 X6 hQ6 => ?_)
  obtain ⟨c2, rfl, hc2, rfl, hh6⟩ := hQ6
  rw [List.append_nil] at X6
  show own_G p e below _ (T6.setTop (mkF m 31 #[.val (.int p0), .val (.int p1), .val (.int p2), .val (.int p3), .val (.ref a1), .unset, .unset, .unset, .unset] [(.int c2), (.int (2 : Int32)), (.ref a1)]))
  refine own_stC X6 hx hZ hh6 V5s 2 (by decide) (by decide) (by decide) (Nat.le_of_ble_eq_true rfl) N5 (by omega) (hb hby at_31) (fun T7 h7 X7 e7 N7 W7 z7 V7 => ?_)
  have V7' : Arv Z h7 a1 k1 .char (4 : Int32) [.int c0, .int c1, .int (nar .char c2), .int 0] (.int 0) := V7
  show own_G p e below _ (T7.setTop (mkF m 32 #[.val (.int p0), .val (.int p1), .val (.int p2), .val (.int p3), .val (.ref a1), .unset, .unset, .unset, .unset] []))
  have V7s : Arv Z h7 a1 k1 .char (4 : Int32) [.int c0, .int c1, .int c2, .int 0] (.int 0) := by have q := V7'; rw [own_narC hc2.1 hc2.2] at q; exact q
  have OL7 := OL5.wr W7 (by omega)
  refine own_step (b := T7.setTop (mkF m 34 #[.val (.int p0), .val (.int p1), .val (.int p2), .val (.int p3), .val (.ref a1), .unset, .unset, .unset, .unset] [(.ref a1)])) (fun t k => XS.aload X7.here hx rfl (hb hby at_32) rfl rfl k) ?_
  refine own_step (b := T7.setTop (mkF m 35 #[.val (.int p0), .val (.int p1), .val (.int p2), .val (.int p3), .val (.ref a1), .unset, .unset, .unset, .unset] [(.int (3 : Int32)), (.ref a1)])) (fun t k => XS.iconst X7.here hx rfl (hb hby at_34) k) ?_
  refine own_step (b := T7.setTop (mkF m 36 #[.val (.int p0), .val (.int p1), .val (.int p2), .val (.int p3), .val (.ref a1), .unset, .unset, .unset, .unset] [(.int p1), (.int (3 : Int32)), (.ref a1)])) (fun t k => XS.iloadN X7.here hx rfl (hb hby at_35) rfl k) ?_
  refine own_step (b := T7.setTop (mkF m 38 #[.val (.int p0), .val (.int p1), .val (.int p2), .val (.int p3), .val (.ref a1), .unset, .unset, .unset, .unset] [(.int (16 : Int32)), (.int p1), (.int (3 : Int32)), (.ref a1)])) (fun t k => XS.bipush X7.here hx rfl (hb hby at_36) k) ?_
  refine own_step (b := T7.setTop (mkF m 39 #[.val (.int p0), .val (.int p1), .val (.int p2), .val (.int p3), .val (.ref a1), .unset, .unset, .unset, .unset] [(.int (XT.ushr p1 (16 : Int32))), (.int (3 : Int32)), (.ref a1)])) (fun t k => XT.iushr X7.here hx rfl (hb hby at_38) rfl k) ?_
  refine own_static (W := 2) (argsL := [(.int (XT.ushr p1 (16 : Int32)))]) (st := [(.int (3 : Int32)), (.ref a1)]) X7 hx hZ hown (own_w hw 1 rfl) (own_w hw 2 rfl) (own_w hw 3 rfl) (own_w hw 4 rfl) (by decide) e7 (own_back (W := 2) (rmPick l Z a0 hw [] (XT.ushr p1 (16 : Int32)) h7) hZ (own_w hw 4 rfl) (own_w hw 3 rfl) (by decide) (by decide)) (by decide) (by decide) (by rw [hml]; rfl) (lenOf pd3 rfl) rfl (Nat.le_of_ble_eq_true rfl) (hb hby at_39) (fun v8 T8 L8 X8 hQ8 => ?_)
  obtain ⟨c3, rfl, hc3, rfl, hh8⟩ := hQ8
  rw [List.append_nil] at X8
  show own_G p e below _ (T8.setTop (mkF m 42 #[.val (.int p0), .val (.int p1), .val (.int p2), .val (.int p3), .val (.ref a1), .unset, .unset, .unset, .unset] [(.int c3), (.int (3 : Int32)), (.ref a1)]))
  refine own_stC X8 hx hZ hh8 V7s 3 (by decide) (by decide) (by decide) (Nat.le_of_ble_eq_true rfl) N7 (by omega) (hb hby at_42) (fun T9 h9 X9 e9 N9 W9 z9 V9 => ?_)
  have V9' : Arv Z h9 a1 k1 .char (4 : Int32) [.int c0, .int c1, .int c2, .int (nar .char c3)] (.int 0) := V9
  show own_G p e below _ (T9.setTop (mkF m 43 #[.val (.int p0), .val (.int p1), .val (.int p2), .val (.int p3), .val (.ref a1), .unset, .unset, .unset, .unset] []))
  have V9s : Arv Z h9 a1 k1 .char (4 : Int32) [.int c0, .int c1, .int c2, .int c3] (.int 0) := by have q := V9'; rw [own_narC hc3.1 hc3.2] at q; exact q
  have OL9 := OL7.wr W9 (by omega)
  refine own_newO X9 hx hZ hown (own_w hw 5 rfl) (own_w hw 6 rfl) (own_w hw 7 rfl) e9 (hb hby at_43) (by decide) (by decide) (fun T10 h10 a10 X10 e10 g10 l10 E10 A10 D10 => ?_)
  show own_G p e below _ (T10.setTop (mkF m 46 #[.val (.int p0), .val (.int p1), .val (.int p2), .val (.int p3), .val (.ref a1), .unset, .unset, .unset, .unset] [(.ref a10)]))
  have OL10 := OL9.ext E10
  refine own_step (b := T10.setTop (mkF m 47 #[.val (.int p0), .val (.int p1), .val (.int p2), .val (.int p3), .val (.ref a1), .unset, .unset, .unset, .unset] [(.ref a10), (.ref a10)])) (fun t k => XS.dup X10.here hx rfl (hb hby at_46) rfl rfl k) ?_
  refine own_step (b := T10.setTop (mkF m 49 #[.val (.int p0), .val (.int p1), .val (.int p2), .val (.int p3), .val (.ref a1), .unset, .unset, .unset, .unset] [(.ref a1), (.ref a10), (.ref a10)])) (fun t k => XS.aload X10.here hx rfl (hb hby at_47) rfl rfl k) ?_
  have hp : ∀ c ∈ ([c0, c1, c2, c3] : List Int32), ¬ c < 0 ∧ ¬ (255 : Int32) < c := by
    intro c hc
    simp only [List.mem_cons, List.not_mem_nil, or_false] at hc
    rcases hc with rfl | rfl | rfl | rfl
    · exact hc0
    · exact hc1
    · exact hc2
    · exact hc3
  have VA := V9s.ext E10
  refine own_special (W := 1) (argsL := [(.ref a1)]) (a := a10) (st := [(.ref a10)]) X10 hx hZ hown rfl (own_w hw 8 rfl) (own_w hw 9 rfl) (own_w hw 10 rfl) (by decide) e10 (StrChars.Road.backV (W := 1) hZ hws (kI := 4) (own_w hw 6 rfl) (cs := ([c0, c1, c2, c3] : List Int32)) (bs := (([c0, c1, c2, c3] : List Int32)).map (fun c => c.toInt8.toInt32)) (n := 4) (n0 := Z.heap.size) (by omega) (by omega) A10 (D10 (Or.inr (own_w hw 33 rfl)) (ty := (.array .byte)) (by decide)) (D10 (Or.inr (own_w hw 31 rfl)) (ty := .byte) (by decide)) VA (O2.ext OL10.2) P5 rfl rfl (by decide) (by decide) hp rfl (by decide) (by decide)) (by decide) (by decide) (by rw [hml]; rfl) (lenOf pd5 rfl) rfl (Nat.le_of_ble_eq_true rfl) (hb hby at_49) (fun v11 T11 L11 X11 hQ11 => ?_)
  obtain ⟨rfl, M11, K11, E11, C11, t11, kb11, u11, uu11, uuu11, F11, B11⟩ := hQ11
  have z11 : h10.size ≤ T11.heap.size := K11.1
  have N11 := Fr.app N9 M11
  have OL11 := OL10.keep K11 (allS (by omega) all0)
  show own_G p e below _ (T11.setTop (mkF m 52 #[.val (.int p0), .val (.int p1), .val (.int p2), .val (.int p3), .val (.ref a1), .unset, .unset, .unset, .unset] [(.ref a10)]))
  have V := VA.keep K11 (ninS (own_ne (by omega)) nin0)
  have SS : own_Str Z T11.heap a10 [c0, c1, c2, c3] := ⟨E11, hp, (Nat.le_of_ble_eq_true rfl), C11, _, _, F11, B11⟩
  refine own_step (b := T11.setTop (mkF m 54 #[.val (.int p0), .val (.int p1), .val (.int p2), .val (.int p3), .val (.ref a1), .val (.ref a10), .unset, .unset, .unset] [])) (fun t k => XS.astore X11.here hx rfl (hb hby at_52) rfl rfl (l' := #[.val (.int p0), .val (.int p1), .val (.int p2), .val (.int p3), .val (.ref a1), .val (.ref a10), .unset, .unset, .unset]) rfl k) ?_
  refine own_step (b := T11.setTop (mkF m 55 #[.val (.int p0), .val (.int p1), .val (.int p2), .val (.int p3), .val (.ref a1), .val (.ref a10), .unset, .unset, .unset] [(.int p2)])) (fun t k => XS.iloadN X11.here hx rfl (hb hby at_54) rfl k) ?_
  refine own_step (b := T11.setTop (mkF m 57 #[.val (.int p0), .val (.int p1), .val (.int p2), .val (.int p3), .val (.ref a1), .val (.ref a10), .unset, .unset, .unset] [(.int (2147483647 : Int32)), (.int p2)])) (X11.ldcInt hx hown (mvT hZ (own_w hw 34 rfl)) (g := (mkF m 55 #[.val (.int p0), .val (.int p1), .val (.int p2), .val (.int p3), .val (.ref a1), .val (.ref a10), .unset, .unset, .unset] [(.int p2)])) rfl (hb hby at_55)) ?_
  refine own_step (b := T11.setTop (mkF m 58 #[.val (.int p0), .val (.int p1), .val (.int p2), .val (.int p3), .val (.ref a1), .val (.ref a10), .unset, .unset, .unset] [(.int (p2 &&& (2147483647 : Int32)))])) (fun t k => XS.iand X11.here hx rfl (hb hby at_57) rfl k) ?_
  refine own_step (b := T11.setTop (mkF m 59 #[.val (.int p0), .val (.int p1), .val (.int p2), .val (.int p3), .val (.ref a1), .val (.ref a10), .unset, .unset, .unset] [(.int (5 : Int32)), (.int (p2 &&& (2147483647 : Int32)))])) (fun t k => XS.iconst X11.here hx rfl (hb hby at_58) k) ?_
  refine own_step (b := T11.setTop (mkF m 60 #[.val (.int p0), .val (.int p1), .val (.int p2), .val (.int p3), .val (.ref a1), .val (.ref a10), .unset, .unset, .unset] [(.int ((p2 &&& (2147483647 : Int32)) % (5 : Int32)))])) (fun t k => iremM X11 hx rfl (hb hby at_59) rfl (by decide) k) ?_
  refine own_step (b := T11.setTop (mkF m 62 #[.val (.int p0), .val (.int p1), .val (.int p2), .val (.int p3), .val (.ref a1), .val (.ref a10), .val (.int ((p2 &&& (2147483647 : Int32)) % (5 : Int32))), .unset, .unset] [])) (fun t k => XS.istore X11.here hx rfl (hb hby at_60) rfl (l' := #[.val (.int p0), .val (.int p1), .val (.int p2), .val (.int p3), .val (.ref a1), .val (.ref a10), .val (.int ((p2 &&& (2147483647 : Int32)) % (5 : Int32))), .unset, .unset]) rfl k) ?_
  have J79 : ∀ en : Int32, (en = 0 ∨ en = 1 ∨ en = 2 ∨ en = 3 ∨ en = 4) → ∀ pl : Int32, own_G p e below (own_F s (fun v h L => v = some (.int 1) ∧ Fr Z.heap.size L) room_1.cells room_1.slots) (T11.setTop (mkF m 79 #[.val (.int p0), .val (.int p1), .val (.int p2), .val (.int p3), .val (.ref a1), .val (.ref a10), .val (.int en), .unset, .unset] [(.int pl)])) := by
    rintro en (rfl | rfl | rfl | rfl | rfl) pl
    · show own_G p e below _ (T11.setTop (mkF m 79 #[.val (.int p0), .val (.int p1), .val (.int p2), .val (.int p3), .val (.ref a1), .val (.ref a10), .val (.int (0 : Int32)), .unset, .unset] [(.int pl)]))
      refine own_step (b := T11.setTop (mkF m 81 #[.val (.int p0), .val (.int p1), .val (.int p2), .val (.int p3), .val (.ref a1), .val (.ref a10), .val (.int (0 : Int32)), .val (.int pl), .unset] [])) (fun t k => XS.istore X11.here hx rfl (hb hby at_79) rfl (l' := #[.val (.int p0), .val (.int p1), .val (.int p2), .val (.int p3), .val (.ref a1), .val (.ref a10), .val (.int (0 : Int32)), .val (.int pl), .unset]) rfl k) ?_
      refine own_step (b := T11.setTop (mkF m 83 #[.val (.int p0), .val (.int p1), .val (.int p2), .val (.int p3), .val (.ref a1), .val (.ref a10), .val (.int (0 : Int32)), .val (.int pl), .unset] [(.ref a1)])) (fun t k => XS.aload X11.here hx rfl (hb hby at_81) rfl rfl k) ?_
      refine own_step (b := T11.setTop (mkF m 85 #[.val (.int p0), .val (.int p1), .val (.int p2), .val (.int p3), .val (.ref a1), .val (.ref a10), .val (.int (0 : Int32)), .val (.int pl), .unset] [(.int (0 : Int32)), (.ref a1)])) (fun t k => XS.iload X11.here hx rfl (hb hby at_83) rfl k) ?_
      refine own_staticP (W := 0) (argsL := [(.ref a1), (.int (0 : Int32))]) (st := []) X11 hx hZ hown (own_w hw 35 rfl) (own_w hw 36 rfl) (own_w hw 3 rfl) (own_w hw 37 rfl) (by decide) rfl (rmWhole_0 l Z a0 hw [] a1 k1 c0 c1 c2 c3 T11.heap V) (by decide) (by decide) (by decide) (by decide) (by rw [hml]; rfl) (lenOf pd2 rfl) rfl (Nat.le_of_ble_eq_true rfl) (hb hby at_85) (fun T12 X12 e12 => ?_)
      show own_G p e below _ (T12.setTop (mkF m 88 #[.val (.int p0), .val (.int p1), .val (.int p2), .val (.int p3), .val (.ref a1), .val (.ref a10), .val (.int (0 : Int32)), .val (.int pl), .unset] [(.int (own_bi false))]))
      refine own_if_ne X12 hx (hb hby at_88) (pc' := 117) (by decide) (by decide) (fun c88_13 => ?_) (fun c88_13 => ?_)
      · show own_G p e below _ (T12.setTop (mkF m 117 #[.val (.int p0), .val (.int p1), .val (.int p2), .val (.int p3), .val (.ref a1), .val (.ref a10), .val (.int (0 : Int32)), .val (.int pl), .unset] []))
        have c88_13b : false = true := own_bi_t c88_13
        refine own_step (b := T12.setTop (mkF m 118 #[.val (.int p0), .val (.int p1), .val (.int p2), .val (.int p3), .val (.ref a1), .val (.ref a10), .val (.int (0 : Int32)), .val (.int pl), .unset] [(.int (1 : Int32))])) (fun t k => XS.iconst X12.here hx rfl (hb hby at_117) k) ?_
        refine own_step (b := T12.setTop (mkF m 122 #[.val (.int p0), .val (.int p1), .val (.int p2), .val (.int p3), .val (.ref a1), .val (.ref a10), .val (.int (0 : Int32)), .val (.int pl), .unset] [(.int (1 : Int32))])) (fun t k => XS.goto X12.here hx rfl (pc0 := 118) (pc' := 122) rfl (hb hby at_118) (by decide) (by decide) k) ?_
        refine own_step (b := T12.setTop (mkF m 124 #[.val (.int p0), .val (.int p1), .val (.int p2), .val (.int p3), .val (.ref a1), .val (.ref a10), .val (.int (0 : Int32)), .val (.int pl), .val (.int (1 : Int32))] [])) (fun t k => XS.istore X12.here hx rfl (hb hby at_122) rfl (l' := #[.val (.int p0), .val (.int p1), .val (.int p2), .val (.int p3), .val (.ref a1), .val (.ref a10), .val (.int (0 : Int32)), .val (.int pl), .val (.int (1 : Int32))]) rfl k) ?_
        refine own_step (b := T12.setTop (mkF m 126 #[.val (.int p0), .val (.int p1), .val (.int p2), .val (.int p3), .val (.ref a1), .val (.ref a10), .val (.int (0 : Int32)), .val (.int pl), .val (.int (1 : Int32))] [(.ref a10)])) (fun t k => XS.aload X12.here hx rfl (hb hby at_124) rfl rfl k) ?_
        refine own_step (b := T12.setTop (mkF m 128 #[.val (.int p0), .val (.int p1), .val (.int p2), .val (.int p3), .val (.ref a1), .val (.ref a10), .val (.int (0 : Int32)), .val (.int pl), .val (.int (1 : Int32))] [(.int (0 : Int32)), (.ref a10)])) (fun t k => XS.iload X12.here hx rfl (hb hby at_126) rfl k) ?_
        refine own_step (b := T12.setTop (mkF m 130 #[.val (.int p0), .val (.int p1), .val (.int p2), .val (.int p3), .val (.ref a1), .val (.ref a10), .val (.int (0 : Int32)), .val (.int pl), .val (.int (1 : Int32))] [(.int pl), (.int (0 : Int32)), (.ref a10)])) (fun t k => XS.iload X12.here hx rfl (hb hby at_128) rfl k) ?_
        refine own_staticP (W := 0) (argsL := [(.ref a10), (.int (0 : Int32)), (.int pl)]) (st := []) X12 hx hZ hown (own_w hw 47 rfl) (own_w hw 48 rfl) (own_w hw 49 rfl) (own_w hw 50 rfl) (by decide) e12 (rmMat_0 l Z a0 hw [] pl a10 c0 c1 c2 c3 T11.heap SS OL11 G1 O2 P5 G3 O4 rG3) (by decide) (by decide) (by decide) (by decide) (by rw [hml]; rfl) (lenOf pd4 rfl) rfl (Nat.le_of_ble_eq_true rfl) (hb hby at_130) (fun T14 X14 e14 => ?_)
        show own_G p e below _ (T14.setTop (mkF m 133 #[.val (.int p0), .val (.int p1), .val (.int p2), .val (.int p3), .val (.ref a1), .val (.ref a10), .val (.int (0 : Int32)), .val (.int pl), .val (.int (1 : Int32))] [(.int (own_bi false))]))
        refine own_step (b := T14.setTop (mkF m 135 #[.val (.int p0), .val (.int p1), .val (.int p2), .val (.int p3), .val (.ref a1), .val (.ref a10), .val (.int (0 : Int32)), .val (.int pl), .val (.int (1 : Int32))] [(.int (1 : Int32)), (.int (own_bi false))])) (fun t k => XS.iload X14.here hx rfl (hb hby at_133) rfl k) ?_
        have hm15 : false = true := by simp_all
        refine own_icmp_ne X14 hx (hb hby at_135) (pc' := 142) (by decide) (by decide) (fun c135_15 => absurd (by rw [hm15]; rfl) c135_15) (fun c135_15 => ?_)
        show own_G p e below _ (T14.setTop (mkF m 138 #[.val (.int p0), .val (.int p1), .val (.int p2), .val (.int p3), .val (.ref a1), .val (.ref a10), .val (.int (0 : Int32)), .val (.int pl), .val (.int (1 : Int32))] []))
        refine own_step (b := T14.setTop (mkF m 139 #[.val (.int p0), .val (.int p1), .val (.int p2), .val (.int p3), .val (.ref a1), .val (.ref a10), .val (.int (0 : Int32)), .val (.int pl), .val (.int (1 : Int32))] [(.int (1 : Int32))])) (fun t k => XS.iconst X14.here hx rfl (hb hby at_138) k) ?_
        refine own_step (b := T14.setTop (mkF m 143 #[.val (.int p0), .val (.int p1), .val (.int p2), .val (.int p3), .val (.ref a1), .val (.ref a10), .val (.int (0 : Int32)), .val (.int pl), .val (.int (1 : Int32))] [(.int (1 : Int32))])) (fun t k => XS.goto X14.here hx rfl (pc0 := 139) (pc' := 143) rfl (hb hby at_139) (by decide) (by decide) k) ?_
        exact own_retN X14 hx hret (by simp) hlk (hb hby at_143) ⟨rfl, N11⟩ (by decide) (by decide)
      · show own_G p e below _ (T12.setTop (mkF m 91 #[.val (.int p0), .val (.int p1), .val (.int p2), .val (.int p3), .val (.ref a1), .val (.ref a10), .val (.int (0 : Int32)), .val (.int pl), .unset] []))
        have c88_13b : false = false := own_bi_f c88_13
        refine own_step (b := T12.setTop (mkF m 93 #[.val (.int p0), .val (.int p1), .val (.int p2), .val (.int p3), .val (.ref a1), .val (.ref a10), .val (.int (0 : Int32)), .val (.int pl), .unset] [(.ref a1)])) (fun t k => XS.aload X12.here hx rfl (hb hby at_91) rfl rfl k) ?_
        refine own_step (b := T12.setTop (mkF m 94 #[.val (.int p0), .val (.int p1), .val (.int p2), .val (.int p3), .val (.ref a1), .val (.ref a10), .val (.int (0 : Int32)), .val (.int pl), .unset] [(.int (1 : Int32)), (.ref a1)])) (fun t k => XS.iconst X12.here hx rfl (hb hby at_93) k) ?_
        refine own_step (b := T12.setTop (mkF m 96 #[.val (.int p0), .val (.int p1), .val (.int p2), .val (.int p3), .val (.ref a1), .val (.ref a10), .val (.int (0 : Int32)), .val (.int pl), .unset] [(.int (0 : Int32)), (.int (1 : Int32)), (.ref a1)])) (fun t k => XS.iload X12.here hx rfl (hb hby at_94) rfl k) ?_
        refine own_step (b := T12.setTop (mkF m 98 #[.val (.int p0), .val (.int p1), .val (.int p2), .val (.int p3), .val (.ref a1), .val (.ref a10), .val (.int (0 : Int32)), .val (.int pl), .unset] [(.int pl), (.int (0 : Int32)), (.int (1 : Int32)), (.ref a1)])) (fun t k => XS.iload X12.here hx rfl (hb hby at_96) rfl k) ?_
        refine own_staticP (W := 0) (argsL := [(.ref a1), (.int (1 : Int32)), (.int (0 : Int32)), (.int pl)]) (st := []) X12 hx hZ hown (own_w hw 44 rfl) (own_w hw 45 rfl) (own_w hw 3 rfl) (own_w hw 46 rfl) (by decide) e12 (rmFrac_1_0 l Z a0 hw [] pl a1 k1 c0 c1 c2 c3 T11.heap V) (by decide) (by decide) (by decide) (by decide) (by rw [hml]; rfl) (lenOf pd6 rfl) rfl (Nat.le_of_ble_eq_true rfl) (hb hby at_98) (fun T16 X16 e16 => ?_)
        show own_G p e below _ (T16.setTop (mkF m 101 #[.val (.int p0), .val (.int p1), .val (.int p2), .val (.int p3), .val (.ref a1), .val (.ref a10), .val (.int (0 : Int32)), .val (.int pl), .unset] [(.int (own_bi false))]))
        refine own_if_ne X16 hx (hb hby at_101) (pc' := 117) (by decide) (by decide) (fun c101_17 => ?_) (fun c101_17 => ?_)
        · show own_G p e below _ (T16.setTop (mkF m 117 #[.val (.int p0), .val (.int p1), .val (.int p2), .val (.int p3), .val (.ref a1), .val (.ref a10), .val (.int (0 : Int32)), .val (.int pl), .unset] []))
          have c101_17b : false = true := own_bi_t c101_17
          refine own_step (b := T16.setTop (mkF m 118 #[.val (.int p0), .val (.int p1), .val (.int p2), .val (.int p3), .val (.ref a1), .val (.ref a10), .val (.int (0 : Int32)), .val (.int pl), .unset] [(.int (1 : Int32))])) (fun t k => XS.iconst X16.here hx rfl (hb hby at_117) k) ?_
          refine own_step (b := T16.setTop (mkF m 122 #[.val (.int p0), .val (.int p1), .val (.int p2), .val (.int p3), .val (.ref a1), .val (.ref a10), .val (.int (0 : Int32)), .val (.int pl), .unset] [(.int (1 : Int32))])) (fun t k => XS.goto X16.here hx rfl (pc0 := 118) (pc' := 122) rfl (hb hby at_118) (by decide) (by decide) k) ?_
          refine own_step (b := T16.setTop (mkF m 124 #[.val (.int p0), .val (.int p1), .val (.int p2), .val (.int p3), .val (.ref a1), .val (.ref a10), .val (.int (0 : Int32)), .val (.int pl), .val (.int (1 : Int32))] [])) (fun t k => XS.istore X16.here hx rfl (hb hby at_122) rfl (l' := #[.val (.int p0), .val (.int p1), .val (.int p2), .val (.int p3), .val (.ref a1), .val (.ref a10), .val (.int (0 : Int32)), .val (.int pl), .val (.int (1 : Int32))]) rfl k) ?_
          refine own_step (b := T16.setTop (mkF m 126 #[.val (.int p0), .val (.int p1), .val (.int p2), .val (.int p3), .val (.ref a1), .val (.ref a10), .val (.int (0 : Int32)), .val (.int pl), .val (.int (1 : Int32))] [(.ref a10)])) (fun t k => XS.aload X16.here hx rfl (hb hby at_124) rfl rfl k) ?_
          refine own_step (b := T16.setTop (mkF m 128 #[.val (.int p0), .val (.int p1), .val (.int p2), .val (.int p3), .val (.ref a1), .val (.ref a10), .val (.int (0 : Int32)), .val (.int pl), .val (.int (1 : Int32))] [(.int (0 : Int32)), (.ref a10)])) (fun t k => XS.iload X16.here hx rfl (hb hby at_126) rfl k) ?_
          refine own_step (b := T16.setTop (mkF m 130 #[.val (.int p0), .val (.int p1), .val (.int p2), .val (.int p3), .val (.ref a1), .val (.ref a10), .val (.int (0 : Int32)), .val (.int pl), .val (.int (1 : Int32))] [(.int pl), (.int (0 : Int32)), (.ref a10)])) (fun t k => XS.iload X16.here hx rfl (hb hby at_128) rfl k) ?_
          refine own_staticP (W := 0) (argsL := [(.ref a10), (.int (0 : Int32)), (.int pl)]) (st := []) X16 hx hZ hown (own_w hw 47 rfl) (own_w hw 48 rfl) (own_w hw 49 rfl) (own_w hw 50 rfl) (by decide) e16 (rmMat_0 l Z a0 hw [] pl a10 c0 c1 c2 c3 T11.heap SS OL11 G1 O2 P5 G3 O4 rG3) (by decide) (by decide) (by decide) (by decide) (by rw [hml]; rfl) (lenOf pd4 rfl) rfl (Nat.le_of_ble_eq_true rfl) (hb hby at_130) (fun T18 X18 e18 => ?_)
          show own_G p e below _ (T18.setTop (mkF m 133 #[.val (.int p0), .val (.int p1), .val (.int p2), .val (.int p3), .val (.ref a1), .val (.ref a10), .val (.int (0 : Int32)), .val (.int pl), .val (.int (1 : Int32))] [(.int (own_bi false))]))
          refine own_step (b := T18.setTop (mkF m 135 #[.val (.int p0), .val (.int p1), .val (.int p2), .val (.int p3), .val (.ref a1), .val (.ref a10), .val (.int (0 : Int32)), .val (.int pl), .val (.int (1 : Int32))] [(.int (1 : Int32)), (.int (own_bi false))])) (fun t k => XS.iload X18.here hx rfl (hb hby at_133) rfl k) ?_
          have hm19 : false = true := by simp_all
          refine own_icmp_ne X18 hx (hb hby at_135) (pc' := 142) (by decide) (by decide) (fun c135_19 => absurd (by rw [hm19]; rfl) c135_19) (fun c135_19 => ?_)
          show own_G p e below _ (T18.setTop (mkF m 138 #[.val (.int p0), .val (.int p1), .val (.int p2), .val (.int p3), .val (.ref a1), .val (.ref a10), .val (.int (0 : Int32)), .val (.int pl), .val (.int (1 : Int32))] []))
          refine own_step (b := T18.setTop (mkF m 139 #[.val (.int p0), .val (.int p1), .val (.int p2), .val (.int p3), .val (.ref a1), .val (.ref a10), .val (.int (0 : Int32)), .val (.int pl), .val (.int (1 : Int32))] [(.int (1 : Int32))])) (fun t k => XS.iconst X18.here hx rfl (hb hby at_138) k) ?_
          refine own_step (b := T18.setTop (mkF m 143 #[.val (.int p0), .val (.int p1), .val (.int p2), .val (.int p3), .val (.ref a1), .val (.ref a10), .val (.int (0 : Int32)), .val (.int pl), .val (.int (1 : Int32))] [(.int (1 : Int32))])) (fun t k => XS.goto X18.here hx rfl (pc0 := 139) (pc' := 143) rfl (hb hby at_139) (by decide) (by decide) k) ?_
          exact own_retN X18 hx hret (by simp) hlk (hb hby at_143) ⟨rfl, N11⟩ (by decide) (by decide)
        · show own_G p e below _ (T16.setTop (mkF m 104 #[.val (.int p0), .val (.int p1), .val (.int p2), .val (.int p3), .val (.ref a1), .val (.ref a10), .val (.int (0 : Int32)), .val (.int pl), .unset] []))
          have c101_17b : false = false := own_bi_f c101_17
          refine own_step (b := T16.setTop (mkF m 106 #[.val (.int p0), .val (.int p1), .val (.int p2), .val (.int p3), .val (.ref a1), .val (.ref a10), .val (.int (0 : Int32)), .val (.int pl), .unset] [(.ref a1)])) (fun t k => XS.aload X16.here hx rfl (hb hby at_104) rfl rfl k) ?_
          refine own_step (b := T16.setTop (mkF m 107 #[.val (.int p0), .val (.int p1), .val (.int p2), .val (.int p3), .val (.ref a1), .val (.ref a10), .val (.int (0 : Int32)), .val (.int pl), .unset] [(.int (2 : Int32)), (.ref a1)])) (fun t k => XS.iconst X16.here hx rfl (hb hby at_106) k) ?_
          refine own_step (b := T16.setTop (mkF m 109 #[.val (.int p0), .val (.int p1), .val (.int p2), .val (.int p3), .val (.ref a1), .val (.ref a10), .val (.int (0 : Int32)), .val (.int pl), .unset] [(.int (0 : Int32)), (.int (2 : Int32)), (.ref a1)])) (fun t k => XS.iload X16.here hx rfl (hb hby at_107) rfl k) ?_
          refine own_step (b := T16.setTop (mkF m 111 #[.val (.int p0), .val (.int p1), .val (.int p2), .val (.int p3), .val (.ref a1), .val (.ref a10), .val (.int (0 : Int32)), .val (.int pl), .unset] [(.int pl), (.int (0 : Int32)), (.int (2 : Int32)), (.ref a1)])) (fun t k => XS.iload X16.here hx rfl (hb hby at_109) rfl k) ?_
          refine own_staticP (W := 0) (argsL := [(.ref a1), (.int (2 : Int32)), (.int (0 : Int32)), (.int pl)]) (st := []) X16 hx hZ hown (own_w hw 44 rfl) (own_w hw 45 rfl) (own_w hw 3 rfl) (own_w hw 46 rfl) (by decide) e16 (rmFrac_2_0 l Z a0 hw [] pl a1 k1 c0 c1 c2 c3 T11.heap V) (by decide) (by decide) (by decide) (by decide) (by rw [hml]; rfl) (lenOf pd6 rfl) rfl (Nat.le_of_ble_eq_true rfl) (hb hby at_111) (fun T20 X20 e20 => ?_)
          show own_G p e below _ (T20.setTop (mkF m 114 #[.val (.int p0), .val (.int p1), .val (.int p2), .val (.int p3), .val (.ref a1), .val (.ref a10), .val (.int (0 : Int32)), .val (.int pl), .unset] [(.int (own_bi false))]))
          refine own_if_eq X20 hx (hb hby at_114) (pc' := 121) (by decide) (by decide) (fun c114_21 => ?_) (fun c114_21 => ?_)
          · show own_G p e below _ (T20.setTop (mkF m 121 #[.val (.int p0), .val (.int p1), .val (.int p2), .val (.int p3), .val (.ref a1), .val (.ref a10), .val (.int (0 : Int32)), .val (.int pl), .unset] []))
            have c114_21b : false = false := own_bi_f c114_21
            refine own_step (b := T20.setTop (mkF m 122 #[.val (.int p0), .val (.int p1), .val (.int p2), .val (.int p3), .val (.ref a1), .val (.ref a10), .val (.int (0 : Int32)), .val (.int pl), .unset] [(.int (0 : Int32))])) (fun t k => XS.iconst X20.here hx rfl (hb hby at_121) k) ?_
            refine own_step (b := T20.setTop (mkF m 124 #[.val (.int p0), .val (.int p1), .val (.int p2), .val (.int p3), .val (.ref a1), .val (.ref a10), .val (.int (0 : Int32)), .val (.int pl), .val (.int (0 : Int32))] [])) (fun t k => XS.istore X20.here hx rfl (hb hby at_122) rfl (l' := #[.val (.int p0), .val (.int p1), .val (.int p2), .val (.int p3), .val (.ref a1), .val (.ref a10), .val (.int (0 : Int32)), .val (.int pl), .val (.int (0 : Int32))]) rfl k) ?_
            refine own_step (b := T20.setTop (mkF m 126 #[.val (.int p0), .val (.int p1), .val (.int p2), .val (.int p3), .val (.ref a1), .val (.ref a10), .val (.int (0 : Int32)), .val (.int pl), .val (.int (0 : Int32))] [(.ref a10)])) (fun t k => XS.aload X20.here hx rfl (hb hby at_124) rfl rfl k) ?_
            refine own_step (b := T20.setTop (mkF m 128 #[.val (.int p0), .val (.int p1), .val (.int p2), .val (.int p3), .val (.ref a1), .val (.ref a10), .val (.int (0 : Int32)), .val (.int pl), .val (.int (0 : Int32))] [(.int (0 : Int32)), (.ref a10)])) (fun t k => XS.iload X20.here hx rfl (hb hby at_126) rfl k) ?_
            refine own_step (b := T20.setTop (mkF m 130 #[.val (.int p0), .val (.int p1), .val (.int p2), .val (.int p3), .val (.ref a1), .val (.ref a10), .val (.int (0 : Int32)), .val (.int pl), .val (.int (0 : Int32))] [(.int pl), (.int (0 : Int32)), (.ref a10)])) (fun t k => XS.iload X20.here hx rfl (hb hby at_128) rfl k) ?_
            refine own_staticP (W := 0) (argsL := [(.ref a10), (.int (0 : Int32)), (.int pl)]) (st := []) X20 hx hZ hown (own_w hw 47 rfl) (own_w hw 48 rfl) (own_w hw 49 rfl) (own_w hw 50 rfl) (by decide) e20 (rmMat_0 l Z a0 hw [] pl a10 c0 c1 c2 c3 T11.heap SS OL11 G1 O2 P5 G3 O4 rG3) (by decide) (by decide) (by decide) (by decide) (by rw [hml]; rfl) (lenOf pd4 rfl) rfl (Nat.le_of_ble_eq_true rfl) (hb hby at_130) (fun T22 X22 e22 => ?_)
            show own_G p e below _ (T22.setTop (mkF m 133 #[.val (.int p0), .val (.int p1), .val (.int p2), .val (.int p3), .val (.ref a1), .val (.ref a10), .val (.int (0 : Int32)), .val (.int pl), .val (.int (0 : Int32))] [(.int (own_bi false))]))
            refine own_step (b := T22.setTop (mkF m 135 #[.val (.int p0), .val (.int p1), .val (.int p2), .val (.int p3), .val (.ref a1), .val (.ref a10), .val (.int (0 : Int32)), .val (.int pl), .val (.int (0 : Int32))] [(.int (0 : Int32)), (.int (own_bi false))])) (fun t k => XS.iload X22.here hx rfl (hb hby at_133) rfl k) ?_
            have hm23 : false = false := by simp_all
            refine own_icmp_ne X22 hx (hb hby at_135) (pc' := 142) (by decide) (by decide) (fun c135_23 => absurd (by rw [hm23]; rfl) c135_23) (fun c135_23 => ?_)
            show own_G p e below _ (T22.setTop (mkF m 138 #[.val (.int p0), .val (.int p1), .val (.int p2), .val (.int p3), .val (.ref a1), .val (.ref a10), .val (.int (0 : Int32)), .val (.int pl), .val (.int (0 : Int32))] []))
            refine own_step (b := T22.setTop (mkF m 139 #[.val (.int p0), .val (.int p1), .val (.int p2), .val (.int p3), .val (.ref a1), .val (.ref a10), .val (.int (0 : Int32)), .val (.int pl), .val (.int (0 : Int32))] [(.int (1 : Int32))])) (fun t k => XS.iconst X22.here hx rfl (hb hby at_138) k) ?_
            refine own_step (b := T22.setTop (mkF m 143 #[.val (.int p0), .val (.int p1), .val (.int p2), .val (.int p3), .val (.ref a1), .val (.ref a10), .val (.int (0 : Int32)), .val (.int pl), .val (.int (0 : Int32))] [(.int (1 : Int32))])) (fun t k => XS.goto X22.here hx rfl (pc0 := 139) (pc' := 143) rfl (hb hby at_139) (by decide) (by decide) k) ?_
            exact own_retN X22 hx hret (by simp) hlk (hb hby at_143) ⟨rfl, N11⟩ (by decide) (by decide)
          · show own_G p e below _ (T20.setTop (mkF m 117 #[.val (.int p0), .val (.int p1), .val (.int p2), .val (.int p3), .val (.ref a1), .val (.ref a10), .val (.int (0 : Int32)), .val (.int pl), .unset] []))
            have c114_21b : false = true := own_bi_t c114_21
            refine own_step (b := T20.setTop (mkF m 118 #[.val (.int p0), .val (.int p1), .val (.int p2), .val (.int p3), .val (.ref a1), .val (.ref a10), .val (.int (0 : Int32)), .val (.int pl), .unset] [(.int (1 : Int32))])) (fun t k => XS.iconst X20.here hx rfl (hb hby at_117) k) ?_
            refine own_step (b := T20.setTop (mkF m 122 #[.val (.int p0), .val (.int p1), .val (.int p2), .val (.int p3), .val (.ref a1), .val (.ref a10), .val (.int (0 : Int32)), .val (.int pl), .unset] [(.int (1 : Int32))])) (fun t k => XS.goto X20.here hx rfl (pc0 := 118) (pc' := 122) rfl (hb hby at_118) (by decide) (by decide) k) ?_
            refine own_step (b := T20.setTop (mkF m 124 #[.val (.int p0), .val (.int p1), .val (.int p2), .val (.int p3), .val (.ref a1), .val (.ref a10), .val (.int (0 : Int32)), .val (.int pl), .val (.int (1 : Int32))] [])) (fun t k => XS.istore X20.here hx rfl (hb hby at_122) rfl (l' := #[.val (.int p0), .val (.int p1), .val (.int p2), .val (.int p3), .val (.ref a1), .val (.ref a10), .val (.int (0 : Int32)), .val (.int pl), .val (.int (1 : Int32))]) rfl k) ?_
            refine own_step (b := T20.setTop (mkF m 126 #[.val (.int p0), .val (.int p1), .val (.int p2), .val (.int p3), .val (.ref a1), .val (.ref a10), .val (.int (0 : Int32)), .val (.int pl), .val (.int (1 : Int32))] [(.ref a10)])) (fun t k => XS.aload X20.here hx rfl (hb hby at_124) rfl rfl k) ?_
            refine own_step (b := T20.setTop (mkF m 128 #[.val (.int p0), .val (.int p1), .val (.int p2), .val (.int p3), .val (.ref a1), .val (.ref a10), .val (.int (0 : Int32)), .val (.int pl), .val (.int (1 : Int32))] [(.int (0 : Int32)), (.ref a10)])) (fun t k => XS.iload X20.here hx rfl (hb hby at_126) rfl k) ?_
            refine own_step (b := T20.setTop (mkF m 130 #[.val (.int p0), .val (.int p1), .val (.int p2), .val (.int p3), .val (.ref a1), .val (.ref a10), .val (.int (0 : Int32)), .val (.int pl), .val (.int (1 : Int32))] [(.int pl), (.int (0 : Int32)), (.ref a10)])) (fun t k => XS.iload X20.here hx rfl (hb hby at_128) rfl k) ?_
            refine own_staticP (W := 0) (argsL := [(.ref a10), (.int (0 : Int32)), (.int pl)]) (st := []) X20 hx hZ hown (own_w hw 47 rfl) (own_w hw 48 rfl) (own_w hw 49 rfl) (own_w hw 50 rfl) (by decide) e20 (rmMat_0 l Z a0 hw [] pl a10 c0 c1 c2 c3 T11.heap SS OL11 G1 O2 P5 G3 O4 rG3) (by decide) (by decide) (by decide) (by decide) (by rw [hml]; rfl) (lenOf pd4 rfl) rfl (Nat.le_of_ble_eq_true rfl) (hb hby at_130) (fun T24 X24 e24 => ?_)
            show own_G p e below _ (T24.setTop (mkF m 133 #[.val (.int p0), .val (.int p1), .val (.int p2), .val (.int p3), .val (.ref a1), .val (.ref a10), .val (.int (0 : Int32)), .val (.int pl), .val (.int (1 : Int32))] [(.int (own_bi false))]))
            refine own_step (b := T24.setTop (mkF m 135 #[.val (.int p0), .val (.int p1), .val (.int p2), .val (.int p3), .val (.ref a1), .val (.ref a10), .val (.int (0 : Int32)), .val (.int pl), .val (.int (1 : Int32))] [(.int (1 : Int32)), (.int (own_bi false))])) (fun t k => XS.iload X24.here hx rfl (hb hby at_133) rfl k) ?_
            have hm25 : false = true := by simp_all
            refine own_icmp_ne X24 hx (hb hby at_135) (pc' := 142) (by decide) (by decide) (fun c135_25 => absurd (by rw [hm25]; rfl) c135_25) (fun c135_25 => ?_)
            show own_G p e below _ (T24.setTop (mkF m 138 #[.val (.int p0), .val (.int p1), .val (.int p2), .val (.int p3), .val (.ref a1), .val (.ref a10), .val (.int (0 : Int32)), .val (.int pl), .val (.int (1 : Int32))] []))
            refine own_step (b := T24.setTop (mkF m 139 #[.val (.int p0), .val (.int p1), .val (.int p2), .val (.int p3), .val (.ref a1), .val (.ref a10), .val (.int (0 : Int32)), .val (.int pl), .val (.int (1 : Int32))] [(.int (1 : Int32))])) (fun t k => XS.iconst X24.here hx rfl (hb hby at_138) k) ?_
            refine own_step (b := T24.setTop (mkF m 143 #[.val (.int p0), .val (.int p1), .val (.int p2), .val (.int p3), .val (.ref a1), .val (.ref a10), .val (.int (0 : Int32)), .val (.int pl), .val (.int (1 : Int32))] [(.int (1 : Int32))])) (fun t k => XS.goto X24.here hx rfl (pc0 := 139) (pc' := 143) rfl (hb hby at_139) (by decide) (by decide) k) ?_
            exact own_retN X24 hx hret (by simp) hlk (hb hby at_143) ⟨rfl, N11⟩ (by decide) (by decide)
    · show own_G p e below _ (T11.setTop (mkF m 79 #[.val (.int p0), .val (.int p1), .val (.int p2), .val (.int p3), .val (.ref a1), .val (.ref a10), .val (.int (1 : Int32)), .unset, .unset] [(.int pl)]))
      refine own_step (b := T11.setTop (mkF m 81 #[.val (.int p0), .val (.int p1), .val (.int p2), .val (.int p3), .val (.ref a1), .val (.ref a10), .val (.int (1 : Int32)), .val (.int pl), .unset] [])) (fun t k => XS.istore X11.here hx rfl (hb hby at_79) rfl (l' := #[.val (.int p0), .val (.int p1), .val (.int p2), .val (.int p3), .val (.ref a1), .val (.ref a10), .val (.int (1 : Int32)), .val (.int pl), .unset]) rfl k) ?_
      refine own_step (b := T11.setTop (mkF m 83 #[.val (.int p0), .val (.int p1), .val (.int p2), .val (.int p3), .val (.ref a1), .val (.ref a10), .val (.int (1 : Int32)), .val (.int pl), .unset] [(.ref a1)])) (fun t k => XS.aload X11.here hx rfl (hb hby at_81) rfl rfl k) ?_
      refine own_step (b := T11.setTop (mkF m 85 #[.val (.int p0), .val (.int p1), .val (.int p2), .val (.int p3), .val (.ref a1), .val (.ref a10), .val (.int (1 : Int32)), .val (.int pl), .unset] [(.int (1 : Int32)), (.ref a1)])) (fun t k => XS.iload X11.here hx rfl (hb hby at_83) rfl k) ?_
      refine own_staticP (W := 0) (argsL := [(.ref a1), (.int (1 : Int32))]) (st := []) X11 hx hZ hown (own_w hw 35 rfl) (own_w hw 36 rfl) (own_w hw 3 rfl) (own_w hw 37 rfl) (by decide) rfl (rmWhole_1 l Z a0 hw [] a1 k1 c0 c1 c2 c3 T11.heap V) (by decide) (by decide) (by decide) (by decide) (by rw [hml]; rfl) (lenOf pd2 rfl) rfl (Nat.le_of_ble_eq_true rfl) (hb hby at_85) (fun T26 X26 e26 => ?_)
      show own_G p e below _ (T26.setTop (mkF m 88 #[.val (.int p0), .val (.int p1), .val (.int p2), .val (.int p3), .val (.ref a1), .val (.ref a10), .val (.int (1 : Int32)), .val (.int pl), .unset] [(.int (own_bi (own_dig c0)))]))
      refine own_if_ne X26 hx (hb hby at_88) (pc' := 117) (by decide) (by decide) (fun c88_27 => ?_) (fun c88_27 => ?_)
      · show own_G p e below _ (T26.setTop (mkF m 117 #[.val (.int p0), .val (.int p1), .val (.int p2), .val (.int p3), .val (.ref a1), .val (.ref a10), .val (.int (1 : Int32)), .val (.int pl), .unset] []))
        have c88_27b : (own_dig c0) = true := own_bi_t c88_27
        refine own_step (b := T26.setTop (mkF m 118 #[.val (.int p0), .val (.int p1), .val (.int p2), .val (.int p3), .val (.ref a1), .val (.ref a10), .val (.int (1 : Int32)), .val (.int pl), .unset] [(.int (1 : Int32))])) (fun t k => XS.iconst X26.here hx rfl (hb hby at_117) k) ?_
        refine own_step (b := T26.setTop (mkF m 122 #[.val (.int p0), .val (.int p1), .val (.int p2), .val (.int p3), .val (.ref a1), .val (.ref a10), .val (.int (1 : Int32)), .val (.int pl), .unset] [(.int (1 : Int32))])) (fun t k => XS.goto X26.here hx rfl (pc0 := 118) (pc' := 122) rfl (hb hby at_118) (by decide) (by decide) k) ?_
        refine own_step (b := T26.setTop (mkF m 124 #[.val (.int p0), .val (.int p1), .val (.int p2), .val (.int p3), .val (.ref a1), .val (.ref a10), .val (.int (1 : Int32)), .val (.int pl), .val (.int (1 : Int32))] [])) (fun t k => XS.istore X26.here hx rfl (hb hby at_122) rfl (l' := #[.val (.int p0), .val (.int p1), .val (.int p2), .val (.int p3), .val (.ref a1), .val (.ref a10), .val (.int (1 : Int32)), .val (.int pl), .val (.int (1 : Int32))]) rfl k) ?_
        refine own_step (b := T26.setTop (mkF m 126 #[.val (.int p0), .val (.int p1), .val (.int p2), .val (.int p3), .val (.ref a1), .val (.ref a10), .val (.int (1 : Int32)), .val (.int pl), .val (.int (1 : Int32))] [(.ref a10)])) (fun t k => XS.aload X26.here hx rfl (hb hby at_124) rfl rfl k) ?_
        refine own_step (b := T26.setTop (mkF m 128 #[.val (.int p0), .val (.int p1), .val (.int p2), .val (.int p3), .val (.ref a1), .val (.ref a10), .val (.int (1 : Int32)), .val (.int pl), .val (.int (1 : Int32))] [(.int (1 : Int32)), (.ref a10)])) (fun t k => XS.iload X26.here hx rfl (hb hby at_126) rfl k) ?_
        refine own_step (b := T26.setTop (mkF m 130 #[.val (.int p0), .val (.int p1), .val (.int p2), .val (.int p3), .val (.ref a1), .val (.ref a10), .val (.int (1 : Int32)), .val (.int pl), .val (.int (1 : Int32))] [(.int pl), (.int (1 : Int32)), (.ref a10)])) (fun t k => XS.iload X26.here hx rfl (hb hby at_128) rfl k) ?_
        refine own_staticP (W := 0) (argsL := [(.ref a10), (.int (1 : Int32)), (.int pl)]) (st := []) X26 hx hZ hown (own_w hw 47 rfl) (own_w hw 48 rfl) (own_w hw 49 rfl) (own_w hw 50 rfl) (by decide) e26 (rmMat_1 l Z a0 hw [] pl a10 c0 c1 c2 c3 T11.heap SS OL11 G1 O2 P5 G3 O4 rG3) (by decide) (by decide) (by decide) (by decide) (by rw [hml]; rfl) (lenOf pd4 rfl) rfl (Nat.le_of_ble_eq_true rfl) (hb hby at_130) (fun T28 X28 e28 => ?_)
        show own_G p e below _ (T28.setTop (mkF m 133 #[.val (.int p0), .val (.int p1), .val (.int p2), .val (.int p3), .val (.ref a1), .val (.ref a10), .val (.int (1 : Int32)), .val (.int pl), .val (.int (1 : Int32))] [(.int (own_bi (if c0 = 46 then false else (own_dig c0))))]))
        refine own_step (b := T28.setTop (mkF m 135 #[.val (.int p0), .val (.int p1), .val (.int p2), .val (.int p3), .val (.ref a1), .val (.ref a10), .val (.int (1 : Int32)), .val (.int pl), .val (.int (1 : Int32))] [(.int (1 : Int32)), (.int (own_bi (if c0 = 46 then false else (own_dig c0))))])) (fun t k => XS.iload X28.here hx rfl (hb hby at_133) rfl k) ?_
        have hm29 : (if c0 = 46 then false else (own_dig c0)) = true := by rw [own_eq_1 c0 c1 c2 c3 pl]; simp [c88_27b]
        refine own_icmp_ne X28 hx (hb hby at_135) (pc' := 142) (by decide) (by decide) (fun c135_29 => absurd (by rw [hm29]; rfl) c135_29) (fun c135_29 => ?_)
        show own_G p e below _ (T28.setTop (mkF m 138 #[.val (.int p0), .val (.int p1), .val (.int p2), .val (.int p3), .val (.ref a1), .val (.ref a10), .val (.int (1 : Int32)), .val (.int pl), .val (.int (1 : Int32))] []))
        refine own_step (b := T28.setTop (mkF m 139 #[.val (.int p0), .val (.int p1), .val (.int p2), .val (.int p3), .val (.ref a1), .val (.ref a10), .val (.int (1 : Int32)), .val (.int pl), .val (.int (1 : Int32))] [(.int (1 : Int32))])) (fun t k => XS.iconst X28.here hx rfl (hb hby at_138) k) ?_
        refine own_step (b := T28.setTop (mkF m 143 #[.val (.int p0), .val (.int p1), .val (.int p2), .val (.int p3), .val (.ref a1), .val (.ref a10), .val (.int (1 : Int32)), .val (.int pl), .val (.int (1 : Int32))] [(.int (1 : Int32))])) (fun t k => XS.goto X28.here hx rfl (pc0 := 139) (pc' := 143) rfl (hb hby at_139) (by decide) (by decide) k) ?_
        exact own_retN X28 hx hret (by simp) hlk (hb hby at_143) ⟨rfl, N11⟩ (by decide) (by decide)
      · show own_G p e below _ (T26.setTop (mkF m 91 #[.val (.int p0), .val (.int p1), .val (.int p2), .val (.int p3), .val (.ref a1), .val (.ref a10), .val (.int (1 : Int32)), .val (.int pl), .unset] []))
        have c88_27b : (own_dig c0) = false := own_bi_f c88_27
        refine own_step (b := T26.setTop (mkF m 93 #[.val (.int p0), .val (.int p1), .val (.int p2), .val (.int p3), .val (.ref a1), .val (.ref a10), .val (.int (1 : Int32)), .val (.int pl), .unset] [(.ref a1)])) (fun t k => XS.aload X26.here hx rfl (hb hby at_91) rfl rfl k) ?_
        refine own_step (b := T26.setTop (mkF m 94 #[.val (.int p0), .val (.int p1), .val (.int p2), .val (.int p3), .val (.ref a1), .val (.ref a10), .val (.int (1 : Int32)), .val (.int pl), .unset] [(.int (1 : Int32)), (.ref a1)])) (fun t k => XS.iconst X26.here hx rfl (hb hby at_93) k) ?_
        refine own_step (b := T26.setTop (mkF m 96 #[.val (.int p0), .val (.int p1), .val (.int p2), .val (.int p3), .val (.ref a1), .val (.ref a10), .val (.int (1 : Int32)), .val (.int pl), .unset] [(.int (1 : Int32)), (.int (1 : Int32)), (.ref a1)])) (fun t k => XS.iload X26.here hx rfl (hb hby at_94) rfl k) ?_
        refine own_step (b := T26.setTop (mkF m 98 #[.val (.int p0), .val (.int p1), .val (.int p2), .val (.int p3), .val (.ref a1), .val (.ref a10), .val (.int (1 : Int32)), .val (.int pl), .unset] [(.int pl), (.int (1 : Int32)), (.int (1 : Int32)), (.ref a1)])) (fun t k => XS.iload X26.here hx rfl (hb hby at_96) rfl k) ?_
        refine own_staticP (W := 0) (argsL := [(.ref a1), (.int (1 : Int32)), (.int (1 : Int32)), (.int pl)]) (st := []) X26 hx hZ hown (own_w hw 44 rfl) (own_w hw 45 rfl) (own_w hw 3 rfl) (own_w hw 46 rfl) (by decide) e26 (rmFrac_1_1 l Z a0 hw [] pl a1 k1 c0 c1 c2 c3 T11.heap V) (by decide) (by decide) (by decide) (by decide) (by rw [hml]; rfl) (lenOf pd6 rfl) rfl (Nat.le_of_ble_eq_true rfl) (hb hby at_98) (fun T30 X30 e30 => ?_)
        show own_G p e below _ (T30.setTop (mkF m 101 #[.val (.int p0), .val (.int p1), .val (.int p2), .val (.int p3), .val (.ref a1), .val (.ref a10), .val (.int (1 : Int32)), .val (.int pl), .unset] [(.int (own_bi false))]))
        refine own_if_ne X30 hx (hb hby at_101) (pc' := 117) (by decide) (by decide) (fun c101_31 => ?_) (fun c101_31 => ?_)
        · show own_G p e below _ (T30.setTop (mkF m 117 #[.val (.int p0), .val (.int p1), .val (.int p2), .val (.int p3), .val (.ref a1), .val (.ref a10), .val (.int (1 : Int32)), .val (.int pl), .unset] []))
          have c101_31b : false = true := own_bi_t c101_31
          refine own_step (b := T30.setTop (mkF m 118 #[.val (.int p0), .val (.int p1), .val (.int p2), .val (.int p3), .val (.ref a1), .val (.ref a10), .val (.int (1 : Int32)), .val (.int pl), .unset] [(.int (1 : Int32))])) (fun t k => XS.iconst X30.here hx rfl (hb hby at_117) k) ?_
          refine own_step (b := T30.setTop (mkF m 122 #[.val (.int p0), .val (.int p1), .val (.int p2), .val (.int p3), .val (.ref a1), .val (.ref a10), .val (.int (1 : Int32)), .val (.int pl), .unset] [(.int (1 : Int32))])) (fun t k => XS.goto X30.here hx rfl (pc0 := 118) (pc' := 122) rfl (hb hby at_118) (by decide) (by decide) k) ?_
          refine own_step (b := T30.setTop (mkF m 124 #[.val (.int p0), .val (.int p1), .val (.int p2), .val (.int p3), .val (.ref a1), .val (.ref a10), .val (.int (1 : Int32)), .val (.int pl), .val (.int (1 : Int32))] [])) (fun t k => XS.istore X30.here hx rfl (hb hby at_122) rfl (l' := #[.val (.int p0), .val (.int p1), .val (.int p2), .val (.int p3), .val (.ref a1), .val (.ref a10), .val (.int (1 : Int32)), .val (.int pl), .val (.int (1 : Int32))]) rfl k) ?_
          refine own_step (b := T30.setTop (mkF m 126 #[.val (.int p0), .val (.int p1), .val (.int p2), .val (.int p3), .val (.ref a1), .val (.ref a10), .val (.int (1 : Int32)), .val (.int pl), .val (.int (1 : Int32))] [(.ref a10)])) (fun t k => XS.aload X30.here hx rfl (hb hby at_124) rfl rfl k) ?_
          refine own_step (b := T30.setTop (mkF m 128 #[.val (.int p0), .val (.int p1), .val (.int p2), .val (.int p3), .val (.ref a1), .val (.ref a10), .val (.int (1 : Int32)), .val (.int pl), .val (.int (1 : Int32))] [(.int (1 : Int32)), (.ref a10)])) (fun t k => XS.iload X30.here hx rfl (hb hby at_126) rfl k) ?_
          refine own_step (b := T30.setTop (mkF m 130 #[.val (.int p0), .val (.int p1), .val (.int p2), .val (.int p3), .val (.ref a1), .val (.ref a10), .val (.int (1 : Int32)), .val (.int pl), .val (.int (1 : Int32))] [(.int pl), (.int (1 : Int32)), (.ref a10)])) (fun t k => XS.iload X30.here hx rfl (hb hby at_128) rfl k) ?_
          refine own_staticP (W := 0) (argsL := [(.ref a10), (.int (1 : Int32)), (.int pl)]) (st := []) X30 hx hZ hown (own_w hw 47 rfl) (own_w hw 48 rfl) (own_w hw 49 rfl) (own_w hw 50 rfl) (by decide) e30 (rmMat_1 l Z a0 hw [] pl a10 c0 c1 c2 c3 T11.heap SS OL11 G1 O2 P5 G3 O4 rG3) (by decide) (by decide) (by decide) (by decide) (by rw [hml]; rfl) (lenOf pd4 rfl) rfl (Nat.le_of_ble_eq_true rfl) (hb hby at_130) (fun T32 X32 e32 => ?_)
          show own_G p e below _ (T32.setTop (mkF m 133 #[.val (.int p0), .val (.int p1), .val (.int p2), .val (.int p3), .val (.ref a1), .val (.ref a10), .val (.int (1 : Int32)), .val (.int pl), .val (.int (1 : Int32))] [(.int (own_bi (if c0 = 46 then false else (own_dig c0))))]))
          refine own_step (b := T32.setTop (mkF m 135 #[.val (.int p0), .val (.int p1), .val (.int p2), .val (.int p3), .val (.ref a1), .val (.ref a10), .val (.int (1 : Int32)), .val (.int pl), .val (.int (1 : Int32))] [(.int (1 : Int32)), (.int (own_bi (if c0 = 46 then false else (own_dig c0))))])) (fun t k => XS.iload X32.here hx rfl (hb hby at_133) rfl k) ?_
          have hm33 : (if c0 = 46 then false else (own_dig c0)) = true := by rw [own_eq_1 c0 c1 c2 c3 pl]; simp [c88_27b, c101_31b]
          refine own_icmp_ne X32 hx (hb hby at_135) (pc' := 142) (by decide) (by decide) (fun c135_33 => absurd (by rw [hm33]; rfl) c135_33) (fun c135_33 => ?_)
          show own_G p e below _ (T32.setTop (mkF m 138 #[.val (.int p0), .val (.int p1), .val (.int p2), .val (.int p3), .val (.ref a1), .val (.ref a10), .val (.int (1 : Int32)), .val (.int pl), .val (.int (1 : Int32))] []))
          refine own_step (b := T32.setTop (mkF m 139 #[.val (.int p0), .val (.int p1), .val (.int p2), .val (.int p3), .val (.ref a1), .val (.ref a10), .val (.int (1 : Int32)), .val (.int pl), .val (.int (1 : Int32))] [(.int (1 : Int32))])) (fun t k => XS.iconst X32.here hx rfl (hb hby at_138) k) ?_
          refine own_step (b := T32.setTop (mkF m 143 #[.val (.int p0), .val (.int p1), .val (.int p2), .val (.int p3), .val (.ref a1), .val (.ref a10), .val (.int (1 : Int32)), .val (.int pl), .val (.int (1 : Int32))] [(.int (1 : Int32))])) (fun t k => XS.goto X32.here hx rfl (pc0 := 139) (pc' := 143) rfl (hb hby at_139) (by decide) (by decide) k) ?_
          exact own_retN X32 hx hret (by simp) hlk (hb hby at_143) ⟨rfl, N11⟩ (by decide) (by decide)
        · show own_G p e below _ (T30.setTop (mkF m 104 #[.val (.int p0), .val (.int p1), .val (.int p2), .val (.int p3), .val (.ref a1), .val (.ref a10), .val (.int (1 : Int32)), .val (.int pl), .unset] []))
          have c101_31b : false = false := own_bi_f c101_31
          refine own_step (b := T30.setTop (mkF m 106 #[.val (.int p0), .val (.int p1), .val (.int p2), .val (.int p3), .val (.ref a1), .val (.ref a10), .val (.int (1 : Int32)), .val (.int pl), .unset] [(.ref a1)])) (fun t k => XS.aload X30.here hx rfl (hb hby at_104) rfl rfl k) ?_
          refine own_step (b := T30.setTop (mkF m 107 #[.val (.int p0), .val (.int p1), .val (.int p2), .val (.int p3), .val (.ref a1), .val (.ref a10), .val (.int (1 : Int32)), .val (.int pl), .unset] [(.int (2 : Int32)), (.ref a1)])) (fun t k => XS.iconst X30.here hx rfl (hb hby at_106) k) ?_
          refine own_step (b := T30.setTop (mkF m 109 #[.val (.int p0), .val (.int p1), .val (.int p2), .val (.int p3), .val (.ref a1), .val (.ref a10), .val (.int (1 : Int32)), .val (.int pl), .unset] [(.int (1 : Int32)), (.int (2 : Int32)), (.ref a1)])) (fun t k => XS.iload X30.here hx rfl (hb hby at_107) rfl k) ?_
          refine own_step (b := T30.setTop (mkF m 111 #[.val (.int p0), .val (.int p1), .val (.int p2), .val (.int p3), .val (.ref a1), .val (.ref a10), .val (.int (1 : Int32)), .val (.int pl), .unset] [(.int pl), (.int (1 : Int32)), (.int (2 : Int32)), (.ref a1)])) (fun t k => XS.iload X30.here hx rfl (hb hby at_109) rfl k) ?_
          refine own_staticP (W := 0) (argsL := [(.ref a1), (.int (2 : Int32)), (.int (1 : Int32)), (.int pl)]) (st := []) X30 hx hZ hown (own_w hw 44 rfl) (own_w hw 45 rfl) (own_w hw 3 rfl) (own_w hw 46 rfl) (by decide) e30 (rmFrac_2_1 l Z a0 hw [] pl a1 k1 c0 c1 c2 c3 T11.heap V) (by decide) (by decide) (by decide) (by decide) (by rw [hml]; rfl) (lenOf pd6 rfl) rfl (Nat.le_of_ble_eq_true rfl) (hb hby at_111) (fun T34 X34 e34 => ?_)
          show own_G p e below _ (T34.setTop (mkF m 114 #[.val (.int p0), .val (.int p1), .val (.int p2), .val (.int p3), .val (.ref a1), .val (.ref a10), .val (.int (1 : Int32)), .val (.int pl), .unset] [(.int (own_bi false))]))
          refine own_if_eq X34 hx (hb hby at_114) (pc' := 121) (by decide) (by decide) (fun c114_35 => ?_) (fun c114_35 => ?_)
          · show own_G p e below _ (T34.setTop (mkF m 121 #[.val (.int p0), .val (.int p1), .val (.int p2), .val (.int p3), .val (.ref a1), .val (.ref a10), .val (.int (1 : Int32)), .val (.int pl), .unset] []))
            have c114_35b : false = false := own_bi_f c114_35
            refine own_step (b := T34.setTop (mkF m 122 #[.val (.int p0), .val (.int p1), .val (.int p2), .val (.int p3), .val (.ref a1), .val (.ref a10), .val (.int (1 : Int32)), .val (.int pl), .unset] [(.int (0 : Int32))])) (fun t k => XS.iconst X34.here hx rfl (hb hby at_121) k) ?_
            refine own_step (b := T34.setTop (mkF m 124 #[.val (.int p0), .val (.int p1), .val (.int p2), .val (.int p3), .val (.ref a1), .val (.ref a10), .val (.int (1 : Int32)), .val (.int pl), .val (.int (0 : Int32))] [])) (fun t k => XS.istore X34.here hx rfl (hb hby at_122) rfl (l' := #[.val (.int p0), .val (.int p1), .val (.int p2), .val (.int p3), .val (.ref a1), .val (.ref a10), .val (.int (1 : Int32)), .val (.int pl), .val (.int (0 : Int32))]) rfl k) ?_
            refine own_step (b := T34.setTop (mkF m 126 #[.val (.int p0), .val (.int p1), .val (.int p2), .val (.int p3), .val (.ref a1), .val (.ref a10), .val (.int (1 : Int32)), .val (.int pl), .val (.int (0 : Int32))] [(.ref a10)])) (fun t k => XS.aload X34.here hx rfl (hb hby at_124) rfl rfl k) ?_
            refine own_step (b := T34.setTop (mkF m 128 #[.val (.int p0), .val (.int p1), .val (.int p2), .val (.int p3), .val (.ref a1), .val (.ref a10), .val (.int (1 : Int32)), .val (.int pl), .val (.int (0 : Int32))] [(.int (1 : Int32)), (.ref a10)])) (fun t k => XS.iload X34.here hx rfl (hb hby at_126) rfl k) ?_
            refine own_step (b := T34.setTop (mkF m 130 #[.val (.int p0), .val (.int p1), .val (.int p2), .val (.int p3), .val (.ref a1), .val (.ref a10), .val (.int (1 : Int32)), .val (.int pl), .val (.int (0 : Int32))] [(.int pl), (.int (1 : Int32)), (.ref a10)])) (fun t k => XS.iload X34.here hx rfl (hb hby at_128) rfl k) ?_
            refine own_staticP (W := 0) (argsL := [(.ref a10), (.int (1 : Int32)), (.int pl)]) (st := []) X34 hx hZ hown (own_w hw 47 rfl) (own_w hw 48 rfl) (own_w hw 49 rfl) (own_w hw 50 rfl) (by decide) e34 (rmMat_1 l Z a0 hw [] pl a10 c0 c1 c2 c3 T11.heap SS OL11 G1 O2 P5 G3 O4 rG3) (by decide) (by decide) (by decide) (by decide) (by rw [hml]; rfl) (lenOf pd4 rfl) rfl (Nat.le_of_ble_eq_true rfl) (hb hby at_130) (fun T36 X36 e36 => ?_)
            show own_G p e below _ (T36.setTop (mkF m 133 #[.val (.int p0), .val (.int p1), .val (.int p2), .val (.int p3), .val (.ref a1), .val (.ref a10), .val (.int (1 : Int32)), .val (.int pl), .val (.int (0 : Int32))] [(.int (own_bi (if c0 = 46 then false else (own_dig c0))))]))
            refine own_step (b := T36.setTop (mkF m 135 #[.val (.int p0), .val (.int p1), .val (.int p2), .val (.int p3), .val (.ref a1), .val (.ref a10), .val (.int (1 : Int32)), .val (.int pl), .val (.int (0 : Int32))] [(.int (0 : Int32)), (.int (own_bi (if c0 = 46 then false else (own_dig c0))))])) (fun t k => XS.iload X36.here hx rfl (hb hby at_133) rfl k) ?_
            have hm37 : (if c0 = 46 then false else (own_dig c0)) = false := by rw [own_eq_1 c0 c1 c2 c3 pl]; simp [c88_27b, c101_31b, c114_35b]
            refine own_icmp_ne X36 hx (hb hby at_135) (pc' := 142) (by decide) (by decide) (fun c135_37 => absurd (by rw [hm37]; rfl) c135_37) (fun c135_37 => ?_)
            show own_G p e below _ (T36.setTop (mkF m 138 #[.val (.int p0), .val (.int p1), .val (.int p2), .val (.int p3), .val (.ref a1), .val (.ref a10), .val (.int (1 : Int32)), .val (.int pl), .val (.int (0 : Int32))] []))
            refine own_step (b := T36.setTop (mkF m 139 #[.val (.int p0), .val (.int p1), .val (.int p2), .val (.int p3), .val (.ref a1), .val (.ref a10), .val (.int (1 : Int32)), .val (.int pl), .val (.int (0 : Int32))] [(.int (1 : Int32))])) (fun t k => XS.iconst X36.here hx rfl (hb hby at_138) k) ?_
            refine own_step (b := T36.setTop (mkF m 143 #[.val (.int p0), .val (.int p1), .val (.int p2), .val (.int p3), .val (.ref a1), .val (.ref a10), .val (.int (1 : Int32)), .val (.int pl), .val (.int (0 : Int32))] [(.int (1 : Int32))])) (fun t k => XS.goto X36.here hx rfl (pc0 := 139) (pc' := 143) rfl (hb hby at_139) (by decide) (by decide) k) ?_
            exact own_retN X36 hx hret (by simp) hlk (hb hby at_143) ⟨rfl, N11⟩ (by decide) (by decide)
          · show own_G p e below _ (T34.setTop (mkF m 117 #[.val (.int p0), .val (.int p1), .val (.int p2), .val (.int p3), .val (.ref a1), .val (.ref a10), .val (.int (1 : Int32)), .val (.int pl), .unset] []))
            have c114_35b : false = true := own_bi_t c114_35
            refine own_step (b := T34.setTop (mkF m 118 #[.val (.int p0), .val (.int p1), .val (.int p2), .val (.int p3), .val (.ref a1), .val (.ref a10), .val (.int (1 : Int32)), .val (.int pl), .unset] [(.int (1 : Int32))])) (fun t k => XS.iconst X34.here hx rfl (hb hby at_117) k) ?_
            refine own_step (b := T34.setTop (mkF m 122 #[.val (.int p0), .val (.int p1), .val (.int p2), .val (.int p3), .val (.ref a1), .val (.ref a10), .val (.int (1 : Int32)), .val (.int pl), .unset] [(.int (1 : Int32))])) (fun t k => XS.goto X34.here hx rfl (pc0 := 118) (pc' := 122) rfl (hb hby at_118) (by decide) (by decide) k) ?_
            refine own_step (b := T34.setTop (mkF m 124 #[.val (.int p0), .val (.int p1), .val (.int p2), .val (.int p3), .val (.ref a1), .val (.ref a10), .val (.int (1 : Int32)), .val (.int pl), .val (.int (1 : Int32))] [])) (fun t k => XS.istore X34.here hx rfl (hb hby at_122) rfl (l' := #[.val (.int p0), .val (.int p1), .val (.int p2), .val (.int p3), .val (.ref a1), .val (.ref a10), .val (.int (1 : Int32)), .val (.int pl), .val (.int (1 : Int32))]) rfl k) ?_
            refine own_step (b := T34.setTop (mkF m 126 #[.val (.int p0), .val (.int p1), .val (.int p2), .val (.int p3), .val (.ref a1), .val (.ref a10), .val (.int (1 : Int32)), .val (.int pl), .val (.int (1 : Int32))] [(.ref a10)])) (fun t k => XS.aload X34.here hx rfl (hb hby at_124) rfl rfl k) ?_
            refine own_step (b := T34.setTop (mkF m 128 #[.val (.int p0), .val (.int p1), .val (.int p2), .val (.int p3), .val (.ref a1), .val (.ref a10), .val (.int (1 : Int32)), .val (.int pl), .val (.int (1 : Int32))] [(.int (1 : Int32)), (.ref a10)])) (fun t k => XS.iload X34.here hx rfl (hb hby at_126) rfl k) ?_
            refine own_step (b := T34.setTop (mkF m 130 #[.val (.int p0), .val (.int p1), .val (.int p2), .val (.int p3), .val (.ref a1), .val (.ref a10), .val (.int (1 : Int32)), .val (.int pl), .val (.int (1 : Int32))] [(.int pl), (.int (1 : Int32)), (.ref a10)])) (fun t k => XS.iload X34.here hx rfl (hb hby at_128) rfl k) ?_
            refine own_staticP (W := 0) (argsL := [(.ref a10), (.int (1 : Int32)), (.int pl)]) (st := []) X34 hx hZ hown (own_w hw 47 rfl) (own_w hw 48 rfl) (own_w hw 49 rfl) (own_w hw 50 rfl) (by decide) e34 (rmMat_1 l Z a0 hw [] pl a10 c0 c1 c2 c3 T11.heap SS OL11 G1 O2 P5 G3 O4 rG3) (by decide) (by decide) (by decide) (by decide) (by rw [hml]; rfl) (lenOf pd4 rfl) rfl (Nat.le_of_ble_eq_true rfl) (hb hby at_130) (fun T38 X38 e38 => ?_)
            show own_G p e below _ (T38.setTop (mkF m 133 #[.val (.int p0), .val (.int p1), .val (.int p2), .val (.int p3), .val (.ref a1), .val (.ref a10), .val (.int (1 : Int32)), .val (.int pl), .val (.int (1 : Int32))] [(.int (own_bi (if c0 = 46 then false else (own_dig c0))))]))
            refine own_step (b := T38.setTop (mkF m 135 #[.val (.int p0), .val (.int p1), .val (.int p2), .val (.int p3), .val (.ref a1), .val (.ref a10), .val (.int (1 : Int32)), .val (.int pl), .val (.int (1 : Int32))] [(.int (1 : Int32)), (.int (own_bi (if c0 = 46 then false else (own_dig c0))))])) (fun t k => XS.iload X38.here hx rfl (hb hby at_133) rfl k) ?_
            have hm39 : (if c0 = 46 then false else (own_dig c0)) = true := by rw [own_eq_1 c0 c1 c2 c3 pl]; simp [c88_27b, c101_31b, c114_35b]
            refine own_icmp_ne X38 hx (hb hby at_135) (pc' := 142) (by decide) (by decide) (fun c135_39 => absurd (by rw [hm39]; rfl) c135_39) (fun c135_39 => ?_)
            show own_G p e below _ (T38.setTop (mkF m 138 #[.val (.int p0), .val (.int p1), .val (.int p2), .val (.int p3), .val (.ref a1), .val (.ref a10), .val (.int (1 : Int32)), .val (.int pl), .val (.int (1 : Int32))] []))
            refine own_step (b := T38.setTop (mkF m 139 #[.val (.int p0), .val (.int p1), .val (.int p2), .val (.int p3), .val (.ref a1), .val (.ref a10), .val (.int (1 : Int32)), .val (.int pl), .val (.int (1 : Int32))] [(.int (1 : Int32))])) (fun t k => XS.iconst X38.here hx rfl (hb hby at_138) k) ?_
            refine own_step (b := T38.setTop (mkF m 143 #[.val (.int p0), .val (.int p1), .val (.int p2), .val (.int p3), .val (.ref a1), .val (.ref a10), .val (.int (1 : Int32)), .val (.int pl), .val (.int (1 : Int32))] [(.int (1 : Int32))])) (fun t k => XS.goto X38.here hx rfl (pc0 := 139) (pc' := 143) rfl (hb hby at_139) (by decide) (by decide) k) ?_
            exact own_retN X38 hx hret (by simp) hlk (hb hby at_143) ⟨rfl, N11⟩ (by decide) (by decide)
    · show own_G p e below _ (T11.setTop (mkF m 79 #[.val (.int p0), .val (.int p1), .val (.int p2), .val (.int p3), .val (.ref a1), .val (.ref a10), .val (.int (2 : Int32)), .unset, .unset] [(.int pl)]))
      refine own_step (b := T11.setTop (mkF m 81 #[.val (.int p0), .val (.int p1), .val (.int p2), .val (.int p3), .val (.ref a1), .val (.ref a10), .val (.int (2 : Int32)), .val (.int pl), .unset] [])) (fun t k => XS.istore X11.here hx rfl (hb hby at_79) rfl (l' := #[.val (.int p0), .val (.int p1), .val (.int p2), .val (.int p3), .val (.ref a1), .val (.ref a10), .val (.int (2 : Int32)), .val (.int pl), .unset]) rfl k) ?_
      refine own_step (b := T11.setTop (mkF m 83 #[.val (.int p0), .val (.int p1), .val (.int p2), .val (.int p3), .val (.ref a1), .val (.ref a10), .val (.int (2 : Int32)), .val (.int pl), .unset] [(.ref a1)])) (fun t k => XS.aload X11.here hx rfl (hb hby at_81) rfl rfl k) ?_
      refine own_step (b := T11.setTop (mkF m 85 #[.val (.int p0), .val (.int p1), .val (.int p2), .val (.int p3), .val (.ref a1), .val (.ref a10), .val (.int (2 : Int32)), .val (.int pl), .unset] [(.int (2 : Int32)), (.ref a1)])) (fun t k => XS.iload X11.here hx rfl (hb hby at_83) rfl k) ?_
      refine own_staticP (W := 0) (argsL := [(.ref a1), (.int (2 : Int32))]) (st := []) X11 hx hZ hown (own_w hw 35 rfl) (own_w hw 36 rfl) (own_w hw 3 rfl) (own_w hw 37 rfl) (by decide) rfl (rmWhole_2 l Z a0 hw [] a1 k1 c0 c1 c2 c3 T11.heap V) (by decide) (by decide) (by decide) (by decide) (by rw [hml]; rfl) (lenOf pd2 rfl) rfl (Nat.le_of_ble_eq_true rfl) (hb hby at_85) (fun T40 X40 e40 => ?_)
      show own_G p e below _ (T40.setTop (mkF m 88 #[.val (.int p0), .val (.int p1), .val (.int p2), .val (.int p3), .val (.ref a1), .val (.ref a10), .val (.int (2 : Int32)), .val (.int pl), .unset] [(.int (own_bi ((own_dig c0 && own_dig c1) && !decide (c0 = 48))))]))
      refine own_if_ne X40 hx (hb hby at_88) (pc' := 117) (by decide) (by decide) (fun c88_41 => ?_) (fun c88_41 => ?_)
      · show own_G p e below _ (T40.setTop (mkF m 117 #[.val (.int p0), .val (.int p1), .val (.int p2), .val (.int p3), .val (.ref a1), .val (.ref a10), .val (.int (2 : Int32)), .val (.int pl), .unset] []))
        have c88_41b : ((own_dig c0 && own_dig c1) && !decide (c0 = 48)) = true := own_bi_t c88_41
        refine own_step (b := T40.setTop (mkF m 118 #[.val (.int p0), .val (.int p1), .val (.int p2), .val (.int p3), .val (.ref a1), .val (.ref a10), .val (.int (2 : Int32)), .val (.int pl), .unset] [(.int (1 : Int32))])) (fun t k => XS.iconst X40.here hx rfl (hb hby at_117) k) ?_
        refine own_step (b := T40.setTop (mkF m 122 #[.val (.int p0), .val (.int p1), .val (.int p2), .val (.int p3), .val (.ref a1), .val (.ref a10), .val (.int (2 : Int32)), .val (.int pl), .unset] [(.int (1 : Int32))])) (fun t k => XS.goto X40.here hx rfl (pc0 := 118) (pc' := 122) rfl (hb hby at_118) (by decide) (by decide) k) ?_
        refine own_step (b := T40.setTop (mkF m 124 #[.val (.int p0), .val (.int p1), .val (.int p2), .val (.int p3), .val (.ref a1), .val (.ref a10), .val (.int (2 : Int32)), .val (.int pl), .val (.int (1 : Int32))] [])) (fun t k => XS.istore X40.here hx rfl (hb hby at_122) rfl (l' := #[.val (.int p0), .val (.int p1), .val (.int p2), .val (.int p3), .val (.ref a1), .val (.ref a10), .val (.int (2 : Int32)), .val (.int pl), .val (.int (1 : Int32))]) rfl k) ?_
        refine own_step (b := T40.setTop (mkF m 126 #[.val (.int p0), .val (.int p1), .val (.int p2), .val (.int p3), .val (.ref a1), .val (.ref a10), .val (.int (2 : Int32)), .val (.int pl), .val (.int (1 : Int32))] [(.ref a10)])) (fun t k => XS.aload X40.here hx rfl (hb hby at_124) rfl rfl k) ?_
        refine own_step (b := T40.setTop (mkF m 128 #[.val (.int p0), .val (.int p1), .val (.int p2), .val (.int p3), .val (.ref a1), .val (.ref a10), .val (.int (2 : Int32)), .val (.int pl), .val (.int (1 : Int32))] [(.int (2 : Int32)), (.ref a10)])) (fun t k => XS.iload X40.here hx rfl (hb hby at_126) rfl k) ?_
        refine own_step (b := T40.setTop (mkF m 130 #[.val (.int p0), .val (.int p1), .val (.int p2), .val (.int p3), .val (.ref a1), .val (.ref a10), .val (.int (2 : Int32)), .val (.int pl), .val (.int (1 : Int32))] [(.int pl), (.int (2 : Int32)), (.ref a10)])) (fun t k => XS.iload X40.here hx rfl (hb hby at_128) rfl k) ?_
        refine own_staticP (W := 0) (argsL := [(.ref a10), (.int (2 : Int32)), (.int pl)]) (st := []) X40 hx hZ hown (own_w hw 47 rfl) (own_w hw 48 rfl) (own_w hw 49 rfl) (own_w hw 50 rfl) (by decide) e40 (rmMat_2 l Z a0 hw [] pl a10 c0 c1 c2 c3 T11.heap SS OL11 G1 O2 P5 G3 O4 rG3) (by decide) (by decide) (by decide) (by decide) (by rw [hml]; rfl) (lenOf pd4 rfl) rfl (Nat.le_of_ble_eq_true rfl) (hb hby at_130) (fun T42 X42 e42 => ?_)
        show own_G p e below _ (T42.setTop (mkF m 133 #[.val (.int p0), .val (.int p1), .val (.int p2), .val (.int p3), .val (.ref a1), .val (.ref a10), .val (.int (2 : Int32)), .val (.int pl), .val (.int (1 : Int32))] [(.int (own_bi (if c0 = 46 then false else (if c1 = 46 then false else (!decide (c0 = 48) && (own_dig c0 && own_dig c1))))))]))
        refine own_step (b := T42.setTop (mkF m 135 #[.val (.int p0), .val (.int p1), .val (.int p2), .val (.int p3), .val (.ref a1), .val (.ref a10), .val (.int (2 : Int32)), .val (.int pl), .val (.int (1 : Int32))] [(.int (1 : Int32)), (.int (own_bi (if c0 = 46 then false else (if c1 = 46 then false else (!decide (c0 = 48) && (own_dig c0 && own_dig c1))))))])) (fun t k => XS.iload X42.here hx rfl (hb hby at_133) rfl k) ?_
        have hm43 : (if c0 = 46 then false else (if c1 = 46 then false else (!decide (c0 = 48) && (own_dig c0 && own_dig c1)))) = true := by rw [own_eq_2 c0 c1 c2 c3 pl]; simp [c88_41b]
        refine own_icmp_ne X42 hx (hb hby at_135) (pc' := 142) (by decide) (by decide) (fun c135_43 => absurd (by rw [hm43]; rfl) c135_43) (fun c135_43 => ?_)
        show own_G p e below _ (T42.setTop (mkF m 138 #[.val (.int p0), .val (.int p1), .val (.int p2), .val (.int p3), .val (.ref a1), .val (.ref a10), .val (.int (2 : Int32)), .val (.int pl), .val (.int (1 : Int32))] []))
        refine own_step (b := T42.setTop (mkF m 139 #[.val (.int p0), .val (.int p1), .val (.int p2), .val (.int p3), .val (.ref a1), .val (.ref a10), .val (.int (2 : Int32)), .val (.int pl), .val (.int (1 : Int32))] [(.int (1 : Int32))])) (fun t k => XS.iconst X42.here hx rfl (hb hby at_138) k) ?_
        refine own_step (b := T42.setTop (mkF m 143 #[.val (.int p0), .val (.int p1), .val (.int p2), .val (.int p3), .val (.ref a1), .val (.ref a10), .val (.int (2 : Int32)), .val (.int pl), .val (.int (1 : Int32))] [(.int (1 : Int32))])) (fun t k => XS.goto X42.here hx rfl (pc0 := 139) (pc' := 143) rfl (hb hby at_139) (by decide) (by decide) k) ?_
        exact own_retN X42 hx hret (by simp) hlk (hb hby at_143) ⟨rfl, N11⟩ (by decide) (by decide)
      · show own_G p e below _ (T40.setTop (mkF m 91 #[.val (.int p0), .val (.int p1), .val (.int p2), .val (.int p3), .val (.ref a1), .val (.ref a10), .val (.int (2 : Int32)), .val (.int pl), .unset] []))
        have c88_41b : ((own_dig c0 && own_dig c1) && !decide (c0 = 48)) = false := own_bi_f c88_41
        refine own_step (b := T40.setTop (mkF m 93 #[.val (.int p0), .val (.int p1), .val (.int p2), .val (.int p3), .val (.ref a1), .val (.ref a10), .val (.int (2 : Int32)), .val (.int pl), .unset] [(.ref a1)])) (fun t k => XS.aload X40.here hx rfl (hb hby at_91) rfl rfl k) ?_
        refine own_step (b := T40.setTop (mkF m 94 #[.val (.int p0), .val (.int p1), .val (.int p2), .val (.int p3), .val (.ref a1), .val (.ref a10), .val (.int (2 : Int32)), .val (.int pl), .unset] [(.int (1 : Int32)), (.ref a1)])) (fun t k => XS.iconst X40.here hx rfl (hb hby at_93) k) ?_
        refine own_step (b := T40.setTop (mkF m 96 #[.val (.int p0), .val (.int p1), .val (.int p2), .val (.int p3), .val (.ref a1), .val (.ref a10), .val (.int (2 : Int32)), .val (.int pl), .unset] [(.int (2 : Int32)), (.int (1 : Int32)), (.ref a1)])) (fun t k => XS.iload X40.here hx rfl (hb hby at_94) rfl k) ?_
        refine own_step (b := T40.setTop (mkF m 98 #[.val (.int p0), .val (.int p1), .val (.int p2), .val (.int p3), .val (.ref a1), .val (.ref a10), .val (.int (2 : Int32)), .val (.int pl), .unset] [(.int pl), (.int (2 : Int32)), (.int (1 : Int32)), (.ref a1)])) (fun t k => XS.iload X40.here hx rfl (hb hby at_96) rfl k) ?_
        refine own_staticP (W := 0) (argsL := [(.ref a1), (.int (1 : Int32)), (.int (2 : Int32)), (.int pl)]) (st := []) X40 hx hZ hown (own_w hw 44 rfl) (own_w hw 45 rfl) (own_w hw 3 rfl) (own_w hw 46 rfl) (by decide) e40 (rmFrac_1_2 l Z a0 hw [] pl a1 k1 c0 c1 c2 c3 T11.heap V) (by decide) (by decide) (by decide) (by decide) (by rw [hml]; rfl) (lenOf pd6 rfl) rfl (Nat.le_of_ble_eq_true rfl) (hb hby at_98) (fun T44 X44 e44 => ?_)
        show own_G p e below _ (T44.setTop (mkF m 101 #[.val (.int p0), .val (.int p1), .val (.int p2), .val (.int p3), .val (.ref a1), .val (.ref a10), .val (.int (2 : Int32)), .val (.int pl), .unset] [(.int (own_bi false))]))
        refine own_if_ne X44 hx (hb hby at_101) (pc' := 117) (by decide) (by decide) (fun c101_45 => ?_) (fun c101_45 => ?_)
        · show own_G p e below _ (T44.setTop (mkF m 117 #[.val (.int p0), .val (.int p1), .val (.int p2), .val (.int p3), .val (.ref a1), .val (.ref a10), .val (.int (2 : Int32)), .val (.int pl), .unset] []))
          have c101_45b : false = true := own_bi_t c101_45
          refine own_step (b := T44.setTop (mkF m 118 #[.val (.int p0), .val (.int p1), .val (.int p2), .val (.int p3), .val (.ref a1), .val (.ref a10), .val (.int (2 : Int32)), .val (.int pl), .unset] [(.int (1 : Int32))])) (fun t k => XS.iconst X44.here hx rfl (hb hby at_117) k) ?_
          refine own_step (b := T44.setTop (mkF m 122 #[.val (.int p0), .val (.int p1), .val (.int p2), .val (.int p3), .val (.ref a1), .val (.ref a10), .val (.int (2 : Int32)), .val (.int pl), .unset] [(.int (1 : Int32))])) (fun t k => XS.goto X44.here hx rfl (pc0 := 118) (pc' := 122) rfl (hb hby at_118) (by decide) (by decide) k) ?_
          refine own_step (b := T44.setTop (mkF m 124 #[.val (.int p0), .val (.int p1), .val (.int p2), .val (.int p3), .val (.ref a1), .val (.ref a10), .val (.int (2 : Int32)), .val (.int pl), .val (.int (1 : Int32))] [])) (fun t k => XS.istore X44.here hx rfl (hb hby at_122) rfl (l' := #[.val (.int p0), .val (.int p1), .val (.int p2), .val (.int p3), .val (.ref a1), .val (.ref a10), .val (.int (2 : Int32)), .val (.int pl), .val (.int (1 : Int32))]) rfl k) ?_
          refine own_step (b := T44.setTop (mkF m 126 #[.val (.int p0), .val (.int p1), .val (.int p2), .val (.int p3), .val (.ref a1), .val (.ref a10), .val (.int (2 : Int32)), .val (.int pl), .val (.int (1 : Int32))] [(.ref a10)])) (fun t k => XS.aload X44.here hx rfl (hb hby at_124) rfl rfl k) ?_
          refine own_step (b := T44.setTop (mkF m 128 #[.val (.int p0), .val (.int p1), .val (.int p2), .val (.int p3), .val (.ref a1), .val (.ref a10), .val (.int (2 : Int32)), .val (.int pl), .val (.int (1 : Int32))] [(.int (2 : Int32)), (.ref a10)])) (fun t k => XS.iload X44.here hx rfl (hb hby at_126) rfl k) ?_
          refine own_step (b := T44.setTop (mkF m 130 #[.val (.int p0), .val (.int p1), .val (.int p2), .val (.int p3), .val (.ref a1), .val (.ref a10), .val (.int (2 : Int32)), .val (.int pl), .val (.int (1 : Int32))] [(.int pl), (.int (2 : Int32)), (.ref a10)])) (fun t k => XS.iload X44.here hx rfl (hb hby at_128) rfl k) ?_
          refine own_staticP (W := 0) (argsL := [(.ref a10), (.int (2 : Int32)), (.int pl)]) (st := []) X44 hx hZ hown (own_w hw 47 rfl) (own_w hw 48 rfl) (own_w hw 49 rfl) (own_w hw 50 rfl) (by decide) e44 (rmMat_2 l Z a0 hw [] pl a10 c0 c1 c2 c3 T11.heap SS OL11 G1 O2 P5 G3 O4 rG3) (by decide) (by decide) (by decide) (by decide) (by rw [hml]; rfl) (lenOf pd4 rfl) rfl (Nat.le_of_ble_eq_true rfl) (hb hby at_130) (fun T46 X46 e46 => ?_)
          show own_G p e below _ (T46.setTop (mkF m 133 #[.val (.int p0), .val (.int p1), .val (.int p2), .val (.int p3), .val (.ref a1), .val (.ref a10), .val (.int (2 : Int32)), .val (.int pl), .val (.int (1 : Int32))] [(.int (own_bi (if c0 = 46 then false else (if c1 = 46 then false else (!decide (c0 = 48) && (own_dig c0 && own_dig c1))))))]))
          refine own_step (b := T46.setTop (mkF m 135 #[.val (.int p0), .val (.int p1), .val (.int p2), .val (.int p3), .val (.ref a1), .val (.ref a10), .val (.int (2 : Int32)), .val (.int pl), .val (.int (1 : Int32))] [(.int (1 : Int32)), (.int (own_bi (if c0 = 46 then false else (if c1 = 46 then false else (!decide (c0 = 48) && (own_dig c0 && own_dig c1))))))])) (fun t k => XS.iload X46.here hx rfl (hb hby at_133) rfl k) ?_
          have hm47 : (if c0 = 46 then false else (if c1 = 46 then false else (!decide (c0 = 48) && (own_dig c0 && own_dig c1)))) = true := by rw [own_eq_2 c0 c1 c2 c3 pl]; simp [c88_41b, c101_45b]
          refine own_icmp_ne X46 hx (hb hby at_135) (pc' := 142) (by decide) (by decide) (fun c135_47 => absurd (by rw [hm47]; rfl) c135_47) (fun c135_47 => ?_)
          show own_G p e below _ (T46.setTop (mkF m 138 #[.val (.int p0), .val (.int p1), .val (.int p2), .val (.int p3), .val (.ref a1), .val (.ref a10), .val (.int (2 : Int32)), .val (.int pl), .val (.int (1 : Int32))] []))
          refine own_step (b := T46.setTop (mkF m 139 #[.val (.int p0), .val (.int p1), .val (.int p2), .val (.int p3), .val (.ref a1), .val (.ref a10), .val (.int (2 : Int32)), .val (.int pl), .val (.int (1 : Int32))] [(.int (1 : Int32))])) (fun t k => XS.iconst X46.here hx rfl (hb hby at_138) k) ?_
          refine own_step (b := T46.setTop (mkF m 143 #[.val (.int p0), .val (.int p1), .val (.int p2), .val (.int p3), .val (.ref a1), .val (.ref a10), .val (.int (2 : Int32)), .val (.int pl), .val (.int (1 : Int32))] [(.int (1 : Int32))])) (fun t k => XS.goto X46.here hx rfl (pc0 := 139) (pc' := 143) rfl (hb hby at_139) (by decide) (by decide) k) ?_
          exact own_retN X46 hx hret (by simp) hlk (hb hby at_143) ⟨rfl, N11⟩ (by decide) (by decide)
        · show own_G p e below _ (T44.setTop (mkF m 104 #[.val (.int p0), .val (.int p1), .val (.int p2), .val (.int p3), .val (.ref a1), .val (.ref a10), .val (.int (2 : Int32)), .val (.int pl), .unset] []))
          have c101_45b : false = false := own_bi_f c101_45
          refine own_step (b := T44.setTop (mkF m 106 #[.val (.int p0), .val (.int p1), .val (.int p2), .val (.int p3), .val (.ref a1), .val (.ref a10), .val (.int (2 : Int32)), .val (.int pl), .unset] [(.ref a1)])) (fun t k => XS.aload X44.here hx rfl (hb hby at_104) rfl rfl k) ?_
          refine own_step (b := T44.setTop (mkF m 107 #[.val (.int p0), .val (.int p1), .val (.int p2), .val (.int p3), .val (.ref a1), .val (.ref a10), .val (.int (2 : Int32)), .val (.int pl), .unset] [(.int (2 : Int32)), (.ref a1)])) (fun t k => XS.iconst X44.here hx rfl (hb hby at_106) k) ?_
          refine own_step (b := T44.setTop (mkF m 109 #[.val (.int p0), .val (.int p1), .val (.int p2), .val (.int p3), .val (.ref a1), .val (.ref a10), .val (.int (2 : Int32)), .val (.int pl), .unset] [(.int (2 : Int32)), (.int (2 : Int32)), (.ref a1)])) (fun t k => XS.iload X44.here hx rfl (hb hby at_107) rfl k) ?_
          refine own_step (b := T44.setTop (mkF m 111 #[.val (.int p0), .val (.int p1), .val (.int p2), .val (.int p3), .val (.ref a1), .val (.ref a10), .val (.int (2 : Int32)), .val (.int pl), .unset] [(.int pl), (.int (2 : Int32)), (.int (2 : Int32)), (.ref a1)])) (fun t k => XS.iload X44.here hx rfl (hb hby at_109) rfl k) ?_
          refine own_staticP (W := 0) (argsL := [(.ref a1), (.int (2 : Int32)), (.int (2 : Int32)), (.int pl)]) (st := []) X44 hx hZ hown (own_w hw 44 rfl) (own_w hw 45 rfl) (own_w hw 3 rfl) (own_w hw 46 rfl) (by decide) e44 (rmFrac_2_2 l Z a0 hw [] pl a1 k1 c0 c1 c2 c3 T11.heap V) (by decide) (by decide) (by decide) (by decide) (by rw [hml]; rfl) (lenOf pd6 rfl) rfl (Nat.le_of_ble_eq_true rfl) (hb hby at_111) (fun T48 X48 e48 => ?_)
          show own_G p e below _ (T48.setTop (mkF m 114 #[.val (.int p0), .val (.int p1), .val (.int p2), .val (.int p3), .val (.ref a1), .val (.ref a10), .val (.int (2 : Int32)), .val (.int pl), .unset] [(.int (own_bi false))]))
          refine own_if_eq X48 hx (hb hby at_114) (pc' := 121) (by decide) (by decide) (fun c114_49 => ?_) (fun c114_49 => ?_)
          · show own_G p e below _ (T48.setTop (mkF m 121 #[.val (.int p0), .val (.int p1), .val (.int p2), .val (.int p3), .val (.ref a1), .val (.ref a10), .val (.int (2 : Int32)), .val (.int pl), .unset] []))
            have c114_49b : false = false := own_bi_f c114_49
            refine own_step (b := T48.setTop (mkF m 122 #[.val (.int p0), .val (.int p1), .val (.int p2), .val (.int p3), .val (.ref a1), .val (.ref a10), .val (.int (2 : Int32)), .val (.int pl), .unset] [(.int (0 : Int32))])) (fun t k => XS.iconst X48.here hx rfl (hb hby at_121) k) ?_
            refine own_step (b := T48.setTop (mkF m 124 #[.val (.int p0), .val (.int p1), .val (.int p2), .val (.int p3), .val (.ref a1), .val (.ref a10), .val (.int (2 : Int32)), .val (.int pl), .val (.int (0 : Int32))] [])) (fun t k => XS.istore X48.here hx rfl (hb hby at_122) rfl (l' := #[.val (.int p0), .val (.int p1), .val (.int p2), .val (.int p3), .val (.ref a1), .val (.ref a10), .val (.int (2 : Int32)), .val (.int pl), .val (.int (0 : Int32))]) rfl k) ?_
            refine own_step (b := T48.setTop (mkF m 126 #[.val (.int p0), .val (.int p1), .val (.int p2), .val (.int p3), .val (.ref a1), .val (.ref a10), .val (.int (2 : Int32)), .val (.int pl), .val (.int (0 : Int32))] [(.ref a10)])) (fun t k => XS.aload X48.here hx rfl (hb hby at_124) rfl rfl k) ?_
            refine own_step (b := T48.setTop (mkF m 128 #[.val (.int p0), .val (.int p1), .val (.int p2), .val (.int p3), .val (.ref a1), .val (.ref a10), .val (.int (2 : Int32)), .val (.int pl), .val (.int (0 : Int32))] [(.int (2 : Int32)), (.ref a10)])) (fun t k => XS.iload X48.here hx rfl (hb hby at_126) rfl k) ?_
            refine own_step (b := T48.setTop (mkF m 130 #[.val (.int p0), .val (.int p1), .val (.int p2), .val (.int p3), .val (.ref a1), .val (.ref a10), .val (.int (2 : Int32)), .val (.int pl), .val (.int (0 : Int32))] [(.int pl), (.int (2 : Int32)), (.ref a10)])) (fun t k => XS.iload X48.here hx rfl (hb hby at_128) rfl k) ?_
            refine own_staticP (W := 0) (argsL := [(.ref a10), (.int (2 : Int32)), (.int pl)]) (st := []) X48 hx hZ hown (own_w hw 47 rfl) (own_w hw 48 rfl) (own_w hw 49 rfl) (own_w hw 50 rfl) (by decide) e48 (rmMat_2 l Z a0 hw [] pl a10 c0 c1 c2 c3 T11.heap SS OL11 G1 O2 P5 G3 O4 rG3) (by decide) (by decide) (by decide) (by decide) (by rw [hml]; rfl) (lenOf pd4 rfl) rfl (Nat.le_of_ble_eq_true rfl) (hb hby at_130) (fun T50 X50 e50 => ?_)
            show own_G p e below _ (T50.setTop (mkF m 133 #[.val (.int p0), .val (.int p1), .val (.int p2), .val (.int p3), .val (.ref a1), .val (.ref a10), .val (.int (2 : Int32)), .val (.int pl), .val (.int (0 : Int32))] [(.int (own_bi (if c0 = 46 then false else (if c1 = 46 then false else (!decide (c0 = 48) && (own_dig c0 && own_dig c1))))))]))
            refine own_step (b := T50.setTop (mkF m 135 #[.val (.int p0), .val (.int p1), .val (.int p2), .val (.int p3), .val (.ref a1), .val (.ref a10), .val (.int (2 : Int32)), .val (.int pl), .val (.int (0 : Int32))] [(.int (0 : Int32)), (.int (own_bi (if c0 = 46 then false else (if c1 = 46 then false else (!decide (c0 = 48) && (own_dig c0 && own_dig c1))))))])) (fun t k => XS.iload X50.here hx rfl (hb hby at_133) rfl k) ?_
            have hm51 : (if c0 = 46 then false else (if c1 = 46 then false else (!decide (c0 = 48) && (own_dig c0 && own_dig c1)))) = false := by rw [own_eq_2 c0 c1 c2 c3 pl]; simp [c88_41b, c101_45b, c114_49b]
            refine own_icmp_ne X50 hx (hb hby at_135) (pc' := 142) (by decide) (by decide) (fun c135_51 => absurd (by rw [hm51]; rfl) c135_51) (fun c135_51 => ?_)
            show own_G p e below _ (T50.setTop (mkF m 138 #[.val (.int p0), .val (.int p1), .val (.int p2), .val (.int p3), .val (.ref a1), .val (.ref a10), .val (.int (2 : Int32)), .val (.int pl), .val (.int (0 : Int32))] []))
            refine own_step (b := T50.setTop (mkF m 139 #[.val (.int p0), .val (.int p1), .val (.int p2), .val (.int p3), .val (.ref a1), .val (.ref a10), .val (.int (2 : Int32)), .val (.int pl), .val (.int (0 : Int32))] [(.int (1 : Int32))])) (fun t k => XS.iconst X50.here hx rfl (hb hby at_138) k) ?_
            refine own_step (b := T50.setTop (mkF m 143 #[.val (.int p0), .val (.int p1), .val (.int p2), .val (.int p3), .val (.ref a1), .val (.ref a10), .val (.int (2 : Int32)), .val (.int pl), .val (.int (0 : Int32))] [(.int (1 : Int32))])) (fun t k => XS.goto X50.here hx rfl (pc0 := 139) (pc' := 143) rfl (hb hby at_139) (by decide) (by decide) k) ?_
            exact own_retN X50 hx hret (by simp) hlk (hb hby at_143) ⟨rfl, N11⟩ (by decide) (by decide)
          · show own_G p e below _ (T48.setTop (mkF m 117 #[.val (.int p0), .val (.int p1), .val (.int p2), .val (.int p3), .val (.ref a1), .val (.ref a10), .val (.int (2 : Int32)), .val (.int pl), .unset] []))
            have c114_49b : false = true := own_bi_t c114_49
            refine own_step (b := T48.setTop (mkF m 118 #[.val (.int p0), .val (.int p1), .val (.int p2), .val (.int p3), .val (.ref a1), .val (.ref a10), .val (.int (2 : Int32)), .val (.int pl), .unset] [(.int (1 : Int32))])) (fun t k => XS.iconst X48.here hx rfl (hb hby at_117) k) ?_
            refine own_step (b := T48.setTop (mkF m 122 #[.val (.int p0), .val (.int p1), .val (.int p2), .val (.int p3), .val (.ref a1), .val (.ref a10), .val (.int (2 : Int32)), .val (.int pl), .unset] [(.int (1 : Int32))])) (fun t k => XS.goto X48.here hx rfl (pc0 := 118) (pc' := 122) rfl (hb hby at_118) (by decide) (by decide) k) ?_
            refine own_step (b := T48.setTop (mkF m 124 #[.val (.int p0), .val (.int p1), .val (.int p2), .val (.int p3), .val (.ref a1), .val (.ref a10), .val (.int (2 : Int32)), .val (.int pl), .val (.int (1 : Int32))] [])) (fun t k => XS.istore X48.here hx rfl (hb hby at_122) rfl (l' := #[.val (.int p0), .val (.int p1), .val (.int p2), .val (.int p3), .val (.ref a1), .val (.ref a10), .val (.int (2 : Int32)), .val (.int pl), .val (.int (1 : Int32))]) rfl k) ?_
            refine own_step (b := T48.setTop (mkF m 126 #[.val (.int p0), .val (.int p1), .val (.int p2), .val (.int p3), .val (.ref a1), .val (.ref a10), .val (.int (2 : Int32)), .val (.int pl), .val (.int (1 : Int32))] [(.ref a10)])) (fun t k => XS.aload X48.here hx rfl (hb hby at_124) rfl rfl k) ?_
            refine own_step (b := T48.setTop (mkF m 128 #[.val (.int p0), .val (.int p1), .val (.int p2), .val (.int p3), .val (.ref a1), .val (.ref a10), .val (.int (2 : Int32)), .val (.int pl), .val (.int (1 : Int32))] [(.int (2 : Int32)), (.ref a10)])) (fun t k => XS.iload X48.here hx rfl (hb hby at_126) rfl k) ?_
            refine own_step (b := T48.setTop (mkF m 130 #[.val (.int p0), .val (.int p1), .val (.int p2), .val (.int p3), .val (.ref a1), .val (.ref a10), .val (.int (2 : Int32)), .val (.int pl), .val (.int (1 : Int32))] [(.int pl), (.int (2 : Int32)), (.ref a10)])) (fun t k => XS.iload X48.here hx rfl (hb hby at_128) rfl k) ?_
            refine own_staticP (W := 0) (argsL := [(.ref a10), (.int (2 : Int32)), (.int pl)]) (st := []) X48 hx hZ hown (own_w hw 47 rfl) (own_w hw 48 rfl) (own_w hw 49 rfl) (own_w hw 50 rfl) (by decide) e48 (rmMat_2 l Z a0 hw [] pl a10 c0 c1 c2 c3 T11.heap SS OL11 G1 O2 P5 G3 O4 rG3) (by decide) (by decide) (by decide) (by decide) (by rw [hml]; rfl) (lenOf pd4 rfl) rfl (Nat.le_of_ble_eq_true rfl) (hb hby at_130) (fun T52 X52 e52 => ?_)
            show own_G p e below _ (T52.setTop (mkF m 133 #[.val (.int p0), .val (.int p1), .val (.int p2), .val (.int p3), .val (.ref a1), .val (.ref a10), .val (.int (2 : Int32)), .val (.int pl), .val (.int (1 : Int32))] [(.int (own_bi (if c0 = 46 then false else (if c1 = 46 then false else (!decide (c0 = 48) && (own_dig c0 && own_dig c1))))))]))
            refine own_step (b := T52.setTop (mkF m 135 #[.val (.int p0), .val (.int p1), .val (.int p2), .val (.int p3), .val (.ref a1), .val (.ref a10), .val (.int (2 : Int32)), .val (.int pl), .val (.int (1 : Int32))] [(.int (1 : Int32)), (.int (own_bi (if c0 = 46 then false else (if c1 = 46 then false else (!decide (c0 = 48) && (own_dig c0 && own_dig c1))))))])) (fun t k => XS.iload X52.here hx rfl (hb hby at_133) rfl k) ?_
            have hm53 : (if c0 = 46 then false else (if c1 = 46 then false else (!decide (c0 = 48) && (own_dig c0 && own_dig c1)))) = true := by rw [own_eq_2 c0 c1 c2 c3 pl]; simp [c88_41b, c101_45b, c114_49b]
            refine own_icmp_ne X52 hx (hb hby at_135) (pc' := 142) (by decide) (by decide) (fun c135_53 => absurd (by rw [hm53]; rfl) c135_53) (fun c135_53 => ?_)
            show own_G p e below _ (T52.setTop (mkF m 138 #[.val (.int p0), .val (.int p1), .val (.int p2), .val (.int p3), .val (.ref a1), .val (.ref a10), .val (.int (2 : Int32)), .val (.int pl), .val (.int (1 : Int32))] []))
            refine own_step (b := T52.setTop (mkF m 139 #[.val (.int p0), .val (.int p1), .val (.int p2), .val (.int p3), .val (.ref a1), .val (.ref a10), .val (.int (2 : Int32)), .val (.int pl), .val (.int (1 : Int32))] [(.int (1 : Int32))])) (fun t k => XS.iconst X52.here hx rfl (hb hby at_138) k) ?_
            refine own_step (b := T52.setTop (mkF m 143 #[.val (.int p0), .val (.int p1), .val (.int p2), .val (.int p3), .val (.ref a1), .val (.ref a10), .val (.int (2 : Int32)), .val (.int pl), .val (.int (1 : Int32))] [(.int (1 : Int32))])) (fun t k => XS.goto X52.here hx rfl (pc0 := 139) (pc' := 143) rfl (hb hby at_139) (by decide) (by decide) k) ?_
            exact own_retN X52 hx hret (by simp) hlk (hb hby at_143) ⟨rfl, N11⟩ (by decide) (by decide)
    · show own_G p e below _ (T11.setTop (mkF m 79 #[.val (.int p0), .val (.int p1), .val (.int p2), .val (.int p3), .val (.ref a1), .val (.ref a10), .val (.int (3 : Int32)), .unset, .unset] [(.int pl)]))
      refine own_step (b := T11.setTop (mkF m 81 #[.val (.int p0), .val (.int p1), .val (.int p2), .val (.int p3), .val (.ref a1), .val (.ref a10), .val (.int (3 : Int32)), .val (.int pl), .unset] [])) (fun t k => XS.istore X11.here hx rfl (hb hby at_79) rfl (l' := #[.val (.int p0), .val (.int p1), .val (.int p2), .val (.int p3), .val (.ref a1), .val (.ref a10), .val (.int (3 : Int32)), .val (.int pl), .unset]) rfl k) ?_
      refine own_step (b := T11.setTop (mkF m 83 #[.val (.int p0), .val (.int p1), .val (.int p2), .val (.int p3), .val (.ref a1), .val (.ref a10), .val (.int (3 : Int32)), .val (.int pl), .unset] [(.ref a1)])) (fun t k => XS.aload X11.here hx rfl (hb hby at_81) rfl rfl k) ?_
      refine own_step (b := T11.setTop (mkF m 85 #[.val (.int p0), .val (.int p1), .val (.int p2), .val (.int p3), .val (.ref a1), .val (.ref a10), .val (.int (3 : Int32)), .val (.int pl), .unset] [(.int (3 : Int32)), (.ref a1)])) (fun t k => XS.iload X11.here hx rfl (hb hby at_83) rfl k) ?_
      refine own_staticP (W := 0) (argsL := [(.ref a1), (.int (3 : Int32))]) (st := []) X11 hx hZ hown (own_w hw 35 rfl) (own_w hw 36 rfl) (own_w hw 3 rfl) (own_w hw 37 rfl) (by decide) rfl (rmWhole_3 l Z a0 hw [] a1 k1 c0 c1 c2 c3 T11.heap V) (by decide) (by decide) (by decide) (by decide) (by rw [hml]; rfl) (lenOf pd2 rfl) rfl (Nat.le_of_ble_eq_true rfl) (hb hby at_85) (fun T54 X54 e54 => ?_)
      show own_G p e below _ (T54.setTop (mkF m 88 #[.val (.int p0), .val (.int p1), .val (.int p2), .val (.int p3), .val (.ref a1), .val (.ref a10), .val (.int (3 : Int32)), .val (.int pl), .unset] [(.int (own_bi ((own_dig c0 && own_dig c1 && own_dig c2) && !decide (c0 = 48))))]))
      refine own_if_ne X54 hx (hb hby at_88) (pc' := 117) (by decide) (by decide) (fun c88_55 => ?_) (fun c88_55 => ?_)
      · show own_G p e below _ (T54.setTop (mkF m 117 #[.val (.int p0), .val (.int p1), .val (.int p2), .val (.int p3), .val (.ref a1), .val (.ref a10), .val (.int (3 : Int32)), .val (.int pl), .unset] []))
        have c88_55b : ((own_dig c0 && own_dig c1 && own_dig c2) && !decide (c0 = 48)) = true := own_bi_t c88_55
        refine own_step (b := T54.setTop (mkF m 118 #[.val (.int p0), .val (.int p1), .val (.int p2), .val (.int p3), .val (.ref a1), .val (.ref a10), .val (.int (3 : Int32)), .val (.int pl), .unset] [(.int (1 : Int32))])) (fun t k => XS.iconst X54.here hx rfl (hb hby at_117) k) ?_
        refine own_step (b := T54.setTop (mkF m 122 #[.val (.int p0), .val (.int p1), .val (.int p2), .val (.int p3), .val (.ref a1), .val (.ref a10), .val (.int (3 : Int32)), .val (.int pl), .unset] [(.int (1 : Int32))])) (fun t k => XS.goto X54.here hx rfl (pc0 := 118) (pc' := 122) rfl (hb hby at_118) (by decide) (by decide) k) ?_
        refine own_step (b := T54.setTop (mkF m 124 #[.val (.int p0), .val (.int p1), .val (.int p2), .val (.int p3), .val (.ref a1), .val (.ref a10), .val (.int (3 : Int32)), .val (.int pl), .val (.int (1 : Int32))] [])) (fun t k => XS.istore X54.here hx rfl (hb hby at_122) rfl (l' := #[.val (.int p0), .val (.int p1), .val (.int p2), .val (.int p3), .val (.ref a1), .val (.ref a10), .val (.int (3 : Int32)), .val (.int pl), .val (.int (1 : Int32))]) rfl k) ?_
        refine own_step (b := T54.setTop (mkF m 126 #[.val (.int p0), .val (.int p1), .val (.int p2), .val (.int p3), .val (.ref a1), .val (.ref a10), .val (.int (3 : Int32)), .val (.int pl), .val (.int (1 : Int32))] [(.ref a10)])) (fun t k => XS.aload X54.here hx rfl (hb hby at_124) rfl rfl k) ?_
        refine own_step (b := T54.setTop (mkF m 128 #[.val (.int p0), .val (.int p1), .val (.int p2), .val (.int p3), .val (.ref a1), .val (.ref a10), .val (.int (3 : Int32)), .val (.int pl), .val (.int (1 : Int32))] [(.int (3 : Int32)), (.ref a10)])) (fun t k => XS.iload X54.here hx rfl (hb hby at_126) rfl k) ?_
        refine own_step (b := T54.setTop (mkF m 130 #[.val (.int p0), .val (.int p1), .val (.int p2), .val (.int p3), .val (.ref a1), .val (.ref a10), .val (.int (3 : Int32)), .val (.int pl), .val (.int (1 : Int32))] [(.int pl), (.int (3 : Int32)), (.ref a10)])) (fun t k => XS.iload X54.here hx rfl (hb hby at_128) rfl k) ?_
        refine own_staticP (W := 0) (argsL := [(.ref a10), (.int (3 : Int32)), (.int pl)]) (st := []) X54 hx hZ hown (own_w hw 47 rfl) (own_w hw 48 rfl) (own_w hw 49 rfl) (own_w hw 50 rfl) (by decide) e54 (rmMat_3 l Z a0 hw [] pl a10 c0 c1 c2 c3 T11.heap SS OL11 G1 O2 P5 G3 O4 rG3) (by decide) (by decide) (by decide) (by decide) (by rw [hml]; rfl) (lenOf pd4 rfl) rfl (Nat.le_of_ble_eq_true rfl) (hb hby at_130) (fun T56 X56 e56 => ?_)
        show own_G p e below _ (T56.setTop (mkF m 133 #[.val (.int p0), .val (.int p1), .val (.int p2), .val (.int p3), .val (.ref a1), .val (.ref a10), .val (.int (3 : Int32)), .val (.int pl), .val (.int (1 : Int32))] [(.int (own_bi (if c0 = 46 then false else (if c1 = 46 then ((own_dig c0) && !decide (pl < 1) && (own_dig c2)) else (if c2 = 46 then false else (!decide (c0 = 48) && (own_dig c0 && own_dig c1 && own_dig c2)))))))]))
        refine own_step (b := T56.setTop (mkF m 135 #[.val (.int p0), .val (.int p1), .val (.int p2), .val (.int p3), .val (.ref a1), .val (.ref a10), .val (.int (3 : Int32)), .val (.int pl), .val (.int (1 : Int32))] [(.int (1 : Int32)), (.int (own_bi (if c0 = 46 then false else (if c1 = 46 then ((own_dig c0) && !decide (pl < 1) && (own_dig c2)) else (if c2 = 46 then false else (!decide (c0 = 48) && (own_dig c0 && own_dig c1 && own_dig c2)))))))])) (fun t k => XS.iload X56.here hx rfl (hb hby at_133) rfl k) ?_
        have hm57 : (if c0 = 46 then false else (if c1 = 46 then ((own_dig c0) && !decide (pl < 1) && (own_dig c2)) else (if c2 = 46 then false else (!decide (c0 = 48) && (own_dig c0 && own_dig c1 && own_dig c2))))) = true := by rw [own_eq_3 c0 c1 c2 c3 pl]; simp [c88_55b]
        refine own_icmp_ne X56 hx (hb hby at_135) (pc' := 142) (by decide) (by decide) (fun c135_57 => absurd (by rw [hm57]; rfl) c135_57) (fun c135_57 => ?_)
        show own_G p e below _ (T56.setTop (mkF m 138 #[.val (.int p0), .val (.int p1), .val (.int p2), .val (.int p3), .val (.ref a1), .val (.ref a10), .val (.int (3 : Int32)), .val (.int pl), .val (.int (1 : Int32))] []))
        refine own_step (b := T56.setTop (mkF m 139 #[.val (.int p0), .val (.int p1), .val (.int p2), .val (.int p3), .val (.ref a1), .val (.ref a10), .val (.int (3 : Int32)), .val (.int pl), .val (.int (1 : Int32))] [(.int (1 : Int32))])) (fun t k => XS.iconst X56.here hx rfl (hb hby at_138) k) ?_
        refine own_step (b := T56.setTop (mkF m 143 #[.val (.int p0), .val (.int p1), .val (.int p2), .val (.int p3), .val (.ref a1), .val (.ref a10), .val (.int (3 : Int32)), .val (.int pl), .val (.int (1 : Int32))] [(.int (1 : Int32))])) (fun t k => XS.goto X56.here hx rfl (pc0 := 139) (pc' := 143) rfl (hb hby at_139) (by decide) (by decide) k) ?_
        exact own_retN X56 hx hret (by simp) hlk (hb hby at_143) ⟨rfl, N11⟩ (by decide) (by decide)
      · show own_G p e below _ (T54.setTop (mkF m 91 #[.val (.int p0), .val (.int p1), .val (.int p2), .val (.int p3), .val (.ref a1), .val (.ref a10), .val (.int (3 : Int32)), .val (.int pl), .unset] []))
        have c88_55b : ((own_dig c0 && own_dig c1 && own_dig c2) && !decide (c0 = 48)) = false := own_bi_f c88_55
        refine own_step (b := T54.setTop (mkF m 93 #[.val (.int p0), .val (.int p1), .val (.int p2), .val (.int p3), .val (.ref a1), .val (.ref a10), .val (.int (3 : Int32)), .val (.int pl), .unset] [(.ref a1)])) (fun t k => XS.aload X54.here hx rfl (hb hby at_91) rfl rfl k) ?_
        refine own_step (b := T54.setTop (mkF m 94 #[.val (.int p0), .val (.int p1), .val (.int p2), .val (.int p3), .val (.ref a1), .val (.ref a10), .val (.int (3 : Int32)), .val (.int pl), .unset] [(.int (1 : Int32)), (.ref a1)])) (fun t k => XS.iconst X54.here hx rfl (hb hby at_93) k) ?_
        refine own_step (b := T54.setTop (mkF m 96 #[.val (.int p0), .val (.int p1), .val (.int p2), .val (.int p3), .val (.ref a1), .val (.ref a10), .val (.int (3 : Int32)), .val (.int pl), .unset] [(.int (3 : Int32)), (.int (1 : Int32)), (.ref a1)])) (fun t k => XS.iload X54.here hx rfl (hb hby at_94) rfl k) ?_
        refine own_step (b := T54.setTop (mkF m 98 #[.val (.int p0), .val (.int p1), .val (.int p2), .val (.int p3), .val (.ref a1), .val (.ref a10), .val (.int (3 : Int32)), .val (.int pl), .unset] [(.int pl), (.int (3 : Int32)), (.int (1 : Int32)), (.ref a1)])) (fun t k => XS.iload X54.here hx rfl (hb hby at_96) rfl k) ?_
        refine own_staticP (W := 0) (argsL := [(.ref a1), (.int (1 : Int32)), (.int (3 : Int32)), (.int pl)]) (st := []) X54 hx hZ hown (own_w hw 44 rfl) (own_w hw 45 rfl) (own_w hw 3 rfl) (own_w hw 46 rfl) (by decide) e54 (rmFrac_1_3 l Z a0 hw [] pl a1 k1 c0 c1 c2 c3 T11.heap V) (by decide) (by decide) (by decide) (by decide) (by rw [hml]; rfl) (lenOf pd6 rfl) rfl (Nat.le_of_ble_eq_true rfl) (hb hby at_98) (fun T58 X58 e58 => ?_)
        show own_G p e below _ (T58.setTop (mkF m 101 #[.val (.int p0), .val (.int p1), .val (.int p2), .val (.int p3), .val (.ref a1), .val (.ref a10), .val (.int (3 : Int32)), .val (.int pl), .unset] [(.int (own_bi (decide (c1 = 46) && (own_dig c0) && (own_dig c2) && !decide (pl < 1))))]))
        refine own_if_ne X58 hx (hb hby at_101) (pc' := 117) (by decide) (by decide) (fun c101_59 => ?_) (fun c101_59 => ?_)
        · show own_G p e below _ (T58.setTop (mkF m 117 #[.val (.int p0), .val (.int p1), .val (.int p2), .val (.int p3), .val (.ref a1), .val (.ref a10), .val (.int (3 : Int32)), .val (.int pl), .unset] []))
          have c101_59b : (decide (c1 = 46) && (own_dig c0) && (own_dig c2) && !decide (pl < 1)) = true := own_bi_t c101_59
          refine own_step (b := T58.setTop (mkF m 118 #[.val (.int p0), .val (.int p1), .val (.int p2), .val (.int p3), .val (.ref a1), .val (.ref a10), .val (.int (3 : Int32)), .val (.int pl), .unset] [(.int (1 : Int32))])) (fun t k => XS.iconst X58.here hx rfl (hb hby at_117) k) ?_
          refine own_step (b := T58.setTop (mkF m 122 #[.val (.int p0), .val (.int p1), .val (.int p2), .val (.int p3), .val (.ref a1), .val (.ref a10), .val (.int (3 : Int32)), .val (.int pl), .unset] [(.int (1 : Int32))])) (fun t k => XS.goto X58.here hx rfl (pc0 := 118) (pc' := 122) rfl (hb hby at_118) (by decide) (by decide) k) ?_
          refine own_step (b := T58.setTop (mkF m 124 #[.val (.int p0), .val (.int p1), .val (.int p2), .val (.int p3), .val (.ref a1), .val (.ref a10), .val (.int (3 : Int32)), .val (.int pl), .val (.int (1 : Int32))] [])) (fun t k => XS.istore X58.here hx rfl (hb hby at_122) rfl (l' := #[.val (.int p0), .val (.int p1), .val (.int p2), .val (.int p3), .val (.ref a1), .val (.ref a10), .val (.int (3 : Int32)), .val (.int pl), .val (.int (1 : Int32))]) rfl k) ?_
          refine own_step (b := T58.setTop (mkF m 126 #[.val (.int p0), .val (.int p1), .val (.int p2), .val (.int p3), .val (.ref a1), .val (.ref a10), .val (.int (3 : Int32)), .val (.int pl), .val (.int (1 : Int32))] [(.ref a10)])) (fun t k => XS.aload X58.here hx rfl (hb hby at_124) rfl rfl k) ?_
          refine own_step (b := T58.setTop (mkF m 128 #[.val (.int p0), .val (.int p1), .val (.int p2), .val (.int p3), .val (.ref a1), .val (.ref a10), .val (.int (3 : Int32)), .val (.int pl), .val (.int (1 : Int32))] [(.int (3 : Int32)), (.ref a10)])) (fun t k => XS.iload X58.here hx rfl (hb hby at_126) rfl k) ?_
          refine own_step (b := T58.setTop (mkF m 130 #[.val (.int p0), .val (.int p1), .val (.int p2), .val (.int p3), .val (.ref a1), .val (.ref a10), .val (.int (3 : Int32)), .val (.int pl), .val (.int (1 : Int32))] [(.int pl), (.int (3 : Int32)), (.ref a10)])) (fun t k => XS.iload X58.here hx rfl (hb hby at_128) rfl k) ?_
          refine own_staticP (W := 0) (argsL := [(.ref a10), (.int (3 : Int32)), (.int pl)]) (st := []) X58 hx hZ hown (own_w hw 47 rfl) (own_w hw 48 rfl) (own_w hw 49 rfl) (own_w hw 50 rfl) (by decide) e58 (rmMat_3 l Z a0 hw [] pl a10 c0 c1 c2 c3 T11.heap SS OL11 G1 O2 P5 G3 O4 rG3) (by decide) (by decide) (by decide) (by decide) (by rw [hml]; rfl) (lenOf pd4 rfl) rfl (Nat.le_of_ble_eq_true rfl) (hb hby at_130) (fun T60 X60 e60 => ?_)
          show own_G p e below _ (T60.setTop (mkF m 133 #[.val (.int p0), .val (.int p1), .val (.int p2), .val (.int p3), .val (.ref a1), .val (.ref a10), .val (.int (3 : Int32)), .val (.int pl), .val (.int (1 : Int32))] [(.int (own_bi (if c0 = 46 then false else (if c1 = 46 then ((own_dig c0) && !decide (pl < 1) && (own_dig c2)) else (if c2 = 46 then false else (!decide (c0 = 48) && (own_dig c0 && own_dig c1 && own_dig c2)))))))]))
          refine own_step (b := T60.setTop (mkF m 135 #[.val (.int p0), .val (.int p1), .val (.int p2), .val (.int p3), .val (.ref a1), .val (.ref a10), .val (.int (3 : Int32)), .val (.int pl), .val (.int (1 : Int32))] [(.int (1 : Int32)), (.int (own_bi (if c0 = 46 then false else (if c1 = 46 then ((own_dig c0) && !decide (pl < 1) && (own_dig c2)) else (if c2 = 46 then false else (!decide (c0 = 48) && (own_dig c0 && own_dig c1 && own_dig c2)))))))])) (fun t k => XS.iload X60.here hx rfl (hb hby at_133) rfl k) ?_
          have hm61 : (if c0 = 46 then false else (if c1 = 46 then ((own_dig c0) && !decide (pl < 1) && (own_dig c2)) else (if c2 = 46 then false else (!decide (c0 = 48) && (own_dig c0 && own_dig c1 && own_dig c2))))) = true := by rw [own_eq_3 c0 c1 c2 c3 pl]; simp [c88_55b, c101_59b]
          refine own_icmp_ne X60 hx (hb hby at_135) (pc' := 142) (by decide) (by decide) (fun c135_61 => absurd (by rw [hm61]; rfl) c135_61) (fun c135_61 => ?_)
          show own_G p e below _ (T60.setTop (mkF m 138 #[.val (.int p0), .val (.int p1), .val (.int p2), .val (.int p3), .val (.ref a1), .val (.ref a10), .val (.int (3 : Int32)), .val (.int pl), .val (.int (1 : Int32))] []))
          refine own_step (b := T60.setTop (mkF m 139 #[.val (.int p0), .val (.int p1), .val (.int p2), .val (.int p3), .val (.ref a1), .val (.ref a10), .val (.int (3 : Int32)), .val (.int pl), .val (.int (1 : Int32))] [(.int (1 : Int32))])) (fun t k => XS.iconst X60.here hx rfl (hb hby at_138) k) ?_
          refine own_step (b := T60.setTop (mkF m 143 #[.val (.int p0), .val (.int p1), .val (.int p2), .val (.int p3), .val (.ref a1), .val (.ref a10), .val (.int (3 : Int32)), .val (.int pl), .val (.int (1 : Int32))] [(.int (1 : Int32))])) (fun t k => XS.goto X60.here hx rfl (pc0 := 139) (pc' := 143) rfl (hb hby at_139) (by decide) (by decide) k) ?_
          exact own_retN X60 hx hret (by simp) hlk (hb hby at_143) ⟨rfl, N11⟩ (by decide) (by decide)
        · show own_G p e below _ (T58.setTop (mkF m 104 #[.val (.int p0), .val (.int p1), .val (.int p2), .val (.int p3), .val (.ref a1), .val (.ref a10), .val (.int (3 : Int32)), .val (.int pl), .unset] []))
          have c101_59b : (decide (c1 = 46) && (own_dig c0) && (own_dig c2) && !decide (pl < 1)) = false := own_bi_f c101_59
          refine own_step (b := T58.setTop (mkF m 106 #[.val (.int p0), .val (.int p1), .val (.int p2), .val (.int p3), .val (.ref a1), .val (.ref a10), .val (.int (3 : Int32)), .val (.int pl), .unset] [(.ref a1)])) (fun t k => XS.aload X58.here hx rfl (hb hby at_104) rfl rfl k) ?_
          refine own_step (b := T58.setTop (mkF m 107 #[.val (.int p0), .val (.int p1), .val (.int p2), .val (.int p3), .val (.ref a1), .val (.ref a10), .val (.int (3 : Int32)), .val (.int pl), .unset] [(.int (2 : Int32)), (.ref a1)])) (fun t k => XS.iconst X58.here hx rfl (hb hby at_106) k) ?_
          refine own_step (b := T58.setTop (mkF m 109 #[.val (.int p0), .val (.int p1), .val (.int p2), .val (.int p3), .val (.ref a1), .val (.ref a10), .val (.int (3 : Int32)), .val (.int pl), .unset] [(.int (3 : Int32)), (.int (2 : Int32)), (.ref a1)])) (fun t k => XS.iload X58.here hx rfl (hb hby at_107) rfl k) ?_
          refine own_step (b := T58.setTop (mkF m 111 #[.val (.int p0), .val (.int p1), .val (.int p2), .val (.int p3), .val (.ref a1), .val (.ref a10), .val (.int (3 : Int32)), .val (.int pl), .unset] [(.int pl), (.int (3 : Int32)), (.int (2 : Int32)), (.ref a1)])) (fun t k => XS.iload X58.here hx rfl (hb hby at_109) rfl k) ?_
          refine own_staticP (W := 0) (argsL := [(.ref a1), (.int (2 : Int32)), (.int (3 : Int32)), (.int pl)]) (st := []) X58 hx hZ hown (own_w hw 44 rfl) (own_w hw 45 rfl) (own_w hw 3 rfl) (own_w hw 46 rfl) (by decide) e58 (rmFrac_2_3 l Z a0 hw [] pl a1 k1 c0 c1 c2 c3 T11.heap V) (by decide) (by decide) (by decide) (by decide) (by rw [hml]; rfl) (lenOf pd6 rfl) rfl (Nat.le_of_ble_eq_true rfl) (hb hby at_111) (fun T62 X62 e62 => ?_)
          show own_G p e below _ (T62.setTop (mkF m 114 #[.val (.int p0), .val (.int p1), .val (.int p2), .val (.int p3), .val (.ref a1), .val (.ref a10), .val (.int (3 : Int32)), .val (.int pl), .unset] [(.int (own_bi false))]))
          refine own_if_eq X62 hx (hb hby at_114) (pc' := 121) (by decide) (by decide) (fun c114_63 => ?_) (fun c114_63 => ?_)
          · show own_G p e below _ (T62.setTop (mkF m 121 #[.val (.int p0), .val (.int p1), .val (.int p2), .val (.int p3), .val (.ref a1), .val (.ref a10), .val (.int (3 : Int32)), .val (.int pl), .unset] []))
            have c114_63b : false = false := own_bi_f c114_63
            refine own_step (b := T62.setTop (mkF m 122 #[.val (.int p0), .val (.int p1), .val (.int p2), .val (.int p3), .val (.ref a1), .val (.ref a10), .val (.int (3 : Int32)), .val (.int pl), .unset] [(.int (0 : Int32))])) (fun t k => XS.iconst X62.here hx rfl (hb hby at_121) k) ?_
            refine own_step (b := T62.setTop (mkF m 124 #[.val (.int p0), .val (.int p1), .val (.int p2), .val (.int p3), .val (.ref a1), .val (.ref a10), .val (.int (3 : Int32)), .val (.int pl), .val (.int (0 : Int32))] [])) (fun t k => XS.istore X62.here hx rfl (hb hby at_122) rfl (l' := #[.val (.int p0), .val (.int p1), .val (.int p2), .val (.int p3), .val (.ref a1), .val (.ref a10), .val (.int (3 : Int32)), .val (.int pl), .val (.int (0 : Int32))]) rfl k) ?_
            refine own_step (b := T62.setTop (mkF m 126 #[.val (.int p0), .val (.int p1), .val (.int p2), .val (.int p3), .val (.ref a1), .val (.ref a10), .val (.int (3 : Int32)), .val (.int pl), .val (.int (0 : Int32))] [(.ref a10)])) (fun t k => XS.aload X62.here hx rfl (hb hby at_124) rfl rfl k) ?_
            refine own_step (b := T62.setTop (mkF m 128 #[.val (.int p0), .val (.int p1), .val (.int p2), .val (.int p3), .val (.ref a1), .val (.ref a10), .val (.int (3 : Int32)), .val (.int pl), .val (.int (0 : Int32))] [(.int (3 : Int32)), (.ref a10)])) (fun t k => XS.iload X62.here hx rfl (hb hby at_126) rfl k) ?_
            refine own_step (b := T62.setTop (mkF m 130 #[.val (.int p0), .val (.int p1), .val (.int p2), .val (.int p3), .val (.ref a1), .val (.ref a10), .val (.int (3 : Int32)), .val (.int pl), .val (.int (0 : Int32))] [(.int pl), (.int (3 : Int32)), (.ref a10)])) (fun t k => XS.iload X62.here hx rfl (hb hby at_128) rfl k) ?_
            refine own_staticP (W := 0) (argsL := [(.ref a10), (.int (3 : Int32)), (.int pl)]) (st := []) X62 hx hZ hown (own_w hw 47 rfl) (own_w hw 48 rfl) (own_w hw 49 rfl) (own_w hw 50 rfl) (by decide) e62 (rmMat_3 l Z a0 hw [] pl a10 c0 c1 c2 c3 T11.heap SS OL11 G1 O2 P5 G3 O4 rG3) (by decide) (by decide) (by decide) (by decide) (by rw [hml]; rfl) (lenOf pd4 rfl) rfl (Nat.le_of_ble_eq_true rfl) (hb hby at_130) (fun T64 X64 e64 => ?_)
            show own_G p e below _ (T64.setTop (mkF m 133 #[.val (.int p0), .val (.int p1), .val (.int p2), .val (.int p3), .val (.ref a1), .val (.ref a10), .val (.int (3 : Int32)), .val (.int pl), .val (.int (0 : Int32))] [(.int (own_bi (if c0 = 46 then false else (if c1 = 46 then ((own_dig c0) && !decide (pl < 1) && (own_dig c2)) else (if c2 = 46 then false else (!decide (c0 = 48) && (own_dig c0 && own_dig c1 && own_dig c2)))))))]))
            refine own_step (b := T64.setTop (mkF m 135 #[.val (.int p0), .val (.int p1), .val (.int p2), .val (.int p3), .val (.ref a1), .val (.ref a10), .val (.int (3 : Int32)), .val (.int pl), .val (.int (0 : Int32))] [(.int (0 : Int32)), (.int (own_bi (if c0 = 46 then false else (if c1 = 46 then ((own_dig c0) && !decide (pl < 1) && (own_dig c2)) else (if c2 = 46 then false else (!decide (c0 = 48) && (own_dig c0 && own_dig c1 && own_dig c2)))))))])) (fun t k => XS.iload X64.here hx rfl (hb hby at_133) rfl k) ?_
            have hm65 : (if c0 = 46 then false else (if c1 = 46 then ((own_dig c0) && !decide (pl < 1) && (own_dig c2)) else (if c2 = 46 then false else (!decide (c0 = 48) && (own_dig c0 && own_dig c1 && own_dig c2))))) = false := by rw [own_eq_3 c0 c1 c2 c3 pl]; simp [c88_55b, c101_59b, c114_63b]
            refine own_icmp_ne X64 hx (hb hby at_135) (pc' := 142) (by decide) (by decide) (fun c135_65 => absurd (by rw [hm65]; rfl) c135_65) (fun c135_65 => ?_)
            show own_G p e below _ (T64.setTop (mkF m 138 #[.val (.int p0), .val (.int p1), .val (.int p2), .val (.int p3), .val (.ref a1), .val (.ref a10), .val (.int (3 : Int32)), .val (.int pl), .val (.int (0 : Int32))] []))
            refine own_step (b := T64.setTop (mkF m 139 #[.val (.int p0), .val (.int p1), .val (.int p2), .val (.int p3), .val (.ref a1), .val (.ref a10), .val (.int (3 : Int32)), .val (.int pl), .val (.int (0 : Int32))] [(.int (1 : Int32))])) (fun t k => XS.iconst X64.here hx rfl (hb hby at_138) k) ?_
            refine own_step (b := T64.setTop (mkF m 143 #[.val (.int p0), .val (.int p1), .val (.int p2), .val (.int p3), .val (.ref a1), .val (.ref a10), .val (.int (3 : Int32)), .val (.int pl), .val (.int (0 : Int32))] [(.int (1 : Int32))])) (fun t k => XS.goto X64.here hx rfl (pc0 := 139) (pc' := 143) rfl (hb hby at_139) (by decide) (by decide) k) ?_
            exact own_retN X64 hx hret (by simp) hlk (hb hby at_143) ⟨rfl, N11⟩ (by decide) (by decide)
          · show own_G p e below _ (T62.setTop (mkF m 117 #[.val (.int p0), .val (.int p1), .val (.int p2), .val (.int p3), .val (.ref a1), .val (.ref a10), .val (.int (3 : Int32)), .val (.int pl), .unset] []))
            have c114_63b : false = true := own_bi_t c114_63
            refine own_step (b := T62.setTop (mkF m 118 #[.val (.int p0), .val (.int p1), .val (.int p2), .val (.int p3), .val (.ref a1), .val (.ref a10), .val (.int (3 : Int32)), .val (.int pl), .unset] [(.int (1 : Int32))])) (fun t k => XS.iconst X62.here hx rfl (hb hby at_117) k) ?_
            refine own_step (b := T62.setTop (mkF m 122 #[.val (.int p0), .val (.int p1), .val (.int p2), .val (.int p3), .val (.ref a1), .val (.ref a10), .val (.int (3 : Int32)), .val (.int pl), .unset] [(.int (1 : Int32))])) (fun t k => XS.goto X62.here hx rfl (pc0 := 118) (pc' := 122) rfl (hb hby at_118) (by decide) (by decide) k) ?_
            refine own_step (b := T62.setTop (mkF m 124 #[.val (.int p0), .val (.int p1), .val (.int p2), .val (.int p3), .val (.ref a1), .val (.ref a10), .val (.int (3 : Int32)), .val (.int pl), .val (.int (1 : Int32))] [])) (fun t k => XS.istore X62.here hx rfl (hb hby at_122) rfl (l' := #[.val (.int p0), .val (.int p1), .val (.int p2), .val (.int p3), .val (.ref a1), .val (.ref a10), .val (.int (3 : Int32)), .val (.int pl), .val (.int (1 : Int32))]) rfl k) ?_
            refine own_step (b := T62.setTop (mkF m 126 #[.val (.int p0), .val (.int p1), .val (.int p2), .val (.int p3), .val (.ref a1), .val (.ref a10), .val (.int (3 : Int32)), .val (.int pl), .val (.int (1 : Int32))] [(.ref a10)])) (fun t k => XS.aload X62.here hx rfl (hb hby at_124) rfl rfl k) ?_
            refine own_step (b := T62.setTop (mkF m 128 #[.val (.int p0), .val (.int p1), .val (.int p2), .val (.int p3), .val (.ref a1), .val (.ref a10), .val (.int (3 : Int32)), .val (.int pl), .val (.int (1 : Int32))] [(.int (3 : Int32)), (.ref a10)])) (fun t k => XS.iload X62.here hx rfl (hb hby at_126) rfl k) ?_
            refine own_step (b := T62.setTop (mkF m 130 #[.val (.int p0), .val (.int p1), .val (.int p2), .val (.int p3), .val (.ref a1), .val (.ref a10), .val (.int (3 : Int32)), .val (.int pl), .val (.int (1 : Int32))] [(.int pl), (.int (3 : Int32)), (.ref a10)])) (fun t k => XS.iload X62.here hx rfl (hb hby at_128) rfl k) ?_
            refine own_staticP (W := 0) (argsL := [(.ref a10), (.int (3 : Int32)), (.int pl)]) (st := []) X62 hx hZ hown (own_w hw 47 rfl) (own_w hw 48 rfl) (own_w hw 49 rfl) (own_w hw 50 rfl) (by decide) e62 (rmMat_3 l Z a0 hw [] pl a10 c0 c1 c2 c3 T11.heap SS OL11 G1 O2 P5 G3 O4 rG3) (by decide) (by decide) (by decide) (by decide) (by rw [hml]; rfl) (lenOf pd4 rfl) rfl (Nat.le_of_ble_eq_true rfl) (hb hby at_130) (fun T66 X66 e66 => ?_)
            show own_G p e below _ (T66.setTop (mkF m 133 #[.val (.int p0), .val (.int p1), .val (.int p2), .val (.int p3), .val (.ref a1), .val (.ref a10), .val (.int (3 : Int32)), .val (.int pl), .val (.int (1 : Int32))] [(.int (own_bi (if c0 = 46 then false else (if c1 = 46 then ((own_dig c0) && !decide (pl < 1) && (own_dig c2)) else (if c2 = 46 then false else (!decide (c0 = 48) && (own_dig c0 && own_dig c1 && own_dig c2)))))))]))
            refine own_step (b := T66.setTop (mkF m 135 #[.val (.int p0), .val (.int p1), .val (.int p2), .val (.int p3), .val (.ref a1), .val (.ref a10), .val (.int (3 : Int32)), .val (.int pl), .val (.int (1 : Int32))] [(.int (1 : Int32)), (.int (own_bi (if c0 = 46 then false else (if c1 = 46 then ((own_dig c0) && !decide (pl < 1) && (own_dig c2)) else (if c2 = 46 then false else (!decide (c0 = 48) && (own_dig c0 && own_dig c1 && own_dig c2)))))))])) (fun t k => XS.iload X66.here hx rfl (hb hby at_133) rfl k) ?_
            have hm67 : (if c0 = 46 then false else (if c1 = 46 then ((own_dig c0) && !decide (pl < 1) && (own_dig c2)) else (if c2 = 46 then false else (!decide (c0 = 48) && (own_dig c0 && own_dig c1 && own_dig c2))))) = true := by rw [own_eq_3 c0 c1 c2 c3 pl]; simp [c88_55b, c101_59b, c114_63b]
            refine own_icmp_ne X66 hx (hb hby at_135) (pc' := 142) (by decide) (by decide) (fun c135_67 => absurd (by rw [hm67]; rfl) c135_67) (fun c135_67 => ?_)
            show own_G p e below _ (T66.setTop (mkF m 138 #[.val (.int p0), .val (.int p1), .val (.int p2), .val (.int p3), .val (.ref a1), .val (.ref a10), .val (.int (3 : Int32)), .val (.int pl), .val (.int (1 : Int32))] []))
            refine own_step (b := T66.setTop (mkF m 139 #[.val (.int p0), .val (.int p1), .val (.int p2), .val (.int p3), .val (.ref a1), .val (.ref a10), .val (.int (3 : Int32)), .val (.int pl), .val (.int (1 : Int32))] [(.int (1 : Int32))])) (fun t k => XS.iconst X66.here hx rfl (hb hby at_138) k) ?_
            refine own_step (b := T66.setTop (mkF m 143 #[.val (.int p0), .val (.int p1), .val (.int p2), .val (.int p3), .val (.ref a1), .val (.ref a10), .val (.int (3 : Int32)), .val (.int pl), .val (.int (1 : Int32))] [(.int (1 : Int32))])) (fun t k => XS.goto X66.here hx rfl (pc0 := 139) (pc' := 143) rfl (hb hby at_139) (by decide) (by decide) k) ?_
            exact own_retN X66 hx hret (by simp) hlk (hb hby at_143) ⟨rfl, N11⟩ (by decide) (by decide)
    · show own_G p e below _ (T11.setTop (mkF m 79 #[.val (.int p0), .val (.int p1), .val (.int p2), .val (.int p3), .val (.ref a1), .val (.ref a10), .val (.int (4 : Int32)), .unset, .unset] [(.int pl)]))
      refine own_step (b := T11.setTop (mkF m 81 #[.val (.int p0), .val (.int p1), .val (.int p2), .val (.int p3), .val (.ref a1), .val (.ref a10), .val (.int (4 : Int32)), .val (.int pl), .unset] [])) (fun t k => XS.istore X11.here hx rfl (hb hby at_79) rfl (l' := #[.val (.int p0), .val (.int p1), .val (.int p2), .val (.int p3), .val (.ref a1), .val (.ref a10), .val (.int (4 : Int32)), .val (.int pl), .unset]) rfl k) ?_
      refine own_step (b := T11.setTop (mkF m 83 #[.val (.int p0), .val (.int p1), .val (.int p2), .val (.int p3), .val (.ref a1), .val (.ref a10), .val (.int (4 : Int32)), .val (.int pl), .unset] [(.ref a1)])) (fun t k => XS.aload X11.here hx rfl (hb hby at_81) rfl rfl k) ?_
      refine own_step (b := T11.setTop (mkF m 85 #[.val (.int p0), .val (.int p1), .val (.int p2), .val (.int p3), .val (.ref a1), .val (.ref a10), .val (.int (4 : Int32)), .val (.int pl), .unset] [(.int (4 : Int32)), (.ref a1)])) (fun t k => XS.iload X11.here hx rfl (hb hby at_83) rfl k) ?_
      refine own_staticP (W := 0) (argsL := [(.ref a1), (.int (4 : Int32))]) (st := []) X11 hx hZ hown (own_w hw 35 rfl) (own_w hw 36 rfl) (own_w hw 3 rfl) (own_w hw 37 rfl) (by decide) rfl (rmWhole_4 l Z a0 hw [] a1 k1 c0 c1 c2 c3 T11.heap V) (by decide) (by decide) (by decide) (by decide) (by rw [hml]; rfl) (lenOf pd2 rfl) rfl (Nat.le_of_ble_eq_true rfl) (hb hby at_85) (fun T68 X68 e68 => ?_)
      show own_G p e below _ (T68.setTop (mkF m 88 #[.val (.int p0), .val (.int p1), .val (.int p2), .val (.int p3), .val (.ref a1), .val (.ref a10), .val (.int (4 : Int32)), .val (.int pl), .unset] [(.int (own_bi ((own_dig c0 && own_dig c1 && own_dig c2 && own_dig c3) && !decide (c0 = 48))))]))
      refine own_if_ne X68 hx (hb hby at_88) (pc' := 117) (by decide) (by decide) (fun c88_69 => ?_) (fun c88_69 => ?_)
      · show own_G p e below _ (T68.setTop (mkF m 117 #[.val (.int p0), .val (.int p1), .val (.int p2), .val (.int p3), .val (.ref a1), .val (.ref a10), .val (.int (4 : Int32)), .val (.int pl), .unset] []))
        have c88_69b : ((own_dig c0 && own_dig c1 && own_dig c2 && own_dig c3) && !decide (c0 = 48)) = true := own_bi_t c88_69
        refine own_step (b := T68.setTop (mkF m 118 #[.val (.int p0), .val (.int p1), .val (.int p2), .val (.int p3), .val (.ref a1), .val (.ref a10), .val (.int (4 : Int32)), .val (.int pl), .unset] [(.int (1 : Int32))])) (fun t k => XS.iconst X68.here hx rfl (hb hby at_117) k) ?_
        refine own_step (b := T68.setTop (mkF m 122 #[.val (.int p0), .val (.int p1), .val (.int p2), .val (.int p3), .val (.ref a1), .val (.ref a10), .val (.int (4 : Int32)), .val (.int pl), .unset] [(.int (1 : Int32))])) (fun t k => XS.goto X68.here hx rfl (pc0 := 118) (pc' := 122) rfl (hb hby at_118) (by decide) (by decide) k) ?_
        refine own_step (b := T68.setTop (mkF m 124 #[.val (.int p0), .val (.int p1), .val (.int p2), .val (.int p3), .val (.ref a1), .val (.ref a10), .val (.int (4 : Int32)), .val (.int pl), .val (.int (1 : Int32))] [])) (fun t k => XS.istore X68.here hx rfl (hb hby at_122) rfl (l' := #[.val (.int p0), .val (.int p1), .val (.int p2), .val (.int p3), .val (.ref a1), .val (.ref a10), .val (.int (4 : Int32)), .val (.int pl), .val (.int (1 : Int32))]) rfl k) ?_
        refine own_step (b := T68.setTop (mkF m 126 #[.val (.int p0), .val (.int p1), .val (.int p2), .val (.int p3), .val (.ref a1), .val (.ref a10), .val (.int (4 : Int32)), .val (.int pl), .val (.int (1 : Int32))] [(.ref a10)])) (fun t k => XS.aload X68.here hx rfl (hb hby at_124) rfl rfl k) ?_
        refine own_step (b := T68.setTop (mkF m 128 #[.val (.int p0), .val (.int p1), .val (.int p2), .val (.int p3), .val (.ref a1), .val (.ref a10), .val (.int (4 : Int32)), .val (.int pl), .val (.int (1 : Int32))] [(.int (4 : Int32)), (.ref a10)])) (fun t k => XS.iload X68.here hx rfl (hb hby at_126) rfl k) ?_
        refine own_step (b := T68.setTop (mkF m 130 #[.val (.int p0), .val (.int p1), .val (.int p2), .val (.int p3), .val (.ref a1), .val (.ref a10), .val (.int (4 : Int32)), .val (.int pl), .val (.int (1 : Int32))] [(.int pl), (.int (4 : Int32)), (.ref a10)])) (fun t k => XS.iload X68.here hx rfl (hb hby at_128) rfl k) ?_
        refine own_staticP (W := 0) (argsL := [(.ref a10), (.int (4 : Int32)), (.int pl)]) (st := []) X68 hx hZ hown (own_w hw 47 rfl) (own_w hw 48 rfl) (own_w hw 49 rfl) (own_w hw 50 rfl) (by decide) e68 (rmMat_4 l Z a0 hw [] pl a10 c0 c1 c2 c3 T11.heap SS OL11 G1 O2 P5 G3 O4 rG3) (by decide) (by decide) (by decide) (by decide) (by rw [hml]; rfl) (lenOf pd4 rfl) rfl (Nat.le_of_ble_eq_true rfl) (hb hby at_130) (fun T70 X70 e70 => ?_)
        show own_G p e below _ (T70.setTop (mkF m 133 #[.val (.int p0), .val (.int p1), .val (.int p2), .val (.int p3), .val (.ref a1), .val (.ref a10), .val (.int (4 : Int32)), .val (.int pl), .val (.int (1 : Int32))] [(.int (own_bi (if c0 = 46 then false else (if c1 = 46 then ((own_dig c0) && !decide (pl < 2) && (own_dig c2 && own_dig c3)) else (if c2 = 46 then ((!decide (c0 = 48) && (own_dig c0 && own_dig c1)) && !decide (pl < 1) && (own_dig c3)) else (if c3 = 46 then false else (!decide (c0 = 48) && (own_dig c0 && own_dig c1 && own_dig c2 && own_dig c3))))))))]))
        refine own_step (b := T70.setTop (mkF m 135 #[.val (.int p0), .val (.int p1), .val (.int p2), .val (.int p3), .val (.ref a1), .val (.ref a10), .val (.int (4 : Int32)), .val (.int pl), .val (.int (1 : Int32))] [(.int (1 : Int32)), (.int (own_bi (if c0 = 46 then false else (if c1 = 46 then ((own_dig c0) && !decide (pl < 2) && (own_dig c2 && own_dig c3)) else (if c2 = 46 then ((!decide (c0 = 48) && (own_dig c0 && own_dig c1)) && !decide (pl < 1) && (own_dig c3)) else (if c3 = 46 then false else (!decide (c0 = 48) && (own_dig c0 && own_dig c1 && own_dig c2 && own_dig c3))))))))])) (fun t k => XS.iload X70.here hx rfl (hb hby at_133) rfl k) ?_
        have hm71 : (if c0 = 46 then false else (if c1 = 46 then ((own_dig c0) && !decide (pl < 2) && (own_dig c2 && own_dig c3)) else (if c2 = 46 then ((!decide (c0 = 48) && (own_dig c0 && own_dig c1)) && !decide (pl < 1) && (own_dig c3)) else (if c3 = 46 then false else (!decide (c0 = 48) && (own_dig c0 && own_dig c1 && own_dig c2 && own_dig c3)))))) = true := by rw [own_eq_4 c0 c1 c2 c3 pl]; simp [c88_69b]
        refine own_icmp_ne X70 hx (hb hby at_135) (pc' := 142) (by decide) (by decide) (fun c135_71 => absurd (by rw [hm71]; rfl) c135_71) (fun c135_71 => ?_)
        show own_G p e below _ (T70.setTop (mkF m 138 #[.val (.int p0), .val (.int p1), .val (.int p2), .val (.int p3), .val (.ref a1), .val (.ref a10), .val (.int (4 : Int32)), .val (.int pl), .val (.int (1 : Int32))] []))
        refine own_step (b := T70.setTop (mkF m 139 #[.val (.int p0), .val (.int p1), .val (.int p2), .val (.int p3), .val (.ref a1), .val (.ref a10), .val (.int (4 : Int32)), .val (.int pl), .val (.int (1 : Int32))] [(.int (1 : Int32))])) (fun t k => XS.iconst X70.here hx rfl (hb hby at_138) k) ?_
        refine own_step (b := T70.setTop (mkF m 143 #[.val (.int p0), .val (.int p1), .val (.int p2), .val (.int p3), .val (.ref a1), .val (.ref a10), .val (.int (4 : Int32)), .val (.int pl), .val (.int (1 : Int32))] [(.int (1 : Int32))])) (fun t k => XS.goto X70.here hx rfl (pc0 := 139) (pc' := 143) rfl (hb hby at_139) (by decide) (by decide) k) ?_
        exact own_retN X70 hx hret (by simp) hlk (hb hby at_143) ⟨rfl, N11⟩ (by decide) (by decide)
      · show own_G p e below _ (T68.setTop (mkF m 91 #[.val (.int p0), .val (.int p1), .val (.int p2), .val (.int p3), .val (.ref a1), .val (.ref a10), .val (.int (4 : Int32)), .val (.int pl), .unset] []))
        have c88_69b : ((own_dig c0 && own_dig c1 && own_dig c2 && own_dig c3) && !decide (c0 = 48)) = false := own_bi_f c88_69
        refine own_step (b := T68.setTop (mkF m 93 #[.val (.int p0), .val (.int p1), .val (.int p2), .val (.int p3), .val (.ref a1), .val (.ref a10), .val (.int (4 : Int32)), .val (.int pl), .unset] [(.ref a1)])) (fun t k => XS.aload X68.here hx rfl (hb hby at_91) rfl rfl k) ?_
        refine own_step (b := T68.setTop (mkF m 94 #[.val (.int p0), .val (.int p1), .val (.int p2), .val (.int p3), .val (.ref a1), .val (.ref a10), .val (.int (4 : Int32)), .val (.int pl), .unset] [(.int (1 : Int32)), (.ref a1)])) (fun t k => XS.iconst X68.here hx rfl (hb hby at_93) k) ?_
        refine own_step (b := T68.setTop (mkF m 96 #[.val (.int p0), .val (.int p1), .val (.int p2), .val (.int p3), .val (.ref a1), .val (.ref a10), .val (.int (4 : Int32)), .val (.int pl), .unset] [(.int (4 : Int32)), (.int (1 : Int32)), (.ref a1)])) (fun t k => XS.iload X68.here hx rfl (hb hby at_94) rfl k) ?_
        refine own_step (b := T68.setTop (mkF m 98 #[.val (.int p0), .val (.int p1), .val (.int p2), .val (.int p3), .val (.ref a1), .val (.ref a10), .val (.int (4 : Int32)), .val (.int pl), .unset] [(.int pl), (.int (4 : Int32)), (.int (1 : Int32)), (.ref a1)])) (fun t k => XS.iload X68.here hx rfl (hb hby at_96) rfl k) ?_
        refine own_staticP (W := 0) (argsL := [(.ref a1), (.int (1 : Int32)), (.int (4 : Int32)), (.int pl)]) (st := []) X68 hx hZ hown (own_w hw 44 rfl) (own_w hw 45 rfl) (own_w hw 3 rfl) (own_w hw 46 rfl) (by decide) e68 (rmFrac_1_4 l Z a0 hw [] pl a1 k1 c0 c1 c2 c3 T11.heap V) (by decide) (by decide) (by decide) (by decide) (by rw [hml]; rfl) (lenOf pd6 rfl) rfl (Nat.le_of_ble_eq_true rfl) (hb hby at_98) (fun T72 X72 e72 => ?_)
        show own_G p e below _ (T72.setTop (mkF m 101 #[.val (.int p0), .val (.int p1), .val (.int p2), .val (.int p3), .val (.ref a1), .val (.ref a10), .val (.int (4 : Int32)), .val (.int pl), .unset] [(.int (own_bi (decide (c1 = 46) && (own_dig c0) && (own_dig c2 && own_dig c3) && !decide (pl < 2))))]))
        refine own_if_ne X72 hx (hb hby at_101) (pc' := 117) (by decide) (by decide) (fun c101_73 => ?_) (fun c101_73 => ?_)
        · show own_G p e below _ (T72.setTop (mkF m 117 #[.val (.int p0), .val (.int p1), .val (.int p2), .val (.int p3), .val (.ref a1), .val (.ref a10), .val (.int (4 : Int32)), .val (.int pl), .unset] []))
          have c101_73b : (decide (c1 = 46) && (own_dig c0) && (own_dig c2 && own_dig c3) && !decide (pl < 2)) = true := own_bi_t c101_73
          refine own_step (b := T72.setTop (mkF m 118 #[.val (.int p0), .val (.int p1), .val (.int p2), .val (.int p3), .val (.ref a1), .val (.ref a10), .val (.int (4 : Int32)), .val (.int pl), .unset] [(.int (1 : Int32))])) (fun t k => XS.iconst X72.here hx rfl (hb hby at_117) k) ?_
          refine own_step (b := T72.setTop (mkF m 122 #[.val (.int p0), .val (.int p1), .val (.int p2), .val (.int p3), .val (.ref a1), .val (.ref a10), .val (.int (4 : Int32)), .val (.int pl), .unset] [(.int (1 : Int32))])) (fun t k => XS.goto X72.here hx rfl (pc0 := 118) (pc' := 122) rfl (hb hby at_118) (by decide) (by decide) k) ?_
          refine own_step (b := T72.setTop (mkF m 124 #[.val (.int p0), .val (.int p1), .val (.int p2), .val (.int p3), .val (.ref a1), .val (.ref a10), .val (.int (4 : Int32)), .val (.int pl), .val (.int (1 : Int32))] [])) (fun t k => XS.istore X72.here hx rfl (hb hby at_122) rfl (l' := #[.val (.int p0), .val (.int p1), .val (.int p2), .val (.int p3), .val (.ref a1), .val (.ref a10), .val (.int (4 : Int32)), .val (.int pl), .val (.int (1 : Int32))]) rfl k) ?_
          refine own_step (b := T72.setTop (mkF m 126 #[.val (.int p0), .val (.int p1), .val (.int p2), .val (.int p3), .val (.ref a1), .val (.ref a10), .val (.int (4 : Int32)), .val (.int pl), .val (.int (1 : Int32))] [(.ref a10)])) (fun t k => XS.aload X72.here hx rfl (hb hby at_124) rfl rfl k) ?_
          refine own_step (b := T72.setTop (mkF m 128 #[.val (.int p0), .val (.int p1), .val (.int p2), .val (.int p3), .val (.ref a1), .val (.ref a10), .val (.int (4 : Int32)), .val (.int pl), .val (.int (1 : Int32))] [(.int (4 : Int32)), (.ref a10)])) (fun t k => XS.iload X72.here hx rfl (hb hby at_126) rfl k) ?_
          refine own_step (b := T72.setTop (mkF m 130 #[.val (.int p0), .val (.int p1), .val (.int p2), .val (.int p3), .val (.ref a1), .val (.ref a10), .val (.int (4 : Int32)), .val (.int pl), .val (.int (1 : Int32))] [(.int pl), (.int (4 : Int32)), (.ref a10)])) (fun t k => XS.iload X72.here hx rfl (hb hby at_128) rfl k) ?_
          refine own_staticP (W := 0) (argsL := [(.ref a10), (.int (4 : Int32)), (.int pl)]) (st := []) X72 hx hZ hown (own_w hw 47 rfl) (own_w hw 48 rfl) (own_w hw 49 rfl) (own_w hw 50 rfl) (by decide) e72 (rmMat_4 l Z a0 hw [] pl a10 c0 c1 c2 c3 T11.heap SS OL11 G1 O2 P5 G3 O4 rG3) (by decide) (by decide) (by decide) (by decide) (by rw [hml]; rfl) (lenOf pd4 rfl) rfl (Nat.le_of_ble_eq_true rfl) (hb hby at_130) (fun T74 X74 e74 => ?_)
          show own_G p e below _ (T74.setTop (mkF m 133 #[.val (.int p0), .val (.int p1), .val (.int p2), .val (.int p3), .val (.ref a1), .val (.ref a10), .val (.int (4 : Int32)), .val (.int pl), .val (.int (1 : Int32))] [(.int (own_bi (if c0 = 46 then false else (if c1 = 46 then ((own_dig c0) && !decide (pl < 2) && (own_dig c2 && own_dig c3)) else (if c2 = 46 then ((!decide (c0 = 48) && (own_dig c0 && own_dig c1)) && !decide (pl < 1) && (own_dig c3)) else (if c3 = 46 then false else (!decide (c0 = 48) && (own_dig c0 && own_dig c1 && own_dig c2 && own_dig c3))))))))]))
          refine own_step (b := T74.setTop (mkF m 135 #[.val (.int p0), .val (.int p1), .val (.int p2), .val (.int p3), .val (.ref a1), .val (.ref a10), .val (.int (4 : Int32)), .val (.int pl), .val (.int (1 : Int32))] [(.int (1 : Int32)), (.int (own_bi (if c0 = 46 then false else (if c1 = 46 then ((own_dig c0) && !decide (pl < 2) && (own_dig c2 && own_dig c3)) else (if c2 = 46 then ((!decide (c0 = 48) && (own_dig c0 && own_dig c1)) && !decide (pl < 1) && (own_dig c3)) else (if c3 = 46 then false else (!decide (c0 = 48) && (own_dig c0 && own_dig c1 && own_dig c2 && own_dig c3))))))))])) (fun t k => XS.iload X74.here hx rfl (hb hby at_133) rfl k) ?_
          have hm75 : (if c0 = 46 then false else (if c1 = 46 then ((own_dig c0) && !decide (pl < 2) && (own_dig c2 && own_dig c3)) else (if c2 = 46 then ((!decide (c0 = 48) && (own_dig c0 && own_dig c1)) && !decide (pl < 1) && (own_dig c3)) else (if c3 = 46 then false else (!decide (c0 = 48) && (own_dig c0 && own_dig c1 && own_dig c2 && own_dig c3)))))) = true := by rw [own_eq_4 c0 c1 c2 c3 pl]; simp [c88_69b, c101_73b]
          refine own_icmp_ne X74 hx (hb hby at_135) (pc' := 142) (by decide) (by decide) (fun c135_75 => absurd (by rw [hm75]; rfl) c135_75) (fun c135_75 => ?_)
          show own_G p e below _ (T74.setTop (mkF m 138 #[.val (.int p0), .val (.int p1), .val (.int p2), .val (.int p3), .val (.ref a1), .val (.ref a10), .val (.int (4 : Int32)), .val (.int pl), .val (.int (1 : Int32))] []))
          refine own_step (b := T74.setTop (mkF m 139 #[.val (.int p0), .val (.int p1), .val (.int p2), .val (.int p3), .val (.ref a1), .val (.ref a10), .val (.int (4 : Int32)), .val (.int pl), .val (.int (1 : Int32))] [(.int (1 : Int32))])) (fun t k => XS.iconst X74.here hx rfl (hb hby at_138) k) ?_
          refine own_step (b := T74.setTop (mkF m 143 #[.val (.int p0), .val (.int p1), .val (.int p2), .val (.int p3), .val (.ref a1), .val (.ref a10), .val (.int (4 : Int32)), .val (.int pl), .val (.int (1 : Int32))] [(.int (1 : Int32))])) (fun t k => XS.goto X74.here hx rfl (pc0 := 139) (pc' := 143) rfl (hb hby at_139) (by decide) (by decide) k) ?_
          exact own_retN X74 hx hret (by simp) hlk (hb hby at_143) ⟨rfl, N11⟩ (by decide) (by decide)
        · show own_G p e below _ (T72.setTop (mkF m 104 #[.val (.int p0), .val (.int p1), .val (.int p2), .val (.int p3), .val (.ref a1), .val (.ref a10), .val (.int (4 : Int32)), .val (.int pl), .unset] []))
          have c101_73b : (decide (c1 = 46) && (own_dig c0) && (own_dig c2 && own_dig c3) && !decide (pl < 2)) = false := own_bi_f c101_73
          refine own_step (b := T72.setTop (mkF m 106 #[.val (.int p0), .val (.int p1), .val (.int p2), .val (.int p3), .val (.ref a1), .val (.ref a10), .val (.int (4 : Int32)), .val (.int pl), .unset] [(.ref a1)])) (fun t k => XS.aload X72.here hx rfl (hb hby at_104) rfl rfl k) ?_
          refine own_step (b := T72.setTop (mkF m 107 #[.val (.int p0), .val (.int p1), .val (.int p2), .val (.int p3), .val (.ref a1), .val (.ref a10), .val (.int (4 : Int32)), .val (.int pl), .unset] [(.int (2 : Int32)), (.ref a1)])) (fun t k => XS.iconst X72.here hx rfl (hb hby at_106) k) ?_
          refine own_step (b := T72.setTop (mkF m 109 #[.val (.int p0), .val (.int p1), .val (.int p2), .val (.int p3), .val (.ref a1), .val (.ref a10), .val (.int (4 : Int32)), .val (.int pl), .unset] [(.int (4 : Int32)), (.int (2 : Int32)), (.ref a1)])) (fun t k => XS.iload X72.here hx rfl (hb hby at_107) rfl k) ?_
          refine own_step (b := T72.setTop (mkF m 111 #[.val (.int p0), .val (.int p1), .val (.int p2), .val (.int p3), .val (.ref a1), .val (.ref a10), .val (.int (4 : Int32)), .val (.int pl), .unset] [(.int pl), (.int (4 : Int32)), (.int (2 : Int32)), (.ref a1)])) (fun t k => XS.iload X72.here hx rfl (hb hby at_109) rfl k) ?_
          refine own_staticP (W := 0) (argsL := [(.ref a1), (.int (2 : Int32)), (.int (4 : Int32)), (.int pl)]) (st := []) X72 hx hZ hown (own_w hw 44 rfl) (own_w hw 45 rfl) (own_w hw 3 rfl) (own_w hw 46 rfl) (by decide) e72 (rmFrac_2_4 l Z a0 hw [] pl a1 k1 c0 c1 c2 c3 T11.heap V) (by decide) (by decide) (by decide) (by decide) (by rw [hml]; rfl) (lenOf pd6 rfl) rfl (Nat.le_of_ble_eq_true rfl) (hb hby at_111) (fun T76 X76 e76 => ?_)
          show own_G p e below _ (T76.setTop (mkF m 114 #[.val (.int p0), .val (.int p1), .val (.int p2), .val (.int p3), .val (.ref a1), .val (.ref a10), .val (.int (4 : Int32)), .val (.int pl), .unset] [(.int (own_bi (decide (c2 = 46) && ((own_dig c0 && own_dig c1) && !decide (c0 = 48)) && (own_dig c3) && !decide (pl < 1))))]))
          refine own_if_eq X76 hx (hb hby at_114) (pc' := 121) (by decide) (by decide) (fun c114_77 => ?_) (fun c114_77 => ?_)
          · show own_G p e below _ (T76.setTop (mkF m 121 #[.val (.int p0), .val (.int p1), .val (.int p2), .val (.int p3), .val (.ref a1), .val (.ref a10), .val (.int (4 : Int32)), .val (.int pl), .unset] []))
            have c114_77b : (decide (c2 = 46) && ((own_dig c0 && own_dig c1) && !decide (c0 = 48)) && (own_dig c3) && !decide (pl < 1)) = false := own_bi_f c114_77
            refine own_step (b := T76.setTop (mkF m 122 #[.val (.int p0), .val (.int p1), .val (.int p2), .val (.int p3), .val (.ref a1), .val (.ref a10), .val (.int (4 : Int32)), .val (.int pl), .unset] [(.int (0 : Int32))])) (fun t k => XS.iconst X76.here hx rfl (hb hby at_121) k) ?_
            refine own_step (b := T76.setTop (mkF m 124 #[.val (.int p0), .val (.int p1), .val (.int p2), .val (.int p3), .val (.ref a1), .val (.ref a10), .val (.int (4 : Int32)), .val (.int pl), .val (.int (0 : Int32))] [])) (fun t k => XS.istore X76.here hx rfl (hb hby at_122) rfl (l' := #[.val (.int p0), .val (.int p1), .val (.int p2), .val (.int p3), .val (.ref a1), .val (.ref a10), .val (.int (4 : Int32)), .val (.int pl), .val (.int (0 : Int32))]) rfl k) ?_
            refine own_step (b := T76.setTop (mkF m 126 #[.val (.int p0), .val (.int p1), .val (.int p2), .val (.int p3), .val (.ref a1), .val (.ref a10), .val (.int (4 : Int32)), .val (.int pl), .val (.int (0 : Int32))] [(.ref a10)])) (fun t k => XS.aload X76.here hx rfl (hb hby at_124) rfl rfl k) ?_
            refine own_step (b := T76.setTop (mkF m 128 #[.val (.int p0), .val (.int p1), .val (.int p2), .val (.int p3), .val (.ref a1), .val (.ref a10), .val (.int (4 : Int32)), .val (.int pl), .val (.int (0 : Int32))] [(.int (4 : Int32)), (.ref a10)])) (fun t k => XS.iload X76.here hx rfl (hb hby at_126) rfl k) ?_
            refine own_step (b := T76.setTop (mkF m 130 #[.val (.int p0), .val (.int p1), .val (.int p2), .val (.int p3), .val (.ref a1), .val (.ref a10), .val (.int (4 : Int32)), .val (.int pl), .val (.int (0 : Int32))] [(.int pl), (.int (4 : Int32)), (.ref a10)])) (fun t k => XS.iload X76.here hx rfl (hb hby at_128) rfl k) ?_
            refine own_staticP (W := 0) (argsL := [(.ref a10), (.int (4 : Int32)), (.int pl)]) (st := []) X76 hx hZ hown (own_w hw 47 rfl) (own_w hw 48 rfl) (own_w hw 49 rfl) (own_w hw 50 rfl) (by decide) e76 (rmMat_4 l Z a0 hw [] pl a10 c0 c1 c2 c3 T11.heap SS OL11 G1 O2 P5 G3 O4 rG3) (by decide) (by decide) (by decide) (by decide) (by rw [hml]; rfl) (lenOf pd4 rfl) rfl (Nat.le_of_ble_eq_true rfl) (hb hby at_130) (fun T78 X78 e78 => ?_)
            show own_G p e below _ (T78.setTop (mkF m 133 #[.val (.int p0), .val (.int p1), .val (.int p2), .val (.int p3), .val (.ref a1), .val (.ref a10), .val (.int (4 : Int32)), .val (.int pl), .val (.int (0 : Int32))] [(.int (own_bi (if c0 = 46 then false else (if c1 = 46 then ((own_dig c0) && !decide (pl < 2) && (own_dig c2 && own_dig c3)) else (if c2 = 46 then ((!decide (c0 = 48) && (own_dig c0 && own_dig c1)) && !decide (pl < 1) && (own_dig c3)) else (if c3 = 46 then false else (!decide (c0 = 48) && (own_dig c0 && own_dig c1 && own_dig c2 && own_dig c3))))))))]))
            refine own_step (b := T78.setTop (mkF m 135 #[.val (.int p0), .val (.int p1), .val (.int p2), .val (.int p3), .val (.ref a1), .val (.ref a10), .val (.int (4 : Int32)), .val (.int pl), .val (.int (0 : Int32))] [(.int (0 : Int32)), (.int (own_bi (if c0 = 46 then false else (if c1 = 46 then ((own_dig c0) && !decide (pl < 2) && (own_dig c2 && own_dig c3)) else (if c2 = 46 then ((!decide (c0 = 48) && (own_dig c0 && own_dig c1)) && !decide (pl < 1) && (own_dig c3)) else (if c3 = 46 then false else (!decide (c0 = 48) && (own_dig c0 && own_dig c1 && own_dig c2 && own_dig c3))))))))])) (fun t k => XS.iload X78.here hx rfl (hb hby at_133) rfl k) ?_
            have hm79 : (if c0 = 46 then false else (if c1 = 46 then ((own_dig c0) && !decide (pl < 2) && (own_dig c2 && own_dig c3)) else (if c2 = 46 then ((!decide (c0 = 48) && (own_dig c0 && own_dig c1)) && !decide (pl < 1) && (own_dig c3)) else (if c3 = 46 then false else (!decide (c0 = 48) && (own_dig c0 && own_dig c1 && own_dig c2 && own_dig c3)))))) = false := by rw [own_eq_4 c0 c1 c2 c3 pl]; simp [c88_69b, c101_73b, c114_77b]
            refine own_icmp_ne X78 hx (hb hby at_135) (pc' := 142) (by decide) (by decide) (fun c135_79 => absurd (by rw [hm79]; rfl) c135_79) (fun c135_79 => ?_)
            show own_G p e below _ (T78.setTop (mkF m 138 #[.val (.int p0), .val (.int p1), .val (.int p2), .val (.int p3), .val (.ref a1), .val (.ref a10), .val (.int (4 : Int32)), .val (.int pl), .val (.int (0 : Int32))] []))
            refine own_step (b := T78.setTop (mkF m 139 #[.val (.int p0), .val (.int p1), .val (.int p2), .val (.int p3), .val (.ref a1), .val (.ref a10), .val (.int (4 : Int32)), .val (.int pl), .val (.int (0 : Int32))] [(.int (1 : Int32))])) (fun t k => XS.iconst X78.here hx rfl (hb hby at_138) k) ?_
            refine own_step (b := T78.setTop (mkF m 143 #[.val (.int p0), .val (.int p1), .val (.int p2), .val (.int p3), .val (.ref a1), .val (.ref a10), .val (.int (4 : Int32)), .val (.int pl), .val (.int (0 : Int32))] [(.int (1 : Int32))])) (fun t k => XS.goto X78.here hx rfl (pc0 := 139) (pc' := 143) rfl (hb hby at_139) (by decide) (by decide) k) ?_
            exact own_retN X78 hx hret (by simp) hlk (hb hby at_143) ⟨rfl, N11⟩ (by decide) (by decide)
          · show own_G p e below _ (T76.setTop (mkF m 117 #[.val (.int p0), .val (.int p1), .val (.int p2), .val (.int p3), .val (.ref a1), .val (.ref a10), .val (.int (4 : Int32)), .val (.int pl), .unset] []))
            have c114_77b : (decide (c2 = 46) && ((own_dig c0 && own_dig c1) && !decide (c0 = 48)) && (own_dig c3) && !decide (pl < 1)) = true := own_bi_t c114_77
            refine own_step (b := T76.setTop (mkF m 118 #[.val (.int p0), .val (.int p1), .val (.int p2), .val (.int p3), .val (.ref a1), .val (.ref a10), .val (.int (4 : Int32)), .val (.int pl), .unset] [(.int (1 : Int32))])) (fun t k => XS.iconst X76.here hx rfl (hb hby at_117) k) ?_
            refine own_step (b := T76.setTop (mkF m 122 #[.val (.int p0), .val (.int p1), .val (.int p2), .val (.int p3), .val (.ref a1), .val (.ref a10), .val (.int (4 : Int32)), .val (.int pl), .unset] [(.int (1 : Int32))])) (fun t k => XS.goto X76.here hx rfl (pc0 := 118) (pc' := 122) rfl (hb hby at_118) (by decide) (by decide) k) ?_
            refine own_step (b := T76.setTop (mkF m 124 #[.val (.int p0), .val (.int p1), .val (.int p2), .val (.int p3), .val (.ref a1), .val (.ref a10), .val (.int (4 : Int32)), .val (.int pl), .val (.int (1 : Int32))] [])) (fun t k => XS.istore X76.here hx rfl (hb hby at_122) rfl (l' := #[.val (.int p0), .val (.int p1), .val (.int p2), .val (.int p3), .val (.ref a1), .val (.ref a10), .val (.int (4 : Int32)), .val (.int pl), .val (.int (1 : Int32))]) rfl k) ?_
            refine own_step (b := T76.setTop (mkF m 126 #[.val (.int p0), .val (.int p1), .val (.int p2), .val (.int p3), .val (.ref a1), .val (.ref a10), .val (.int (4 : Int32)), .val (.int pl), .val (.int (1 : Int32))] [(.ref a10)])) (fun t k => XS.aload X76.here hx rfl (hb hby at_124) rfl rfl k) ?_
            refine own_step (b := T76.setTop (mkF m 128 #[.val (.int p0), .val (.int p1), .val (.int p2), .val (.int p3), .val (.ref a1), .val (.ref a10), .val (.int (4 : Int32)), .val (.int pl), .val (.int (1 : Int32))] [(.int (4 : Int32)), (.ref a10)])) (fun t k => XS.iload X76.here hx rfl (hb hby at_126) rfl k) ?_
            refine own_step (b := T76.setTop (mkF m 130 #[.val (.int p0), .val (.int p1), .val (.int p2), .val (.int p3), .val (.ref a1), .val (.ref a10), .val (.int (4 : Int32)), .val (.int pl), .val (.int (1 : Int32))] [(.int pl), (.int (4 : Int32)), (.ref a10)])) (fun t k => XS.iload X76.here hx rfl (hb hby at_128) rfl k) ?_
            refine own_staticP (W := 0) (argsL := [(.ref a10), (.int (4 : Int32)), (.int pl)]) (st := []) X76 hx hZ hown (own_w hw 47 rfl) (own_w hw 48 rfl) (own_w hw 49 rfl) (own_w hw 50 rfl) (by decide) e76 (rmMat_4 l Z a0 hw [] pl a10 c0 c1 c2 c3 T11.heap SS OL11 G1 O2 P5 G3 O4 rG3) (by decide) (by decide) (by decide) (by decide) (by rw [hml]; rfl) (lenOf pd4 rfl) rfl (Nat.le_of_ble_eq_true rfl) (hb hby at_130) (fun T80 X80 e80 => ?_)
            show own_G p e below _ (T80.setTop (mkF m 133 #[.val (.int p0), .val (.int p1), .val (.int p2), .val (.int p3), .val (.ref a1), .val (.ref a10), .val (.int (4 : Int32)), .val (.int pl), .val (.int (1 : Int32))] [(.int (own_bi (if c0 = 46 then false else (if c1 = 46 then ((own_dig c0) && !decide (pl < 2) && (own_dig c2 && own_dig c3)) else (if c2 = 46 then ((!decide (c0 = 48) && (own_dig c0 && own_dig c1)) && !decide (pl < 1) && (own_dig c3)) else (if c3 = 46 then false else (!decide (c0 = 48) && (own_dig c0 && own_dig c1 && own_dig c2 && own_dig c3))))))))]))
            refine own_step (b := T80.setTop (mkF m 135 #[.val (.int p0), .val (.int p1), .val (.int p2), .val (.int p3), .val (.ref a1), .val (.ref a10), .val (.int (4 : Int32)), .val (.int pl), .val (.int (1 : Int32))] [(.int (1 : Int32)), (.int (own_bi (if c0 = 46 then false else (if c1 = 46 then ((own_dig c0) && !decide (pl < 2) && (own_dig c2 && own_dig c3)) else (if c2 = 46 then ((!decide (c0 = 48) && (own_dig c0 && own_dig c1)) && !decide (pl < 1) && (own_dig c3)) else (if c3 = 46 then false else (!decide (c0 = 48) && (own_dig c0 && own_dig c1 && own_dig c2 && own_dig c3))))))))])) (fun t k => XS.iload X80.here hx rfl (hb hby at_133) rfl k) ?_
            have hm81 : (if c0 = 46 then false else (if c1 = 46 then ((own_dig c0) && !decide (pl < 2) && (own_dig c2 && own_dig c3)) else (if c2 = 46 then ((!decide (c0 = 48) && (own_dig c0 && own_dig c1)) && !decide (pl < 1) && (own_dig c3)) else (if c3 = 46 then false else (!decide (c0 = 48) && (own_dig c0 && own_dig c1 && own_dig c2 && own_dig c3)))))) = true := by rw [own_eq_4 c0 c1 c2 c3 pl]; simp [c88_69b, c101_73b, c114_77b]
            refine own_icmp_ne X80 hx (hb hby at_135) (pc' := 142) (by decide) (by decide) (fun c135_81 => absurd (by rw [hm81]; rfl) c135_81) (fun c135_81 => ?_)
            show own_G p e below _ (T80.setTop (mkF m 138 #[.val (.int p0), .val (.int p1), .val (.int p2), .val (.int p3), .val (.ref a1), .val (.ref a10), .val (.int (4 : Int32)), .val (.int pl), .val (.int (1 : Int32))] []))
            refine own_step (b := T80.setTop (mkF m 139 #[.val (.int p0), .val (.int p1), .val (.int p2), .val (.int p3), .val (.ref a1), .val (.ref a10), .val (.int (4 : Int32)), .val (.int pl), .val (.int (1 : Int32))] [(.int (1 : Int32))])) (fun t k => XS.iconst X80.here hx rfl (hb hby at_138) k) ?_
            refine own_step (b := T80.setTop (mkF m 143 #[.val (.int p0), .val (.int p1), .val (.int p2), .val (.int p3), .val (.ref a1), .val (.ref a10), .val (.int (4 : Int32)), .val (.int pl), .val (.int (1 : Int32))] [(.int (1 : Int32))])) (fun t k => XS.goto X80.here hx rfl (pc0 := 139) (pc' := 143) rfl (hb hby at_139) (by decide) (by decide) k) ?_
            exact own_retN X80 hx hret (by simp) hlk (hb hby at_143) ⟨rfl, N11⟩ (by decide) (by decide)
  show own_G p e below _ (T11.setTop (mkF m 62 #[.val (.int p0), .val (.int p1), .val (.int p2), .val (.int p3), .val (.ref a1), .val (.ref a10), .val (.int ((p2 &&& (2147483647 : Int32)) % (5 : Int32))), .unset, .unset] []))
  refine own_step (b := T11.setTop (mkF m 63 #[.val (.int p0), .val (.int p1), .val (.int p2), .val (.int p3), .val (.ref a1), .val (.ref a10), .val (.int ((p2 &&& (2147483647 : Int32)) % (5 : Int32))), .unset, .unset] [(.int p3)])) (fun t k => XS.iloadN X11.here hx rfl (hb hby at_62) rfl k) ?_
  refine own_step (b := T11.setTop (mkF m 64 #[.val (.int p0), .val (.int p1), .val (.int p2), .val (.int p3), .val (.ref a1), .val (.ref a10), .val (.int ((p2 &&& (2147483647 : Int32)) % (5 : Int32))), .unset, .unset] [(.int (1 : Int32)), (.int p3)])) (fun t k => XS.iconst X11.here hx rfl (hb hby at_63) k) ?_
  refine own_step (b := T11.setTop (mkF m 65 #[.val (.int p0), .val (.int p1), .val (.int p2), .val (.int p3), .val (.ref a1), .val (.ref a10), .val (.int ((p2 &&& (2147483647 : Int32)) % (5 : Int32))), .unset, .unset] [(.int (p3 &&& (1 : Int32)))])) (fun t k => XS.iand X11.here hx rfl (hb hby at_64) rfl k) ?_
  refine own_if_ne X11 hx (hb hby at_65) (pc' := 76) (by decide) (by decide) (fun c65 => ?_) (fun c65 => ?_)
  · show own_G p e below _ (T11.setTop (mkF m 76 #[.val (.int p0), .val (.int p1), .val (.int p2), .val (.int p3), .val (.ref a1), .val (.ref a10), .val (.int ((p2 &&& (2147483647 : Int32)) % (5 : Int32))), .unset, .unset] []))
    refine own_step (b := T11.setTop (mkF m 77 #[.val (.int p0), .val (.int p1), .val (.int p2), .val (.int p3), .val (.ref a1), .val (.ref a10), .val (.int ((p2 &&& (2147483647 : Int32)) % (5 : Int32))), .unset, .unset] [(.int p3)])) (fun t k => XS.iloadN X11.here hx rfl (hb hby at_76) rfl k) ?_
    refine own_step (b := T11.setTop (mkF m 78 #[.val (.int p0), .val (.int p1), .val (.int p2), .val (.int p3), .val (.ref a1), .val (.ref a10), .val (.int ((p2 &&& (2147483647 : Int32)) % (5 : Int32))), .unset, .unset] [(.int (1 : Int32)), (.int p3)])) (fun t k => XS.iconst X11.here hx rfl (hb hby at_77) k) ?_
    refine own_step (b := T11.setTop (mkF m 79 #[.val (.int p0), .val (.int p1), .val (.int p2), .val (.int p3), .val (.ref a1), .val (.ref a10), .val (.int ((p2 &&& (2147483647 : Int32)) % (5 : Int32))), .unset, .unset] [(.int (XT.ushr p3 (1 : Int32)))])) (fun t k => XT.iushr X11.here hx rfl (hb hby at_78) rfl k) ?_
    exact J79 _ (own_mod5 p2) _
  · show own_G p e below _ (T11.setTop (mkF m 68 #[.val (.int p0), .val (.int p1), .val (.int p2), .val (.int p3), .val (.ref a1), .val (.ref a10), .val (.int ((p2 &&& (2147483647 : Int32)) % (5 : Int32))), .unset, .unset] []))
    refine own_step (b := T11.setTop (mkF m 69 #[.val (.int p0), .val (.int p1), .val (.int p2), .val (.int p3), .val (.ref a1), .val (.ref a10), .val (.int ((p2 &&& (2147483647 : Int32)) % (5 : Int32))), .unset, .unset] [(.int p3)])) (fun t k => XS.iloadN X11.here hx rfl (hb hby at_68) rfl k) ?_
    refine own_step (b := T11.setTop (mkF m 70 #[.val (.int p0), .val (.int p1), .val (.int p2), .val (.int p3), .val (.ref a1), .val (.ref a10), .val (.int ((p2 &&& (2147483647 : Int32)) % (5 : Int32))), .unset, .unset] [(.int (1 : Int32)), (.int p3)])) (fun t k => XS.iconst X11.here hx rfl (hb hby at_69) k) ?_
    refine own_step (b := T11.setTop (mkF m 71 #[.val (.int p0), .val (.int p1), .val (.int p2), .val (.int p3), .val (.ref a1), .val (.ref a10), .val (.int ((p2 &&& (2147483647 : Int32)) % (5 : Int32))), .unset, .unset] [(.int (XT.ushr p3 (1 : Int32)))])) (fun t k => XT.iushr X11.here hx rfl (hb hby at_70) rfl k) ?_
    refine own_step (b := T11.setTop (mkF m 72 #[.val (.int p0), .val (.int p1), .val (.int p2), .val (.int p3), .val (.ref a1), .val (.ref a10), .val (.int ((p2 &&& (2147483647 : Int32)) % (5 : Int32))), .unset, .unset] [(.int (3 : Int32)), (.int (XT.ushr p3 (1 : Int32)))])) (fun t k => XS.iconst X11.here hx rfl (hb hby at_71) k) ?_
    refine own_step (b := T11.setTop (mkF m 73 #[.val (.int p0), .val (.int p1), .val (.int p2), .val (.int p3), .val (.ref a1), .val (.ref a10), .val (.int ((p2 &&& (2147483647 : Int32)) % (5 : Int32))), .unset, .unset] [(.int ((XT.ushr p3 (1 : Int32)) &&& (3 : Int32)))])) (fun t k => XS.iand X11.here hx rfl (hb hby at_72) rfl k) ?_
    refine own_step (b := T11.setTop (mkF m 79 #[.val (.int p0), .val (.int p1), .val (.int p2), .val (.int p3), .val (.ref a1), .val (.ref a10), .val (.int ((p2 &&& (2147483647 : Int32)) % (5 : Int32))), .unset, .unset] [(.int ((XT.ushr p3 (1 : Int32)) &&& (3 : Int32)))])) (fun t k => XS.goto X11.here hx rfl (pc0 := 73) (pc' := 79) rfl (hb hby at_73) (by decide) (by decide) k) ?_
    exact J79 _ (own_mod5 p2) _
theorem comes_1 {Post : Tables → Env → Array Value → State → Outcome → State → Prop} (hpost : ∀ tb e args s v u, (limb_1_1.after args s (.returned v) u = true ∧ limb_1_2.after args s (.returned v) u = true ∧ True) → FrameEnd s (.returned v) u (Jvm.fieldLocs frame_1_writes args s ++ Jvm.arrayLocs frame_1_arrays args s ++ Jvm.staticLocs frame_1_statics s) 16 128 → Post tb e args s (.returned v) u) :
    ArmFor flags0 classFile x code maxLocals ret World_1 tables_1 room_1 Calls_1 rest_1 Pre_1 Post := by
  intro l hfl _ _ p e ha hc hk s m args below hf hA hF happ hP
  obtain ⟨hcalls, hrest, hpre⟩ := hP
  obtain ⟨-, -, -, hnamed, -, -, -, hat⟩ := (Spec.applies_iff hf).mp happ
  obtain ⟨hg, hn⟩ := and_e (Cond.before_iff.mp (show (Jvm.Cond.and given_1 narrow_1).before args s = true from hpre))
  obtain ⟨hcnt, q0⟩ := and_e hg
  obtain ⟨i0, q1⟩ := and_e q0
  obtain ⟨i1, q2⟩ := and_e q1
  obtain ⟨i2, q3⟩ := and_e q2
  have i3 := q3
  obtain ⟨w0, w1, w2, w3, rfl⟩ : ∃ w0 w1 w2 w3 : Value, args = #[w0, w1, w2, w3] := by
    have hs : args.size = 4 := by simpa [Cond.value, given_1] using hcnt
    obtain ⟨L⟩ := args
    match L, hs with
    | [w0, w1, w2, w3], _ => exact ⟨w0, w1, w2, w3, rfl⟩
  have hw := fun d (hd : d ∈ tables_1) => atoms_spec (ws := Jvm.Cond.code x code maxLocals ret :: tables_1) hat d (List.mem_cons_of_mem _ hd)
  obtain ⟨hsets, hown0⟩ := atoms_of _ (rest_1_c_eq ▸ (show rest_1_c.before _ s = true from hrest))
  have hfit : Fit s := fun {y c} hc i hi => by
    obtain ⟨ha, rfl⟩ := Array.getElem?_eq_some_iff.mp hc
    have q := List.all_eq_true.mp ((Array.all_eq_true_iff_forall_mem.mp hF) _ (Array.getElem_mem ha)) i (List.mem_range.mpr hi)
    simpa [Array.getElem?_eq_getElem hi] using q
  obtain ⟨j0, e0⟩ := is_v i0
  obtain rfl : w0 = (.int j0) := Option.some.inj e0
  obtain ⟨j1, e1⟩ := is_v i1
  obtain rfl : w1 = (.int j1) := Option.some.inj e1
  obtain ⟨j2, e2⟩ := is_v i2
  obtain rfl : w2 = (.int j2) := Option.some.inj e2
  obtain ⟨j3, e3⟩ := is_v i3
  obtain rfl : w3 = (.int j3) := Option.some.inj e3
  have n5 := not_v (Cond.before_iff.mp (hsets _ (List.mem_of_getElem? (i := 2) rfl)))
  obtain ⟨G1, eG1⟩ := is_v (Cond.before_iff.mp (hsets _ (List.mem_of_getElem? (i := 1) rfl)))
  have O2 : Sta s s.heap "java/lang/String" "COMPACT_STRINGS" "Z" (.int G1) := Sta.start eG1 (Or.inl (hsets _ (List.mem_of_getElem? (i := 0) rfl)))
  have P5 : ¬ (G1 = (0 : Int32)) := gotF (Cond.eq_ints eG1 (Term.int_eval (0))) n5
  obtain ⟨G3, eG3, rG3⟩ := isR_v (Cond.before_iff.mp (hsets _ (List.mem_of_getElem? (i := 8) rfl)))
  have O4 : Sta s s.heap "jdk/internal/util/Preconditions" "SIOOBE_FORMATTER" "Ljava/util/function/BiFunction;" G3 := Sta.start eG3 (Or.inl (hsets _ (List.mem_of_getElem? (i := 7) rfl)))
  obtain ⟨n, o, h1, h2, h3, _, L, rfl, ⟨rfl, N⟩, hq⟩ := rm0 l s _ hw tables_1 j0 j1 j2 j3 s.heap G1 O2 P5 G3 O4 rG3 (Old.start s) p e ha hc hk s m _ below hf ((Spec.applies_iff_loose hf).mp happ).1 ⟨rfl, State.Warmed39.refl s, rfl⟩ trivial
  refine ⟨n, _, h1, h2, h3, hpost _ _ _ _ _ _ ⟨Cond.after_iff.mpr rfl, Cond.after_iff.mpr (eq_i res_at (Term.int_eval (1)) rfl), trivial⟩ ⟨hq.1, hq.2.1, (hq.2.2.sift fun y hy => Or.inr (N y hy)).mono (by decide) (by decide)⟩⟩
theorem main_1_1 : Claimed_1_1 := comes_1 fun _ _ _ _ _ _ h hF => ⟨h.1, hF⟩
theorem main_1_2 : Claimed_1_2 := comes_1 fun _ _ _ _ _ _ h hF => ⟨h.2.1, hF⟩
end Jvm.Pilot.@@N@@
namespace Jvm.Pilot.@@N@@
open Jvm Jvm.ClassFile Sem Op Lib Jvm.Free Jvm.Stand Jvm.Pilot.@@N@@.Jvm.D
/-! MADE BY PROGRAM (witnessworld.py) out of the Statement's table words and the real class files: 20 classes; the members and pool entries that the words name. The judged class is class 1, her method 1. -/
namespace start1
open Jvm.ClassFile
def u (s : String) : CpInfo := .utf8 (stringToUtf16 s)
/-- a pool by its gaps: so many unusable entries, then the entry; so many at the end -/
def gap : Nat → List CpInfo → List CpInfo
  | 0, r => r
  | n + 1, r => .unusable :: gap n r
def poolList (es : List (Nat × CpInfo)) (last : Nat) : List CpInfo := es.foldr (fun e r => gap e.1 (e.2 :: r)) (gap last [])
def pool (es : List (Nat × CpInfo)) (last : Nat) : Array CpInfo := ⟨poolList es last⟩
def fileOf (pool : Array CpInfo) (this : Nat) (attrs : Array Attribute := #[]) (ms : Array MethodInfo := #[]) (fl : Nat := 33) (sup : Nat := 0) (ifs : Array Nat := #[]) (fds : Array FieldInfo := #[]) : ClassFile where
  minorVersion := 0
  majorVersion := 65
  constantPool := pool
  accessFlags := fl
  thisClass := this
  superClass := sup
  interfaces := ifs
  fields := fds
  methods := ms
  attributes := attrs
def plain (name : String) (sup : Option ClassId) : Class where
  name := name
  kind := .ordinary
  loader := none
  accessFlags := 33
  super := sup
  interfaces := #[]
  cf := none
  fields := #[]
  methods := #[]
  instanceTypes := #[]
  staticTypes := #[]
  resolved := #[]
  callSites := []
  init := .initialized
  statics := none
  mirror := none

def pool0 : Array CpInfo := pool [(5, u "<init>"), (0, u "()V"), (1, .class_ 10), (1, u "java/lang/Object")] 113

def k0c0 : Code := { maxStack := 0, maxLocals := 1, code := object_method_1_code, exceptionTable := #[], attributes := #[] }
def k0m0 : Method := { name := "<init>", desc := "()V", sig := { parameters := [], returnType := none }, accessFlags := 1, code := some k0c0 }
/-- java/lang/Object -/
def k0 : Class := { plain "java/lang/Object" none with
  accessFlags := 33
  interfaces := #[]
  cf := some (fileOf pool0 8 #[] #[{ accessFlags := 1, nameIndex := 5, descriptorIndex := 6, attributes := #[] }] 33 0 #[] #[])
  fields := #[]
  methods := #[k0m0]
  instanceTypes := #[]
  staticTypes := #[]
  resolved := Array.replicate 124 none
  statics := none }

def pool1 : Array CpInfo := pool [(2, .class_ 4), (1, u "java/lang/Object"), (0, u "<init>"), (0, u "()V"), (0, .methodref 8 9), (0, .class_ 10), (0, .nameAndType 11 12), (0, u "com/example/drawdown/drawdown/PlainDecimalMatchesPinLaw"), (0, u "pick"), (0, u "(I)C"), (0, .class_ 14), (0, u "java/lang/String"), (0, .methodref 13 16), (0, .nameAndType 5 17), (0, u "([C)V"), (0, .integer 2147483647), (0, .methodref 8 20), (0, .nameAndType 21 22), (0, u "whole"), (0, u "([CI)Z"), (0, .methodref 8 24), (0, .nameAndType 25 26), (0, u "frac"), (0, u "([CIII)Z"), (0, .methodref 28 29), (0, .class_ 30), (0, .nameAndType 31 32), (0, u "com/example/drawdown/drawdown/PlainDecimal"), (0, u "matches"), (0, u "(Ljava/lang/String;II)Z"), (0, .methodref 8 34), (0, .nameAndType 35 36), (0, u "digit"), (0, u "(C)Z"), (0, .methodref 8 38), (0, .nameAndType 39 40), (0, u "digits"), (0, u "([CII)Z"), (2, u "law"), (0, u "(IIII)Z")] 5

def k1m0 : Method := { name := "<init>", desc := "()V", sig := { parameters := [], returnType := none }, accessFlags := 1, code := none }
def k1c1 : Code := { maxStack := 4, maxLocals := 9, code := code, exceptionTable := #[], attributes := #[] }
def k1m1 : Method := { name := "law", desc := "(IIII)Z", sig := { parameters := [.int, .int, .int, .int], returnType := some .boolean }, accessFlags := 9, code := some k1c1 }
def k1c2 : Code := { maxStack := 3, maxLocals := 3, code := method_3_code, exceptionTable := #[], attributes := #[] }
def k1m2 : Method := { name := "pick", desc := "(I)C", sig := { parameters := [.int], returnType := some .char }, accessFlags := 10, code := some k1c2 }
def k1c3 : Code := { maxStack := 2, maxLocals := 1, code := method_4_code, exceptionTable := #[], attributes := #[] }
def k1m3 : Method := { name := "digit", desc := "(C)Z", sig := { parameters := [.char], returnType := some .boolean }, accessFlags := 10, code := some k1c3 }
def k1c4 : Code := { maxStack := 2, maxLocals := 3, code := method_5_code, exceptionTable := #[], attributes := #[] }
def k1m4 : Method := { name := "digits", desc := "([CII)Z", sig := { parameters := [(.array .char), .int, .int], returnType := some .boolean }, accessFlags := 10, code := some k1c4 }
def k1c5 : Code := { maxStack := 3, maxLocals := 2, code := method_6_code, exceptionTable := #[], attributes := #[] }
def k1m5 : Method := { name := "whole", desc := "([CI)Z", sig := { parameters := [(.array .char), .int], returnType := some .boolean }, accessFlags := 10, code := some k1c5 }
def k1c6 : Code := { maxStack := 3, maxLocals := 4, code := method_7_code, exceptionTable := #[], attributes := #[] }
def k1m6 : Method := { name := "frac", desc := "([CIII)Z", sig := { parameters := [(.array .char), .int, .int, .int], returnType := some .boolean }, accessFlags := 10, code := some k1c6 }
/-- com/example/drawdown/drawdown/PlainDecimalMatchesPinLaw -/
def k1 : Class := { plain "com/example/drawdown/drawdown/PlainDecimalMatchesPinLaw" (some 0) with
  accessFlags := 49
  interfaces := #[]
  cf := some (fileOf pool1 8 #[] #[{ accessFlags := 1, nameIndex := 5, descriptorIndex := 6, attributes := #[] }, { accessFlags := 9, nameIndex := 43, descriptorIndex := 44, attributes := #[] }, { accessFlags := 10, nameIndex := 11, descriptorIndex := 12, attributes := #[] }, { accessFlags := 10, nameIndex := 35, descriptorIndex := 36, attributes := #[] }, { accessFlags := 10, nameIndex := 39, descriptorIndex := 40, attributes := #[] }, { accessFlags := 10, nameIndex := 21, descriptorIndex := 22, attributes := #[] }, { accessFlags := 10, nameIndex := 25, descriptorIndex := 26, attributes := #[] }] 49 2 #[] #[])
  fields := #[]
  methods := #[k1m0, k1m1, k1m2, k1m3, k1m4, k1m5, k1m6]
  instanceTypes := #[]
  staticTypes := #[]
  resolved := Array.replicate 50 none
  statics := none }

def pool2 : Array CpInfo := pool [(1, .class_ 2), (0, u "java/io/Serializable"), (0, .class_ 4), (0, u "java/lang/Object")] 2

/-- java/io/Serializable -/
def k2 : Class := { plain "java/io/Serializable" (some 0) with
  accessFlags := 1537
  interfaces := #[]
  cf := some (fileOf pool2 1 #[] #[] 1537 3 #[] #[])
  fields := #[]
  methods := #[]
  instanceTypes := #[]
  staticTypes := #[]
  resolved := Array.replicate 7 none
  statics := none }

def pool3 : Array CpInfo := pool [(1, .class_ 2), (0, u "java/lang/Comparable"), (0, .class_ 4), (0, u "java/lang/Object")] 7

/-- java/lang/Comparable -/
def k3 : Class := { plain "java/lang/Comparable" (some 0) with
  accessFlags := 1537
  interfaces := #[]
  cf := some (fileOf pool3 1 #[] #[] 1537 3 #[] #[])
  fields := #[]
  methods := #[]
  instanceTypes := #[]
  staticTypes := #[]
  resolved := Array.replicate 12 none
  statics := none }

def pool4 : Array CpInfo := pool [(2, .class_ 4), (1, u "java/lang/CharSequence"), (42, .class_ 48), (0, u "java/lang/CharSequence$1CodePointIterator"), (10, .class_ 60), (0, u "java/lang/CharSequence$1CharIterator"), (5, .class_ 67), (0, u "java/lang/Object")] 63

/-- java/lang/CharSequence -/
def k4 : Class := { plain "java/lang/CharSequence" (some 0) with
  accessFlags := 1537
  interfaces := #[]
  cf := some (fileOf pool4 2 #[.nestMembers #[47, 59]] #[] 1537 66 #[] #[])
  fields := #[]
  methods := #[]
  instanceTypes := #[]
  staticTypes := #[]
  resolved := Array.replicate 131 none
  statics := none }

def pool5 : Array CpInfo := pool [(1, .class_ 2), (0, u "java/lang/constant/Constable"), (0, .class_ 4), (0, u "java/lang/Object")] 6

/-- java/lang/constant/Constable -/
def k5 : Class := { plain "java/lang/constant/Constable" (some 0) with
  accessFlags := 1537
  interfaces := #[]
  cf := some (fileOf pool5 1 #[] #[] 1537 3 #[] #[])
  fields := #[]
  methods := #[]
  instanceTypes := #[]
  staticTypes := #[]
  resolved := Array.replicate 11 none
  statics := none }

def pool6 : Array CpInfo := pool [(1, .class_ 2), (0, u "java/lang/constant/ConstantDesc"), (0, .class_ 4), (0, u "java/lang/Object")] 32

/-- java/lang/constant/ConstantDesc -/
def k6 : Class := { plain "java/lang/constant/ConstantDesc" (some 0) with
  accessFlags := 1537
  interfaces := #[]
  cf := some (fileOf pool6 1 #[] #[] 1537 3 #[] #[])
  fields := #[]
  methods := #[]
  instanceTypes := #[]
  staticTypes := #[]
  resolved := Array.replicate 37 none
  statics := none }

def pool7 : Array CpInfo := pool [(1, .methodref 2 3), (0, .class_ 4), (0, .nameAndType 5 6), (0, u "java/lang/Object"), (0, u "<init>"), (0, u "()V"), (2, .fieldref 10 11), (0, .class_ 12), (0, .nameAndType 13 14), (0, u "java/lang/String"), (0, u "value"), (0, u "[B"), (0, .fieldref 10 16), (0, .nameAndType 17 18), (0, u "coder"), (0, u "B"), (2, u "hash"), (0, u "I"), (2, u "hashIsZero"), (0, u "Z"), (0, .methodref 10 28), (0, .nameAndType 5 29), (0, u "([CIILjava/lang/Void;)V"), (8, .fieldref 10 39), (0, .nameAndType 40 26), (0, u "COMPACT_STRINGS"), (1, .class_ 44), (1, u "java/lang/StringUTF16"), (0, u "compress"), (1, .methodref 42 48), (0, .nameAndType 49 50), (0, u "coderFromArrayLen"), (0, u "([BI)B"), (56, .class_ 109), (1, u "java/lang/StringLatin1"), (32, u "()Z"), (34, .methodref 42 178), (0, .nameAndType 45 179), (0, u "([CII)[B"), (183, u "([BI)C"), (27, u "(II)V"), (35, u "(I)C"), (64, .methodref 10 493), (0, .nameAndType 494 142), (0, u "isLatin1"), (0, .methodref 107 496), (0, .nameAndType 497 363), (0, u "charAt"), (3, u "checkIndex"), (73, .class_ 576), (0, u "java/lang/CharSequence"), (22, u "CASE_INSENSITIVE_ORDER"), (0, u "Ljava/util/Comparator;"), (409, u "([C)V"), (42, .fieldref 1054 1055), (0, .class_ 1056), (0, .nameAndType 1057 1058), (0, u "jdk/internal/util/Preconditions"), (0, u "SIOOBE_FORMATTER"), (0, u "Ljava/util/function/BiFunction;"), (0, .methodref 1054 1060), (0, .nameAndType 501 1061), (0, u "(IILjava/util/function/BiFunction;)I"), (39, u "serialPersistentFields"), (0, u "[Ljava/io/ObjectStreamField;"), (0, .class_ 1104), (0, u "java/lang/String$CaseInsensitiveComparator"), (1, .class_ 1107), (0, u "java/io/Serializable"), (0, .class_ 1109), (0, u "java/lang/Comparable"), (0, .class_ 1111), (0, u "java/lang/constant/Constable"), (0, .class_ 1113), (0, u "java/lang/constant/ConstantDesc"), (2, u "serialVersionUID"), (0, u "J"), (3, u "REPL"), (0, u "C"), (2, u "LATIN1"), (1, u "UTF16")] 323

def k7m0 : Method := { name := "<init>", desc := "()V", sig := { parameters := [], returnType := none }, accessFlags := 1, code := none }
def k7c1 : Code := { maxStack := 5, maxLocals := 2, code := jdk_42_method_3_code, exceptionTable := #[], attributes := #[] }
def k7m1 : Method := { name := "<init>", desc := "([C)V", sig := { parameters := [(.array .char)], returnType := none }, accessFlags := 1, code := some k7c1 }
def k7c2 : Code := { maxStack := 2, maxLocals := 2, code := jdk_42_method_56_code, exceptionTable := #[], attributes := #[] }
def k7m2 : Method := { name := "charAt", desc := "(I)C", sig := { parameters := [.int], returnType := some .char }, accessFlags := 1, code := some k7c2 }
def k7c3 : Code := { maxStack := 4, maxLocals := 6, code := jdk_42_method_149_code, exceptionTable := #[], attributes := #[] }
def k7m3 : Method := { name := "<init>", desc := "([CIILjava/lang/Void;)V", sig := { parameters := [(.array .char), .int, .int, (.object "java/lang/Void")], returnType := none }, accessFlags := 2, code := some k7c3 }
def k7c4 : Code := { maxStack := 1, maxLocals := 1, code := jdk_42_method_154_code, exceptionTable := #[], attributes := #[] }
def k7m4 : Method := { name := "isLatin1", desc := "()Z", sig := { parameters := [], returnType := some .boolean }, accessFlags := 0, code := some k7c4 }
def k7c5 : Code := { maxStack := 3, maxLocals := 2, code := jdk_42_method_155_code, exceptionTable := #[], attributes := #[] }
def k7m5 : Method := { name := "checkIndex", desc := "(II)V", sig := { parameters := [.int, .int], returnType := none }, accessFlags := 8, code := some k7c5 }
/-- java/lang/String -/
def k7 : Class := { plain "java/lang/String" (some 0) with
  accessFlags := 49
  interfaces := #[2, 3, 4, 5, 6]
  cf := some (fileOf pool7 10 #[.nestMembers #[1103]] #[{ accessFlags := 1, nameIndex := 5, descriptorIndex := 6, attributes := #[] }, { accessFlags := 1, nameIndex := 5, descriptorIndex := 1010, attributes := #[] }, { accessFlags := 1, nameIndex := 497, descriptorIndex := 427, attributes := #[] }, { accessFlags := 2, nameIndex := 5, descriptorIndex := 29, attributes := #[] }, { accessFlags := 0, nameIndex := 494, descriptorIndex := 142, attributes := #[] }, { accessFlags := 8, nameIndex := 501, descriptorIndex := 391, attributes := #[] }] 49 2 #[1106, 1108, 575, 1110, 1112] #[{ accessFlags := 18, nameIndex := 13, descriptorIndex := 14, attributes := #[] }, { accessFlags := 18, nameIndex := 17, descriptorIndex := 18, attributes := #[] }, { accessFlags := 2, nameIndex := 21, descriptorIndex := 22, attributes := #[] }, { accessFlags := 2, nameIndex := 25, descriptorIndex := 26, attributes := #[] }, { accessFlags := 26, nameIndex := 1116, descriptorIndex := 1117, attributes := #[] }, { accessFlags := 24, nameIndex := 40, descriptorIndex := 26, attributes := #[] }, { accessFlags := 26, nameIndex := 1101, descriptorIndex := 1102, attributes := #[] }, { accessFlags := 26, nameIndex := 1121, descriptorIndex := 1122, attributes := #[] }, { accessFlags := 25, nameIndex := 599, descriptorIndex := 600, attributes := #[] }, { accessFlags := 24, nameIndex := 1125, descriptorIndex := 18, attributes := #[] }, { accessFlags := 24, nameIndex := 1127, descriptorIndex := 18, attributes := #[] }])
  fields := #[{ name := "value", type := (.array .byte), accessFlags := 18, slot := 0, constantValue := 0 }, { name := "coder", type := .byte, accessFlags := 18, slot := 1, constantValue := 0 }, { name := "hash", type := .int, accessFlags := 2, slot := 2, constantValue := 0 }, { name := "hashIsZero", type := .boolean, accessFlags := 2, slot := 3, constantValue := 0 }, { name := "serialVersionUID", type := .long, accessFlags := 26, slot := 0, constantValue := 0 }, { name := "COMPACT_STRINGS", type := .boolean, accessFlags := 24, slot := 1, constantValue := 0 }, { name := "serialPersistentFields", type := (.array (.object "java/io/ObjectStreamField")), accessFlags := 26, slot := 2, constantValue := 0 }, { name := "REPL", type := .char, accessFlags := 26, slot := 3, constantValue := 0 }, { name := "CASE_INSENSITIVE_ORDER", type := (.object "java/util/Comparator"), accessFlags := 25, slot := 4, constantValue := 0 }, { name := "LATIN1", type := .byte, accessFlags := 24, slot := 5, constantValue := 0 }, { name := "UTF16", type := .byte, accessFlags := 24, slot := 6, constantValue := 0 }]
  methods := #[k7m0, k7m1, k7m2, k7m3, k7m4, k7m5]
  instanceTypes := #[(.array .byte), .byte, .int, .boolean]
  staticTypes := #[.long, .boolean, (.array (.object "java/io/ObjectStreamField")), .char, (.object "java/util/Comparator"), .byte, .byte]
  resolved := Array.replicate 1451 none
  statics := some 0 }

def pool8 : Array CpInfo := pool [(6, .class_ 8), (1, u "java/lang/Object"), (0, u "<init>"), (0, u "()V"), (1, .class_ 14), (1, u "java/lang/StringUTF16"), (31, u "$assertionsDisabled"), (0, u "Z"), (13, u "HI_BYTE_SHIFT"), (0, u "I"), (2, u "LO_BYTE_SHIFT"), (49, .methodref 12 116), (0, .nameAndType 117 118), (0, u "compress"), (0, u "([CI[BII)I"), (3, u "([CII)[B"), (138, u "coderFromArrayLen"), (0, u "([BI)B"), (106, .class_ 371), (1, u "java/lang/StringUTF16$LinesSpliterator"), (58, u "MAX_LENGTH"), (196, .class_ 628), (0, u "java/lang/StringUTF16$CodePointsSpliterator"), (0, .class_ 630), (0, u "java/lang/StringUTF16$CharsSpliterator")] 4

def k8m0 : Method := { name := "<init>", desc := "()V", sig := { parameters := [], returnType := none }, accessFlags := 0, code := none }
def k8c1 : Code := { maxStack := 2, maxLocals := 2, code := jdk_52_method_15_code, exceptionTable := #[], attributes := #[] }
def k8m1 : Method := { name := "coderFromArrayLen", desc := "([BI)B", sig := { parameters := [(.array .byte), .int], returnType := some .byte }, accessFlags := 8, code := some k8c1 }
def k8c2 : Code := { maxStack := 5, maxLocals := 6, code := jdk_52_method_16_code, exceptionTable := #[], attributes := #[] }
def k8m2 : Method := { name := "compress", desc := "([CII)[B", sig := { parameters := [(.array .char), .int, .int], returnType := some (.array .byte) }, accessFlags := 9, code := some k8c2 }
def k8c3 : Code := { maxStack := 3, maxLocals := 7, code := jdk_52_method_21_code, exceptionTable := #[], attributes := #[] }
def k8m3 : Method := { name := "compress", desc := "([CI[BII)I", sig := { parameters := [(.array .char), .int, (.array .byte), .int, .int], returnType := some .int }, accessFlags := 9, code := some k8c3 }
/-- java/lang/StringUTF16 -/
def k8 : Class := { plain "java/lang/StringUTF16" (some 0) with
  accessFlags := 48
  interfaces := #[]
  cf := some (fileOf pool8 12 #[.nestMembers #[627, 629, 369]] #[{ accessFlags := 0, nameIndex := 9, descriptorIndex := 10, attributes := #[] }, { accessFlags := 8, nameIndex := 261, descriptorIndex := 262, attributes := #[] }, { accessFlags := 9, nameIndex := 117, descriptorIndex := 122, attributes := #[] }, { accessFlags := 9, nameIndex := 117, descriptorIndex := 118, attributes := #[] }] 48 6 #[] #[{ accessFlags := 26, nameIndex := 61, descriptorIndex := 62, attributes := #[] }, { accessFlags := 26, nameIndex := 65, descriptorIndex := 62, attributes := #[] }, { accessFlags := 24, nameIndex := 430, descriptorIndex := 62, attributes := #[] }, { accessFlags := 4120, nameIndex := 46, descriptorIndex := 47, attributes := #[] }])
  fields := #[{ name := "HI_BYTE_SHIFT", type := .int, accessFlags := 26, slot := 0, constantValue := 0 }, { name := "LO_BYTE_SHIFT", type := .int, accessFlags := 26, slot := 1, constantValue := 0 }, { name := "MAX_LENGTH", type := .int, accessFlags := 24, slot := 2, constantValue := 0 }, { name := "$assertionsDisabled", type := .boolean, accessFlags := 4120, slot := 3, constantValue := 0 }]
  methods := #[k8m0, k8m1, k8m2, k8m3]
  instanceTypes := #[]
  staticTypes := #[.int, .int, .int, .boolean]
  resolved := Array.replicate 635 none
  statics := none }

def pool9 : Array CpInfo := pool [(4, .class_ 6), (1, u "java/lang/Object"), (0, u "<init>"), (0, u "()V"), (0, .methodref 10 11), (0, .class_ 12), (0, .nameAndType 13 14), (0, u "java/lang/String"), (0, u "charAt"), (0, u "(I)C"), (0, .methodref 16 17), (0, .class_ 18), (0, .nameAndType 19 20), (0, u "com/example/drawdown/drawdown/PlainDecimal"), (0, u "isDigits"), (0, u "(Ljava/lang/String;II)Z"), (15, u "ANY_PLACES"), (0, u "I"), (2, u "LONG_DIGITS"), (3, u "matches")] 5

def k9m0 : Method := { name := "<init>", desc := "()V", sig := { parameters := [], returnType := none }, accessFlags := 2, code := none }
def k9c1 : Code := { maxStack := 3, maxLocals := 7, code := prog_8_method_2_code, exceptionTable := #[], attributes := #[] }
def k9m1 : Method := { name := "matches", desc := "(Ljava/lang/String;II)Z", sig := { parameters := [(.object "java/lang/String"), .int, .int], returnType := some .boolean }, accessFlags := 8, code := some k9c1 }
def k9c2 : Code := { maxStack := 2, maxLocals := 5, code := prog_8_method_4_code, exceptionTable := #[], attributes := #[] }
def k9m2 : Method := { name := "isDigits", desc := "(Ljava/lang/String;II)Z", sig := { parameters := [(.object "java/lang/String"), .int, .int], returnType := some .boolean }, accessFlags := 10, code := some k9c2 }
/-- com/example/drawdown/drawdown/PlainDecimal -/
def k9 : Class := { plain "com/example/drawdown/drawdown/PlainDecimal" (some 0) with
  accessFlags := 48
  interfaces := #[]
  cf := some (fileOf pool9 16 #[] #[{ accessFlags := 2, nameIndex := 7, descriptorIndex := 8, attributes := #[] }, { accessFlags := 8, nameIndex := 44, descriptorIndex := 20, attributes := #[] }, { accessFlags := 10, nameIndex := 19, descriptorIndex := 20, attributes := #[] }] 48 4 #[] #[{ accessFlags := 24, nameIndex := 36, descriptorIndex := 37, attributes := #[] }, { accessFlags := 26, nameIndex := 40, descriptorIndex := 37, attributes := #[] }])
  fields := #[{ name := "ANY_PLACES", type := .int, accessFlags := 24, slot := 0, constantValue := 0 }, { name := "LONG_DIGITS", type := .int, accessFlags := 26, slot := 1, constantValue := 0 }]
  methods := #[k9m0, k9m1, k9m2]
  instanceTypes := #[]
  staticTypes := #[.int, .int]
  resolved := Array.replicate 50 none
  statics := none }

def pool10 : Array CpInfo := pool [(1, .class_ 2), (0, u "java/lang/String"), (1, .class_ 6), (1, u "java/lang/Object"), (0, u "<init>"), (0, u "()V"), (0, .methodref 1 10), (0, .nameAndType 11 12), (0, u "checkIndex"), (0, u "(II)V"), (1, .class_ 16), (1, u "java/lang/StringLatin1"), (36, u "([BI)C"), (67, u "$assertionsDisabled"), (0, u "Z"), (98, .class_ 223), (1, u "java/lang/StringLatin1$LinesSpliterator"), (28, u "charAt"), (137, .class_ 391), (0, u "java/lang/StringLatin1$CharsSpliterator")] 3

def k10m0 : Method := { name := "<init>", desc := "()V", sig := { parameters := [], returnType := none }, accessFlags := 0, code := none }
def k10c1 : Code := { maxStack := 2, maxLocals := 2, code := jdk_43_method_2_code, exceptionTable := #[], attributes := #[] }
def k10m1 : Method := { name := "charAt", desc := "([BI)C", sig := { parameters := [(.array .byte), .int], returnType := some .char }, accessFlags := 9, code := some k10c1 }
/-- java/lang/StringLatin1 -/
def k10 : Class := { plain "java/lang/StringLatin1" (some 0) with
  accessFlags := 48
  interfaces := #[]
  cf := some (fileOf pool10 14 #[.nestMembers #[390, 221]] #[{ accessFlags := 0, nameIndex := 7, descriptorIndex := 8, attributes := #[] }, { accessFlags := 9, nameIndex := 252, descriptorIndex := 53, attributes := #[] }] 48 4 #[] #[{ accessFlags := 4120, nameIndex := 121, descriptorIndex := 122, attributes := #[] }])
  fields := #[{ name := "$assertionsDisabled", type := .boolean, accessFlags := 4120, slot := 0, constantValue := 0 }]
  methods := #[k10m0, k10m1]
  instanceTypes := #[]
  staticTypes := #[.boolean]
  resolved := Array.replicate 395 none
  statics := none }

def pool11 : Array CpInfo := pool [(2, .class_ 4), (1, u "java/lang/Object"), (0, u "<init>"), (0, u "()V"), (17, .class_ 26), (1, u "jdk/internal/util/Preconditions"), (6, u "checkIndex"), (21, .class_ 56), (0, u "jdk/internal/util/Preconditions$4"), (57, .class_ 115), (0, u "jdk/internal/util/Preconditions$1"), (7, u "SIOOBE_FORMATTER"), (0, u "Ljava/util/function/BiFunction;"), (0, .class_ 126), (0, u "jdk/internal/util/Preconditions$2"), (3, u "AIOOBE_FORMATTER"), (0, .class_ 132), (0, u "jdk/internal/util/Preconditions$3"), (3, u "IOOBE_FORMATTER"), (41, u "(IILjava/util/function/BiFunction;)I")] 15

def k11m0 : Method := { name := "<init>", desc := "()V", sig := { parameters := [], returnType := none }, accessFlags := 1, code := none }
def k11c1 : Code := { maxStack := 3, maxLocals := 3, code := jdk_41_method_11_code, exceptionTable := #[], attributes := #[] }
def k11m1 : Method := { name := "checkIndex", desc := "(IILjava/util/function/BiFunction;)I", sig := { parameters := [.int, .int, (.object "java/util/function/BiFunction")], returnType := some .int }, accessFlags := 9, code := some k11c1 }
/-- jdk/internal/util/Preconditions -/
def k11 : Class := { plain "jdk/internal/util/Preconditions" (some 0) with
  accessFlags := 33
  interfaces := #[]
  cf := some (fileOf pool11 24 #[.nestMembers #[55, 131, 125, 114]] #[{ accessFlags := 1, nameIndex := 5, descriptorIndex := 6, attributes := #[] }, { accessFlags := 9, nameIndex := 33, descriptorIndex := 178, attributes := #[] }] 33 2 #[] #[{ accessFlags := 25, nameIndex := 123, descriptorIndex := 124, attributes := #[] }, { accessFlags := 25, nameIndex := 130, descriptorIndex := 124, attributes := #[] }, { accessFlags := 25, nameIndex := 136, descriptorIndex := 124, attributes := #[] }])
  fields := #[{ name := "SIOOBE_FORMATTER", type := (.object "java/util/function/BiFunction"), accessFlags := 25, slot := 0, constantValue := 0 }, { name := "AIOOBE_FORMATTER", type := (.object "java/util/function/BiFunction"), accessFlags := 25, slot := 1, constantValue := 0 }, { name := "IOOBE_FORMATTER", type := (.object "java/util/function/BiFunction"), accessFlags := 25, slot := 2, constantValue := 0 }]
  methods := #[k11m0, k11m1]
  instanceTypes := #[]
  staticTypes := #[(.object "java/util/function/BiFunction"), (.object "java/util/function/BiFunction"), (.object "java/util/function/BiFunction")]
  resolved := Array.replicate 194 none
  statics := some 1 }

def pool12 : Array CpInfo := pool [(9, u "<init>"), (6, .class_ 18), (1, u "java/lang/Object"), (0, u "()V"), (1, .class_ 23), (1, u "jdk/internal/util/ArraysSupport"), (0, u "LOG2_ARRAY_LONG_INDEX_SCALE"), (0, u "I"), (2, u "U"), (0, u "Ljdk/internal/misc/Unsafe;"), (8, u "BIG_ENDIAN"), (0, u "Z"), (8, u "LOG2_BYTE_BIT_SIZE"), (4, u "LOG2_ARRAY_INT_INDEX_SCALE"), (54, u "JLA"), (0, u "Ljdk/internal/access/JavaLangAccess;"), (11, u "LOG2_ARRAY_BOOLEAN_INDEX_SCALE"), (9, u "LOG2_ARRAY_BYTE_INDEX_SCALE"), (5, u "LOG2_ARRAY_CHAR_INDEX_SCALE"), (5, u "LOG2_ARRAY_SHORT_INDEX_SCALE"), (18, u "LOG2_ARRAY_FLOAT_INDEX_SCALE"), (24, u "LOG2_ARRAY_DOUBLE_INDEX_SCALE"), (89, u "T_BOOLEAN"), (2, u "T_CHAR"), (1, u "T_FLOAT"), (1, u "T_DOUBLE"), (1, u "T_BYTE"), (1, u "T_SHORT"), (1, u "T_INT"), (1, u "T_LONG"), (1, u "SOFT_MAX_ARRAY_LENGTH")] 83

def k12m0 : Method := { name := "<init>", desc := "()V", sig := { parameters := [], returnType := none }, accessFlags := 2, code := none }
/-- jdk/internal/util/ArraysSupport -/
def k12 : Class := { plain "jdk/internal/util/ArraysSupport" (some 0) with
  accessFlags := 33
  interfaces := #[]
  cf := some (fileOf pool12 21 #[] #[{ accessFlags := 2, nameIndex := 9, descriptorIndex := 19, attributes := #[] }] 33 16 #[] #[{ accessFlags := 24, nameIndex := 28, descriptorIndex := 29, attributes := #[] }, { accessFlags := 26, nameIndex := 38, descriptorIndex := 39, attributes := #[] }, { accessFlags := 25, nameIndex := 121, descriptorIndex := 25, attributes := #[] }, { accessFlags := 25, nameIndex := 131, descriptorIndex := 25, attributes := #[] }, { accessFlags := 25, nameIndex := 137, descriptorIndex := 25, attributes := #[] }, { accessFlags := 25, nameIndex := 143, descriptorIndex := 25, attributes := #[] }, { accessFlags := 25, nameIndex := 53, descriptorIndex := 25, attributes := #[] }, { accessFlags := 25, nameIndex := 24, descriptorIndex := 25, attributes := #[] }, { accessFlags := 25, nameIndex := 162, descriptorIndex := 25, attributes := #[] }, { accessFlags := 25, nameIndex := 187, descriptorIndex := 25, attributes := #[] }, { accessFlags := 26, nameIndex := 48, descriptorIndex := 25, attributes := #[] }, { accessFlags := 25, nameIndex := 277, descriptorIndex := 25, attributes := #[] }, { accessFlags := 25, nameIndex := 280, descriptorIndex := 25, attributes := #[] }, { accessFlags := 25, nameIndex := 282, descriptorIndex := 25, attributes := #[] }, { accessFlags := 25, nameIndex := 284, descriptorIndex := 25, attributes := #[] }, { accessFlags := 25, nameIndex := 286, descriptorIndex := 25, attributes := #[] }, { accessFlags := 25, nameIndex := 288, descriptorIndex := 25, attributes := #[] }, { accessFlags := 25, nameIndex := 290, descriptorIndex := 25, attributes := #[] }, { accessFlags := 25, nameIndex := 292, descriptorIndex := 25, attributes := #[] }, { accessFlags := 26, nameIndex := 108, descriptorIndex := 109, attributes := #[] }, { accessFlags := 25, nameIndex := 294, descriptorIndex := 25, attributes := #[] }])
  fields := #[{ name := "U", type := (.object "jdk/internal/misc/Unsafe"), accessFlags := 24, slot := 0, constantValue := 0 }, { name := "BIG_ENDIAN", type := .boolean, accessFlags := 26, slot := 1, constantValue := 0 }, { name := "LOG2_ARRAY_BOOLEAN_INDEX_SCALE", type := .int, accessFlags := 25, slot := 2, constantValue := 0 }, { name := "LOG2_ARRAY_BYTE_INDEX_SCALE", type := .int, accessFlags := 25, slot := 3, constantValue := 0 }, { name := "LOG2_ARRAY_CHAR_INDEX_SCALE", type := .int, accessFlags := 25, slot := 4, constantValue := 0 }, { name := "LOG2_ARRAY_SHORT_INDEX_SCALE", type := .int, accessFlags := 25, slot := 5, constantValue := 0 }, { name := "LOG2_ARRAY_INT_INDEX_SCALE", type := .int, accessFlags := 25, slot := 6, constantValue := 0 }, { name := "LOG2_ARRAY_LONG_INDEX_SCALE", type := .int, accessFlags := 25, slot := 7, constantValue := 0 }, { name := "LOG2_ARRAY_FLOAT_INDEX_SCALE", type := .int, accessFlags := 25, slot := 8, constantValue := 0 }, { name := "LOG2_ARRAY_DOUBLE_INDEX_SCALE", type := .int, accessFlags := 25, slot := 9, constantValue := 0 }, { name := "LOG2_BYTE_BIT_SIZE", type := .int, accessFlags := 26, slot := 10, constantValue := 0 }, { name := "T_BOOLEAN", type := .int, accessFlags := 25, slot := 11, constantValue := 0 }, { name := "T_CHAR", type := .int, accessFlags := 25, slot := 12, constantValue := 0 }, { name := "T_FLOAT", type := .int, accessFlags := 25, slot := 13, constantValue := 0 }, { name := "T_DOUBLE", type := .int, accessFlags := 25, slot := 14, constantValue := 0 }, { name := "T_BYTE", type := .int, accessFlags := 25, slot := 15, constantValue := 0 }, { name := "T_SHORT", type := .int, accessFlags := 25, slot := 16, constantValue := 0 }, { name := "T_INT", type := .int, accessFlags := 25, slot := 17, constantValue := 0 }, { name := "T_LONG", type := .int, accessFlags := 25, slot := 18, constantValue := 0 }, { name := "JLA", type := (.object "jdk/internal/access/JavaLangAccess"), accessFlags := 26, slot := 19, constantValue := 0 }, { name := "SOFT_MAX_ARRAY_LENGTH", type := .int, accessFlags := 25, slot := 20, constantValue := 0 }]
  methods := #[k12m0]
  instanceTypes := #[]
  staticTypes := #[(.object "jdk/internal/misc/Unsafe"), .boolean, .int, .int, .int, .int, .int, .int, .int, .int, .int, .int, .int, .int, .int, .int, .int, .int, .int, (.object "jdk/internal/access/JavaLangAccess"), .int]
  resolved := Array.replicate 378 none
  statics := none }

def pool13 : Array CpInfo := pool [(1, u "java/lang/Cloneable"), (0, .class_ 1), (0, u "java/lang/Object"), (0, .class_ 3)] 3

/-- java/lang/Cloneable -/
def k13 : Class := { plain "java/lang/Cloneable" (some 0) with
  accessFlags := 1537
  interfaces := #[]
  cf := some (fileOf pool13 2 #[] #[] 1537 4 #[] #[])
  fields := #[]
  methods := #[]
  instanceTypes := #[]
  staticTypes := #[]
  resolved := Array.replicate 8 none
  statics := none }

/-- the primitive byte -/
def k14 : Class := { plain "byte" none with kind := .primitive 'B', accessFlags := 0x411 }
/-- [B -/
def k15 : Class := { plain "[B" (some 0) with kind := .array 14 .byte, interfaces := #[13, 2], accessFlags := 1041 }

/-- the primitive char -/
def k16 : Class := { plain "char" none with kind := .primitive 'C', accessFlags := 0x411 }
/-- [C -/
def k17 : Class := { plain "[C" (some 0) with kind := .array 16 .char, interfaces := #[13, 2], accessFlags := 1041 }

/-- the primitive int -/
def k18 : Class := { plain "int" none with kind := .primitive 'I', accessFlags := 0x411 }
/-- [I -/
def k19 : Class := { plain "[I" (some 0) with kind := .array 18 .int, interfaces := #[13, 2], accessFlags := 1041 }

def heap : Heap := #[{ cls := 7, slots := #[.long 0, .int 1, .null, .int 0, .null, .int 0, .int 0], vm := .statics 7 },
  { cls := 11, slots := #[.null, .null, .null], vm := .statics 11 }]
def classes : Array Class := #[k0, k1, k2, k3, k4, k5, k6, k7, k8, k9, k10, k11, k12, k13, k14, k15, k16, k17, k18, k19]
def interned : List (Array UInt16 × Addr) := []
def slotsUsed : Nat := 10
def theMethod : MethodId := ⟨1, 1⟩
def args0 : Array Value := #[.int 5, .int 7, .int 9, .int 3]
def aboutOver (below : List Frame) : State where
  vm := { classes := classes, interned := interned.toArray }
  heap := heap
  slotsUsed := slotsUsed
  threads := #[{ frames := .invoking theMethod args0 :: below }]
def below0 : List Frame := [.native { method := ⟨0, 0⟩, args := #[] }]
def about1 : State := aboutOver below0
def p0 : Program := .bare "" "" ""
def e0 : Env := launch0.env 0 0 0
theorem w_frames : about1.frames = Frame.invoking theMethod args0 :: below0 := rfl
set_option maxRecDepth 65536 in
theorem w_args : argsFit about1.vm theMethod args0 = true := by decide +kernel
set_option maxRecDepth 65536 in
theorem w_heap : heapFits about1 = true := by decide +kernel
set_option maxRecDepth 65536 in
theorem w_runnable : about1.curStatus? = some .runnable := by decide +kernel
set_option maxRecDepth 65536 in
theorem w_alone : about1.alone = true := by decide +kernel
set_option maxRecDepth 65536 in
theorem w_named : about1.methodNamed? x = some theMethod := by decide +kernel
set_option maxRecDepth 65536 in
theorem w_hears : about1.hears theMethod below0 = true := by decide +kernel
set_option maxRecDepth 65536 in
theorem w_ripe : about1.ripe theMethod args0 below0 = true := by decide +kernel
theorem w_running : about1.status = .running := rfl
set_option maxRecDepth 65536 in
theorem w_room : about1.hasRoom e0.platform room_1 = true :=
  launch0.hasRoom_least _ room_1 (by decide +kernel) (by decide +kernel) (by decide +kernel) (by decide +kernel) (by decide +kernel) (by decide +kernel)
theorem allAtoms_all (ts : List Jvm.Cond) (a : Array Jvm.Value) (st : Jvm.State) : (allAtoms ts).before a st = ts.all (fun c => c.before a st) := by
  induction ts with
  | nil => rfl
  | cons c t ih =>
    show (Jvm.Cond.and c (allAtoms t)).before a st = _
    rw [Jvm.Cond.before_and, ih, List.all_cons]
def words1 : List Jvm.Cond := Jvm.Cond.code x code maxLocals ret :: tables_1
/-- a 'code' word, met by the world's own term for the bytes: nothing is compared byte by byte -/
theorem code_word {y : MethodName} {bytes : ByteArray} {mx : Nat} {rt : Option FieldType} {a : Array Value} {s : State} {m : MethodId} {meth : Method} {c : Code} (h1 : s.methodNamed? y = some m) (h2 : s.vm.method? m = some meth) (h3 : meth.code = some c) (h4 : c.code = bytes)
    (h5 : (c.maxLocals == mx && c.exceptionTable.isEmpty && decide (c.maxStack ≤ mostOperands) && decide (meth.sig.returnType = rt) && !meth.locks && decide (parseMethodDescriptor y.desc = some meth.sig)) = true) : (Jvm.Cond.code y bytes mx rt).before a s = true := by
  simp only [Bool.and_eq_true, beq_iff_eq, Bool.not_eq_true', decide_eq_true_eq] at h5
  obtain ⟨⟨⟨⟨⟨g1, g2⟩, g3⟩, g4⟩, g5⟩, g6⟩ := h5
  simp [Cond.before, Cond.holds, Cond.value, h1, h2, h3, h4, g1, g2, g3, g4, g5, g6]
def isCode : Jvm.Cond → Bool
  | .code _ _ _ _ => true
  | _ => false
theorem all_split {L : List Jvm.Cond} {P : Jvm.Cond → Bool} (h1 : L.all (fun c => isCode c || P c) = true) (h2 : ∀ c ∈ L.filter isCode, P c = true) : L.all P = true := by
  refine List.all_eq_true.mpr fun c hc => ?_
  have h := List.all_eq_true.mp h1 c hc
  rcases Bool.eq_false_or_eq_true (isCode c) with hi | hi
  · exact h2 c (List.mem_filter.mpr ⟨hc, hi⟩)
  · simpa [hi] using h
set_option maxRecDepth 65536 in
theorem w_c0 : (Jvm.Cond.code x code maxLocals ret).before args0 about1 = true := code_word (m := ⟨1, 1⟩) (meth := k1m1) (c := k1c1) (by decide +kernel) rfl rfl rfl (by decide +kernel)
set_option maxRecDepth 65536 in
theorem w_c1 : (Jvm.Cond.code ({ cls := "com/example/drawdown/drawdown/PlainDecimalMatchesPinLaw", name := "pick", desc := "(I)C" } : Jvm.MethodName) method_3_code (3 : Nat) (Option.some Jvm.ClassFile.FieldType.char)).before args0 about1 = true := code_word (m := ⟨1, 2⟩) (meth := k1m2) (c := k1c2) (by decide +kernel) rfl rfl rfl (by decide +kernel)
set_option maxRecDepth 65536 in
theorem w_c2 : (Jvm.Cond.code ({ cls := "java/lang/String", name := "<init>", desc := "([C)V" } : Jvm.MethodName) jdk_42_method_3_code (2 : Nat) (Option.none : Option Jvm.ClassFile.FieldType)).before args0 about1 = true := code_word (m := ⟨7, 1⟩) (meth := k7m1) (c := k7c1) (by decide +kernel) rfl rfl rfl (by decide +kernel)
set_option maxRecDepth 65536 in
theorem w_c3 : (Jvm.Cond.code ({ cls := "java/lang/String", name := "<init>", desc := "([CIILjava/lang/Void;)V" } : Jvm.MethodName) jdk_42_method_149_code (6 : Nat) (Option.none : Option Jvm.ClassFile.FieldType)).before args0 about1 = true := code_word (m := ⟨7, 3⟩) (meth := k7m3) (c := k7c3) (by decide +kernel) rfl rfl rfl (by decide +kernel)
set_option maxRecDepth 65536 in
theorem w_c4 : (Jvm.Cond.code ({ cls := "java/lang/Object", name := "<init>", desc := "()V" } : Jvm.MethodName) object_method_1_code (1 : Nat) (Option.none : Option Jvm.ClassFile.FieldType)).before args0 about1 = true := code_word (m := ⟨0, 0⟩) (meth := k0m0) (c := k0c0) (by decide +kernel) rfl rfl rfl (by decide +kernel)
set_option maxRecDepth 65536 in
theorem w_c5 : (Jvm.Cond.code ({ cls := "java/lang/StringUTF16", name := "compress", desc := "([CII)[B" } : Jvm.MethodName) jdk_52_method_16_code (6 : Nat) (Option.some (Jvm.ClassFile.FieldType.array Jvm.ClassFile.FieldType.byte))).before args0 about1 = true := code_word (m := ⟨8, 2⟩) (meth := k8m2) (c := k8c2) (by decide +kernel) rfl rfl rfl (by decide +kernel)
set_option maxRecDepth 65536 in
theorem w_c6 : (Jvm.Cond.code ({ cls := "java/lang/StringUTF16", name := "compress", desc := "([CI[BII)I" } : Jvm.MethodName) jdk_52_method_21_code (7 : Nat) (Option.some Jvm.ClassFile.FieldType.int)).before args0 about1 = true := code_word (m := ⟨8, 3⟩) (meth := k8m3) (c := k8c3) (by decide +kernel) rfl rfl rfl (by decide +kernel)
set_option maxRecDepth 65536 in
theorem w_c7 : (Jvm.Cond.code ({ cls := "java/lang/StringUTF16", name := "coderFromArrayLen", desc := "([BI)B" } : Jvm.MethodName) jdk_52_method_15_code (2 : Nat) (Option.some Jvm.ClassFile.FieldType.byte)).before args0 about1 = true := code_word (m := ⟨8, 1⟩) (meth := k8m1) (c := k8c1) (by decide +kernel) rfl rfl rfl (by decide +kernel)
set_option maxRecDepth 65536 in
theorem w_c8 : (Jvm.Cond.code ({ cls := "com/example/drawdown/drawdown/PlainDecimalMatchesPinLaw", name := "whole", desc := "([CI)Z" } : Jvm.MethodName) method_6_code (2 : Nat) (Option.some Jvm.ClassFile.FieldType.boolean)).before args0 about1 = true := code_word (m := ⟨1, 5⟩) (meth := k1m5) (c := k1c5) (by decide +kernel) rfl rfl rfl (by decide +kernel)
set_option maxRecDepth 65536 in
theorem w_c9 : (Jvm.Cond.code ({ cls := "com/example/drawdown/drawdown/PlainDecimalMatchesPinLaw", name := "digits", desc := "([CII)Z" } : Jvm.MethodName) method_5_code (3 : Nat) (Option.some Jvm.ClassFile.FieldType.boolean)).before args0 about1 = true := code_word (m := ⟨1, 4⟩) (meth := k1m4) (c := k1c4) (by decide +kernel) rfl rfl rfl (by decide +kernel)
set_option maxRecDepth 65536 in
theorem w_c10 : (Jvm.Cond.code ({ cls := "com/example/drawdown/drawdown/PlainDecimalMatchesPinLaw", name := "digit", desc := "(C)Z" } : Jvm.MethodName) method_4_code (1 : Nat) (Option.some Jvm.ClassFile.FieldType.boolean)).before args0 about1 = true := code_word (m := ⟨1, 3⟩) (meth := k1m3) (c := k1c3) (by decide +kernel) rfl rfl rfl (by decide +kernel)
set_option maxRecDepth 65536 in
theorem w_c11 : (Jvm.Cond.code ({ cls := "com/example/drawdown/drawdown/PlainDecimalMatchesPinLaw", name := "frac", desc := "([CIII)Z" } : Jvm.MethodName) method_7_code (4 : Nat) (Option.some Jvm.ClassFile.FieldType.boolean)).before args0 about1 = true := code_word (m := ⟨1, 6⟩) (meth := k1m6) (c := k1c6) (by decide +kernel) rfl rfl rfl (by decide +kernel)
set_option maxRecDepth 65536 in
theorem w_c12 : (Jvm.Cond.code ({ cls := "com/example/drawdown/drawdown/PlainDecimal", name := "matches", desc := "(Ljava/lang/String;II)Z" } : Jvm.MethodName) prog_8_method_2_code (7 : Nat) (Option.some Jvm.ClassFile.FieldType.boolean)).before args0 about1 = true := code_word (m := ⟨9, 1⟩) (meth := k9m1) (c := k9c1) (by decide +kernel) rfl rfl rfl (by decide +kernel)
set_option maxRecDepth 65536 in
theorem w_c13 : (Jvm.Cond.code ({ cls := "java/lang/String", name := "charAt", desc := "(I)C" } : Jvm.MethodName) jdk_42_method_56_code (2 : Nat) (Option.some Jvm.ClassFile.FieldType.char)).before args0 about1 = true := code_word (m := ⟨7, 2⟩) (meth := k7m2) (c := k7c2) (by decide +kernel) rfl rfl rfl (by decide +kernel)
set_option maxRecDepth 65536 in
theorem w_c14 : (Jvm.Cond.code ({ cls := "java/lang/String", name := "isLatin1", desc := "()Z" } : Jvm.MethodName) jdk_42_method_154_code (1 : Nat) (Option.some Jvm.ClassFile.FieldType.boolean)).before args0 about1 = true := code_word (m := ⟨7, 4⟩) (meth := k7m4) (c := k7c4) (by decide +kernel) rfl rfl rfl (by decide +kernel)
set_option maxRecDepth 65536 in
theorem w_c15 : (Jvm.Cond.code ({ cls := "java/lang/StringLatin1", name := "charAt", desc := "([BI)C" } : Jvm.MethodName) jdk_43_method_2_code (2 : Nat) (Option.some Jvm.ClassFile.FieldType.char)).before args0 about1 = true := code_word (m := ⟨10, 1⟩) (meth := k10m1) (c := k10c1) (by decide +kernel) rfl rfl rfl (by decide +kernel)
set_option maxRecDepth 65536 in
theorem w_c16 : (Jvm.Cond.code ({ cls := "java/lang/String", name := "checkIndex", desc := "(II)V" } : Jvm.MethodName) jdk_42_method_155_code (2 : Nat) (Option.none : Option Jvm.ClassFile.FieldType)).before args0 about1 = true := code_word (m := ⟨7, 5⟩) (meth := k7m5) (c := k7c5) (by decide +kernel) rfl rfl rfl (by decide +kernel)
set_option maxRecDepth 65536 in
theorem w_c17 : (Jvm.Cond.code ({ cls := "jdk/internal/util/Preconditions", name := "checkIndex", desc := "(IILjava/util/function/BiFunction;)I" } : Jvm.MethodName) jdk_41_method_11_code (3 : Nat) (Option.some Jvm.ClassFile.FieldType.int)).before args0 about1 = true := code_word (m := ⟨11, 1⟩) (meth := k11m1) (c := k11c1) (by decide +kernel) rfl rfl rfl (by decide +kernel)
set_option maxRecDepth 65536 in
theorem w_c18 : (Jvm.Cond.code ({ cls := "com/example/drawdown/drawdown/PlainDecimal", name := "isDigits", desc := "(Ljava/lang/String;II)Z" } : Jvm.MethodName) prog_8_method_4_code (5 : Nat) (Option.some Jvm.ClassFile.FieldType.boolean)).before args0 about1 = true := code_word (m := ⟨9, 2⟩) (meth := k9m2) (c := k9c2) (by decide +kernel) rfl rfl rfl (by decide +kernel)
def codes1 : List Jvm.Cond := [Jvm.Cond.code x code maxLocals ret, Jvm.Cond.code ({ cls := "com/example/drawdown/drawdown/PlainDecimalMatchesPinLaw", name := "pick", desc := "(I)C" } : Jvm.MethodName) method_3_code (3 : Nat) (Option.some Jvm.ClassFile.FieldType.char), Jvm.Cond.code ({ cls := "java/lang/String", name := "<init>", desc := "([C)V" } : Jvm.MethodName) jdk_42_method_3_code (2 : Nat) (Option.none : Option Jvm.ClassFile.FieldType), Jvm.Cond.code ({ cls := "java/lang/String", name := "<init>", desc := "([CIILjava/lang/Void;)V" } : Jvm.MethodName) jdk_42_method_149_code (6 : Nat) (Option.none : Option Jvm.ClassFile.FieldType), Jvm.Cond.code ({ cls := "java/lang/Object", name := "<init>", desc := "()V" } : Jvm.MethodName) object_method_1_code (1 : Nat) (Option.none : Option Jvm.ClassFile.FieldType), Jvm.Cond.code ({ cls := "java/lang/StringUTF16", name := "compress", desc := "([CII)[B" } : Jvm.MethodName) jdk_52_method_16_code (6 : Nat) (Option.some (Jvm.ClassFile.FieldType.array Jvm.ClassFile.FieldType.byte)), Jvm.Cond.code ({ cls := "java/lang/StringUTF16", name := "compress", desc := "([CI[BII)I" } : Jvm.MethodName) jdk_52_method_21_code (7 : Nat) (Option.some Jvm.ClassFile.FieldType.int), Jvm.Cond.code ({ cls := "java/lang/StringUTF16", name := "coderFromArrayLen", desc := "([BI)B" } : Jvm.MethodName) jdk_52_method_15_code (2 : Nat) (Option.some Jvm.ClassFile.FieldType.byte), Jvm.Cond.code ({ cls := "com/example/drawdown/drawdown/PlainDecimalMatchesPinLaw", name := "whole", desc := "([CI)Z" } : Jvm.MethodName) method_6_code (2 : Nat) (Option.some Jvm.ClassFile.FieldType.boolean), Jvm.Cond.code ({ cls := "com/example/drawdown/drawdown/PlainDecimalMatchesPinLaw", name := "digits", desc := "([CII)Z" } : Jvm.MethodName) method_5_code (3 : Nat) (Option.some Jvm.ClassFile.FieldType.boolean), Jvm.Cond.code ({ cls := "com/example/drawdown/drawdown/PlainDecimalMatchesPinLaw", name := "digit", desc := "(C)Z" } : Jvm.MethodName) method_4_code (1 : Nat) (Option.some Jvm.ClassFile.FieldType.boolean), Jvm.Cond.code ({ cls := "com/example/drawdown/drawdown/PlainDecimalMatchesPinLaw", name := "frac", desc := "([CIII)Z" } : Jvm.MethodName) method_7_code (4 : Nat) (Option.some Jvm.ClassFile.FieldType.boolean), Jvm.Cond.code ({ cls := "com/example/drawdown/drawdown/PlainDecimal", name := "matches", desc := "(Ljava/lang/String;II)Z" } : Jvm.MethodName) prog_8_method_2_code (7 : Nat) (Option.some Jvm.ClassFile.FieldType.boolean), Jvm.Cond.code ({ cls := "java/lang/String", name := "charAt", desc := "(I)C" } : Jvm.MethodName) jdk_42_method_56_code (2 : Nat) (Option.some Jvm.ClassFile.FieldType.char), Jvm.Cond.code ({ cls := "java/lang/String", name := "isLatin1", desc := "()Z" } : Jvm.MethodName) jdk_42_method_154_code (1 : Nat) (Option.some Jvm.ClassFile.FieldType.boolean), Jvm.Cond.code ({ cls := "java/lang/StringLatin1", name := "charAt", desc := "([BI)C" } : Jvm.MethodName) jdk_43_method_2_code (2 : Nat) (Option.some Jvm.ClassFile.FieldType.char), Jvm.Cond.code ({ cls := "java/lang/String", name := "checkIndex", desc := "(II)V" } : Jvm.MethodName) jdk_42_method_155_code (2 : Nat) (Option.none : Option Jvm.ClassFile.FieldType), Jvm.Cond.code ({ cls := "jdk/internal/util/Preconditions", name := "checkIndex", desc := "(IILjava/util/function/BiFunction;)I" } : Jvm.MethodName) jdk_41_method_11_code (3 : Nat) (Option.some Jvm.ClassFile.FieldType.int), Jvm.Cond.code ({ cls := "com/example/drawdown/drawdown/PlainDecimal", name := "isDigits", desc := "(Ljava/lang/String;II)Z" } : Jvm.MethodName) prog_8_method_4_code (5 : Nat) (Option.some Jvm.ClassFile.FieldType.boolean)]
set_option maxRecDepth 65536 in
theorem codes_eq : words1.filter isCode = codes1 := rfl
theorem w_codes : ∀ c ∈ words1.filter isCode, c.before args0 about1 = true := by
  rw [codes_eq]
  intro c hc
  simp only [codes1, List.mem_cons, List.not_mem_nil, or_false] at hc
  rcases hc with rfl | rfl | rfl | rfl | rfl | rfl | rfl | rfl | rfl | rfl | rfl | rfl | rfl | rfl | rfl | rfl | rfl | rfl | rfl
  · exact w_c0
  · exact w_c1
  · exact w_c2
  · exact w_c3
  · exact w_c4
  · exact w_c5
  · exact w_c6
  · exact w_c7
  · exact w_c8
  · exact w_c9
  · exact w_c10
  · exact w_c11
  · exact w_c12
  · exact w_c13
  · exact w_c14
  · exact w_c15
  · exact w_c16
  · exact w_c17
  · exact w_c18
set_option maxRecDepth 65536 in
theorem w_t1 : (words1.take 24).all (fun c => isCode c || c.before args0 about1) = true := by decide +kernel
set_option maxRecDepth 65536 in
theorem w_t2 : ((words1.drop 24).take 24).all (fun c => isCode c || c.before args0 about1) = true := by decide +kernel
set_option maxRecDepth 65536 in
theorem w_t3 : (((words1.drop 24).drop 24).take 24).all (fun c => isCode c || c.before args0 about1) = true := by decide +kernel
set_option maxRecDepth 65536 in
theorem w_t4 : (((words1.drop 24).drop 24).drop 24).all (fun c => isCode c || c.before args0 about1) = true := by decide +kernel
theorem w_tables : (allAtoms (Jvm.Cond.code x code maxLocals ret :: tables_1)).before args0 about1 = true := by
  rw [allAtoms_all]
  show words1.all (fun c => c.before args0 about1) = true
  refine all_split ?_ w_codes
  rw [← List.take_append_drop 24 words1, List.all_append, w_t1, ← List.take_append_drop 24 (words1.drop 24), List.all_append, w_t2, ← List.take_append_drop 24 ((words1.drop 24).drop 24), List.all_append, w_t3, w_t4]
  rfl
set_option maxRecDepth 65536 in
theorem w_rest : rest_1_c.before args0 about1 = true := by decide +kernel
set_option maxRecDepth 65536 in
theorem w_case : (Jvm.Cond.and given_1 narrow_1).before args0 about1 = true := by decide +kernel
theorem w_applies : (headSpec (Jvm.Cond.code x code maxLocals ret :: tables_1) room_1).applies x e0.platform about1 = true :=
  (Spec.applies_iff w_frames).mpr ⟨w_running, w_runnable, w_alone, w_named, w_hears, w_ripe, w_room, w_tables⟩
theorem atStart : AtStart classFile x code maxLocals ret World_1 tables_1 room_1 Calls_1 rest_1 Pre_1 launch0 p0 e0 about1 theMethod args0 below0 :=
  ⟨lists_1, trivial, launch0.admits_env _ _ _, launch0.least_env, fairChoices_fair.cas, fairChoices_fair.clock, w_frames, w_args, w_heap, w_applies, trivial, w_rest, w_case⟩
end start1
theorem witness_1 : WitnessClaimed_1 := ⟨start1.p0, start1.e0, start1.about1, start1.theMethod, start1.args0, start1.below0, start1.atStart⟩
end Jvm.Pilot.@@N@@

