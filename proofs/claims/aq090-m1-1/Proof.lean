import JvmDerived
import JvmDerived.Pilot.@@N@@Statement
import JvmDerived.Pilot.@@N@@Code
set_option linter.unusedVariables false
set_option linter.unusedSimpArgs false

/- laws to paste: Road.backV, Road.eqW, Road.codOf (cut by pick.py; bodies as the Statement names them) -/
namespace Jvm.Pilot.@@N@@
namespace StrChars
open Jvm Sem ClassFile Op Lib Jvm.Stand Jvm.Free.XT Jvm.Free.ALB Jvm.Free.JM Jvm.Free
open Jvm.Lib.Cold (StaticIs)
/-- a char array whose places are chars -/
def Ch (a : Addr) (A : Cell) (U : State) : Prop := Arr .char a A U ∧ Typed .char A
theorem Ch.mv {a : Addr} {A : Cell} {U U' : State} (h : Ch a A U) (hal : U.vm.Alike U'.vm) (hh : U'.heap = U.heap) : Ch a A U' := ⟨h.1.mv hal hh, h.2⟩
theorem Ch.keep {a : Addr} {A : Cell} {U U' : State} (h : Ch a A U) (hal : U.vm.Alike U'.vm) (hk : U'.heap[a]? = some A) : Ch a A U' := ⟨h.1.keep hal hk, h.2⟩
/-- what place i of a char[]'s cell holds -/
def cv (A : Cell) (i : Nat) : Int32 := match A.slots[i]? with | some (.int x) => x | _ => 0
theorem Ch.get {a : Addr} {A : Cell} {U : State} (h : Ch a A U) {i : Nat} (hi : i < A.slots.size) : A.slots[i]? = some (.int (cv A i)) := by
  have e := Array.getElem?_eq_getElem hi
  have f := h.2 i _ e
  unfold cv; rw [e]
  generalize A.slots[i] = v at f
  cases v <;> simp [fits] at f ⊢
/-- the byte that i2b leaves of a char -/
def lo8 (x : Int32) : Int32 := x.toInt8.toInt32
theorem fits_lo8 (y : Int32) : fits .byte (.int (lo8 y)) = true := by
  have h1 := y.toInt8.le_toInt
  have h2 := y.toInt8.toInt_lt
  simp only [lo8, fits, Bool.and_eq_true, decide_eq_true_eq, Int32.le_iff_toInt_le, Int8.toInt_toInt32, show (-128 : Int32).toInt = -128 from by decide, show (127 : Int32).toInt = 127 from by decide]
  omega
/-- A' is A but that each place j of lo .. hi - 1 holds f j -/
def Laid (A A' : Cell) (lo hi : Nat) (f : Nat → Value) : Prop := A'.cls = A.cls ∧ A'.vm = A.vm ∧ A'.slots.size = A.slots.size ∧ ∀ i, A'.slots[i]? = if lo ≤ i ∧ i < hi then some (f i) else A.slots[i]?
theorem Laid.zero (A : Cell) (lo : Nat) (f : Nat → Value) : Laid A A lo (lo + 0) f := ⟨rfl, rfl, rfl, fun i => by rw [if_neg (by omega)]⟩
theorem Laid.step {A Ak : Cell} {lo k : Nat} {f : Nat → Value} {v : Value} (h : Laid A Ak lo k f) (hlo : lo ≤ k) (hk : k < Ak.slots.size) (hv : v = f k) : Laid A (Ak.setSlot k v) lo (k + 1) f := by
  refine ⟨h.1, h.2.1, by simpa [Cell.setSlot] using h.2.2.1, fun i => ?_⟩
  by_cases e : k = i
  · subst e; rw [Cell.slots_setSlot_self v hk, if_pos (by omega), hv]
  · rw [Cell.slots_setSlot_ne v e, h.2.2.2 i]
    by_cases q : lo ≤ i ∧ i < k
    · rw [if_pos q, if_pos (by omega)]
    · rw [if_neg q, if_neg (by omega)]
def U16 : String := "java/lang/StringUTF16"
namespace Cmp5
def yN : MethodName := ⟨"java/lang/StringUTF16", "compress", "([CI[BII)I"⟩
abbrev yB : ByteArray := jdk_52_method_21_code
theorem d0 : decode yB 0 = .ok (.iconst 0, 1) := by decide +kernel
theorem d1 : decode yB 1 = .ok (.istore 5, 2) := by decide +kernel
theorem d3 : decode yB 3 = .ok (.iload 5, 2) := by decide +kernel
theorem d5 : decode yB 5 = .ok (.iload 4, 2) := by decide +kernel
theorem d7 : decode yB 7 = .ok (.if_icmp (.ge) 37, 3) := by decide +kernel
theorem d10 : decode yB 10 = .ok (.aload_n 0, 1) := by decide +kernel
theorem d11 : decode yB 11 = .ok (.iload_n 1, 1) := by decide +kernel
theorem d12 : decode yB 12 = .ok (.caload, 1) := by decide +kernel
theorem d13 : decode yB 13 = .ok (.istore 6, 2) := by decide +kernel
theorem d15 : decode yB 15 = .ok (.iload 6, 2) := by decide +kernel
theorem d17 : decode yB 17 = .ok (.sipush 255, 3) := by decide +kernel
theorem d20 : decode yB 20 = .ok (.if_icmp (.le) 6, 3) := by decide +kernel
theorem d26 : decode yB 26 = .ok (.aload_n 2, 1) := by decide +kernel
theorem d27 : decode yB 27 = .ok (.iload_n 3, 1) := by decide +kernel
theorem d28 : decode yB 28 = .ok (.iload 6, 2) := by decide +kernel
theorem d30 : decode yB 30 = .ok (.i2b, 1) := by decide +kernel
theorem d31 : decode yB 31 = .ok (.bastore, 1) := by decide +kernel
theorem d32 : decode yB 32 = .ok (.iinc 1 1, 3) := by decide +kernel
theorem d35 : decode yB 35 = .ok (.iinc 3 1, 3) := by decide +kernel
theorem d38 : decode yB 38 = .ok (.iinc 5 1, 3) := by decide +kernel
theorem d41 : decode yB 41 = .ok (.goto (-38), 3) := by decide +kernel
theorem d44 : decode yB 44 = .ok (.iload 4, 2) := by decide +kernel
theorem d46 : decode yB 46 = .ok (.ireturn, 1) := by decide +kernel
def site : List Cond := []
def tab : Cond := tabOf yN yB 7 (some .int) site
def P (b : Addr) (A : Cell) (d : Addr) (B : Cell) (o q len : Nat) (args : Array Value) (s : State) : Prop := args = #[.ref b, .int (Int32.ofNat o), .ref d, .int (Int32.ofNat q), .int (Int32.ofNat len)] ∧ Ch b A s ∧ Arr .byte d B s ∧ b ≠ d ∧ o + len ≤ A.slots.size ∧ q + len ≤ B.slots.size ∧ ∀ i, i < len → ¬ 255 < cv A (o + i)
def E (b : Addr) (A : Cell) (d : Addr) (B : Cell) (o q len : Nat) (r : Option Value) (s u : State) : Prop := r = some (.int (Int32.ofNat len)) ∧ ∃ B', Put d B' s u ∧ Laid B B' q (q + len) (fun j => Value.int (lo8 (cv A (o + (j - q)))))
/-- no char of the range above 255: len; the places written hold each char's low byte -/
theorem law (l : Launch) (b : Addr) (A : Cell) (d : Addr) (B : Cell) (o q len : Nat) : Law l yN 5 5 0 0 yB 7 (some .int) site (P b A d B o q len) (E b A d B o q len) (copyLocs d q len) 0 0 := by
  refine Law.of_walk (plainFor_of_name (by decide +kernel)) (by decide +kernel) (by decide +kernel) (by decide) (fun _ _ h => by rw [h.1]; rfl) (fun _ U U' hal hh h => ⟨h.1, h.2.1.mv hal hh, h.2.2.1.mv hal hh, h.2.2.2⟩) (fun r U U' V V' h1 hal h2 h => ⟨h.1, h.2.elim fun B' q => ⟨B', q.1.mv h1 h2, q.2⟩⟩) ?_
  intro p e s m args below meth c s₁ X0 hexec hbytes hml hret hlk hnm hown hh0 W hP
  obtain ⟨rfl, hA, hB, hne, l1, l2, hp⟩ := hP
  have c1 : Steps p.tables e below (s₁.setTop (entryFrame m #[.ref b, .int (Int32.ofNat o), .ref d, .int (Int32.ofNat q), .int (Int32.ofNat len)] 7)) (s₁.setTop (mkF m 0 #[.val (.ref b), .val (.int (Int32.ofNat o)), .val (.ref d), .val (.int (Int32.ofNat q)), .val (.int (Int32.ofNat len)), .unset, .unset] [])) := entry rfl
  have hA0 := hA.1.mv X0.warmed.alike hh0
  have hB0 := hB.mv X0.warmed.alike hh0
  have a31 := hA.1.2.2.2
  have c2 : Steps p.tables e below (s₁.setTop (entryFrame m #[.ref b, .int (Int32.ofNat o), .ref d, .int (Int32.ofNat q), .int (Int32.ofNat len)] 7)) (s₁.setTop (mkF m 3 #[.val (.ref b), .val (.int (Int32.ofNat o)), .val (.ref d), .val (.int (Int32.ofNat q)), .val (.int (Int32.ofNat len)), .val (.int 0), .unset] [])) := c1.trans (by
    refine iconstV X0.here hexec rfl 0 (hb hbytes d0) (by decide) ?_
    refine XS.istore X0.here hexec rfl (hb hbytes d1) rfl rfl ?_
    exact Steps.refl _)
  have loop : ∀ (r i : Nat), i + r = len → ∀ (z : Slot), (z = .unset ∨ ∃ w, z = .val w ∧ w.category = 1) → ∀ (Tl : State) (Bk : Cell), Stand p l e { frames := 0, locals := 0, cells := 0, slots := 0 } s m #[.ref b, .int (Int32.ofNat o), .ref d, .int (Int32.ofNat q), .int (Int32.ofNat len)] below meth c Tl ([] ++ copyLocs d q i) 0 0 → Put d Bk s₁ Tl → Laid B Bk q (q + i) (fun j => Value.int (lo8 (cv A (o + (j - q))))) →
      Steps p.tables e below (s₁.setTop (entryFrame m #[.ref b, .int (Int32.ofNat o), .ref d, .int (Int32.ofNat q), .int (Int32.ofNat len)] 7)) (Tl.setTop (mkF m 3 #[.val (.ref b), .val (.int (Int32.ofNat (o + i))), .val (.ref d), .val (.int (Int32.ofNat (q + i))), .val (.int (Int32.ofNat len)), .val (.int (Int32.ofNat i)), z] [])) → ∃ (T' : State) (B' : Cell) (z' : Slot), Stand p l e { frames := 0, locals := 0, cells := 0, slots := 0 } s m #[.ref b, .int (Int32.ofNat o), .ref d, .int (Int32.ofNat q), .int (Int32.ofNat len)] below meth c T' ([] ++ copyLocs d q len) 0 0 ∧ Put d B' s₁ T' ∧ Laid B B' q (q + len) (fun j => Value.int (lo8 (cv A (o + (j - q))))) ∧
      Steps p.tables e below (s₁.setTop (entryFrame m #[.ref b, .int (Int32.ofNat o), .ref d, .int (Int32.ofNat q), .int (Int32.ofNat len)] 7)) (T'.setTop (mkF m 3 #[.val (.ref b), .val (.int (Int32.ofNat (o + len))), .val (.ref d), .val (.int (Int32.ofNat (q + len))), .val (.int (Int32.ofNat len)), .val (.int (Int32.ofNat len)), z'] [])) := by
    intro r
    induction r with
    | zero =>
      intro i hi z hz Tl Bk Xl pl fl cl
      have hil : i = len := by omega
      rw [hil] at Xl fl cl
      exact ⟨Tl, Bk, z, Xl, pl, fl, cl⟩
    | succ r ih =>
      intro i hi z hz Tl Bk Xl pl fl cl
      have all := X0.warmed.alike.symm.trans Xl.warmed.alike
      have hAl := hA0.keep all (pl.other hne hA0.1)
      have hBk := hB0.like all pl.1 fl.1 fl.2.1 fl.2.2.1
      have hlt : q + i < Bk.slots.size := by rw [fl.2.2.1]; omega
      have c3 : Steps p.tables e below (s₁.setTop (entryFrame m #[.ref b, .int (Int32.ofNat o), .ref d, .int (Int32.ofNat q), .int (Int32.ofNat len)] 7)) (Tl.setTop (mkF m 12 #[.val (.ref b), .val (.int (Int32.ofNat (o + i))), .val (.ref d), .val (.int (Int32.ofNat (q + i))), .val (.int (Int32.ofNat len)), .val (.int (Int32.ofNat i)), z] [.int (Int32.ofNat (o + i)), .ref b])) := cl.trans (by
        refine XS.iload Xl.here hexec rfl (hb hbytes d3) rfl ?_
        refine XS.iload Xl.here hexec rfl (hb hbytes d5) rfl ?_
        refine XS.icmpNo Xl.here hexec rfl (hb hbytes d7) rfl (ii_ge_f (lt32 (by omega) (by omega))) ?_
        refine XS.aloadN Xl.here hexec rfl (hb hbytes d10) rfl rfl ?_
        refine XS.iloadN Xl.here hexec rfl (hb hbytes d11) rfl ?_
        exact Steps.refl _)
      have c4 : Steps p.tables e below (s₁.setTop (entryFrame m #[.ref b, .int (Int32.ofNat o), .ref d, .int (Int32.ofNat q), .int (Int32.ofNat len)] 7)) (Tl.setTop (mkF m 13 #[.val (.ref b), .val (.int (Int32.ofNat (o + i))), .val (.ref d), .val (.int (Int32.ofNat (q + i))), .val (.int (Int32.ofNat len)), .val (.int (Int32.ofNat i)), z] [.int (cv A (o + i))])) := c3.trans (by
        refine Xl.aget hexec hAl rfl (hA.get (i := o + i) (by omega)) rfl rfl (hb hbytes d12) ?_
        exact Steps.refl _)
      have c5 : Steps p.tables e below (s₁.setTop (entryFrame m #[.ref b, .int (Int32.ofNat o), .ref d, .int (Int32.ofNat q), .int (Int32.ofNat len)] 7)) (Tl.setTop (mkF m 15 #[.val (.ref b), .val (.int (Int32.ofNat (o + i))), .val (.ref d), .val (.int (Int32.ofNat (q + i))), .val (.int (Int32.ofNat len)), .val (.int (Int32.ofNat i)), .val (.int (cv A (o + i)))] [])) := c4.trans (by
        refine XS.istoreS Xl.here hexec rfl (hb hbytes d13) rfl rfl hz ?_
        exact Steps.refl _)
      have c6 : Steps p.tables e below (s₁.setTop (entryFrame m #[.ref b, .int (Int32.ofNat o), .ref d, .int (Int32.ofNat q), .int (Int32.ofNat len)] 7)) (Tl.setTop (mkF m 31 #[.val (.ref b), .val (.int (Int32.ofNat (o + i))), .val (.ref d), .val (.int (Int32.ofNat (q + i))), .val (.int (Int32.ofNat len)), .val (.int (Int32.ofNat i)), .val (.int (cv A (o + i)))] [.int (lo8 (cv A (o + i))), .int (Int32.ofNat (q + i)), .ref d])) := c5.trans (by
        refine XS.iload Xl.here hexec rfl (hb hbytes d15) rfl ?_
        refine sipushV Xl.here hexec rfl 255 (hb hbytes d17) (by decide) ?_
        refine XS.icmpYes Xl.here hexec rfl (pc0 := 20) rfl (hb hbytes d20) rfl (ii_le_t (hp i (by omega))) (by decide) rfl ?_
        refine XS.aloadN Xl.here hexec rfl (hb hbytes d26) rfl rfl ?_
        refine XS.iloadN Xl.here hexec rfl (hb hbytes d27) rfl ?_
        refine XS.iload Xl.here hexec rfl (hb hbytes d28) rfl ?_
        refine i2b Xl.here hexec rfl (hb hbytes d30) rfl ?_
        exact Steps.refl _)
      obtain ⟨T7, X7, p7, st7⟩ := Xl.aput hexec hBk rfl hlt rfl (fits_lo8 (cv A (o + i))) (g := (mkF m 31 #[.val (.ref b), .val (.int (Int32.ofNat (o + i))), .val (.ref d), .val (.int (Int32.ofNat (q + i))), .val (.int (Int32.ofNat len)), .val (.int (Int32.ofNat i)), .val (.int (cv A (o + i)))] [.int (lo8 (cv A (o + i))), .int (Int32.ofNat (q + i)), .ref d])) rfl (rest := []) rfl (hb hbytes d31)
      have c8 : Steps p.tables e below (s₁.setTop (entryFrame m #[.ref b, .int (Int32.ofNat o), .ref d, .int (Int32.ofNat q), .int (Int32.ofNat len)] 7)) (T7.setTop (mkF m 32 #[.val (.ref b), .val (.int (Int32.ofNat (o + i))), .val (.ref d), .val (.int (Int32.ofNat (q + i))), .val (.int (Int32.ofNat len)), .val (.int (Int32.ofNat i)), .val (.int (cv A (o + i)))] [])) := c6.trans (st7 _ (Steps.refl _))
      have c9 : Steps p.tables e below (s₁.setTop (entryFrame m #[.ref b, .int (Int32.ofNat o), .ref d, .int (Int32.ofNat q), .int (Int32.ofNat len)] 7)) (T7.setTop (mkF m 3 #[.val (.ref b), .val (.int (Int32.ofNat (o + i) + 1)), .val (.ref d), .val (.int (Int32.ofNat (q + i) + 1)), .val (.int (Int32.ofNat len)), .val (.int (Int32.ofNat i + 1)), .val (.int (cv A (o + i)))] [])) := c8.trans (by
        refine iincV X7.here hexec rfl 1 (hb hbytes d32) (by decide) rfl rfl ?_
        refine iincV X7.here hexec rfl 1 (hb hbytes d35) (by decide) rfl rfl ?_
        refine iincV X7.here hexec rfl 1 (hb hbytes d38) (by decide) rfl rfl ?_
        refine XS.goto X7.here hexec rfl (pc0 := 41) rfl (hb hbytes d41) (by decide) rfl ?_
        exact Steps.refl _)
      have c10 : Steps p.tables e below (s₁.setTop (entryFrame m #[.ref b, .int (Int32.ofNat o), .ref d, .int (Int32.ofNat q), .int (Int32.ofNat len)] 7)) (T7.setTop (mkF m 3 #[.val (.ref b), .val (.int (Int32.ofNat (o + (i + 1)))), .val (.ref d), .val (.int (Int32.ofNat (q + (i + 1)))), .val (.int (Int32.ofNat len)), .val (.int (Int32.ofNat (i + 1))), .val (.int (cv A (o + i)))] [])) := by
        have := c9
        rw [succ32, succ32, succ32] at this
        exact this
      exact ih (i + 1) (by omega) _ (Or.inr ⟨_, rfl, rfl⟩) T7 _ (by rw [copyLocs_step, ← List.append_assoc]; exact X7) (pl.trans p7) (fl.step (by omega) hlt (by simp)) c10
  obtain ⟨T9, B9, z9, X9, p9, f9, g9⟩ := loop len 0 (by omega) .unset (Or.inl rfl) s₁ B (by simpa [copyLocs] using X0) ⟨hB0.1, fun _ _ => rfl, rfl⟩ (Laid.zero _ _ _) c2
  have c11 : Steps p.tables e below (s₁.setTop (entryFrame m #[.ref b, .int (Int32.ofNat o), .ref d, .int (Int32.ofNat q), .int (Int32.ofNat len)] 7)) (T9.setTop (mkF m 46 #[.val (.ref b), .val (.int (Int32.ofNat (o + len))), .val (.ref d), .val (.int (Int32.ofNat (q + len))), .val (.int (Int32.ofNat len)), .val (.int (Int32.ofNat len)), z9] [.int (Int32.ofNat len)])) := g9.trans (by
    refine XS.iload X9.here hexec rfl (hb hbytes d3) rfl ?_
    refine XS.iload X9.here hexec rfl (hb hbytes d5) rfl ?_
    refine XS.icmpYes X9.here hexec rfl (pc0 := 7) rfl (hb hbytes d7) rfl (ii_ge_t (nlt32 (by omega) (Nat.le_refl _))) (by decide) rfl ?_
    refine XS.iload X9.here hexec rfl (hb hbytes d44) rfl ?_
    exact Steps.refl _)
  exact ⟨T9, some (.int (Int32.ofNat len)), _, _, _, X9, by simp, rfl, rfl, (fun h => by cases h), ⟨rfl, B9, p9.from hh0, f9⟩, fun fs hl => c11.trans (X9.ireturnOut hexec hret rfl (Or.inl rfl) (hb hbytes d46) hl)⟩
end Cmp5
namespace Cmp3
def yN : MethodName := ⟨"java/lang/StringUTF16", "compress", "([CII)[B"⟩
abbrev yB : ByteArray := jdk_52_method_16_code
theorem d0 : decode yB 0 = .ok (.iload_n 2, 1) := by decide +kernel
theorem d1 : decode yB 1 = .ok (.newarray .byte, 2) := by decide +kernel
theorem d3 : decode yB 3 = .ok (.astore_n 3, 1) := by decide +kernel
theorem d4 : decode yB 4 = .ok (.aload_n 0, 1) := by decide +kernel
theorem d5 : decode yB 5 = .ok (.iload_n 1, 1) := by decide +kernel
theorem d6 : decode yB 6 = .ok (.aload_n 3, 1) := by decide +kernel
theorem d7 : decode yB 7 = .ok (.iconst 0, 1) := by decide +kernel
theorem d8 : decode yB 8 = .ok (.iload_n 2, 1) := by decide +kernel
theorem d9 : decode yB 9 = .ok (.invokestatic 115, 3) := by decide +kernel
theorem d12 : decode yB 12 = .ok (.istore 4, 2) := by decide +kernel
theorem d14 : decode yB 14 = .ok (.iload 4, 2) := by decide +kernel
theorem d16 : decode yB 16 = .ok (.iload_n 2, 1) := by decide +kernel
theorem d17 : decode yB 17 = .ok (.if_icmp (.eq) 40, 3) := by decide +kernel
theorem d57 : decode yB 57 = .ok (.aload_n 3, 1) := by decide +kernel
theorem d58 : decode yB 58 = .ok (.areturn, 1) := by decide +kernel
def site : List Cond := [.arrayClass .byte, Cmp5.tab] ++ staticW U16 115 Cmp5.yN
def tab : Cond := tabOf yN yB 6 (some (.array .byte)) site
def P (b : Addr) (A : Cell) (o len : Nat) (args : Array Value) (s : State) : Prop := args = #[.ref b, .int (Int32.ofNat o), .int (Int32.ofNat len)] ∧ Ch b A s ∧ o + len ≤ A.slots.size ∧ len ≤ 536870912 ∧ ∀ i, i < len → ¬ 255 < cv A (o + i)
def E (b : Addr) (A : Cell) (o len : Nat) (r : Option Value) (s u : State) : Prop := NewArr .byte "[B" len (fun j => .int (lo8 (cv A (o + j)))) r s u ∧ u.heap.size = s.heap.size + 1
/-- no char of the range above 255: a new byte[] of their low bytes -/
theorem law (l : Launch) (b : Addr) (A : Cell) (o len : Nat) : Law l yN 3 3 1 18 yB 6 (some (.array .byte)) site (P b A o len) (E b A o len) [] 1 len := by
  refine Law.of_walk (plainFor_of_name (by decide +kernel)) (by decide +kernel) (by decide +kernel) (by decide) (fun _ _ h => by rw [h.1]; rfl) (fun _ U U' hal hh h => ⟨h.1, h.2.1.mv hal hh, h.2.2⟩) (fun r U U' V V' h1 hal h2 h => ⟨NewArr.mv r U U' V V' h1 hal h2 h.1, by rw [h1, h2]; exact h.2⟩) ?_
  intro p e s m args below meth c s₁ X0 hexec hbytes hml hret hlk hnm hown hh0 W hP
  obtain ⟨rfl, hA, l1, l2, hp⟩ := hP
  have a31 := hA.1.2.2.2
  have c1 : Steps p.tables e below (s₁.setTop (entryFrame m #[.ref b, .int (Int32.ofNat o), .int (Int32.ofNat len)] 6)) (s₁.setTop (mkF m 0 #[.val (.ref b), .val (.int (Int32.ofNat o)), .val (.int (Int32.ofNat len)), .unset, .unset, .unset] [])) := entry rfl
  have c2 : Steps p.tables e below (s₁.setTop (entryFrame m #[.ref b, .int (Int32.ofNat o), .int (Int32.ofNat len)] 6)) (s₁.setTop (mkF m 1 #[.val (.ref b), .val (.int (Int32.ofNat o)), .val (.int (Int32.ofNat len)), .unset, .unset, .unset] [.int (Int32.ofNat len)])) := c1.trans (by
    refine XS.iloadN X0.here hexec rfl (hb hbytes d0) rfl ?_
    exact Steps.refl _)
  obtain ⟨T3, B3, X3, ba3, bs3, bv3, bh3, bf3, st3⟩ := X0.anew hexec (atype := .byte) (wk W (.arrayClass .byte)) rfl (by show len * 1 ≤ _; omega) (by omega) (g := (mkF m 1 #[.val (.ref b), .val (.int (Int32.ofNat o)), .val (.int (Int32.ofNat len)), .unset, .unset, .unset] [.int (Int32.ofNat len)])) rfl (hb hbytes d1) (rest := []) rfl (Nat.le_refl _) (by show 0 + len ≤ len; omega)
  rw [hh0] at ba3 st3
  have kp3 : XT.Kept s T3 := (XT.Kept.of_eq hh0).push bh3
  have hA3 := hA.keep X3.warmed.alike (kp3 _ _ hA.1.1)
  have hne : b ≠ s.heap.size := hA.1.ne
  have c4 : Steps p.tables e below (s₁.setTop (entryFrame m #[.ref b, .int (Int32.ofNat o), .int (Int32.ofNat len)] 6)) (T3.setTop (mkF m 3 #[.val (.ref b), .val (.int (Int32.ofNat o)), .val (.int (Int32.ofNat len)), .unset, .unset, .unset] [.ref s.heap.size])) := c2.trans (st3 _ (Steps.refl _))
  have c5 : Steps p.tables e below (s₁.setTop (entryFrame m #[.ref b, .int (Int32.ofNat o), .int (Int32.ofNat len)] 6)) (T3.setTop (mkF m 9 #[.val (.ref b), .val (.int (Int32.ofNat o)), .val (.int (Int32.ofNat len)), .val (.ref s.heap.size), .unset, .unset] [.int (Int32.ofNat len), .int 0, .ref s.heap.size, .int (Int32.ofNat o), .ref b])) := c4.trans (by
    refine XS.astoreN X3.here hexec rfl (hb hbytes d3) rfl rfl rfl ?_
    refine XS.aloadN X3.here hexec rfl (hb hbytes d4) rfl rfl ?_
    refine XS.iloadN X3.here hexec rfl (hb hbytes d5) rfl ?_
    refine XS.aloadN X3.here hexec rfl (hb hbytes d6) rfl rfl ?_
    refine iconstV X3.here hexec rfl 0 (hb hbytes d7) (by decide) ?_
    refine XS.iloadN X3.here hexec rfl (hb hbytes d8) rfl ?_
    exact Steps.refl _)
  obtain ⟨v6, T6, X6, E6, g6⟩ := X3.callS hexec (Cmp5.law l b A s.heap.size B3 o 0 len) hown (wks W (staticW U16 115 Cmp5.yN)) (wk W Cmp5.tab) (W := 0) (Nat.le_of_ble_eq_true rfl) (Nat.le_of_ble_eq_true rfl) (Nat.le_refl _) (by show 0 + len + 0 ≤ len; omega) (g := (mkF m 9 #[.val (.ref b), .val (.int (Int32.ofNat o)), .val (.int (Int32.ofNat len)), .val (.ref s.heap.size), .unset, .unset] [.int (Int32.ofNat len), .int (Int32.ofNat 0), .ref s.heap.size, .int (Int32.ofNat o), .ref b])) rfl (by rw [hml]; rfl) c5 (argsL := [.ref b, .int (Int32.ofNat o), .ref s.heap.size, .int (Int32.ofNat 0), .int (Int32.ofNat len)]) (rest := []) rfl rfl (by show 2 * 0 + 0 ≤ _; decide) (hb hbytes d9) (⟨rfl, hA3, ba3, hne, l1, by rw [bs3]; simp, hp⟩)
  obtain ⟨rfl, B6, p6, f6⟩ := E6
  have c7 : Steps p.tables e below (s₁.setTop (entryFrame m #[.ref b, .int (Int32.ofNat o), .int (Int32.ofNat len)] 6)) (T6.setTop (mkF m 12 #[.val (.ref b), .val (.int (Int32.ofNat o)), .val (.int (Int32.ofNat len)), .val (.ref s.heap.size), .unset, .unset] [.int (Int32.ofNat len)])) := g6
  have c8 : Steps p.tables e below (s₁.setTop (entryFrame m #[.ref b, .int (Int32.ofNat o), .int (Int32.ofNat len)] 6)) (T6.setTop (mkF m 58 #[.val (.ref b), .val (.int (Int32.ofNat o)), .val (.int (Int32.ofNat len)), .val (.ref s.heap.size), .val (.int (Int32.ofNat len)), .unset] [.ref s.heap.size])) := c7.trans (by
    refine XS.istore X6.here hexec rfl (hb hbytes d12) rfl rfl ?_
    refine XS.iload X6.here hexec rfl (hb hbytes d14) rfl ?_
    refine XS.iloadN X6.here hexec rfl (hb hbytes d16) rfl ?_
    refine XS.icmpYes X6.here hexec rfl (pc0 := 17) rfl (hb hbytes d17) rfl (ii_eq_t rfl) (by decide) rfl ?_
    refine XS.aloadN X6.here hexec rfl (hb hbytes d57) rfl rfl ?_
    exact Steps.refl _)
  have X8 := X6.wide (L' := []) (cells' := 1) (slots' := len) (fun x hx hlt => by
    simp only [List.nil_append, copyLocs, List.mem_map, List.mem_range] at hx
    obtain ⟨i, -, rfl⟩ := hx
    exact absurd hlt (Nat.lt_irrefl _)) (Nat.le_refl _) (by omega)
  exact ⟨T6, some (.ref s.heap.size), _, _, _, X8, rfl, rfl, rfl, (fun h => by cases h), ⟨⟨rfl, B6, ba3.like (X3.warmed.alike.symm.trans X6.warmed.alike) p6.1 f6.1 f6.2.1 f6.2.2.1, f6.2.1.trans bv3, by rw [X6.warmed.alike.findClass, f6.1]; exact bf3, by rw [f6.2.2.1, bs3]; simp, fun j hj => by rw [f6.2.2.2 j, if_pos (by omega)]; rfl, kp3.put p6 (Nat.le_refl _)⟩, by rw [p6.2.2, bh3, hh0]; simp⟩, fun fs hl => c8.trans (X8.areturnOut hexec rfl hret rfl (hb hbytes d58) hl)⟩
end Cmp3
namespace CodL
def yN : MethodName := ⟨"java/lang/StringUTF16", "coderFromArrayLen", "([BI)B"⟩
abbrev yB : ByteArray := jdk_52_method_15_code
theorem d0 : decode yB 0 = .ok (.iload_n 1, 1) := by decide +kernel
theorem d1 : decode yB 1 = .ok (.aload_n 0, 1) := by decide +kernel
theorem d2 : decode yB 2 = .ok (.arraylength, 1) := by decide +kernel
theorem d3 : decode yB 3 = .ok (.isub, 1) := by decide +kernel
theorem d4 : decode yB 4 = .ok (.bipush 31, 2) := by decide +kernel
theorem d6 : decode yB 6 = .ok (.iushr, 1) := by decide +kernel
theorem d7 : decode yB 7 = .ok (.i2b, 1) := by decide +kernel
theorem d8 : decode yB 8 = .ok (.ireturn, 1) := by decide +kernel
def site : List Cond := []
def tab : Cond := tabOf yN yB 2 (some .byte) site
def P (d : Addr) (B : Cell) (args : Array Value) (s : State) : Prop := args = #[.ref d, .int (Int32.ofNat B.slots.size)] ∧ Arr .byte d B s
def E (r : Option Value) (s u : State) : Prop := XT.PureE (some (.int 0)) r s u
/-- an array as long as the number of chars: LATIN1 -/
theorem law (l : Launch) (d : Addr) (B : Cell) : Law l yN 2 2 0 0 yB 2 (some .byte) site (P d B) E [] 0 0 := by
  refine Law.of_walk (plainFor_of_name (by decide +kernel)) (by decide +kernel) (by decide +kernel) (by decide) (fun _ _ h => by rw [h.1]; rfl) (fun _ U U' hal hh h => ⟨h.1, h.2.mv hal hh⟩) (fun r U U' V V' h1 hal h2 h => XT.PureE.mv r U U' V V' h1 hal h2 h) ?_
  intro p e s m args below meth c s₁ X0 hexec hbytes hml hret hlk hnm hown hh0 W hP
  obtain ⟨rfl, hB⟩ := hP
  have hB0 := hB.mv X0.warmed.alike hh0
  have c1 : Steps p.tables e below (s₁.setTop (entryFrame m #[.ref d, .int (Int32.ofNat B.slots.size)] 2)) (s₁.setTop (mkF m 0 #[.val (.ref d), .val (.int (Int32.ofNat B.slots.size))] [])) := entry rfl
  have c2 : Steps p.tables e below (s₁.setTop (entryFrame m #[.ref d, .int (Int32.ofNat B.slots.size)] 2)) (s₁.setTop (mkF m 2 #[.val (.ref d), .val (.int (Int32.ofNat B.slots.size))] [.ref d, .int (Int32.ofNat B.slots.size)])) := c1.trans (by
    refine XS.iloadN X0.here hexec rfl (hb hbytes d0) rfl ?_
    refine XS.aloadN X0.here hexec rfl (hb hbytes d1) rfl rfl ?_
    exact Steps.refl _)
  have c3 : Steps p.tables e below (s₁.setTop (entryFrame m #[.ref d, .int (Int32.ofNat B.slots.size)] 2)) (s₁.setTop (mkF m 8 #[.val (.ref d), .val (.int (Int32.ofNat B.slots.size))] [.int (lo8 (ushr (Int32.ofNat B.slots.size - Int32.ofNat B.slots.size) 31))])) := c2.trans (by
    refine X0.alen hexec hB0 rfl rfl (hb hbytes d2) ?_
    refine XS.isub X0.here hexec rfl (hb hbytes d3) rfl ?_
    refine bipushV X0.here hexec rfl 31 (hb hbytes d4) (by decide) ?_
    refine iushr X0.here hexec rfl (hb hbytes d6) rfl ?_
    refine i2b X0.here hexec rfl (hb hbytes d7) rfl ?_
    exact Steps.refl _)
  have e0 : lo8 (ushr (Int32.ofNat B.slots.size - Int32.ofNat B.slots.size) 31) = 0 := by rw [Int32.sub_self]; decide
  rw [e0] at c3
  exact ⟨s₁, some (.int 0), _, _, _, X0, rfl, rfl, rfl, (fun h => by cases h), ⟨rfl, hh0⟩, fun fs hl => c3.trans (X0.ireturnOut hexec hret rfl (Or.inr (Or.inr (Or.inl rfl))) (hb hbytes d8) hl)⟩
end CodL
/-- the String at a is Latin-1 over a new byte[] (the heap's one new cell): the low bytes of the len chars of A from o on; every cell but a is kept -/
def Got (a : Addr) (D : Cell) (fV fC : Field) (A : Cell) (o len : Nat) (r : Option Value) (s u : State) : Prop := r = none ∧ ∃ D' V : Cell, Blank "java/lang/String" a D' u ∧ Same D D' [fV.slot, fC.slot] ∧ D'.slots[fV.slot]? = some (.ref s.heap.size) ∧ D'.slots[fC.slot]? = some (.int 0) ∧ Arr .byte s.heap.size V u ∧ V.vm = .none ∧ u.vm.findClass "[B" = some V.cls ∧ V.slots.size = len ∧ (∀ j, j < len → V.slots[j]? = some (.int (lo8 (cv A (o + j))))) ∧ (∀ (y : Addr) (c : Cell), y ≠ a → s.heap[y]? = some c → u.heap[y]? = some c) ∧ u.heap.size = s.heap.size + 1
theorem Got.mv {a : Addr} {D A : Cell} {fV fC : Field} {o len : Nat} : ∀ r (U U' V V' : State), U'.heap = U.heap → V.vm.Alike V'.vm → V'.heap = V.heap → Got a D fV fC A o len r U V → Got a D fV fC A o len r U' V' :=
  fun r U U' V V' h1 hal h2 ⟨e0, D', X, a1, a2, a3, a4, a5, a6, a7, a8, a9, a10, a11⟩ => ⟨e0, D', X, a1.mv hal h2, a2, by rw [h1]; exact a3, a4, by rw [h1]; exact a5.mv hal h2, a6, by rw [hal.findClass]; exact a7, a8, a9, by rw [h1, h2]; exact a10, by rw [h1, h2]; exact a11⟩
namespace New4
def yN : MethodName := ⟨"java/lang/String", "<init>", "([CIILjava/lang/Void;)V"⟩
abbrev yB : ByteArray := jdk_42_method_149_code
theorem d0 : decode yB 0 = .ok (.aload_n 0, 1) := by decide +kernel
theorem d1 : decode yB 1 = .ok (.invokespecial 1, 3) := by decide +kernel
theorem d4 : decode yB 4 = .ok (.iload_n 3, 1) := by decide +kernel
theorem d5 : decode yB 5 = .ok (.ifCond (.ne) 22, 3) := by decide +kernel
theorem d27 : decode yB 27 = .ok (.getstatic 38, 3) := by decide +kernel
theorem d30 : decode yB 30 = .ok (.ifCond (.eq) 28, 3) := by decide +kernel
theorem d33 : decode yB 33 = .ok (.aload_n 1, 1) := by decide +kernel
theorem d34 : decode yB 34 = .ok (.iload_n 2, 1) := by decide +kernel
theorem d35 : decode yB 35 = .ok (.iload_n 3, 1) := by decide +kernel
theorem d36 : decode yB 36 = .ok (.invokestatic 177, 3) := by decide +kernel
theorem d39 : decode yB 39 = .ok (.astore 5, 2) := by decide +kernel
theorem d41 : decode yB 41 = .ok (.aload_n 0, 1) := by decide +kernel
theorem d42 : decode yB 42 = .ok (.aload 5, 2) := by decide +kernel
theorem d44 : decode yB 44 = .ok (.iload_n 3, 1) := by decide +kernel
theorem d45 : decode yB 45 = .ok (.invokestatic 47, 3) := by decide +kernel
theorem d48 : decode yB 48 = .ok (.putfield 15, 3) := by decide +kernel
theorem d51 : decode yB 51 = .ok (.aload_n 0, 1) := by decide +kernel
theorem d52 : decode yB 52 = .ok (.aload 5, 2) := by decide +kernel
theorem d54 : decode yB 54 = .ok (.putfield 9, 3) := by decide +kernel
theorem d57 : decode yB 57 = .ok (.return_, 1) := by decide +kernel
def site : List Cond := [.fieldLink "java/lang/String" 38 "java/lang/String" "COMPACT_STRINGS" "Z", Cmp3.tab, CodL.tab, .laysFinal "java/lang/String" "java/lang/String" "value" "[B", .fieldLink "java/lang/String" 9 "java/lang/String" "value" "[B", .laysFinal "java/lang/String" "java/lang/String" "coder" "B", .fieldLink "java/lang/String" 15 "java/lang/String" "coder" "B"] ++ objW "java/lang/String" 1 ++ staticW "java/lang/String" 177 Cmp3.yN ++ staticW "java/lang/String" 47 CodL.yN
def tab : Cond := tabOf yN yB 6 none site
def P (a : Addr) (D : Cell) (fV fC : Field) (b : Addr) (A : Cell) (z : Int32) (o len : Nat) (args : Array Value) (s : State) : Prop := args = #[.ref a, .ref b, .int (Int32.ofNat o), .int (Int32.ofNat len), .null] ∧ Blank "java/lang/String" a D s ∧ Found "java/lang/String" "value" "[B" fV s ∧ Found "java/lang/String" "coder" "B" fC s ∧ Ch b A s ∧ StaticIs s "java/lang/String" "COMPACT_STRINGS" "Z" (.int z) ∧ ¬ z = 0 ∧ 0 < len ∧ o + len ≤ A.slots.size ∧ len ≤ 536870912 ∧ ∀ i, i < len → ¬ 255 < cv A (o + i)
def E (a : Addr) (D : Cell) (fV fC : Field) (A : Cell) (o len : Nat) (r : Option Value) (s u : State) : Prop := Got a D fV fC A o len r s u
/-- len > 0, no char of the range above 255: a Latin-1 String of their low bytes -/
theorem law (l : Launch) (a : Addr) (D : Cell) (fV fC : Field) (b : Addr) (A : Cell) (z : Int32) (o len : Nat) : Law l yN 5 4 2 35 yB 6 none site (P a D fV fC b A z o len) (E a D fV fC A o len) [⟨a, fC.slot⟩, ⟨a, fV.slot⟩] 1 len := by
  refine Law.of_walk (plainFor_of_name (by decide +kernel)) (by decide +kernel) (by decide +kernel) (by decide) (fun _ _ h => by rw [h.1]; rfl) (fun _ U U' hal hh h => ⟨h.1, h.2.1.mv hal hh, h.2.2.1.al hal, h.2.2.2.1.al hal, h.2.2.2.2.1.mv hal hh, h.2.2.2.2.2.1.there hal hh, h.2.2.2.2.2.2⟩) (fun r U U' V V' h1 hal h2 h => Got.mv r U U' V V' h1 hal h2 h) ?_
  intro p e s m args below meth c s₁ X0 hexec hbytes hml hret hlk hnm hown hh0 W hP
  obtain ⟨rfl, hB, f1, f2, hA, s1, hz, l0, l1, l2, hp⟩ := hP
  have a31 := hA.1.2.2.2
  have c1 : Steps p.tables e below (s₁.setTop (entryFrame m #[.ref a, .ref b, .int (Int32.ofNat o), .int (Int32.ofNat len), .null] 6)) (s₁.setTop (mkF m 0 #[.val (.ref a), .val (.ref b), .val (.int (Int32.ofNat o)), .val (.int (Int32.ofNat len)), .val .null, .unset] [])) := entry rfl
  have c2 : Steps p.tables e below (s₁.setTop (entryFrame m #[.ref a, .ref b, .int (Int32.ofNat o), .int (Int32.ofNat len), .null] 6)) (s₁.setTop (mkF m 1 #[.val (.ref a), .val (.ref b), .val (.int (Int32.ofNat o)), .val (.int (Int32.ofNat len)), .val .null, .unset] [.ref a])) := c1.trans (by
    refine XS.aloadN X0.here hexec rfl (hb hbytes d0) rfl rfl ?_
    exact Steps.refl _)
  obtain ⟨T3, X3, q3, st3⟩ := X0.oinit hexec hown (wks W (objW "java/lang/String" 1)) (g := (mkF m 1 #[.val (.ref a), .val (.ref b), .val (.int (Int32.ofNat o)), .val (.int (Int32.ofNat len)), .val .null, .unset] [.ref a])) rfl (by rw [hml]; rfl) (rest := []) rfl (hb hbytes d1) (W := 0) (by show 2 * 0 + 0 ≤ _; decide) (Nat.le_of_ble_eq_true rfl) (Nat.le_of_ble_eq_true rfl)
  have hh3 := q3.trans hh0
  have c4 : Steps p.tables e below (s₁.setTop (entryFrame m #[.ref a, .ref b, .int (Int32.ofNat o), .int (Int32.ofNat len), .null] 6)) (T3.setTop (mkF m 27 #[.val (.ref a), .val (.ref b), .val (.int (Int32.ofNat o)), .val (.int (Int32.ofNat len)), .val .null, .unset] [])) := (c2.trans (st3 _ (Steps.refl _))).trans (by
    refine XS.iloadN X3.here hexec rfl (hb hbytes d4) rfl ?_
    refine XS.ifYes X3.here hexec rfl (pc0 := 5) rfl (hb hbytes d5) rfl (i0_ne_t (nz32 (by omega) l0)) (by decide) rfl ?_
    exact Steps.refl _)
  obtain ⟨T5, X5, q5, st5⟩ := X3.sget hexec hown (wk W (.fieldLink "java/lang/String" 38 "java/lang/String" "COMPACT_STRINGS" "Z")) s1 (fun _ _ h => by rw [hh3]; exact h) (g := (mkF m 27 #[.val (.ref a), .val (.ref b), .val (.int (Int32.ofNat o)), .val (.int (Int32.ofNat len)), .val .null, .unset] [])) rfl (hb hbytes d27)
  have hh5 := q5.trans hh3
  have c6 : Steps p.tables e below (s₁.setTop (entryFrame m #[.ref a, .ref b, .int (Int32.ofNat o), .int (Int32.ofNat len), .null] 6)) (T5.setTop (mkF m 30 #[.val (.ref a), .val (.ref b), .val (.int (Int32.ofNat o)), .val (.int (Int32.ofNat len)), .val .null, .unset] [.int z])) := c4.trans (st5 _ (Steps.refl _))
  have c7 : Steps p.tables e below (s₁.setTop (entryFrame m #[.ref a, .ref b, .int (Int32.ofNat o), .int (Int32.ofNat len), .null] 6)) (T5.setTop (mkF m 36 #[.val (.ref a), .val (.ref b), .val (.int (Int32.ofNat o)), .val (.int (Int32.ofNat len)), .val .null, .unset] [.int (Int32.ofNat len), .int (Int32.ofNat o), .ref b])) := c6.trans (by
    refine XS.ifNo X5.here hexec rfl (hb hbytes d30) rfl (i0_eq_f hz) ?_
    refine XS.aloadN X5.here hexec rfl (hb hbytes d33) rfl rfl ?_
    refine XS.iloadN X5.here hexec rfl (hb hbytes d34) rfl ?_
    refine XS.iloadN X5.here hexec rfl (hb hbytes d35) rfl ?_
    exact Steps.refl _)
  obtain ⟨v8, T8, X8, E8, g8⟩ := X5.callS hexec (Cmp3.law l b A o len) hown (wks W (staticW "java/lang/String" 177 Cmp3.yN)) (wk W Cmp3.tab) (W := 0) (Nat.le_of_ble_eq_true rfl) (Nat.le_of_ble_eq_true rfl) (Nat.le_refl _) (by show 0 + len ≤ len; omega) (g := (mkF m 36 #[.val (.ref a), .val (.ref b), .val (.int (Int32.ofNat o)), .val (.int (Int32.ofNat len)), .val .null, .unset] [.int (Int32.ofNat len), .int (Int32.ofNat o), .ref b])) rfl (by rw [hml]; rfl) c7 (argsL := [.ref b, .int (Int32.ofNat o), .int (Int32.ofNat len)]) (rest := []) rfl rfl (by show 2 * 0 + 0 ≤ _; decide) (hb hbytes d36) (⟨rfl, hA.mv X5.warmed.alike hh5, l1, l2, hp⟩)
  obtain ⟨e8, z8⟩ := E8
  obtain ⟨rfl, N, n1, n2, n3, n4, n5, n6⟩ := NewArr.mv _ T5 s _ _ hh5.symm (Vm.Alike.refl _) rfl e8
  rw [hh5] at z8
  have hB1 := hB.keep X8.warmed.alike (n6 _ _ hB.1)
  have hne : s.heap.size ≠ a := (Nat.ne_of_lt (Array.getElem?_eq_some_iff.mp hB.1).1).symm
  have c9 : Steps p.tables e below (s₁.setTop (entryFrame m #[.ref a, .ref b, .int (Int32.ofNat o), .int (Int32.ofNat len), .null] 6)) (T8.setTop (mkF m 39 #[.val (.ref a), .val (.ref b), .val (.int (Int32.ofNat o)), .val (.int (Int32.ofNat len)), .val .null, .unset] [.ref s.heap.size])) := g8
  have c10 : Steps p.tables e below (s₁.setTop (entryFrame m #[.ref a, .ref b, .int (Int32.ofNat o), .int (Int32.ofNat len), .null] 6)) (T8.setTop (mkF m 45 #[.val (.ref a), .val (.ref b), .val (.int (Int32.ofNat o)), .val (.int (Int32.ofNat len)), .val .null, .val (.ref s.heap.size)] [.int (Int32.ofNat N.slots.size), .ref s.heap.size, .ref a])) := by
    have hc : Steps p.tables e below (s₁.setTop (entryFrame m #[.ref a, .ref b, .int (Int32.ofNat o), .int (Int32.ofNat len), .null] 6)) (T8.setTop (mkF m 45 #[.val (.ref a), .val (.ref b), .val (.int (Int32.ofNat o)), .val (.int (Int32.ofNat len)), .val .null, .val (.ref s.heap.size)] [.int (Int32.ofNat len), .ref s.heap.size, .ref a])) := c9.trans (by
      refine XS.astore X8.here hexec rfl (hb hbytes d39) rfl rfl rfl ?_
      refine XS.aloadN X8.here hexec rfl (hb hbytes d41) rfl rfl ?_
      refine XS.aload X8.here hexec rfl (hb hbytes d42) rfl rfl ?_
      refine XS.iloadN X8.here hexec rfl (hb hbytes d44) rfl ?_
      exact Steps.refl _)
    rw [n4]; exact hc
  obtain ⟨v11, T11, X11, E11, g11⟩ := X8.callS hexec (CodL.law l s.heap.size N) hown (wks W (staticW "java/lang/String" 47 CodL.yN)) (wk W CodL.tab) (W := 1) (Nat.le_of_ble_eq_true rfl) (Nat.le_of_ble_eq_true rfl) (Nat.le_refl _) (by show 0 + len + 0 ≤ len; omega) (g := (mkF m 45 #[.val (.ref a), .val (.ref b), .val (.int (Int32.ofNat o)), .val (.int (Int32.ofNat len)), .val .null, .val (.ref s.heap.size)] [.int (Int32.ofNat N.slots.size), .ref s.heap.size, .ref a])) rfl (by rw [hml]; rfl) c10 (argsL := [.ref s.heap.size, .int (Int32.ofNat N.slots.size)]) (rest := [.ref a]) rfl rfl (by show 2 * 0 + (1 + 0) ≤ _; decide) (hb hbytes d45) (⟨rfl, n1⟩)
  obtain ⟨rfl, q11⟩ := E11
  have hB11 := hB1.mv (X8.warmed.alike.symm.trans X11.warmed.alike) q11
  have c12 : Steps p.tables e below (s₁.setTop (entryFrame m #[.ref a, .ref b, .int (Int32.ofNat o), .int (Int32.ofNat len), .null] 6)) (T11.setTop (mkF m 48 #[.val (.ref a), .val (.ref b), .val (.int (Int32.ofNat o)), .val (.int (Int32.ofNat len)), .val .null, .val (.ref s.heap.size)] [.int 0, .ref a])) := g11
  obtain ⟨T13, X13, p13, bl13, sl13, st13⟩ := X11.finit hexec hown (wk W (.fieldLink "java/lang/String" 15 "java/lang/String" "coder" "B")) (Or.inr ⟨_, (wk W (.laysFinal "java/lang/String" "java/lang/String" "coder" "B"))⟩) (Or.inl ⟨rfl, hnm⟩) f2 (Or.inl rfl) hB11 (t := .byte) (by decide +kernel) rfl (g := (mkF m 48 #[.val (.ref a), .val (.ref b), .val (.int (Int32.ofNat o)), .val (.int (Int32.ofNat len)), .val .null, .val (.ref s.heap.size)] [.int 0, .ref a])) rfl (rest := []) rfl (hb hbytes d48)
  have c14 : Steps p.tables e below (s₁.setTop (entryFrame m #[.ref a, .ref b, .int (Int32.ofNat o), .int (Int32.ofNat len), .null] 6)) (T13.setTop (mkF m 54 #[.val (.ref a), .val (.ref b), .val (.int (Int32.ofNat o)), .val (.int (Int32.ofNat len)), .val .null, .val (.ref s.heap.size)] [.ref s.heap.size, .ref a])) := (c12.trans (st13 _ (Steps.refl _))).trans (by
    refine XS.aloadN X13.here hexec rfl (hb hbytes d51) rfl rfl ?_
    refine XS.aload X13.here hexec rfl (hb hbytes d52) rfl rfl ?_
    exact Steps.refl _)
  obtain ⟨T15, X15, p15, bl15, sl15, st15⟩ := X13.finit hexec hown (wk W (.fieldLink "java/lang/String" 9 "java/lang/String" "value" "[B")) (Or.inr ⟨_, (wk W (.laysFinal "java/lang/String" "java/lang/String" "value" "[B"))⟩) (Or.inl ⟨rfl, hnm⟩) f1 (Or.inl rfl) bl13 (t := (.array .byte)) (by decide +kernel) rfl (g := (mkF m 54 #[.val (.ref a), .val (.ref b), .val (.int (Int32.ofNat o)), .val (.int (Int32.ofNat len)), .val .null, .val (.ref s.heap.size)] [.ref s.heap.size, .ref a])) rfl (rest := []) rfl (hb hbytes d54)
  have c16 : Steps p.tables e below (s₁.setTop (entryFrame m #[.ref a, .ref b, .int (Int32.ofNat o), .int (Int32.ofNat len), .null] 6)) (T15.setTop (mkF m 57 #[.val (.ref a), .val (.ref b), .val (.int (Int32.ofNat o)), .val (.int (Int32.ofNat len)), .val .null, .val (.ref s.heap.size)] [])) := c14.trans (st15 _ (Steps.refl _))
  have ap := apart (Or.inr ⟨_, (wk W (.laysFinal "java/lang/String" "java/lang/String" "value" "[B"))⟩) (Or.inr ⟨_, (wk W (.laysFinal "java/lang/String" "java/lang/String" "coder" "B"))⟩) f1 f2 (t₁ := .array .byte) (t₂ := .byte) (by decide +kernel) (by decide +kernel) (by decide)
  have al := X8.warmed.alike.symm.trans X15.warmed.alike
  have n7 : T11.heap[s.heap.size]? = some N := by rw [q11]; exact n1.1
  exact ⟨T15, none, _, _, _, X15, by simp, rfl, by omega, (fun _ => rfl), ⟨rfl, _, N, bl15, ((Same.refl D _).set _ (by simp)).set _ (by simp), sl15, (Cell.slots_setSlot_ne _ ap).trans sl13, n1.keep al (p15.other hne (p13.other hne n7)), n2, by rw [al.findClass]; exact n3, n4, n5, fun y c h1 h2 => p15.other h1 (p13.other h1 (by rw [q11]; exact n6 y c h2)), by rw [p15.2.2, p13.2.2, q11]; exact z8⟩, fun fs hl => c16.trans (X15.returnOut hexec hret (hb hbytes d57) hl)⟩
end New4
namespace New1
def yN : MethodName := ⟨"java/lang/String", "<init>", "([C)V"⟩
abbrev yB : ByteArray := jdk_42_method_3_code
theorem d0 : decode yB 0 = .ok (.aload_n 0, 1) := by decide +kernel
theorem d1 : decode yB 1 = .ok (.aload_n 1, 1) := by decide +kernel
theorem d2 : decode yB 2 = .ok (.iconst 0, 1) := by decide +kernel
theorem d3 : decode yB 3 = .ok (.aload_n 1, 1) := by decide +kernel
theorem d4 : decode yB 4 = .ok (.arraylength, 1) := by decide +kernel
theorem d5 : decode yB 5 = .ok (.aconst_null, 1) := by decide +kernel
theorem d6 : decode yB 6 = .ok (.invokespecial 27, 3) := by decide +kernel
theorem d9 : decode yB 9 = .ok (.return_, 1) := by decide +kernel
def site : List Cond := [New4.tab] ++ initW "java/lang/String" 27 New4.yN
def tab : Cond := tabOf yN yB 2 none site
def P (a : Addr) (D : Cell) (fV fC : Field) (b : Addr) (A : Cell) (z : Int32) (args : Array Value) (s : State) : Prop := args = #[.ref a, .ref b] ∧ Blank "java/lang/String" a D s ∧ Found "java/lang/String" "value" "[B" fV s ∧ Found "java/lang/String" "coder" "B" fC s ∧ Ch b A s ∧ StaticIs s "java/lang/String" "COMPACT_STRINGS" "Z" (.int z) ∧ ¬ z = 0 ∧ 0 < A.slots.size ∧ A.slots.size ≤ 536870912 ∧ ∀ i, i < A.slots.size → ¬ 255 < cv A i
def E (a : Addr) (D : Cell) (fV fC : Field) (A : Cell) (r : Option Value) (s u : State) : Prop := Got a D fV fC A 0 A.slots.size r s u
/-- new String(chars), not empty, no char above 255: a Latin-1 String of their low bytes -/
theorem law (l : Launch) (a : Addr) (D : Cell) (fV fC : Field) (b : Addr) (A : Cell) (z : Int32) : Law l yN 2 1 3 52 yB 2 none site (P a D fV fC b A z) (E a D fV fC A) [⟨a, fC.slot⟩, ⟨a, fV.slot⟩] 1 A.slots.size := by
  refine Law.of_walk (plainFor_of_name (by decide +kernel)) (by decide +kernel) (by decide +kernel) (by decide) (fun _ _ h => by rw [h.1]; rfl) (fun _ U U' hal hh h => ⟨h.1, h.2.1.mv hal hh, h.2.2.1.al hal, h.2.2.2.1.al hal, h.2.2.2.2.1.mv hal hh, h.2.2.2.2.2.1.there hal hh, h.2.2.2.2.2.2⟩) (fun r U U' V V' h1 hal h2 h => Got.mv r U U' V V' h1 hal h2 h) ?_
  intro p e s m args below meth c s₁ X0 hexec hbytes hml hret hlk hnm hown hh0 W hP
  obtain ⟨rfl, hB, f1, f2, hA, s1, hz, l0, l2, hp⟩ := hP
  have c1 : Steps p.tables e below (s₁.setTop (entryFrame m #[.ref a, .ref b] 2)) (s₁.setTop (mkF m 0 #[.val (.ref a), .val (.ref b)] [])) := entry rfl
  have c2 : Steps p.tables e below (s₁.setTop (entryFrame m #[.ref a, .ref b] 2)) (s₁.setTop (mkF m 6 #[.val (.ref a), .val (.ref b)] [.null, .int (Int32.ofNat A.slots.size), .int 0, .ref b, .ref a])) := c1.trans (by
    refine XS.aloadN X0.here hexec rfl (hb hbytes d0) rfl rfl ?_
    refine XS.aloadN X0.here hexec rfl (hb hbytes d1) rfl rfl ?_
    refine iconstV X0.here hexec rfl 0 (hb hbytes d2) (by decide) ?_
    refine XS.aloadN X0.here hexec rfl (hb hbytes d3) rfl rfl ?_
    refine X0.alen hexec (hA.1.mv X0.warmed.alike hh0) rfl rfl (hb hbytes d4) ?_
    refine XS.aconstNull X0.here hexec rfl (hb hbytes d5) ?_
    exact Steps.refl _)
  obtain ⟨v3, T3, X3, E3, g3⟩ := X0.callN hexec (New4.law l a D fV fC b A z 0 A.slots.size) rfl hown (wks W (initW "java/lang/String" 27 New4.yN)) (W New4.tab (by simp only [site, List.mem_cons, List.mem_append, true_or, or_true])) (W := 0) (Nat.le_of_ble_eq_true rfl) (Nat.le_of_ble_eq_true rfl) (Nat.le_refl _) (by show 0 + A.slots.size ≤ A.slots.size; omega) (g := (mkF m 6 #[.val (.ref a), .val (.ref b)] [.null, .int (Int32.ofNat A.slots.size), .int (Int32.ofNat 0), .ref b, .ref a])) rfl (by rw [hml]; rfl) c2 (argsL := [.ref b, .int (Int32.ofNat 0), .int (Int32.ofNat A.slots.size), .null]) (rest := []) rfl rfl (by show 2 * 0 + 0 ≤ _; decide) (hb hbytes d6) (⟨rfl, hB.mv X0.warmed.alike hh0, f1.al X0.warmed.alike, f2.al X0.warmed.alike, hA.mv X0.warmed.alike hh0, s1.there X0.warmed.alike hh0, hz, l0, by omega, l2, fun i hi => by rw [Nat.zero_add]; exact hp i hi⟩)
  have e0 := Got.mv _ s₁ s _ _ hh0.symm (Vm.Alike.refl _) rfl E3
  obtain rfl := e0.1
  have c4 : Steps p.tables e below (s₁.setTop (entryFrame m #[.ref a, .ref b] 2)) (T3.setTop (mkF m 9 #[.val (.ref a), .val (.ref b)] [])) := g3
  exact ⟨T3, none, _, _, _, X3, by simp, rfl, by omega, (fun _ => rfl), e0, fun fs hl => c4.trans (X3.returnOut hexec hret (hb hbytes d9) hl)⟩
theorem pays {l : Launch} {R : Room} {p : Program} {e : Env} {below : List Frame} {s : State} {sargs : Array Value} {len W : Nat} (a : Addr) (D : Cell) (fV fC : Field) (b : Addr) (A : Cell) (z : Int32) (htab : tab.before sargs s = true) (hfr : 4 ≤ R.frames) (hlo : W + 65 ≤ R.locals) :
    Back l R p e below s sargs yN len W (fun A₁ a₁ => A₁.cells + 1 ≤ R.cells ∧ A₁.slots + A.slots.size ≤ R.slots ∧ P a D fV fC b A z a₁ A₁.U) (fun A₁ _ v₁ B₁ => E a D fV fC A v₁ A₁.U B₁.U ∧ B₁.locs = A₁.locs ++ [⟨a, fC.slot⟩, ⟨a, fV.slot⟩] ∧ B₁.cells = A₁.cells + 1 ∧ B₁.slots = A₁.slots + A.slots.size) :=
  (law l a D fV fC b A z).pays htab hfr (by omega)
end New1
/-- the byte, read back as charAt reads it, is the char -/
theorem lo8_mask {x : Int32} (h0 : ¬ x < 0) (h1 : ¬ 255 < x) : lo8 x &&& 255 = x := by
  have t : ∀ k : Fin 256, lo8 (Int32.ofNat k.val) &&& 255 = Int32.ofNat k.val := by decide +kernel
  rw [Int32.lt_iff_toInt_lt] at h0 h1
  have e0 : (0 : Int32).toInt = 0 := rfl
  have e1 : (255 : Int32).toInt = 255 := rfl
  obtain ⟨k, hk⟩ : ∃ k : Nat, x.toInt = k := ⟨x.toInt.toNat, by omega⟩
  have hx : x = Int32.ofNat k := Int32.toInt_inj.mp (by rw [hk, Int32.toInt_ofNat_small (by omega)])
  rw [hx]
  exact t ⟨k, by omega⟩
end StrChars
namespace StrChars.Road
open Jvm Sem ClassFile Op Lib Jvm.Stand Jvm.Free Jvm.Free.XT
open Jvm.Lib.Cold (StaticIs)
abbrev ST : String := "java/lang/String"
/-- every table word that New1's law asks, flat -/
abbrev words : List Jvm.Cond := [.code New1.yN New1.yB 2 none, .initialized ST, .methodLink ST 27 New4.yN, .instanceMethod New4.yN,
  .code New4.yN New4.yB 6 none, .fieldLink ST 38 ST "COMPACT_STRINGS" "Z", .laysFinal ST ST "value" "[B", .fieldLink ST 9 ST "value" "[B", .laysFinal ST ST "coder" "B", .fieldLink ST 15 ST "coder" "B",
  .methodLink ST 1 Lib.objectInit, .instanceMethod Lib.objectInit, .code Lib.objectInit ⟨#[0xb1]⟩ 1 none, .methodLink ST 177 Cmp3.yN, .static Cmp3.yN, .methodLink ST 47 CodL.yN, .static CodL.yN,
  .code Cmp3.yN Cmp3.yB 6 (some (.array .byte)), .initialized U16, .arrayClass .byte, .methodLink U16 115 Cmp5.yN, .static Cmp5.yN, .code Cmp5.yN Cmp5.yB 7 (some .int), .code CodL.yN CodL.yB 2 (some .byte)]
theorem tab_of {a : Array Value} {s : State} (h : ∀ w ∈ words, w.before a s = true) : New1.tab.before a s = true := by
  have h5 : Cmp5.tab.before a s = true := unparts (wk h (.code Cmp5.yN Cmp5.yB 7 (some .int))) (wks h (.initialized Cmp5.yN.cls :: Cmp5.site))
  have hc : CodL.tab.before a s = true := unparts (wk h (.code CodL.yN CodL.yB 2 (some .byte))) (wks h (.initialized CodL.yN.cls :: CodL.site))
  have q5 : ∀ w ∈ Cmp5.tab :: words, w.before a s = true := fun w hw => (List.mem_cons.mp hw).elim (fun e => e ▸ h5) (h w)
  have h3 : Cmp3.tab.before a s = true := unparts (wk q5 (.code Cmp3.yN Cmp3.yB 6 (some (.array .byte)))) (wks q5 (.initialized Cmp3.yN.cls :: Cmp3.site))
  have q3 : ∀ w ∈ Cmp3.tab :: CodL.tab :: words, w.before a s = true := fun w hw => (List.mem_cons.mp hw).elim (fun e => e ▸ h3) fun hw => (List.mem_cons.mp hw).elim (fun e => e ▸ hc) (h w)
  have h4 : New4.tab.before a s = true := unparts (wk q3 (.code New4.yN New4.yB 6 none)) (wks q3 (.initialized New4.yN.cls :: New4.site))
  have q4 : ∀ w ∈ New4.tab :: words, w.before a s = true := fun w hw => (List.mem_cons.mp hw).elim (fun e => e ▸ h4) (h w)
  exact unparts (wk q4 (.code New1.yN New1.yB 2 none)) (wks q4 (.initialized New1.yN.cls :: New1.site))
/-- the words ride from the start Z to the walk's own state -/
theorem moved {Z s : State} {a0 args : Array Value} (hZ : Z.Warmed39 s.vm) (hw : ∀ d ∈ words, d.before a0 Z = true) : ∀ d ∈ words, d.before args s = true := fun d hd => by
  have q := hw d hd
  have t : ∀ d ∈ words, d = .arrayClass .byte ∨ (d.onTables && d.keepsFace) = true := by decide +kernel
  rcases t d hd with rfl | t
  · exact RoadKit.mvA hZ q
  · exact RoadKit.mv hZ q t
/-- WHAT COMES BACK, over the tables of the start Z: h the heap at the call, h' behind it -/
def Q (Z : State) (x : Addr) (A : Cell) (h : Heap) (v : Option Value) (h' : Heap) (L : List Loc) : Prop := v = none ∧ (∀ y ∈ L, y.base = x) ∧ RoadKit.Keep h h' [x] ∧ h'.size = h.size + 1 ∧ RoadKit.Exa Z h' x ST ∧ RoadKit.Fld Z h' x ST "value" "[B" (.ref h.size) ∧ RoadKit.Fld Z h' x ST "coder" "B" (.int 0) ∧
  (∃ V : Cell, RoadKit.Arr Z h' h.size V .byte ∧ V.vm = .none ∧ Z.vm.findClass "[B" = some V.cls ∧ V.slots.size = A.slots.size ∧ ∀ j, j < A.slots.size → V.slots[j]? = some (.int (lo8 (cv A j)))) ∧
  ∀ (O n d : String) (w : Value), RoadKit.Fld Z h x O n d w → RoadKit.slotOf Z O n d ≠ RoadKit.slotOf Z ST "value" "[B" → RoadKit.slotOf Z O n d ≠ RoadKit.slotOf Z ST "coder" "B" → RoadKit.Fld Z h' x O n d w
/-- **new String(chars) AT A CALL, IN THE ROAD'S FORM**: for specialBack behind newO: x the fresh String, b the char[] with the cell A -/
theorem back {p : Program} {l : Launch} {e : Env} {R : Room} {s : State} {args : Array Value} {below : List Frame} {len W : Nat} {Z : State} {a0 : Array Value} {h : Heap} (hZ : Z.Warmed39 s.vm) (hw : ∀ d ∈ words, d.before a0 Z = true) {kI : Nat} (wi : (Jvm.Cond.instantiable ST kI).before a0 Z = true)
    {x b : Addr} {A : Cell} {z : Int32} {v0 c0 : Value} (E : RoadKit.Exa Z h x ST) (V : RoadKit.Fld Z h x ST "value" "[B" v0) (C : RoadKit.Fld Z h x ST "coder" "B" c0) (K : RoadKit.Arr Z h b A .char) (hty : Typed .char A) (S : RoadKit.Sta Z h ST "COMPACT_STRINGS" "Z" (.int z)) (hz : ¬ z = 0)
    (l0 : 0 < A.slots.size) (l2 : A.slots.size ≤ 536870912) (hp : ∀ i, i < A.slots.size → ¬ 255 < cv A i) (hfr : 4 ≤ R.frames) (hlo : W + 65 ≤ R.locals) :
    Back l R p e below s args New1.yN len W (fun P a => a = #[.ref x, .ref b] ∧ P.U.heap = h ∧ P.cells + 1 ≤ R.cells ∧ P.slots + A.slots.size ≤ R.slots)
      (fun P _ v B => ∃ L, Q Z x A h v B.U.heap L ∧ B.locs = P.locs ++ L ∧ B.cells = P.cells + 1 ∧ B.slots = P.slots + A.slots.size) := by
  intro m meth c P g ig mk a X hg hsize hdg hW hn hp'
  obtain ⟨rfl, rfl, r1, r2⟩ := hp'
  have al : Z.vm.Alike P.U.vm := hZ.alike.trans X.warmed.alike
  obtain ⟨D, cfV, kV, iV, fV, hD, gV, stV, knV, obV, asV, slV⟩ := id V
  obtain ⟨D', cfC, kC, iC, fC, hD', gC, stC, -, -, asC, slC⟩ := id C
  cases hD.symm.trans hD'
  obtain ⟨D2, kD, e1, e2, e3, e4, e5⟩ := id E
  cases hD.symm.trans e1
  obtain ⟨c2, k2, i1, i2, i3, -⟩ := Cond.instantiable_spec wi
  cases e2.symm.trans i1
  cases e3.symm.trans i2
  obtain ⟨kU, u1, u2⟩ := al.2.2 _ _ e3
  have hB : Blank ST x D P.U := ⟨hD, ⟨knV, fun q hq => by rw [hq] at obV; cases obV⟩, by rw [al.findClass]; exact e2, kU, u1, by rw [u2]; exact i3, by rw [u2]; exact e5 i3⟩
  have F1 : Found ST "value" "[B" fV P.U := ⟨SBG.found_only al ⟨cfV, kV, iV, gV⟩, stV⟩
  have F2 : Found ST "coder" "B" fC P.U := ⟨SBG.found_only al ⟨cfC, kC, iC, gC⟩, stC⟩
  have hA : Ch b A P.U := ⟨⟨K.1, State.isArrayOf_alike al K.2.1, K.2.2, by omega⟩, hty⟩
  have hS : StaticIs P.U ST "COMPACT_STRINGS" "Z" (.int z) := by
    obtain ⟨cfS, iS, kS, fS, st, cS, t1, t2, t3, t4, t5, t6, t7⟩ := S
    exact StaticIs.there (s := { Z with heap := P.U.heap }) ⟨cfS, iS, kS, fS, st, cS, t1, t2, t3, t4, t5, (fun q => by rw [q] at t6; cases t6), t7⟩ al rfl
  obtain ⟨v, B, X', ⟨⟨hv, E', V', q1, q2, q3, q4, q5, q6, q7, q8, q9, q10, q11⟩, hl, hc, hs⟩, st⟩ := New1.pays x D fV fC b A z (tab_of (moved hZ hw)) hfr hlo m meth c P g ig mk _ X hg hsize hdg hW hn ⟨r1, r2, rfl, hB, F1, F2, hA, hS, hz, l0, l2, hp⟩
  have al' : Z.vm.Alike B.U.vm := hZ.alike.trans X'.warmed.alike
  have hsz : E'.slots.size = D.slots.size := by
    obtain ⟨-, -, -, kB, w1, w2, w3⟩ := q1
    obtain ⟨kB', y1, y2⟩ := al'.2.2 _ _ e3
    rw [q2.2.1] at w1
    cases w1.symm.trans y1
    rw [w3, e5 i3, y2]
  refine ⟨v, B, X', ⟨_, ⟨hv, ?_, ⟨by omega, fun y cy hy hn' => q10 y cy (by simpa using hn') hy, fun y cy hy => ?_⟩, q11, ⟨E', _, q1.1, by rw [q2.2.1]; exact e2, by rw [q2.2.1]; exact e3, by rw [q2.1]; exact obV, fun _ => by rw [hsz]; exact e5 i3⟩,
    ⟨E', cfV, kV, iV, fV, q1.1, gV, stV, by rw [q2.1]; exact knV, by rw [q2.1]; exact obV, by rw [q2.2.1]; exact asV, q3⟩, ⟨E', cfC, kC, iC, fC, q1.1, gC, stC, by rw [q2.1]; exact knV, by rw [q2.1]; exact obV, by rw [q2.2.1]; exact asC, q4⟩,
    ⟨V', ⟨q5.1, State.isArrayOf_alike al'.symm q5.2.1, q5.2.2.1⟩, q6, by rw [← al'.findClass]; exact q7, q8, fun j hj => by have := q9 j hj; rwa [Nat.zero_add] at this⟩, fun O n d w F n1 n2 => ?_⟩, hl, hc, hs⟩, st⟩
  · intro y hy
    simp only [List.mem_cons, List.not_mem_nil, or_false] at hy
    rcases hy with rfl | rfl <;> rfl
  · by_cases q : y = x
    · subst q
      cases hD.symm.trans hy
      exact ⟨E', q1.1, q2.2.1, q2.1, hsz⟩
    · exact ⟨cy, q10 y cy q hy, rfl, rfl, rfl⟩
  · obtain ⟨D3, cf, k, i, f, g1, g2, g3, g4, g5, g6, g7⟩ := F
    cases hD.symm.trans g1
    simp only [RoadKit.slotOf, g2, gV, gC, Option.map_some, Option.getD_some] at n1 n2
    exact ⟨E', cf, k, i, f, q1.1, g2, g3, by rw [q2.1]; exact g4, by rw [q2.1]; exact g5, by rw [q2.2.1]; exact g6, by rw [q2.2.2 f.slot (by simp [n1, n2])]; exact g7⟩
end StrChars.Road
namespace StrChars.Road
open Jvm Sem ClassFile Op Lib Jvm.Stand Jvm.Free Jvm.Free.XT
/-- WHAT COMES BACK, the byte[] as a list of values -/
def QA (Z : State) (x : Addr) (zn : Int32) (cs : List Int32) (h : Heap) (v : Option Value) (h' : Heap) (L : List Loc) : Prop := v = none ∧ (∀ y ∈ L, y.base = x) ∧ RoadKit.Keep h h' [x] ∧ h'.size = h.size + 1 ∧ RoadKit.Exa Z h' x ST ∧ RoadKit.Fld Z h' x ST "value" "[B" (.ref h.size) ∧ RoadKit.Fld Z h' x ST "coder" "B" (.int 0) ∧
  (∃ kb, Z.vm.findClass "[B" = some kb ∧ RoadKit.Arv Z h' h.size kb .byte zn (cs.map fun c => .int (lo8 c)) (.int 0)) ∧
  ∀ (O n d : String) (w : Value), RoadKit.Fld Z h x O n d w → RoadKit.slotOf Z O n d ≠ RoadKit.slotOf Z ST "value" "[B" → RoadKit.slotOf Z O n d ≠ RoadKit.slotOf Z ST "coder" "B" → RoadKit.Fld Z h' x O n d w
/-- **new String(chars) AT A CALL, THE ARRAYS AS LISTS**: the char[] at b holds cs, not empty, no char above 255 -/
theorem backArv {p : Program} {l : Launch} {e : Env} {R : Room} {s : State} {args : Array Value} {below : List Frame} {len W : Nat} {Z : State} {a0 : Array Value} {h : Heap} (hZ : Z.Warmed39 s.vm) (hw : ∀ d ∈ words, d.before a0 Z = true) {kI : Nat} (wi : (Jvm.Cond.instantiable ST kI).before a0 Z = true)
    {x b : Addr} {k : ClassId} {zn z : Int32} {cs : List Int32} {dv v0 c0 : Value} (E : RoadKit.Exa Z h x ST) (V : RoadKit.Fld Z h x ST "value" "[B" v0) (C : RoadKit.Fld Z h x ST "coder" "B" c0) (K : RoadKit.Arv Z h b k .char zn (cs.map Value.int) dv) (S : RoadKit.Sta Z h ST "COMPACT_STRINGS" "Z" (.int z)) (hz : ¬ z = 0)
    (hlen : zn.toNatClampNeg = cs.length) (h0 : 0 < cs.length) (hbig : cs.length ≤ 536870912) (hall : ∀ c ∈ cs, ¬ 255 < c) (hfr : 4 ≤ R.frames) (hlo : W + 65 ≤ R.locals) :
    Back l R p e below s args New1.yN len W (fun P a => a = #[.ref x, .ref b] ∧ P.U.heap = h ∧ P.cells + 1 ≤ R.cells ∧ P.slots + cs.length ≤ R.slots)
      (fun P _ v B => ∃ L, QA Z x zn cs h v B.U.heap L ∧ B.locs = P.locs ++ L ∧ B.cells = P.cells + 1 ∧ B.slots = P.slots + cs.length) := by
  obtain ⟨A, K1, K2, K3, K4, K5, K6⟩ := K
  have e : A.slots.size = cs.length := K3.trans hlen
  have hat : ∀ (i : Nat) (hi : i < cs.length), A.slots[i]? = some (.int cs[i]) := fun i hi => by rw [K5 i (by omega)]; simp [List.getD_eq_getElem?_getD, hi]
  have hcv : ∀ (i : Nat) (hi : i < cs.length), cv A i = cs[i] := fun i hi => by unfold cv; rw [hat i hi]
  have hty : Typed .char A := fun i v hv => by
    have hi : i < A.slots.size := (Array.getElem?_eq_some_iff.mp hv).1
    have q := K5 i hi
    rw [hv] at q
    rw [Option.some.inj q]
    exact K6 i hi
  refine Back.mono (back hZ hw wi E V C K1 hty S hz (by omega) (by omega) (fun i hi => by rw [hcv i (by omega)]; exact hall _ (List.getElem_mem _)) hfr hlo) (fun P a hp => ⟨hp.1, hp.2.1, hp.2.2.1, by rw [e]; exact hp.2.2.2⟩) (fun P a v B hp hq => ?_)
  obtain ⟨L, ⟨q1, q2, q3, q4, q5, q6, q7, ⟨V', v1, v2, v3, v4, v5⟩, q9⟩, hl, hc, hs⟩ := hq
  refine ⟨L, ⟨q1, q2, q3, q4, q5, q6, q7, ⟨V'.cls, v3, V', v1, rfl, by rw [v4, e, hlen], K4, fun i hi => ?_, fun i hi => ?_⟩, q9⟩, hl, hc, by rw [hs, e]⟩
  · have hi' : i < cs.length := by omega
    rw [v5 i (by omega), hcv i hi']; simp [List.getD_eq_getElem?_getD, hi']
  · have hi' : i < cs.length := by omega
    simp only [List.getD_eq_getElem?_getD, List.getElem?_map, List.getElem?_eq_getElem hi', Option.map_some, Option.getD_some]
    exact fits_lo8 _
end StrChars.Road
namespace StrChars.Road
open Jvm Sem ClassFile Op Lib Jvm.Stand Jvm.Free Jvm.Free.XT
/-- WHAT COMES BACK, in the writer's own shape -/
def QV (Z : State) (x : Addr) (N : Int32) (bs : List Int32) (h : Heap) (n0 : Nat) (v : Option Value) (h' : Heap) (L : List Loc) : Prop := v = none ∧ RoadKit.Fr n0 L ∧ RoadKit.Keep h h' [x] ∧ RoadKit.Exa Z h' x ST ∧ RoadKit.Fld Z h' x ST "coder" "B" (.int 0) ∧
  ∃ (t : Addr) (kb : ClassId), n0 ≤ t ∧ h.size ≤ t ∧ ¬ t = x ∧ RoadKit.Fld Z h' x ST "value" "[B" (.ref t) ∧ RoadKit.Arv Z h' t kb .byte N (bs.map Value.int) (.int 0)
/-- **new String(chars) AT A CALL, FOR THE WRITER**: a char[] of n known ints, each 0 to 255 -/
theorem backV {p : Program} {l : Launch} {e : Env} {R : Room} {s : State} {args : Array Value} {below : List Frame} {len W : Nat} {Z : State} {a0 : Array Value} {h : Heap} (hZ : Z.Warmed39 s.vm) (hw : ∀ d ∈ words, d.before a0 Z = true) {kI : Nat} (wi : (Jvm.Cond.instantiable ST kI).before a0 Z = true)
    {x b : Addr} {kC : ClassId} {cs bs : List Int32} {d v0 c0 : Value} {z N : Int32} {n n0 : Nat} (hx0 : n0 ≤ x) (hh0 : n0 ≤ h.size) (E : RoadKit.Exa Z h x ST) (V : RoadKit.Fld Z h x ST "value" "[B" v0) (C : RoadKit.Fld Z h x ST "coder" "B" c0) (K : RoadKit.Arv Z h b kC .char N (cs.map Value.int) d) (S : RoadKit.Sta Z h ST "COMPACT_STRINGS" "Z" (.int z)) (hz : ¬ z = 0)
    (hn : cs.length = n) (hN : N = Int32.ofNat n) (l0 : 0 < n) (l2 : n ≤ 4000) (hp : ∀ c ∈ cs, ¬ c < 0 ∧ ¬ (255 : Int32) < c) (hb : bs = cs.map (fun c => c.toInt8.toInt32)) (hfr : 4 ≤ R.frames) (hlo : W + 65 ≤ R.locals) :
    Back l R p e below s args (⟨"java/lang/String", "<init>", "([C)V"⟩ : MethodName) len W (fun P a => a = #[.ref x, .ref b] ∧ P.U.heap = h ∧ P.cells + 1 ≤ R.cells ∧ P.slots + n ≤ R.slots)
      (fun P _ v B => ∃ L, QV Z x N bs h n0 v B.U.heap L ∧ B.locs = P.locs ++ L ∧ B.cells = P.cells + 1 ∧ B.slots = P.slots + n) := by
  subst hn hN hb
  refine Back.mono (backArv hZ hw wi E V C K S hz (n32 (by omega)) l0 (by omega) (fun c hc => (hp c hc).2) hfr hlo) (fun P a hp => hp) (fun P a v B hp hq => ?_)
  obtain ⟨L, ⟨q1, q2, q3, q4, q5, q6, q7, ⟨kb, v1, v2⟩, q9⟩, hl, hc, hs⟩ := hq
  exact ⟨L, ⟨q1, fun y hy => by rw [q2 y hy]; exact hx0, q3, q5, q7, h.size, kb, hh0, Nat.le_refl _, Nat.ne_of_gt E.lt, q6, by rw [List.map_map]; exact v2⟩, hl, hc, hs⟩
end StrChars.Road
namespace StrChars
open Jvm Sem ClassFile Op Lib Jvm.Stand Jvm.Free.XT Jvm.Free.ALB Jvm.Free.JM Jvm.Free
open Jvm.Lib.Cold (StaticIs)
def hi8 (x : Int32) : Int32 := lo8 (x >>> ((8 : Int32) &&& 31))
/-- what StringUTF16.getChar makes of two bytes -/
def pairCh (u v : Int32) : Int32 := (((u &&& 255) <<< ((0 : Int32) &&& 31)) ||| ((v &&& 255) <<< ((8 : Int32) &&& 31))).toUInt32.toUInt16.toUInt32.toInt32
theorem lo8_and (x : Int32) : (lo8 x &&& 255).toBitVec.toNat = x.toBitVec.toNat % 256 := by
  have h : (lo8 x).toBitVec = (x.toBitVec.signExtend 8).signExtend 32 := by rw [lo8, Int8.toBitVec_toInt32, Int32.toBitVec_toInt8]
  rw [Int32.toBitVec_and, BitVec.toNat_and, h]
  have e : ((x.toBitVec.signExtend 8).signExtend 32).toNat % 256 = x.toBitVec.toNat % 256 := by
    rw [BitVec.toNat_signExtend]
    have hlt := x.toBitVec.isLt
    simp only [BitVec.toNat_setWidth, BitVec.toNat_signExtend]
    split <;> split <;> omega
  rw [← e]
  exact Nat.and_two_pow_sub_one_eq_mod _ 8
theorem pair_says {c : Int32} (h0 : ¬ c < 0) (h1 : ¬ 65535 < c) : pairCh (lo8 c) (hi8 c) = c := by
  rw [Int32.lt_iff_toInt_lt] at h0 h1
  have e0 : (0 : Int32).toInt = 0 := rfl
  have e1 : (65535 : Int32).toInt = 65535 := rfl
  have hc : c.toInt = c.toBitVec.toNat := by
    have := c.toBitVec.isLt
    have e : c.toInt = c.toBitVec.toInt := rfl
    rw [e] at h0 h1
    rw [e]
    rw [BitVec.toInt_eq_toNat_cond] at h0 h1 ⊢
    split at h0 <;> split <;> omega
  have hn : c.toBitVec.toNat < 65536 := by omega
  have a1 := lo8_and c
  have a2 : (hi8 c &&& 255).toBitVec.toNat = c.toBitVec.toNat / 256 := by
    rw [hi8, lo8_and]
    have e : ((8 : Int32) &&& 31) = 8 := by decide
    rw [e, Int32.toBitVec_shiftRight]
    have e2 : ((8 : Int32).toBitVec.smod 32) = 8#32 := by decide
    rw [e2, BitVec.sshiftRight_eq', BitVec.toNat_sshiftRight_of_msb_false (by rw [BitVec.msb_eq_false_iff_two_mul_lt]; omega)]
    show c.toBitVec.toNat >>> 8 % 256 = _
    rw [Nat.shiftRight_eq_div_pow]
    omega
  unfold pairCh
  apply Int32.toBitVec_inj.mp
  apply BitVec.eq_of_toNat_eq
  have f0 : ((0 : Int32) &&& 31) = 0 := by decide
  have f8 : ((8 : Int32) &&& 31) = 8 := by decide
  rw [f0, f8]
  have g : (((lo8 c &&& 255) <<< (0 : Int32)) ||| ((hi8 c &&& 255) <<< (8 : Int32))).toBitVec.toNat = c.toBitVec.toNat := by
    rw [Int32.toBitVec_or, Int32.toBitVec_shiftLeft, Int32.toBitVec_shiftLeft]
    have s0 : ((0 : Int32).toBitVec.smod 32) = 0#32 := by decide
    have s8 : ((8 : Int32).toBitVec.smod 32) = 8#32 := by decide
    rw [s0, s8, BitVec.toNat_or]
    simp only [BitVec.shiftLeft_eq', BitVec.toNat_shiftLeft, a1, a2]
    show (c.toBitVec.toNat % 256) <<< 0 % 2 ^ 32 ||| (c.toBitVec.toNat / 256) <<< 8 % 2 ^ 32 = _
    rw [Nat.shiftLeft_zero, Nat.mod_eq_of_lt (show c.toBitVec.toNat % 256 < 2 ^ 32 by omega), Nat.mod_eq_of_lt (show (c.toBitVec.toNat / 256) <<< 8 < 2 ^ 32 by rw [Nat.shiftLeft_eq]; omega), Nat.or_comm, ← Nat.shiftLeft_add_eq_or_of_lt (by omega), Nat.shiftLeft_eq]
    omega
  show BitVec.toNat (((((lo8 c &&& 255) <<< (0 : Int32)) ||| ((hi8 c &&& 255) <<< (8 : Int32))).toBitVec.setWidth 16).setWidth 32) = _
  rw [BitVec.toNat_setWidth, BitVec.toNat_setWidth, g]
  omega
end StrChars
namespace StrChars
open Jvm Sem ClassFile Op Lib Jvm.Stand Jvm.Free.XT Jvm.Free.ALB Jvm.Free.JM Jvm.Free
open Jvm.Lib.Cold (StaticIs)
/-- the array's cell V codes the n chars f 0 .. f (n - 1) by the coder cd, as the JDK does: coder 1 just where some char is above 255 -/
def Cod (cd : Int32) (n : Nat) (f : Nat → Int32) (V : Cell) : Prop := (cd = 0 ∧ V.slots.size = n ∧ ∀ j, j < n → V.slots[j]? = some (.int (lo8 (f j))) ∧ ¬ 255 < f j) ∨ (cd = 1 ∧ V.slots.size = 2 * n ∧ (∀ j, j < n → V.slots[2 * j]? = some (.int (lo8 (f j))) ∧ V.slots[2 * j + 1]? = some (.int (hi8 (f j)))) ∧ ∃ j, j < n ∧ 255 < f j)
/-- **x is a String of the n chars f 0 .. f (n - 1)**, Latin-1 or UTF-16; its array at t has the cell V -/
def Txt (x t : Addr) (V : Cell) (cd : Int32) (n : Nat) (f : Nat → Int32) (U : State) : Prop := Exact "java/lang/String" x U ∧ Has x "java/lang/String" "value" "[B" (.ref t) U ∧ Has x "java/lang/String" "coder" "B" (.int cd) U ∧ XT.Arr .byte t V U ∧ Cod cd n f V ∧ ∀ j, j < n → ¬ f j < 0 ∧ ¬ 65535 < f j
theorem Txt.mv {x t : Addr} {V : Cell} {cd : Int32} {n : Nat} {f : Nat → Int32} {U U' : State} (h : Txt x t V cd n f U) (hal : U.vm.Alike U'.vm) (hh : U'.heap = U.heap) : Txt x t V cd n f U' := ⟨h.1.mv hal hh, h.2.1.mv hal hh, h.2.2.1.mv hal hh, h.2.2.2.1.mv hal hh, h.2.2.2.2⟩
end StrChars
namespace StrChars.Road
open Jvm Sem ClassFile Op Lib Jvm.Stand Jvm.Free Jvm.Free.XT
open Jvm.Lib.Cold (StaticIs)
theorem consq {a : Array Value} {s : State} {c : Jvm.Cond} {L : List Jvm.Cond} (h0 : c.before a s = true) (h : ∀ w ∈ L, w.before a s = true) : ∀ w ∈ c :: L, w.before a s = true := fun w hw => (List.mem_cons.mp hw).elim (fun e => e ▸ h0) (h w)
/-- the bytes of the chars cs, low before high -/
def wideBytes : List Int32 → List Value
  | [] => []
  | c :: cs => .int (lo8 c) :: .int (hi8 c) :: wideBytes cs
theorem wide_lo (d : Value) : ∀ (cs : List Int32) (j : Nat), j < cs.length → (wideBytes cs).getD (2 * j) d = .int (lo8 (cs.getD j 0))
  | [], j, h => absurd h (Nat.not_lt_zero j)
  | c :: cs, 0, _ => rfl
  | c :: cs, j + 1, h => by
    have q := wide_lo d cs j (by simpa using h)
    rw [show 2 * (j + 1) = 2 * j + 1 + 1 from by omega]
    simpa [wideBytes] using q
theorem wide_hi (d : Value) : ∀ (cs : List Int32) (j : Nat), j < cs.length → (wideBytes cs).getD (2 * j + 1) d = .int (hi8 (cs.getD j 0))
  | [], j, h => absurd h (Nat.not_lt_zero j)
  | c :: cs, 0, _ => rfl
  | c :: cs, j + 1, h => by
    have q := wide_hi d cs j (by simpa using h)
    rw [show 2 * (j + 1) + 1 = 2 * j + 1 + 1 + 1 from by omega]
    simpa [wideBytes] using q
theorem low_at (d : Value) (cs : List Int32) (j : Nat) (h : j < cs.length) : (cs.map fun c => Value.int (lo8 c)).getD j d = .int (lo8 (cs.getD j 0)) := by
  simp [List.getD_eq_getElem?_getD, h]
/-- an array of N2 bytes vs codes the chars cs by the coder cd -/
def CodA (cs : List Int32) (cd N2 : Int32) (vs : List Value) : Prop := (cd = 0 ∧ N2 = Int32.ofNat cs.length ∧ vs = (cs.map fun c => Value.int (lo8 c)) ∧ ∀ c ∈ cs, ¬ 255 < c) ∨ (cd = 1 ∧ N2 = Int32.ofNat (2 * cs.length) ∧ vs = wideBytes cs ∧ ∃ c ∈ cs, 255 < c)
theorem CodA.cod {cs : List Int32} {cd N2 : Int32} {vs : List Value} {V : Cell} (h : CodA cs cd N2 vs) (hn : 2 * cs.length < 2 ^ 31) (hs : V.slots.size = N2.toNatClampNeg) (hv : RoadKit.Has V vs (.int 0)) : Cod cd cs.length (fun j => cs.getD j 0) V := by
  rcases h with ⟨rfl, rfl, rfl, h⟩ | ⟨rfl, rfl, rfl, c, hc, hw⟩
  · rw [n32 (by omega)] at hs
    exact Or.inl ⟨rfl, hs, fun j hj => ⟨by rw [hv j (by omega), low_at _ _ _ hj], by
      have e : cs.getD j 0 = cs[j] := by simp [List.getD_eq_getElem?_getD, hj]
      show ¬ 255 < cs.getD j 0
      rw [e]; exact h _ (List.getElem_mem _)⟩⟩
  · rw [n32 (by omega)] at hs
    obtain ⟨j, hj, rfl⟩ := List.getElem_of_mem hc
    exact Or.inr ⟨rfl, hs, fun j hj => ⟨by rw [hv _ (by omega), wide_lo _ _ _ hj], by rw [hv _ (by omega), wide_hi _ _ _ hj]⟩, j, hj, by
      have e : cs.getD j 0 = cs[j] := by simp [List.getD_eq_getElem?_getD, hj]
      show 255 < cs.getD j 0
      rw [e]; exact hw⟩
/-- an object of exactly java/lang/String, its two fields found: as the laws ask it -/
theorem strObj {Z U : State} {a0 : Array Value} {kI : Nat} (wi : (Jvm.Cond.instantiable ST kI).before a0 Z = true) (al : Z.vm.Alike U.vm) {x : Addr} {v0 c0 : Value} (E : RoadKit.Exa Z U.heap x ST) (V : RoadKit.Fld Z U.heap x ST "value" "[B" v0) (C : RoadKit.Fld Z U.heap x ST "coder" "B" c0) :
    ∃ (D : Cell) (fV fC : Field), Blank ST x D U ∧ Found ST "value" "[B" fV U ∧ Found ST "coder" "B" fC U ∧ D.slots[fV.slot]? = some v0 ∧ D.slots[fC.slot]? = some c0 ∧ RoadKit.slotOf Z ST "value" "[B" = fV.slot ∧ RoadKit.slotOf Z ST "coder" "B" = fC.slot := by
  obtain ⟨D, cfV, kV, iV, fV, hD, gV, stV, knV, obV, asV, slV⟩ := V
  obtain ⟨D', cfC, kC, iC, fC, hD', gC, stC, -, -, asC, slC⟩ := C
  cases hD.symm.trans hD'
  obtain ⟨D2, kD, e1, e2, e3, e4, e5⟩ := E
  cases hD.symm.trans e1
  obtain ⟨c2, k2, i1, i2, i3, -⟩ := Cond.instantiable_spec wi
  cases e2.symm.trans i1
  cases e3.symm.trans i2
  obtain ⟨kU, u1, u2⟩ := al.2.2 _ _ e3
  exact ⟨D, fV, fC, ⟨hD, ⟨knV, fun q hq => by rw [hq] at obV; cases obV⟩, by rw [al.findClass]; exact e2, kU, u1, by rw [u2]; exact i3, by rw [u2]; exact e5 i3⟩, ⟨SBG.found_only al ⟨cfV, kV, iV, gV⟩, stV⟩, ⟨SBG.found_only al ⟨cfC, kC, iC, gC⟩, stC⟩, slV, slC, by simp [RoadKit.slotOf, gV], by simp [RoadKit.slotOf, gC]⟩
theorem sta_is {Z U : State} (al : Z.vm.Alike U.vm) {C n d : String} {v : Value} (S : RoadKit.Sta Z U.heap C n d v) : StaticIs U C n d v := by
  obtain ⟨cfS, iS, kS, fS, st, cS, t1, t2, t3, t4, t5, t6, t7⟩ := S
  exact StaticIs.there (s := { Z with heap := U.heap }) ⟨cfS, iS, kS, fS, st, cS, t1, t2, t3, t4, t5, (fun q => by rw [q] at t6; cases t6), t7⟩ al rfl
end StrChars.Road
namespace StrChars
open Jvm Sem ClassFile Op Lib Jvm.Stand Jvm.Free.XT Jvm.Free.ALB Jvm.Free.JM Jvm.Free
open Jvm.Lib.Cold (StaticIs)
/-- what place i of a byte[]'s cell holds -/
def yv (A : Cell) (i : Nat) : Int32 := match A.slots[i]? with | some (.int x) => x | _ => 0
theorem yv_get {a : Addr} {A : Cell} {U : State} (h : XT.Arr .byte a A U) (ht : Typed .byte A) {i : Nat} (hi : i < A.slots.size) : A.slots[i]? = some (.int (yv A i)) := by
  have e := Array.getElem?_eq_getElem hi
  have f := ht i _ e
  unfold yv; rw [e]
  generalize A.slots[i] = v at f
  cases v <;> simp [fits] at f ⊢
/-- the two arrays are equal, place for place -/
def EqC (A B : Cell) : Prop := A.slots.size = B.slots.size ∧ ∀ i, i < A.slots.size → yv A i = yv B i
/-- a boolean that says whether p -/
def Says01 (q : Prop) (r : Option Value) (s u : State) : Prop := ∃ v : Int32, r = some (.int v) ∧ u.heap = s.heap ∧ ((v = 1 ∧ q) ∨ (v = 0 ∧ ¬ q))
theorem Says01.mv {q : Prop} : ∀ r (U U' V V' : State), U'.heap = U.heap → V.vm.Alike V'.vm → V'.heap = V.heap → Says01 q r U V → Says01 q r U' V' :=
  fun r U U' V V' h1 _ h2 ⟨v, a, b, c⟩ => ⟨v, a, by rw [h1, h2]; exact b, c⟩
namespace LEq
def yN : MethodName := ⟨"java/lang/StringLatin1", "equals", "([B[B)Z"⟩
abbrev yB : ByteArray := jdk_43_method_13_code
theorem d0 : decode yB 0 = .ok (.aload_n 0, 1) := by decide +kernel
theorem d1 : decode yB 1 = .ok (.arraylength, 1) := by decide +kernel
theorem d2 : decode yB 2 = .ok (.aload_n 1, 1) := by decide +kernel
theorem d3 : decode yB 3 = .ok (.arraylength, 1) := by decide +kernel
theorem d4 : decode yB 4 = .ok (.if_icmp (.ne) 30, 3) := by decide +kernel
theorem d7 : decode yB 7 = .ok (.iconst 0, 1) := by decide +kernel
theorem d8 : decode yB 8 = .ok (.istore_n 2, 1) := by decide +kernel
theorem d9 : decode yB 9 = .ok (.iload_n 2, 1) := by decide +kernel
theorem d10 : decode yB 10 = .ok (.aload_n 0, 1) := by decide +kernel
theorem d11 : decode yB 11 = .ok (.arraylength, 1) := by decide +kernel
theorem d12 : decode yB 12 = .ok (.if_icmp (.ge) 20, 3) := by decide +kernel
theorem d15 : decode yB 15 = .ok (.aload_n 0, 1) := by decide +kernel
theorem d16 : decode yB 16 = .ok (.iload_n 2, 1) := by decide +kernel
theorem d17 : decode yB 17 = .ok (.baload, 1) := by decide +kernel
theorem d18 : decode yB 18 = .ok (.aload_n 1, 1) := by decide +kernel
theorem d19 : decode yB 19 = .ok (.iload_n 2, 1) := by decide +kernel
theorem d20 : decode yB 20 = .ok (.baload, 1) := by decide +kernel
theorem d21 : decode yB 21 = .ok (.if_icmp (.eq) 5, 3) := by decide +kernel
theorem d24 : decode yB 24 = .ok (.iconst 0, 1) := by decide +kernel
theorem d25 : decode yB 25 = .ok (.ireturn, 1) := by decide +kernel
theorem d26 : decode yB 26 = .ok (.iinc 2 1, 3) := by decide +kernel
theorem d29 : decode yB 29 = .ok (.goto (-20), 3) := by decide +kernel
theorem d32 : decode yB 32 = .ok (.iconst 1, 1) := by decide +kernel
theorem d33 : decode yB 33 = .ok (.ireturn, 1) := by decide +kernel
theorem d34 : decode yB 34 = .ok (.iconst 0, 1) := by decide +kernel
theorem d35 : decode yB 35 = .ok (.ireturn, 1) := by decide +kernel
def site : List Cond := []
def tab : Cond := tabOf yN yB 3 (some .boolean) site
def P (a : Addr) (A : Cell) (b : Addr) (B : Cell) (args : Array Value) (s : State) : Prop := args = #[.ref a, .ref b] ∧ XT.Arr .byte a A s ∧ Typed .byte A ∧ XT.Arr .byte b B s ∧ Typed .byte B
/-- whether two byte[] are equal, place for place -/
theorem law (l : Launch) (a : Addr) (A : Cell) (b : Addr) (B : Cell) : Law l yN 2 2 0 0 yB 3 (some .boolean) site (P a A b B) (Says01 (EqC A B)) [] 0 0 := by
  refine Law.of_walk (plainFor_of_name (by decide +kernel)) (by decide +kernel) (by decide +kernel) (by decide) (fun _ _ h => by rw [h.1]; rfl) (fun _ U U' hal hh h => ⟨h.1, h.2.1.mv hal hh, h.2.2.1, h.2.2.2.1.mv hal hh, h.2.2.2.2⟩) (fun r U U' V V' h1 hal h2 h => Says01.mv r U U' V V' h1 hal h2 h) ?_
  intro p e s m args below meth c s₁ X0 hexec hbytes hml hret hlk hnm hown hh0 W hP
  obtain ⟨rfl, hA, tA, hB, tB⟩ := hP
  have a31 := hA.2.2.2
  have b31 := hB.2.2.2
  have hA0 := hA.mv X0.warmed.alike hh0
  have hB0 := hB.mv X0.warmed.alike hh0
  have c1 : Steps p.tables e below (s₁.setTop (entryFrame m #[.ref a, .ref b] 3)) (s₁.setTop (mkF m 0 #[.val (.ref a), .val (.ref b), .unset] [])) := entry rfl
  have c2 : Steps p.tables e below (s₁.setTop (entryFrame m #[.ref a, .ref b] 3)) (s₁.setTop (mkF m 4 #[.val (.ref a), .val (.ref b), .unset] [.int (Int32.ofNat B.slots.size), .int (Int32.ofNat A.slots.size)])) := c1.trans (by
    refine XS.aloadN X0.here hexec rfl (hb hbytes d0) rfl rfl ?_
    refine X0.alen hexec hA0 rfl rfl (hb hbytes d1) ?_
    refine XS.aloadN X0.here hexec rfl (hb hbytes d2) rfl rfl ?_
    refine X0.alen hexec hB0 rfl rfl (hb hbytes d3) ?_
    exact Steps.refl _)
  by_cases hs : A.slots.size = B.slots.size
  · have c3 : Steps p.tables e below (s₁.setTop (entryFrame m #[.ref a, .ref b] 3)) (s₁.setTop (mkF m 9 #[.val (.ref a), .val (.ref b), .val (.int 0)] [])) := c2.trans (by
      refine XS.icmpNo X0.here hexec rfl (hb hbytes d4) rfl (ii_ne_f (by rw [hs])) ?_
      refine iconstV X0.here hexec rfl 0 (hb hbytes d7) (by decide) ?_
      refine XS.istoreN X0.here hexec rfl (hb hbytes d8) rfl rfl ?_
      exact Steps.refl _)
    have loop : ∀ (r i : Nat), i + r = A.slots.size → (∀ j, j < i → yv A j = yv B j) → Steps p.tables e below (s₁.setTop (entryFrame m #[.ref a, .ref b] 3)) (s₁.setTop (mkF m 9 #[.val (.ref a), .val (.ref b), .val (.int (Int32.ofNat i))] [])) → ∃ (pc : Nat) (Ls : Array Slot) (v : Int32), (pc = 25 ∨ pc = 33) ∧ ((v = 1 ∧ EqC A B) ∨ (v = 0 ∧ ¬ EqC A B)) ∧ Steps p.tables e below (s₁.setTop (entryFrame m #[.ref a, .ref b] 3)) (s₁.setTop (mkF m pc Ls [.int v])) := by
      intro r
      induction r with
      | zero =>
        intro i hi he cl
        exact ⟨33, _, 1, Or.inr rfl, Or.inl ⟨rfl, hs, fun j hj => he j (by omega)⟩, cl.trans (by
          refine XS.iloadN X0.here hexec rfl (hb hbytes d9) rfl ?_
          refine XS.aloadN X0.here hexec rfl (hb hbytes d10) rfl rfl ?_
          refine X0.alen hexec hA0 rfl rfl (hb hbytes d11) ?_
          refine XS.icmpYes X0.here hexec rfl (pc0 := 12) rfl (hb hbytes d12) rfl (ii_ge_t (nlt32 (by omega) (by omega))) (by decide) rfl ?_
          refine iconstV X0.here hexec rfl 1 (hb hbytes d32) (by decide) ?_
          exact Steps.refl _)⟩
      | succ r ih =>
        intro i hi he cl
        have c4 : Steps p.tables e below (s₁.setTop (entryFrame m #[.ref a, .ref b] 3)) (s₁.setTop (mkF m 21 #[.val (.ref a), .val (.ref b), .val (.int (Int32.ofNat i))] [.int (yv B i), .int (yv A i)])) := cl.trans (by
          refine XS.iloadN X0.here hexec rfl (hb hbytes d9) rfl ?_
          refine XS.aloadN X0.here hexec rfl (hb hbytes d10) rfl rfl ?_
          refine X0.alen hexec hA0 rfl rfl (hb hbytes d11) ?_
          refine XS.icmpNo X0.here hexec rfl (hb hbytes d12) rfl (ii_ge_f (lt32 (by omega) (by omega))) ?_
          refine XS.aloadN X0.here hexec rfl (hb hbytes d15) rfl rfl ?_
          refine XS.iloadN X0.here hexec rfl (hb hbytes d16) rfl ?_
          refine X0.aget hexec hA0 rfl (yv_get hA tA (i := i) (by omega)) rfl rfl (hb hbytes d17) ?_
          refine XS.aloadN X0.here hexec rfl (hb hbytes d18) rfl rfl ?_
          refine XS.iloadN X0.here hexec rfl (hb hbytes d19) rfl ?_
          refine X0.aget hexec hB0 rfl (yv_get hB tB (i := i) (by omega)) rfl rfl (hb hbytes d20) ?_
          exact Steps.refl _)
        by_cases hv : yv A i = yv B i
        · have c5 : Steps p.tables e below (s₁.setTop (entryFrame m #[.ref a, .ref b] 3)) (s₁.setTop (mkF m 9 #[.val (.ref a), .val (.ref b), .val (.int (Int32.ofNat i + 1))] [])) := c4.trans (by
            refine XS.icmpYes X0.here hexec rfl (pc0 := 21) rfl (hb hbytes d21) rfl (ii_eq_t hv) (by decide) rfl ?_
            refine iincV X0.here hexec rfl 1 (hb hbytes d26) (by decide) rfl rfl ?_
            refine XS.goto X0.here hexec rfl (pc0 := 29) rfl (hb hbytes d29) (by decide) rfl ?_
            exact Steps.refl _)
          rw [succ32] at c5
          exact ih (i + 1) (by omega) (fun j hj => by
            by_cases e : j = i
            · rw [e]; exact hv
            · exact he j (by omega)) c5
        · exact ⟨25, _, 0, Or.inl rfl, Or.inr ⟨rfl, fun q => hv (q.2 i (by omega))⟩, c4.trans (by
            refine XS.icmpNo X0.here hexec rfl (hb hbytes d21) rfl (ii_eq_f hv) ?_
            refine iconstV X0.here hexec rfl 0 (hb hbytes d24) (by decide) ?_
            exact Steps.refl _)⟩
    obtain ⟨pc, Ls, v, hpc, hv, cz⟩ := loop A.slots.size 0 (by omega) (fun j hj => absurd hj (Nat.not_lt_zero j)) c3
    have nv : narrow .boolean (.int v) = .int v := by rcases hv with ⟨rfl, -⟩ | ⟨rfl, -⟩ <;> rfl
    rcases hpc with rfl | rfl
    · exact ⟨s₁, some (.int v), _, _, _, X0, rfl, rfl, rfl, (fun h => by cases h), ⟨v, rfl, hh0, hv⟩, fun fs hl => cz.trans (X0.ireturnOut hexec hret nv (Or.inr (Or.inl rfl)) (hb hbytes d25) hl)⟩
    · exact ⟨s₁, some (.int v), _, _, _, X0, rfl, rfl, rfl, (fun h => by cases h), ⟨v, rfl, hh0, hv⟩, fun fs hl => cz.trans (X0.ireturnOut hexec hret nv (Or.inr (Or.inl rfl)) (hb hbytes d33) hl)⟩
  · have c3 : Steps p.tables e below (s₁.setTop (entryFrame m #[.ref a, .ref b] 3)) (s₁.setTop (mkF m 35 #[.val (.ref a), .val (.ref b), .unset] [.int 0])) := c2.trans (by
      refine XS.icmpYes X0.here hexec rfl (pc0 := 4) rfl (hb hbytes d4) rfl (ii_ne_t (ne32 a31 b31 hs)) (by decide) rfl ?_
      refine iconstV X0.here hexec rfl 0 (hb hbytes d34) (by decide) ?_
      exact Steps.refl _)
    exact ⟨s₁, some (.int 0), _, _, _, X0, rfl, rfl, rfl, (fun h => by cases h), ⟨0, rfl, hh0, Or.inr ⟨rfl, fun q => hs q.1⟩⟩, fun fs hl => c3.trans (X0.ireturnOut hexec hret rfl (Or.inr (Or.inl rfl)) (hb hbytes d35) hl)⟩
end LEq
theorem Cod.ty {cd : Int32} {n : Nat} {f : Nat → Int32} {V : Cell} (h : Cod cd n f V) : Typed .byte V := fun i v hv => by
  have hi : i < V.slots.size := (Array.getElem?_eq_some_iff.mp hv).1
  rcases h with ⟨-, k1, k2⟩ | ⟨-, k1, k2, -⟩
  · rw [(k2 i (by omega)).1] at hv; cases hv; exact fits_lo8 _
  · rcases Nat.mod_two_eq_zero_or_one i with e | e
    · obtain ⟨j, rfl⟩ : ∃ j, i = 2 * j := ⟨i / 2, by omega⟩
      rw [(k2 j (by omega)).1] at hv; cases hv; exact fits_lo8 _
    · obtain ⟨j, rfl⟩ : ∃ j, i = 2 * j + 1 := ⟨i / 2, by omega⟩
      rw [(k2 j (by omega)).2] at hv; cases hv; exact fits_lo8 _
/-- the same text -/
def SameT (n : Nat) (f : Nat → Int32) (k : Nat) (g : Nat → Int32) : Prop := n = k ∧ ∀ j, j < n → f j = g j
theorem lo8_inj {x y : Int32} (h0 : ¬ x < 0) (h1 : ¬ 255 < x) (k0 : ¬ y < 0) (k1 : ¬ 255 < y) (h : lo8 x = lo8 y) : x = y := by
  rw [← lo8_mask h0 h1, ← lo8_mask k0 k1, h]
/-- arrays coded by one coder are equal just where the texts are -/
theorem Cod.eqv {cd : Int32} {n k : Nat} {f g : Nat → Int32} {V V' : Cell} (h : Cod cd n f V) (h' : Cod cd k g V') (hf : ∀ j, j < n → ¬ f j < 0 ∧ ¬ 65535 < f j) (hg : ∀ j, j < k → ¬ g j < 0 ∧ ¬ 65535 < g j) : EqC V V' ↔ SameT n f k g := by
  have yvv : ∀ {W : Cell} {i : Nat} {x : Int32}, W.slots[i]? = some (.int x) → yv W i = x := fun q => by unfold yv; rw [q]
  rcases h with ⟨rfl, k1, k2⟩ | ⟨rfl, k1, k2, -⟩
  · rcases h' with ⟨-, m1, m2⟩ | ⟨e, -⟩
    · constructor
      · rintro ⟨e1, e2⟩
        refine ⟨by omega, fun j hj => ?_⟩
        have q := e2 j (by omega)
        rw [yvv (k2 j hj).1, yvv (m2 j (by omega)).1] at q
        exact lo8_inj (hf j hj).1 (k2 j hj).2 (hg j (by omega)).1 (m2 j (by omega)).2 q
      · rintro ⟨rfl, e2⟩
        refine ⟨by omega, fun j hj => ?_⟩
        rw [yvv (k2 j (by omega)).1, yvv (m2 j (by omega)).1, e2 j (by omega)]
    · exact absurd e (by decide)
  · rcases h' with ⟨e, -⟩ | ⟨-, m1, m2, -⟩
    · exact absurd e (by decide)
    · constructor
      · rintro ⟨e1, e2⟩
        refine ⟨by omega, fun j hj => ?_⟩
        have q1 := e2 (2 * j) (by omega)
        have q2 := e2 (2 * j + 1) (by omega)
        rw [yvv (k2 j hj).1, yvv (m2 j (by omega)).1] at q1
        rw [yvv (k2 j hj).2, yvv (m2 j (by omega)).2] at q2
        rw [← pair_says (hf j hj).1 (hf j hj).2, ← pair_says (hg j (by omega)).1 (hg j (by omega)).2, q1, q2]
      · rintro ⟨rfl, e2⟩
        refine ⟨by omega, fun i hi => ?_⟩
        rcases Nat.mod_two_eq_zero_or_one i with e | e
        · obtain ⟨j, rfl⟩ : ∃ j, i = 2 * j := ⟨i / 2, by omega⟩
          rw [yvv (k2 j (by omega)).1, yvv (m2 j (by omega)).1, e2 j (by omega)]
        · obtain ⟨j, rfl⟩ : ∃ j, i = 2 * j + 1 := ⟨i / 2, by omega⟩
          rw [yvv (k2 j (by omega)).2, yvv (m2 j (by omega)).2, e2 j (by omega)]
/-- two codings differ: so do the texts -/
theorem Cod.dif {cd cd' : Int32} {n k : Nat} {f g : Nat → Int32} {V V' : Cell} (h : Cod cd n f V) (h' : Cod cd' k g V') (hne : ¬ cd = cd') : ¬ SameT n f k g := by
  rintro ⟨rfl, e⟩
  rcases h with ⟨rfl, -, k2⟩ | ⟨rfl, -, -, j, hj, hw⟩
  · rcases h' with ⟨rfl, -⟩ | ⟨-, -, -, j, hj, hw⟩
    · exact hne rfl
    · exact (k2 j hj).2 (by rw [e j hj]; exact hw)
  · rcases h' with ⟨-, -, m2⟩ | ⟨rfl, -⟩
    · exact (m2 j hj).2 (by rw [← e j hj]; exact hw)
    · exact hne rfl
/-- an object of exactly C is an instance of C -/
theorem cinst {p : Program} {l : Launch} {e : Env} {R : Room} {s : State} {m : MethodId} {args : Array Value} {below : List Frame} {meth : Method} {c : Code} {T : State} {locs : List Loc} {cells slots : Nat} (X : Stand p l e R s m args below meth c T locs cells slots) (hexec : p.tables.exec = Jvm.exec) {own C : String} {index : Nat} (hown : s.vm.findClass own = some m.cls) (hlink : (Cond.classLink own index C).before args s = true) {a : Addr} (hE : Exact C a T)
    {g : JFrame} (hg : g.method = m) {rest : List Value} (hstack : g.stack = .ref a :: rest) (hdg : decode c.code g.pc = .ok (.instanceof index, 3)) :
    ∃ T', Stand p l e R s m args below meth c T' locs cells slots ∧ T'.heap = T.heap ∧ ∀ target, Steps p.tables e below (T'.setTop { g with pc := g.pc + 3, stack := .int 1 :: rest }) target → Steps p.tables e below (T.setTop g) target := by
  obtain ⟨cB, h1, D, h2, h3, h4⟩ := hE
  have h1' : s.vm.findClass C = some cB := by rw [← X.warmed.alike.findClass]; exact h1
  obtain ⟨vm', X', st⟩ := X.instanceofYes hexec hown hlink h2 h4 h1' (by rw [h3]; exact Jvm.Free.SB.assignable_self _ _) hg hstack hdg
  exact ⟨_, X', rfl, st⟩
theorem cself {p : Program} {l : Launch} {e : Env} {R : Room} {s : State} {m : MethodId} {args : Array Value} {below : List Frame} {meth : Method} {c : Code} {T : State} {locs : List Loc} {cells slots : Nat} (X : Stand p l e R s m args below meth c T locs cells slots) (hexec : p.tables.exec = Jvm.exec) {own C : String} {index : Nat} (hown : s.vm.findClass own = some m.cls) (hlink : (Cond.classLink own index C).before args s = true) {a : Addr} (hE : Exact C a T)
    {g : JFrame} (hg : g.method = m) {rest : List Value} (hstack : g.stack = .ref a :: rest) (hdg : decode c.code g.pc = .ok (.checkcast index, 3)) :
    ∃ T', Stand p l e R s m args below meth c T' locs cells slots ∧ T'.heap = T.heap ∧ ∀ target, Steps p.tables e below (T'.setTop { g with pc := g.pc + 3, stack := .ref a :: rest }) target → Steps p.tables e below (T.setTop g) target := by
  obtain ⟨cB, h1, D, h2, h3, h4⟩ := hE
  have h1' : s.vm.findClass C = some cB := by rw [← X.warmed.alike.findClass]; exact h1
  obtain ⟨vm', X', st⟩ := X.checkcastYes hexec hown hlink h2 h4 h1' (by rw [h3]; exact Jvm.Free.SB.assignable_self _ _) hg hstack hdg
  exact ⟨_, X', rfl, fun t h => st t (by rw [← hstack] at h; exact h)⟩
namespace SEq
def yN : MethodName := ⟨"java/lang/String", "equals", "(Ljava/lang/Object;)Z"⟩
abbrev yB : ByteArray := jdk_42_method_66_code
theorem d0 : decode yB 0 = .ok (.aload_n 0, 1) := by decide +kernel
theorem d1 : decode yB 1 = .ok (.aload_n 1, 1) := by decide +kernel
theorem d2 : decode yB 2 = .ok (.if_acmp (.ne) 5, 3) := by decide +kernel
theorem d5 : decode yB 5 = .ok (.iconst 1, 1) := by decide +kernel
theorem d6 : decode yB 6 = .ok (.ireturn, 1) := by decide +kernel
theorem d7 : decode yB 7 = .ok (.aload_n 1, 1) := by decide +kernel
theorem d8 : decode yB 8 = .ok (.instanceof 10, 3) := by decide +kernel
theorem d11 : decode yB 11 = .ok (.ifCond (.eq) 43, 3) := by decide +kernel
theorem d14 : decode yB 14 = .ok (.aload_n 1, 1) := by decide +kernel
theorem d15 : decode yB 15 = .ok (.checkcast 10, 3) := by decide +kernel
theorem d18 : decode yB 18 = .ok (.astore_n 2, 1) := by decide +kernel
theorem d19 : decode yB 19 = .ok (.getstatic 38, 3) := by decide +kernel
theorem d22 : decode yB 22 = .ok (.ifCond (.eq) 14, 3) := by decide +kernel
theorem d25 : decode yB 25 = .ok (.aload_n 0, 1) := by decide +kernel
theorem d26 : decode yB 26 = .ok (.getfield 15, 3) := by decide +kernel
theorem d29 : decode yB 29 = .ok (.aload_n 2, 1) := by decide +kernel
theorem d30 : decode yB 30 = .ok (.getfield 15, 3) := by decide +kernel
theorem d33 : decode yB 33 = .ok (.if_icmp (.ne) 21, 3) := by decide +kernel
theorem d36 : decode yB 36 = .ok (.aload_n 0, 1) := by decide +kernel
theorem d37 : decode yB 37 = .ok (.getfield 9, 3) := by decide +kernel
theorem d40 : decode yB 40 = .ok (.aload_n 2, 1) := by decide +kernel
theorem d41 : decode yB 41 = .ok (.getfield 9, 3) := by decide +kernel
theorem d44 : decode yB 44 = .ok (.invokestatic 541, 3) := by decide +kernel
theorem d47 : decode yB 47 = .ok (.ifCond (.eq) 7, 3) := by decide +kernel
theorem d50 : decode yB 50 = .ok (.iconst 1, 1) := by decide +kernel
theorem d51 : decode yB 51 = .ok (.goto 4, 3) := by decide +kernel
theorem d54 : decode yB 54 = .ok (.iconst 0, 1) := by decide +kernel
theorem d55 : decode yB 55 = .ok (.ireturn, 1) := by decide +kernel
def site : List Cond := [.classLink "java/lang/String" 10 "java/lang/String", .fieldLink "java/lang/String" 38 "java/lang/String" "COMPACT_STRINGS" "Z", .fieldLink "java/lang/String" 15 "java/lang/String" "coder" "B", .fieldLink "java/lang/String" 9 "java/lang/String" "value" "[B", LEq.tab] ++ staticW "java/lang/String" 541 LEq.yN
def tab : Cond := tabOf yN yB 3 (some .boolean) site
def P (x t : Addr) (V : Cell) (cd : Int32) (n : Nat) (f : Nat → Int32) (y t' : Addr) (V' : Cell) (cd' : Int32) (k : Nat) (g : Nat → Int32) (z : Int32) (args : Array Value) (s : State) : Prop := args = #[.ref x, .ref y] ∧ Txt x t V cd n f s ∧ Txt y t' V' cd' k g s ∧ StaticIs s "java/lang/String" "COMPACT_STRINGS" "Z" (.int z) ∧ ¬ z = 0
/-- equals(Object) of two Strings: whether the texts are the same -/
theorem law (l : Launch) (x t : Addr) (V : Cell) (cd : Int32) (n : Nat) (f : Nat → Int32) (y t' : Addr) (V' : Cell) (cd' : Int32) (k : Nat) (g : Nat → Int32) (z : Int32) : Law l yN 2 1 1 14 yB 3 (some .boolean) site (P x t V cd n f y t' V' cd' k g z) (Says01 (SameT n f k g)) [] 0 0 := by
  refine Law.of_walk (plainFor_of_name (by decide +kernel)) (by decide +kernel) (by decide +kernel) (by decide) (fun _ _ h => by rw [h.1]; rfl) (fun _ U U' hal hh h => ⟨h.1, h.2.1.mv hal hh, h.2.2.1.mv hal hh, h.2.2.2.1.there hal hh, h.2.2.2.2⟩) (fun r U U' V V' h1 hal h2 h => Says01.mv r U U' V V' h1 hal h2 h) ?_
  intro p e s m args below meth c s₁ X0 hexec hbytes hml hret hlk hnm hown hh0 W hP
  obtain ⟨rfl, hx, hy, s1, hz⟩ := hP
  have c1 : Steps p.tables e below (s₁.setTop (entryFrame m #[.ref x, .ref y] 3)) (s₁.setTop (mkF m 2 #[.val (.ref x), .val (.ref y), .unset] [.ref y, .ref x])) := Steps.trans (entry rfl) (by
    show Steps p.tables e below (s₁.setTop (mkF m 0 #[.val (.ref x), .val (.ref y), .unset] [])) _
    refine XS.aloadN X0.here hexec rfl (hb hbytes d0) rfl rfl ?_
    refine XS.aloadN X0.here hexec rfl (hb hbytes d1) rfl rfl ?_
    exact Steps.refl _)
  by_cases hxy : x = y
  · have c2 : Steps p.tables e below (s₁.setTop (entryFrame m #[.ref x, .ref y] 3)) (s₁.setTop (mkF m 6 #[.val (.ref x), .val (.ref y), .unset] [.int 1])) := c1.trans (by
      refine acmpNo X0.here hexec rfl (hb hbytes d2) rfl rfl rfl (by simp [acmp, hxy]) ?_
      refine iconstV X0.here hexec rfl 1 (hb hbytes d5) (by decide) ?_
      exact Steps.refl _)
    subst hxy
    have ec : cd = cd' := by
      obtain ⟨D, fd, a1, a2, a3⟩ := hx.2.2.1
      obtain ⟨D', fd', b1, b2, b3⟩ := hy.2.2.1
      cases a1.symm.trans b1
      obtain ⟨q1, q2, q3, q4⟩ := a2.1
      obtain ⟨r1, r2, r3, r4⟩ := b2.1
      cases q4.symm.trans r4
      cases a3.symm.trans b3; rfl
    have et : t = t' := by
      obtain ⟨D, fd, a1, a2, a3⟩ := hx.2.1
      obtain ⟨D', fd', b1, b2, b3⟩ := hy.2.1
      cases a1.symm.trans b1
      obtain ⟨q1, q2, q3, q4⟩ := a2.1
      obtain ⟨r1, r2, r3, r4⟩ := b2.1
      cases q4.symm.trans r4
      cases a3.symm.trans b3; rfl
    subst ec et
    have ev : V = V' := by cases hx.2.2.2.1.1.symm.trans hy.2.2.2.1.1; rfl
    subst ev
    have hs : SameT n f k g := (Cod.eqv hx.2.2.2.2.1 hy.2.2.2.2.1 hx.2.2.2.2.2 hy.2.2.2.2.2).mp ⟨rfl, fun _ _ => rfl⟩
    exact ⟨s₁, some (.int 1), _, _, _, X0, rfl, rfl, rfl, (fun h => by cases h), ⟨1, rfl, hh0, Or.inl ⟨rfl, hs⟩⟩, fun fs hl => c2.trans (X0.ireturnOut hexec hret rfl (Or.inr (Or.inl rfl)) (hb hbytes d6) hl)⟩
  · have c2 : Steps p.tables e below (s₁.setTop (entryFrame m #[.ref x, .ref y] 3)) (s₁.setTop (mkF m 8 #[.val (.ref x), .val (.ref y), .unset] [.ref y])) := c1.trans (by
      refine acmpYes X0.here hexec rfl (pc0 := 2) rfl (hb hbytes d2) rfl rfl rfl (by simp [acmp, hxy]) (by decide) rfl ?_
      refine XS.aloadN X0.here hexec rfl (hb hbytes d7) rfl rfl ?_
      exact Steps.refl _)
    obtain ⟨T3, X3, q3, st3⟩ := cinst X0 hexec hown (wk W (.classLink "java/lang/String" 10 "java/lang/String")) (hy.mv X0.warmed.alike hh0).1 (g := (mkF m 8 #[.val (.ref x), .val (.ref y), .unset] [.ref y])) rfl (rest := []) rfl (hb hbytes d8)
    have hh3 := q3.trans hh0
    have c4 : Steps p.tables e below (s₁.setTop (entryFrame m #[.ref x, .ref y] 3)) (T3.setTop (mkF m 15 #[.val (.ref x), .val (.ref y), .unset] [.ref y])) := (c2.trans (st3 _ (Steps.refl _))).trans (by
      refine XS.ifNo X3.here hexec rfl (hb hbytes d11) rfl (i0_eq_f (by decide)) ?_
      refine XS.aloadN X3.here hexec rfl (hb hbytes d14) rfl rfl ?_
      exact Steps.refl _)
    obtain ⟨T5, X5, q5, st5⟩ := cself X3 hexec hown (wk W (.classLink "java/lang/String" 10 "java/lang/String")) (hy.mv X3.warmed.alike hh3).1 (g := (mkF m 15 #[.val (.ref x), .val (.ref y), .unset] [.ref y])) rfl (rest := []) rfl (hb hbytes d15)
    have hh5 := q5.trans hh3
    have c6 : Steps p.tables e below (s₁.setTop (entryFrame m #[.ref x, .ref y] 3)) (T5.setTop (mkF m 19 #[.val (.ref x), .val (.ref y), .val (.ref y)] [])) := (c4.trans (st5 _ (Steps.refl _))).trans (by
      refine XS.astoreN X5.here hexec rfl (hb hbytes d18) rfl rfl rfl ?_
      exact Steps.refl _)
    obtain ⟨T7, X7, q7, st7⟩ := X5.sget hexec hown (wk W (.fieldLink "java/lang/String" 38 "java/lang/String" "COMPACT_STRINGS" "Z")) s1 (fun _ _ h => by rw [hh5]; exact h) (g := (mkF m 19 #[.val (.ref x), .val (.ref y), .val (.ref y)] [])) rfl (hb hbytes d19)
    have hh7 := q7.trans hh5
    have c8 : Steps p.tables e below (s₁.setTop (entryFrame m #[.ref x, .ref y] 3)) (T7.setTop (mkF m 26 #[.val (.ref x), .val (.ref y), .val (.ref y)] [.ref x])) := (c6.trans (st7 _ (Steps.refl _))).trans (by
      refine XS.ifNo X7.here hexec rfl (hb hbytes d22) rfl (i0_eq_f hz) ?_
      refine XS.aloadN X7.here hexec rfl (hb hbytes d25) rfl rfl ?_
      exact Steps.refl _)
    obtain ⟨T9, X9, q9, st9⟩ := X7.hget hexec hown (wk W (.fieldLink "java/lang/String" 15 "java/lang/String" "coder" "B")) (hx.mv X7.warmed.alike hh7).2.2.1 (g := (mkF m 26 #[.val (.ref x), .val (.ref y), .val (.ref y)] [.ref x])) rfl (rest := []) rfl (hb hbytes d26)
    have hh9 := q9.trans hh7
    have c10 : Steps p.tables e below (s₁.setTop (entryFrame m #[.ref x, .ref y] 3)) (T9.setTop (mkF m 30 #[.val (.ref x), .val (.ref y), .val (.ref y)] [.ref y, .int cd])) := (c8.trans (st9 _ (Steps.refl _))).trans (by
      refine XS.aloadN X9.here hexec rfl (hb hbytes d29) rfl rfl ?_
      exact Steps.refl _)
    obtain ⟨T11, X11, q11, st11⟩ := X9.hget hexec hown (wk W (.fieldLink "java/lang/String" 15 "java/lang/String" "coder" "B")) (hy.mv X9.warmed.alike hh9).2.2.1 (g := (mkF m 30 #[.val (.ref x), .val (.ref y), .val (.ref y)] [.ref y, .int cd])) rfl (rest := [.int cd]) rfl (hb hbytes d30)
    have hh11 := q11.trans hh9
    have c12 : Steps p.tables e below (s₁.setTop (entryFrame m #[.ref x, .ref y] 3)) (T11.setTop (mkF m 33 #[.val (.ref x), .val (.ref y), .val (.ref y)] [.int cd', .int cd])) := c10.trans (st11 _ (Steps.refl _))
    by_cases hcd : cd = cd'
    · subst hcd
      have c13 : Steps p.tables e below (s₁.setTop (entryFrame m #[.ref x, .ref y] 3)) (T11.setTop (mkF m 37 #[.val (.ref x), .val (.ref y), .val (.ref y)] [.ref x])) := c12.trans (by
        refine XS.icmpNo X11.here hexec rfl (hb hbytes d33) rfl (ii_ne_f rfl) ?_
        refine XS.aloadN X11.here hexec rfl (hb hbytes d36) rfl rfl ?_
        exact Steps.refl _)
      obtain ⟨T14, X14, q14, st14⟩ := X11.hget hexec hown (wk W (.fieldLink "java/lang/String" 9 "java/lang/String" "value" "[B")) (hx.mv X11.warmed.alike hh11).2.1 (g := (mkF m 37 #[.val (.ref x), .val (.ref y), .val (.ref y)] [.ref x])) rfl (rest := []) rfl (hb hbytes d37)
      have hh14 := q14.trans hh11
      have c15 : Steps p.tables e below (s₁.setTop (entryFrame m #[.ref x, .ref y] 3)) (T14.setTop (mkF m 41 #[.val (.ref x), .val (.ref y), .val (.ref y)] [.ref y, .ref t])) := (c13.trans (st14 _ (Steps.refl _))).trans (by
        refine XS.aloadN X14.here hexec rfl (hb hbytes d40) rfl rfl ?_
        exact Steps.refl _)
      obtain ⟨T16, X16, q16, st16⟩ := X14.hget hexec hown (wk W (.fieldLink "java/lang/String" 9 "java/lang/String" "value" "[B")) (hy.mv X14.warmed.alike hh14).2.1 (g := (mkF m 41 #[.val (.ref x), .val (.ref y), .val (.ref y)] [.ref y, .ref t])) rfl (rest := [.ref t]) rfl (hb hbytes d41)
      have hh16 := q16.trans hh14
      have c17 : Steps p.tables e below (s₁.setTop (entryFrame m #[.ref x, .ref y] 3)) (T16.setTop (mkF m 44 #[.val (.ref x), .val (.ref y), .val (.ref y)] [.ref t', .ref t])) := c15.trans (st16 _ (Steps.refl _))
      obtain ⟨v18, T18, X18, E18, g18⟩ := X16.callS hexec (LEq.law l t V t' V') hown (wks W (staticW "java/lang/String" 541 LEq.yN)) (wk W LEq.tab) (W := 0) (Nat.le_of_ble_eq_true rfl) (Nat.le_of_ble_eq_true rfl) (Nat.le_refl _) (Nat.le_refl _) (g := (mkF m 44 #[.val (.ref x), .val (.ref y), .val (.ref y)] [.ref t', .ref t])) rfl (by rw [hml]; rfl) c17 (argsL := [.ref t, .ref t']) (rest := []) rfl rfl (by show 2 * 0 + 0 ≤ _; decide) (hb hbytes d44) (⟨rfl, hx.2.2.2.1.mv X16.warmed.alike hh16, hx.2.2.2.2.1.ty, hy.2.2.2.1.mv X16.warmed.alike hh16, hy.2.2.2.2.1.ty⟩)
      obtain ⟨v, rfl, q18, hv⟩ := E18
      have iff := Cod.eqv hx.2.2.2.2.1 hy.2.2.2.2.1 hx.2.2.2.2.2 hy.2.2.2.2.2
      rcases hv with ⟨rfl, he⟩ | ⟨rfl, he⟩
      · have c19 : Steps p.tables e below (s₁.setTop (entryFrame m #[.ref x, .ref y] 3)) (T18.setTop (mkF m 55 #[.val (.ref x), .val (.ref y), .val (.ref y)] [.int 1])) := Steps.trans g18 (by
          refine XS.ifNo X18.here hexec rfl (hb hbytes d47) rfl (i0_eq_f (by decide)) ?_
          refine iconstV X18.here hexec rfl 1 (hb hbytes d50) (by decide) ?_
          refine XS.goto X18.here hexec rfl (pc0 := 51) rfl (hb hbytes d51) (by decide) rfl ?_
          exact Steps.refl _)
        exact ⟨T18, some (.int 1), _, _, _, X18, rfl, rfl, rfl, (fun h => by cases h), ⟨1, rfl, q18.trans hh16, Or.inl ⟨rfl, iff.mp he⟩⟩, fun fs hl => c19.trans (X18.ireturnOut hexec hret rfl (Or.inr (Or.inl rfl)) (hb hbytes d55) hl)⟩
      · have c19 : Steps p.tables e below (s₁.setTop (entryFrame m #[.ref x, .ref y] 3)) (T18.setTop (mkF m 55 #[.val (.ref x), .val (.ref y), .val (.ref y)] [.int 0])) := Steps.trans g18 (by
          refine XS.ifYes X18.here hexec rfl (pc0 := 47) rfl (hb hbytes d47) rfl (i0_eq_t rfl) (by decide) rfl ?_
          refine iconstV X18.here hexec rfl 0 (hb hbytes d54) (by decide) ?_
          exact Steps.refl _)
        exact ⟨T18, some (.int 0), _, _, _, X18, rfl, rfl, rfl, (fun h => by cases h), ⟨0, rfl, q18.trans hh16, Or.inr ⟨rfl, fun q => he (iff.mpr q)⟩⟩, fun fs hl => c19.trans (X18.ireturnOut hexec hret rfl (Or.inr (Or.inl rfl)) (hb hbytes d55) hl)⟩
    · have c13 : Steps p.tables e below (s₁.setTop (entryFrame m #[.ref x, .ref y] 3)) (T11.setTop (mkF m 55 #[.val (.ref x), .val (.ref y), .val (.ref y)] [.int 0])) := c12.trans (by
        refine XS.icmpYes X11.here hexec rfl (pc0 := 33) rfl (hb hbytes d33) rfl (ii_ne_t hcd) (by decide) rfl ?_
        refine iconstV X11.here hexec rfl 0 (hb hbytes d54) (by decide) ?_
        exact Steps.refl _)
      exact ⟨T11, some (.int 0), _, _, _, X11, rfl, rfl, rfl, (fun h => by cases h), ⟨0, rfl, hh11, Or.inr ⟨rfl, Cod.dif hx.2.2.2.2.1 hy.2.2.2.2.1 hcd⟩⟩, fun fs hl => c13.trans (X11.ireturnOut hexec hret rfl (Or.inr (Or.inl rfl)) (hb hbytes d55) hl)⟩
theorem pays {l : Launch} {R : Room} {p : Program} {e : Env} {below : List Frame} {s : State} {sargs : Array Value} {len W : Nat} (x t : Addr) (V : Cell) (cd : Int32) (n : Nat) (f : Nat → Int32) (y t' : Addr) (V' : Cell) (cd' : Int32) (k : Nat) (g : Nat → Int32) (z : Int32) (htab : tab.before sargs s = true) (hfr : 2 ≤ R.frames) (hlo : W + 28 ≤ R.locals) :
    Back l R p e below s sargs yN len W (fun A₁ a₁ => A₁.cells + 0 ≤ R.cells ∧ A₁.slots + 0 ≤ R.slots ∧ P x t V cd n f y t' V' cd' k g z a₁ A₁.U) (fun A₁ _ v₁ B₁ => Says01 (SameT n f k g) v₁ A₁.U B₁.U ∧ B₁.locs = A₁.locs ++ [] ∧ B₁.cells = A₁.cells + 0 ∧ B₁.slots = A₁.slots + 0) :=
  (law l x t V cd n f y t' V' cd' k g z).pays htab hfr (by omega)
end SEq
end StrChars
namespace StrChars.Road
open Jvm Sem ClassFile Op Lib Jvm.Stand Jvm.Free Jvm.Free.XT
open Jvm.Lib.Cold (StaticIs)
/-- the words of String.equals(Object) -/
abbrev wordsEq : List Jvm.Cond := [.code SEq.yN SEq.yB 3 (some .boolean), .initialized ST, .classLink ST 10 ST, .fieldLink ST 38 ST "COMPACT_STRINGS" "Z", .fieldLink ST 15 ST "coder" "B", .fieldLink ST 9 ST "value" "[B", .methodLink ST 541 LEq.yN, .static LEq.yN, .code LEq.yN LEq.yB 3 (some .boolean), .initialized "java/lang/StringLatin1"]
theorem tabEq_of {a : Array Value} {s : State} (h : ∀ w ∈ wordsEq, w.before a s = true) : SEq.tab.before a s = true := by
  have hl : LEq.tab.before a s = true := unparts (wk h (.code LEq.yN LEq.yB 3 (some .boolean))) (wks h (.initialized LEq.yN.cls :: LEq.site))
  have q := consq hl h
  exact unparts (wk q (.code SEq.yN SEq.yB 3 (some .boolean))) (wks q (.initialized SEq.yN.cls :: SEq.site))
theorem movedEq {Z s : State} {a0 args : Array Value} (hZ : Z.Warmed39 s.vm) (hw : ∀ d ∈ wordsEq, d.before a0 Z = true) : ∀ d ∈ wordsEq, d.before args s = true := fun d hd => by
  have t : ∀ d ∈ wordsEq, (d.onTables && d.keepsFace) = true := by decide +kernel
  exact RoadKit.mv hZ (hw d hd) (t d hd)
/-- the road's facts of a String, as the laws ask it -/
theorem txt_of {Z U : State} {a0 : Array Value} {kI : Nat} (wi : (Jvm.Cond.instantiable ST kI).before a0 Z = true) (al : Z.vm.Alike U.vm) {x t : Addr} {kb : ClassId} {cs : List Int32} {cd N2 : Int32} {vs : List Value} (E : RoadKit.Exa Z U.heap x ST) (V : RoadKit.Fld Z U.heap x ST "value" "[B" (.ref t)) (C : RoadKit.Fld Z U.heap x ST "coder" "B" (.int cd)) (K : RoadKit.Arv Z U.heap t kb .byte N2 vs (.int 0)) (hc : CodA cs cd N2 vs) (hb : ∀ c ∈ cs, ¬ c < 0 ∧ ¬ (65535 : Int32) < c) (l2 : cs.length ≤ 4000) :
    ∃ A, Txt x t A cd cs.length (fun j => cs.getD j 0) U := by
  obtain ⟨A, K1, K2, K3, K4, K5, K6⟩ := K
  have hcod := hc.cod (by omega) K3 K5
  obtain ⟨D, fV, fC, hB, F1, F2, g1, g2, -, -⟩ := strObj wi al E V C
  exact ⟨A, ⟨_, hB.2.2.1, D, hB.1, rfl, by cases q : D.vm <;> first | rfl | exact absurd q (hB.2.1.2 _)⟩, Has.of hB F1 g1, Has.of hB F2 g2, ⟨K1.1, State.isArrayOf_alike al K1.2.1, K1.2.2, by rcases hcod with ⟨-, q, -⟩ | ⟨-, q, -⟩ <;> omega⟩, hcod, fun j hj => by
    have e : cs.getD j 0 = cs[j] := by simp [List.getD_eq_getElem?_getD, hj]
    show ¬ cs.getD j 0 < 0 ∧ ¬ 65535 < cs.getD j 0
    rw [e]; exact hb _ (List.getElem_mem _)⟩
theorem same_list (cs ds : List Int32) : SameT cs.length (fun j => cs.getD j 0) ds.length (fun j => ds.getD j 0) ↔ cs = ds := by
  constructor
  · rintro ⟨e, q⟩
    refine List.ext_getElem e fun j h1 h2 => ?_
    have := q j h1
    simpa [List.getD_eq_getElem?_getD, h1, h2] using this
  · rintro rfl
    exact ⟨rfl, fun _ _ => rfl⟩
/-- **equals(Object) OF TWO SUCH STRINGS**: 1 just where the chars are the same -/
theorem eqW {p : Program} {l : Launch} {e : Env} {R : Room} {s : State} {args : Array Value} {below : List Frame} {len W : Nat} {Z : State} {a0 : Array Value} {h : Heap} (hZ : Z.Warmed39 s.vm) (hw : ∀ d ∈ wordsEq, d.before a0 Z = true) {kI : Nat} (wi : (Jvm.Cond.instantiable ST kI).before a0 Z = true)
    {x t : Addr} {kb : ClassId} {cs : List Int32} {cd N2 : Int32} {vs : List Value} (E : RoadKit.Exa Z h x ST) (V : RoadKit.Fld Z h x ST "value" "[B" (.ref t)) (C : RoadKit.Fld Z h x ST "coder" "B" (.int cd)) (K : RoadKit.Arv Z h t kb .byte N2 vs (.int 0)) (hc : CodA cs cd N2 vs) (hb : ∀ c ∈ cs, ¬ c < 0 ∧ ¬ (65535 : Int32) < c) (l2 : cs.length ≤ 4000)
    {y t' : Addr} {kb' : ClassId} {ds : List Int32} {cd' N2' : Int32} {vs' : List Value} (E' : RoadKit.Exa Z h y ST) (V' : RoadKit.Fld Z h y ST "value" "[B" (.ref t')) (C' : RoadKit.Fld Z h y ST "coder" "B" (.int cd')) (K' : RoadKit.Arv Z h t' kb' .byte N2' vs' (.int 0)) (hc' : CodA ds cd' N2' vs') (hb' : ∀ c ∈ ds, ¬ c < 0 ∧ ¬ (65535 : Int32) < c) (l2' : ds.length ≤ 4000)
    {z : Int32} (S : RoadKit.Sta Z h ST "COMPACT_STRINGS" "Z" (.int z)) (hz : ¬ z = 0) (hfr : 2 ≤ R.frames) (hlo : W + 28 ≤ R.locals) :
    Back l R p e below s args (⟨"java/lang/String", "equals", "(Ljava/lang/Object;)Z"⟩ : MethodName) len W (fun P a => a = #[.ref x, .ref y] ∧ P.U.heap = h ∧ P.cells + 0 ≤ R.cells ∧ P.slots + 0 ≤ R.slots)
      (fun P _ v B => ∃ L, (((v = some (.int 1) ∧ cs = ds) ∨ (v = some (.int 0) ∧ ¬ cs = ds)) ∧ L = [] ∧ B.U.heap = h) ∧ B.locs = P.locs ++ L ∧ B.cells = P.cells + 0 ∧ B.slots = P.slots + 0) := by
  intro m meth c P g ig mk a X hg hsize hdg hW hn hp'
  obtain ⟨rfl, rfl, r1, r2⟩ := hp'
  have al : Z.vm.Alike P.U.vm := hZ.alike.trans X.warmed.alike
  obtain ⟨A, hx⟩ := txt_of wi al E V C K hc hb l2
  obtain ⟨A', hy⟩ := txt_of wi al E' V' C' K' hc' hb' l2'
  obtain ⟨v, B, X', ⟨⟨w, hv, hh, hq⟩, hl, hk, hs⟩, st⟩ := SEq.pays x t A cd cs.length (fun j => cs.getD j 0) y t' A' cd' ds.length (fun j => ds.getD j 0) z (tabEq_of (movedEq hZ hw)) hfr hlo m meth c P g ig mk _ X hg hsize hdg hW hn ⟨r1, r2, rfl, hx, hy, sta_is al S, hz⟩
  refine ⟨v, B, X', ⟨[], ⟨?_, rfl, hh⟩, hl, hk, hs⟩, st⟩
  rcases hq with ⟨rfl, q⟩ | ⟨rfl, q⟩
  · exact Or.inl ⟨hv, (same_list cs ds).mp q⟩
  · exact Or.inr ⟨hv, fun e => q ((same_list cs ds).mpr e)⟩
end StrChars.Road
namespace StrChars.Road
open Jvm Sem ClassFile Op Lib Jvm.Stand Jvm.Free Jvm.Free.XT
open Jvm.Lib.Cold (StaticIs)
/-- what backV says of its String, as the contracts of this text ask it: cs's low bytes, coder 0 -/
theorem codOf {cs : List Int32} {n : Nat} (hn : cs.length = n) (hb : ∀ c ∈ cs, ¬ 255 < c) : CodA cs 0 (Int32.ofNat n) ((cs.map lo8).map Value.int) := Or.inl ⟨rfl, by rw [hn], by simp [List.map_map, Function.comp_def], hb⟩
end StrChars.Road
end Jvm.Pilot.@@N@@

namespace Jvm.Pilot.@@N@@
open Jvm Jvm.ClassFile Sem Op Lib Jvm.Free Jvm.Stand Jvm.LawKit Jvm.RoadKit Bundle Jvm.Pilot.@@N@@.Jvm.D

/-! A small layer of this proof's own: a goal 'the run from here ends well' (own_G), in continuation style, and one rule a step over the library's laws. -/
section OwnKit
variable {p : Program} {l : Launch} {e : Env} {R : Room} {s : State} {m : MethodId} {args : Array Value} {below : List Frame} {meth : Method} {c : Code} {T : State} {locs : List Loc} {cells slots : Nat} {Z : State} {a0 : Array Value} {h : Heap} {F : Outcome → State → Prop} {pc pc' : Nat} {Ls : Array Slot} {st stk : List Value}
/-- from st the run ends, and F holds of its end -/
def own_G (p : Program) (e : Env) (below : List Frame) (F : Outcome → State → Prop) (st : State) : Prop := ∃ U o, Steps p.tables e below st U ∧ U.status = .running ∧ Ended U below o ∧ F o U
theorem own_step {a b : State} (hs : ∀ t, Steps p.tables e below b t → Steps p.tables e below a t) (g : own_G p e below F b) : own_G p e below F a := by
  obtain ⟨U, o, h1, h2⟩ := g; exact ⟨U, o, hs _ h1, h2⟩
theorem own_go {a b : State} (hs : Steps p.tables e below a b) (g : own_G p e below F b) : own_G p e below F a := own_step (fun _ k => hs.trans k) g
/-- it returned v, with Q of v, the heap and the places written -/
def own_F (s : State) (Q : Option Value → Heap → List Loc → Prop) (k n : Nat) (o : Outcome) (U : State) : Prop := ∃ v L, o = .returned v ∧ Q v U.heap L ∧ FrameEnd s o U L k n
abbrev own_Met (l : Launch) (Z : State) (y : MethodName) (bytes : ByteArray) (maxL : Nat) (ret : Option FieldType) (ws : List Jvm.Cond) (rm : Room) (as : Array Value) (h : Heap) (Q : Option Value → Heap → List Loc → Prop) : Prop :=
  MetFree l y (head1 (Jvm.Cond.code y bytes maxL ret :: ws) rm) (fun a U => a = as ∧ Z.Warmed39 U.vm ∧ U.heap = h) (fun _ _ _ _ _ => True) (fun _ U o U' => ∃ v L, o = .returned v ∧ Q v U'.heap L ∧ FrameEnd U o U' L rm.cells rm.slots)
/-- a body that returns r, writes nothing and makes nothing -/
def own_P (r : Option Value) (h0 : Heap) (v : Option Value) (h : Heap) (L : List Loc) : Prop := v = r ∧ L = [] ∧ h = h0
theorem own_enter {y : MethodName} {bytes : ByteArray} {maxL : Nat} {ret : Option FieldType} {ws : List Jvm.Cond} {rm : Room} {as : Array Value} {Q : Option Value → Heap → List Loc → Prop} (hp : plainFor y = true) {fr : Array Slot} (hfr : ∀ m, entryFrame m as maxL = mkF m 0 fr [])
    (body : ∀ (p : Program) (e : Env) (s : State) (m : MethodId) (below : List Frame) (meth : Method) (c : Code) (T : State), p.tables.exec = Jvm.exec → c.code = bytes → c.maxLocals = maxL → Z.Warmed39 s.vm → s.vm.findClass y.cls = some m.cls → meth.name = y.name → meth.sig.returnType = ret → meth.locks = false →
      Stand p l e rm s m as below meth c T [] 0 0 → T.heap = h → own_G p e below (own_F s Q rm.cells rm.slots) (T.setTop (mkF m 0 fr []))) : own_Met l Z y bytes maxL ret ws rm as h Q := by
  refine MetFree.of_bodySF hp hisR ?_
  intro p e s m args below meth c s₁ Bd hml0 hP hK
  obtain ⟨rfl, hZ, hh⟩ := hP
  have q := body p e s m below meth c s₁ Bd.exec Bd.bytes hml0 hZ (findClass_of_methodNamed Bd.named) (name_of_methodNamed Bd.named Bd.method).1 Bd.returns (BodyLoose.notSynchronized Bd) (Stand.of_body Bd) (by rw [← hh, Bd.state]; rfl)
  rw [hfr m]; exact q
theorem own_w {a0 : Array Value} {Z : State} {ts : List Jvm.Cond} (hw : ∀ d ∈ ts, d.before a0 Z = true) (i : Nat) {d : Jvm.Cond} (h : ts[i]? = some d) : d.before a0 Z = true := hw d (List.mem_of_getElem? h)
/-! returns -/
theorem own_ret {Q : Option Value → Heap → List Loc → Prop} {k n : Nat} {v : Option Value} {fr : JFrame} (X : Stand p l e R s m args below meth c T locs cells slots) (hv : meth.sig.returnType = none → v = none) (hlk : meth.locks = false)
    (hst : ∀ fs, (∀ (f : JFrame) (acts : List Action), f.method = m → f.locked = none → f.entered = [] → (doReturn e (T.setTop f) acts v).1 = T.setFrames fs) → Steps p.tables e below (T.setTop fr) (T.setFrames fs)) (hQ : Q v T.heap locs) (hc : cells ≤ k) (hn : slots ≤ n) : own_G p e below (own_F s Q k n) (T.setTop fr) := by
  obtain ⟨fs, hr, hrun, hended, hW, hsame⟩ := X.leave (v := v) hv hlk
  exact ⟨_, _, hst fs hr, hrun, hended, v, locs, rfl, hQ, ⟨_, rfl⟩, hW, hsame.mono hc hn⟩
theorem own_stepI (X : Stand p l e R s m args below meth c T locs cells slots) (hx : p.tables.exec = Jvm.exec) {z : Int32} (hret : meth.sig.returnType = some .int) (hd : decode c.code pc = .ok (.ireturn, 1)) {fs : List Frame}
    (hl : ∀ (f : JFrame) (acts : List Action), f.method = m → f.locked = none → f.entered = [] → (doReturn e (T.setTop f) acts (some (.int z))).1 = T.setFrames fs) : Steps p.tables e below (T.setTop (mkF m pc Ls (.int z :: st))) (T.setFrames fs) :=
  retOut X hx (w := .int z) (t := .int) (i := .ireturn) hret rfl (Or.inl ⟨rfl, Or.inl rfl, z, rfl⟩) hd hl
theorem own_retI {Q : Option Value → Heap → List Loc → Prop} {k n : Nat} {z : Int32} (X : Stand p l e R s m args below meth c T locs cells slots) (hx : p.tables.exec = Jvm.exec) (hret : meth.sig.returnType = some .int) (hlk : meth.locks = false) (hd : decode c.code pc = .ok (.ireturn, 1))
    (hQ : Q (some (.int z)) T.heap locs) (hc : cells ≤ k) (hn : slots ≤ n) : own_G p e below (own_F s Q k n) (T.setTop (mkF m pc Ls (.int z :: st))) :=
  own_ret X (fun q => by rw [hret] at q; cases q) hlk (fun _ hr => own_stepI X hx hret hd hr) hQ hc hn
theorem own_retN {Q : Option Value → Heap → List Loc → Prop} {k n : Nat} {z : Int32} {t : FieldType} (X : Stand p l e R s m args below meth c T locs cells slots) (hx : p.tables.exec = Jvm.exec) (hret : meth.sig.returnType = some t) (ht : t = .boolean ∨ t = .byte ∨ t = .char ∨ t = .short) (hlk : meth.locks = false) (hd : decode c.code pc = .ok (.ireturn, 1))
    (hQ : Q (some (.int (nar t z))) T.heap locs) (hc : cells ≤ k) (hn : slots ≤ n) : own_G p e below (own_F s Q k n) (T.setTop (mkF m pc Ls (.int z :: st))) :=
  own_ret X (fun q => by rw [hret] at q; cases q) hlk (fun _ hr => retN X hx hret ht hd hr) hQ hc hn
theorem own_retR {Q : Option Value → Heap → List Loc → Prop} {k n : Nat} {w : Value} {t : FieldType} (X : Stand p l e R s m args below meth c T locs cells slots) (hx : p.tables.exec = Jvm.exec) (hret : meth.sig.returnType = some t) (ht : t.isReference = true) (hnw : narrow t w = w) (hwr : w.isRef = true) (hlk : meth.locks = false) (hd : decode c.code pc = .ok (.areturn, 1))
    (hQ : Q (some w) T.heap locs) (hc : cells ≤ k) (hn : slots ≤ n) : own_G p e below (own_F s Q k n) (T.setTop (mkF m pc Ls (w :: st))) :=
  own_ret X (fun q => by rw [hret] at q; cases q) hlk (fun _ hr => retOut X hx (t := t) (i := .areturn) hret hnw (Or.inr (Or.inr (Or.inr (Or.inr ⟨rfl, ht, hwr⟩)))) hd hr) hQ hc hn
theorem own_retV {Q : Option Value → Heap → List Loc → Prop} {k n : Nat} (X : Stand p l e R s m args below meth c T locs cells slots) (hx : p.tables.exec = Jvm.exec) (hret : meth.sig.returnType = none) (hlk : meth.locks = false) (hd : decode c.code pc = .ok (.return_, 1))
    (hQ : Q none T.heap locs) (hc : cells ≤ k) (hn : slots ≤ n) : own_G p e below (own_F s Q k n) (T.setTop (mkF m pc Ls [])) :=
  own_ret X (fun _ => rfl) hlk (fun _ hr => X.returnOut hx hret hd hr) hQ hc hn
/-! branches -/
theorem own_icmp {P : Prop} {cd : ClassFile.Cond} {x y : Int32} {o : Int} (X : Stand p l e R s m args below meth c T locs cells slots) (hx : p.tables.exec = Jvm.exec) (hd : decode c.code pc = .ok (.if_icmp cd o, 3)) (ho : 0 ≤ (pc : Int) + o) (hp : ((pc : Int) + o).toNat = pc')
    (h1 : P → if_icmp.holds cd x y = true) (h2 : ¬ P → if_icmp.holds cd x y = false) (yes : P → own_G p e below F (T.setTop (mkF m pc' Ls st))) (no : ¬ P → own_G p e below F (T.setTop (mkF m (pc + 3) Ls st))) : own_G p e below F (T.setTop (mkF m pc Ls (.int y :: .int x :: st))) := by
  by_cases q : P
  · exact own_step (fun t k => XS.icmpYes X.here hx rfl (pc0 := pc) (pc' := pc') rfl hd rfl (h1 q) ho hp k) (yes q)
  · exact own_step (fun t k => XS.icmpNo X.here hx rfl hd rfl (h2 q) k) (no q)
theorem own_ifc {P : Prop} {cd : ClassFile.Cond} {x : Int32} {o : Int} (X : Stand p l e R s m args below meth c T locs cells slots) (hx : p.tables.exec = Jvm.exec) (hd : decode c.code pc = .ok (.ifCond cd o, 3)) (ho : 0 ≤ (pc : Int) + o) (hp : ((pc : Int) + o).toNat = pc')
    (h1 : P → ifCond.holds cd x = true) (h2 : ¬ P → ifCond.holds cd x = false) (yes : P → own_G p e below F (T.setTop (mkF m pc' Ls st))) (no : ¬ P → own_G p e below F (T.setTop (mkF m (pc + 3) Ls st))) : own_G p e below F (T.setTop (mkF m pc Ls (.int x :: st))) := by
  by_cases q : P
  · exact own_step (fun t k => XS.ifYes X.here hx rfl (pc0 := pc) (pc' := pc') rfl hd rfl (h1 q) ho hp k) (yes q)
  · exact own_step (fun t k => XS.ifNo X.here hx rfl hd rfl (h2 q) k) (no q)
theorem own_icmp_eq {x y : Int32} {o : Int} (X : Stand p l e R s m args below meth c T locs cells slots) (hx : p.tables.exec = Jvm.exec) (hd : decode c.code pc = .ok (.if_icmp .eq o, 3)) (ho : 0 ≤ (pc : Int) + o) (hp : ((pc : Int) + o).toNat = pc')
    (yes : x = y → own_G p e below F (T.setTop (mkF m pc' Ls st))) (no : ¬ x = y → own_G p e below F (T.setTop (mkF m (pc + 3) Ls st))) : own_G p e below F (T.setTop (mkF m pc Ls (.int y :: .int x :: st))) :=
  own_icmp (P := x = y) X hx hd ho hp (fun q => by have q' := q; simp [if_icmp.holds, Int32.not_lt, Int32.not_le] at q' ⊢; exact q') (fun q => by have q' := q; simp [if_icmp.holds, Int32.not_lt, Int32.not_le] at q' ⊢; exact q') yes (fun q => no (by first | exact q | exact Classical.not_not.mp q))
theorem own_if_eq {x : Int32} {o : Int} (X : Stand p l e R s m args below meth c T locs cells slots) (hx : p.tables.exec = Jvm.exec) (hd : decode c.code pc = .ok (.ifCond .eq o, 3)) (ho : 0 ≤ (pc : Int) + o) (hp : ((pc : Int) + o).toNat = pc')
    (yes : x = 0 → own_G p e below F (T.setTop (mkF m pc' Ls st))) (no : ¬ x = 0 → own_G p e below F (T.setTop (mkF m (pc + 3) Ls st))) : own_G p e below F (T.setTop (mkF m pc Ls (.int x :: st))) :=
  own_ifc (P := x = 0) X hx hd ho hp (fun q => by have q' := q; simp [ifCond.holds, Int32.not_lt, Int32.not_le] at q' ⊢; exact q') (fun q => by have q' := q; simp [ifCond.holds, Int32.not_lt, Int32.not_le] at q' ⊢; exact q') yes (fun q => no (by first | exact q | exact Classical.not_not.mp q))
theorem own_icmp_ne {x y : Int32} {o : Int} (X : Stand p l e R s m args below meth c T locs cells slots) (hx : p.tables.exec = Jvm.exec) (hd : decode c.code pc = .ok (.if_icmp .ne o, 3)) (ho : 0 ≤ (pc : Int) + o) (hp : ((pc : Int) + o).toNat = pc')
    (yes : ¬ x = y → own_G p e below F (T.setTop (mkF m pc' Ls st))) (no : x = y → own_G p e below F (T.setTop (mkF m (pc + 3) Ls st))) : own_G p e below F (T.setTop (mkF m pc Ls (.int y :: .int x :: st))) :=
  own_icmp (P := ¬ x = y) X hx hd ho hp (fun q => by have q' := q; simp [if_icmp.holds, Int32.not_lt, Int32.not_le] at q' ⊢; exact q') (fun q => by have q' := q; simp [if_icmp.holds, Int32.not_lt, Int32.not_le] at q' ⊢; exact q') yes (fun q => no (by first | exact q | exact Classical.not_not.mp q))
theorem own_if_ne {x : Int32} {o : Int} (X : Stand p l e R s m args below meth c T locs cells slots) (hx : p.tables.exec = Jvm.exec) (hd : decode c.code pc = .ok (.ifCond .ne o, 3)) (ho : 0 ≤ (pc : Int) + o) (hp : ((pc : Int) + o).toNat = pc')
    (yes : ¬ x = 0 → own_G p e below F (T.setTop (mkF m pc' Ls st))) (no : x = 0 → own_G p e below F (T.setTop (mkF m (pc + 3) Ls st))) : own_G p e below F (T.setTop (mkF m pc Ls (.int x :: st))) :=
  own_ifc (P := ¬ x = 0) X hx hd ho hp (fun q => by have q' := q; simp [ifCond.holds, Int32.not_lt, Int32.not_le] at q' ⊢; exact q') (fun q => by have q' := q; simp [ifCond.holds, Int32.not_lt, Int32.not_le] at q' ⊢; exact q') yes (fun q => no (by first | exact q | exact Classical.not_not.mp q))
theorem own_icmp_lt {x y : Int32} {o : Int} (X : Stand p l e R s m args below meth c T locs cells slots) (hx : p.tables.exec = Jvm.exec) (hd : decode c.code pc = .ok (.if_icmp .lt o, 3)) (ho : 0 ≤ (pc : Int) + o) (hp : ((pc : Int) + o).toNat = pc')
    (yes : x < y → own_G p e below F (T.setTop (mkF m pc' Ls st))) (no : ¬ x < y → own_G p e below F (T.setTop (mkF m (pc + 3) Ls st))) : own_G p e below F (T.setTop (mkF m pc Ls (.int y :: .int x :: st))) :=
  own_icmp (P := x < y) X hx hd ho hp (fun q => by have q' := q; simp [if_icmp.holds, Int32.not_lt, Int32.not_le] at q' ⊢; exact q') (fun q => by have q' := q; simp [if_icmp.holds, Int32.not_lt, Int32.not_le] at q' ⊢; exact q') yes (fun q => no (by first | exact q | exact Classical.not_not.mp q))
theorem own_if_lt {x : Int32} {o : Int} (X : Stand p l e R s m args below meth c T locs cells slots) (hx : p.tables.exec = Jvm.exec) (hd : decode c.code pc = .ok (.ifCond .lt o, 3)) (ho : 0 ≤ (pc : Int) + o) (hp : ((pc : Int) + o).toNat = pc')
    (yes : x < 0 → own_G p e below F (T.setTop (mkF m pc' Ls st))) (no : ¬ x < 0 → own_G p e below F (T.setTop (mkF m (pc + 3) Ls st))) : own_G p e below F (T.setTop (mkF m pc Ls (.int x :: st))) :=
  own_ifc (P := x < 0) X hx hd ho hp (fun q => by have q' := q; simp [ifCond.holds, Int32.not_lt, Int32.not_le] at q' ⊢; exact q') (fun q => by have q' := q; simp [ifCond.holds, Int32.not_lt, Int32.not_le] at q' ⊢; exact q') yes (fun q => no (by first | exact q | exact Classical.not_not.mp q))
theorem own_icmp_ge {x y : Int32} {o : Int} (X : Stand p l e R s m args below meth c T locs cells slots) (hx : p.tables.exec = Jvm.exec) (hd : decode c.code pc = .ok (.if_icmp .ge o, 3)) (ho : 0 ≤ (pc : Int) + o) (hp : ((pc : Int) + o).toNat = pc')
    (yes : ¬ x < y → own_G p e below F (T.setTop (mkF m pc' Ls st))) (no : x < y → own_G p e below F (T.setTop (mkF m (pc + 3) Ls st))) : own_G p e below F (T.setTop (mkF m pc Ls (.int y :: .int x :: st))) :=
  own_icmp (P := ¬ x < y) X hx hd ho hp (fun q => by have q' := q; simp [if_icmp.holds, Int32.not_lt, Int32.not_le] at q' ⊢; exact q') (fun q => by have q' := q; simp [if_icmp.holds, Int32.not_lt, Int32.not_le] at q' ⊢; exact q') yes (fun q => no (by first | exact q | exact Classical.not_not.mp q))
theorem own_if_ge {x : Int32} {o : Int} (X : Stand p l e R s m args below meth c T locs cells slots) (hx : p.tables.exec = Jvm.exec) (hd : decode c.code pc = .ok (.ifCond .ge o, 3)) (ho : 0 ≤ (pc : Int) + o) (hp : ((pc : Int) + o).toNat = pc')
    (yes : ¬ x < 0 → own_G p e below F (T.setTop (mkF m pc' Ls st))) (no : x < 0 → own_G p e below F (T.setTop (mkF m (pc + 3) Ls st))) : own_G p e below F (T.setTop (mkF m pc Ls (.int x :: st))) :=
  own_ifc (P := ¬ x < 0) X hx hd ho hp (fun q => by have q' := q; simp [ifCond.holds, Int32.not_lt, Int32.not_le] at q' ⊢; exact q') (fun q => by have q' := q; simp [ifCond.holds, Int32.not_lt, Int32.not_le] at q' ⊢; exact q') yes (fun q => no (by first | exact q | exact Classical.not_not.mp q))
theorem own_icmp_gt {x y : Int32} {o : Int} (X : Stand p l e R s m args below meth c T locs cells slots) (hx : p.tables.exec = Jvm.exec) (hd : decode c.code pc = .ok (.if_icmp .gt o, 3)) (ho : 0 ≤ (pc : Int) + o) (hp : ((pc : Int) + o).toNat = pc')
    (yes : y < x → own_G p e below F (T.setTop (mkF m pc' Ls st))) (no : ¬ y < x → own_G p e below F (T.setTop (mkF m (pc + 3) Ls st))) : own_G p e below F (T.setTop (mkF m pc Ls (.int y :: .int x :: st))) :=
  own_icmp (P := y < x) X hx hd ho hp (fun q => by have q' := q; simp [if_icmp.holds, Int32.not_lt, Int32.not_le] at q' ⊢; exact q') (fun q => by have q' := q; simp [if_icmp.holds, Int32.not_lt, Int32.not_le] at q' ⊢; exact q') yes (fun q => no (by first | exact q | exact Classical.not_not.mp q))
theorem own_if_gt {x : Int32} {o : Int} (X : Stand p l e R s m args below meth c T locs cells slots) (hx : p.tables.exec = Jvm.exec) (hd : decode c.code pc = .ok (.ifCond .gt o, 3)) (ho : 0 ≤ (pc : Int) + o) (hp : ((pc : Int) + o).toNat = pc')
    (yes : 0 < x → own_G p e below F (T.setTop (mkF m pc' Ls st))) (no : ¬ 0 < x → own_G p e below F (T.setTop (mkF m (pc + 3) Ls st))) : own_G p e below F (T.setTop (mkF m pc Ls (.int x :: st))) :=
  own_ifc (P := 0 < x) X hx hd ho hp (fun q => by have q' := q; simp [ifCond.holds, Int32.not_lt, Int32.not_le] at q' ⊢; exact q') (fun q => by have q' := q; simp [ifCond.holds, Int32.not_lt, Int32.not_le] at q' ⊢; exact q') yes (fun q => no (by first | exact q | exact Classical.not_not.mp q))
theorem own_icmp_le {x y : Int32} {o : Int} (X : Stand p l e R s m args below meth c T locs cells slots) (hx : p.tables.exec = Jvm.exec) (hd : decode c.code pc = .ok (.if_icmp .le o, 3)) (ho : 0 ≤ (pc : Int) + o) (hp : ((pc : Int) + o).toNat = pc')
    (yes : ¬ y < x → own_G p e below F (T.setTop (mkF m pc' Ls st))) (no : y < x → own_G p e below F (T.setTop (mkF m (pc + 3) Ls st))) : own_G p e below F (T.setTop (mkF m pc Ls (.int y :: .int x :: st))) :=
  own_icmp (P := ¬ y < x) X hx hd ho hp (fun q => by have q' := q; simp [if_icmp.holds, Int32.not_lt, Int32.not_le] at q' ⊢; exact q') (fun q => by have q' := q; simp [if_icmp.holds, Int32.not_lt, Int32.not_le] at q' ⊢; exact q') yes (fun q => no (by first | exact q | exact Classical.not_not.mp q))
theorem own_if_le {x : Int32} {o : Int} (X : Stand p l e R s m args below meth c T locs cells slots) (hx : p.tables.exec = Jvm.exec) (hd : decode c.code pc = .ok (.ifCond .le o, 3)) (ho : 0 ≤ (pc : Int) + o) (hp : ((pc : Int) + o).toNat = pc')
    (yes : ¬ 0 < x → own_G p e below F (T.setTop (mkF m pc' Ls st))) (no : 0 < x → own_G p e below F (T.setTop (mkF m (pc + 3) Ls st))) : own_G p e below F (T.setTop (mkF m pc Ls (.int x :: st))) :=
  own_ifc (P := ¬ 0 < x) X hx hd ho hp (fun q => by have q' := q; simp [ifCond.holds, Int32.not_lt, Int32.not_le] at q' ⊢; exact q') (fun q => by have q' := q; simp [ifCond.holds, Int32.not_lt, Int32.not_le] at q' ⊢; exact q') yes (fun q => no (by first | exact q | exact Classical.not_not.mp q))
theorem own_nonnull_ref {b : Addr} {o : Int} (X : Stand p l e R s m args below meth c T locs cells slots) (hx : p.tables.exec = Jvm.exec) (hd : decode c.code pc = .ok (.ifnonnull o, 3)) (ho : 0 ≤ (pc : Int) + o) (hp : ((pc : Int) + o).toNat = pc')
    (yes : own_G p e below F (T.setTop (mkF m pc' Ls st))) : own_G p e below F (T.setTop (mkF m pc Ls (.ref b :: st))) := own_step (fun t k => XT.ifnonnullYes X.here hx rfl (pc0 := pc) (pc' := pc') rfl hd rfl ho hp k) yes
theorem own_nonnull_null {o : Int} (X : Stand p l e R s m args below meth c T locs cells slots) (hx : p.tables.exec = Jvm.exec) (hd : decode c.code pc = .ok (.ifnonnull o, 3))
    (no : own_G p e below F (T.setTop (mkF m (pc + 3) Ls st))) : own_G p e below F (T.setTop (mkF m pc Ls (.null :: st))) := own_step (fun t k => XT.ifnonnullNo X.here hx rfl hd rfl k) no
/-! the heap -/
theorem own_getF (X : Stand p l e R s m args below meth c T locs cells slots) (hx : p.tables.exec = Jvm.exec) (hZ : Z.Warmed39 s.vm) {own O n d : String} {index : Nat} (hown : s.vm.findClass own = some m.cls) (w : (Jvm.Cond.fieldLink own index O n d).before a0 Z = true) (eT : T.heap = h) {a : Addr} {v : Value} (Fd : Fld Z h a O n d v) (hd : decode c.code pc = .ok (.getfield index, 3))
    (k : ∀ T', Stand p l e R s m args below meth c T' locs cells slots → T'.heap = h → own_G p e below F (T'.setTop (mkF m (pc + 3) Ls (v :: st)))) : own_G p e below F (T.setTop (mkF m pc Ls (.ref a :: st))) := by
  obtain ⟨T', X', e', st'⟩ := getF X hx hZ hown (host := "") (Or.inl w) Via.refl eT Fd (g := mkF m pc Ls (.ref a :: st)) rfl rfl hd
  exact own_step st' (k T' X' e')
theorem own_getS (X : Stand p l e R s m args below meth c T locs cells slots) (hx : p.tables.exec = Jvm.exec) (hZ : Z.Warmed39 s.vm) {own O n d : String} {index : Nat} (hown : s.vm.findClass own = some m.cls) (w : (Jvm.Cond.fieldLink own index O n d).before a0 Z = true) (eT : T.heap = h) {v : Value} (Fd : Sta Z h O n d v) (hd : decode c.code pc = .ok (.getstatic index, 3))
    (k : ∀ T', Stand p l e R s m args below meth c T' locs cells slots → T'.heap = h → own_G p e below F (T'.setTop (mkF m (pc + 3) Ls (v :: st)))) : own_G p e below F (T.setTop (mkF m pc Ls st)) := by
  obtain ⟨T', X', e', st'⟩ := getS X hx hZ (host := "") hown w Via.refl eT Fd (g := mkF m pc Ls st) rfl hd
  exact own_step st' (k T' X' e')
theorem own_putF (X : Stand p l e R s m args below meth c T locs cells slots) (hx : p.tables.exec = Jvm.exec) (hZ : Z.Warmed39 s.vm) {own O n d C : String} {index kk : Nat} {ty : FieldType} (hown : s.vm.findClass own = some m.cls) (w : (Jvm.Cond.fieldLink own index O n d).before a0 Z = true) (eT : T.heap = h) {a : Addr} {v old : Value} (Fd : Fld Z h a O n d old) (E : Exa Z h a C)
    (L : (Jvm.Cond.lays C O n d).before a0 Z = true ∨ ((Jvm.Cond.laysFinal C O n d).before a0 Z = true ∧ own = O ∧ meth.name = "<init>")) (wi : (Jvm.Cond.instantiable C kk).before a0 Z = true) (hty : parseFieldDescriptor d = some ty) (hn : narrow ty v = v) (hf : fits ty v = true) (N : Fr Z.heap.size locs) (ha : Z.heap.size ≤ a) (hd : decode c.code pc = .ok (.putfield index, 3))
    (k : ∀ T' h', Stand p l e R s m args below meth c T' (locs ++ [⟨a, Jvm.RoadKit.slotOf Z O n d⟩]) cells slots → T'.heap = h' → Fr Z.heap.size (locs ++ [⟨a, Jvm.RoadKit.slotOf Z O n d⟩]) → Wr h h' a (Jvm.RoadKit.slotOf Z O n d) v → h'.size = h.size → Fld Z h' a O n d v → Exa Z h' a C → own_G p e below F (T'.setTop (mkF m (pc + 3) Ls st))) : own_G p e below F (T.setTop (mkF m pc Ls (v :: .ref a :: st))) := by
  obtain ⟨T', h', X', e', W', st'⟩ := putF X hx hZ hown (host := "") (Or.inl w) Via.refl eT Fd E L wi hty hn hf (g := mkF m pc Ls (v :: .ref a :: st)) rfl rfl hd
  exact own_step st' (k T' h' X' e' (Fr.snoc X' N ha) W' W'.size (Fd.same W') (E.wr W'))
theorem own_newO (X : Stand p l e R s m args below meth c T locs cells slots) (hx : p.tables.exec = Jvm.exec) (hZ : Z.Warmed39 s.vm) {own C : String} {index n : Nat} (hown : s.vm.findClass own = some m.cls) (w : (Jvm.Cond.classLink own index C).before a0 Z = true) (wi : (Jvm.Cond.instantiable C n).before a0 Z = true) (wz : (Jvm.Cond.initialized C).before a0 Z = true) (eT : T.heap = h)
    (hd : decode c.code pc = .ok (.new index, 3)) (hc : cells + 1 ≤ R.cells) (hl : slots + n ≤ R.slots)
    (k : ∀ T' h' a, Stand p l e R s m args below meth c T' locs (cells + 1) (slots + n) → T'.heap = h' → a = h.size → a < h'.size → Ext h h' → Exa Z h' a C → (∀ {O nm d : String} {ty : FieldType}, Laid Z a0 C O nm d → parseFieldDescriptor d = some ty → Fld Z h' a O nm d (defaultValue ty)) →
      own_G p e below F (T'.setTop (mkF m (pc + 3) Ls (.ref a :: st)))) : own_G p e below F (T.setTop (mkF m pc Ls st)) := by
  obtain ⟨T', h', X', e', E', A', D', -, st'⟩ := newO X hx hZ hown w wi wz eT (g := mkF m pc Ls st) rfl hd hc hl
  exact own_step st' (k T' h' h.size X' e' rfl A'.lt E' A' D')
/-- newarray, its places said one by one -/
theorem own_newP (X : Stand p l e R s m args below meth c T locs cells slots) (hx : p.tables.exec = Jvm.exec) (hZ : Z.Warmed39 s.vm) {aty : ArrayType} (w : (Jvm.Cond.arrayClass (newarray.typeOf aty)).before a0 Z = true) (eT : T.heap = h) (hd : decode c.code pc = .ok (.newarray aty, 2)) {n : Int32} (hn : ¬ n < 0) (cap : Nat) (hcap : n.toNatClampNeg ≤ cap) (hb : cap * 8 ≤ 536870912) (hc : cells + 1 ≤ R.cells) (hl : slots + cap ≤ R.slots)
    (k : ∀ T' h' a kA, Stand p l e R s m args below meth c T' locs (cells + 1) (slots + cap) → T'.heap = h' → a = h.size → a < h'.size → Ext h h' → Arv Z h' a kA (newarray.typeOf aty) n (List.replicate n.toNatClampNeg (defaultValue (newarray.typeOf aty))) (defaultValue (newarray.typeOf aty)) →
      own_G p e below F (T'.setTop (mkF m (pc + 2) Ls (.ref a :: st)))) : own_G p e below F (T.setTop (mkF m pc Ls (.int n :: st))) := by
  obtain ⟨T', h', cA, X', e', E', A', st'⟩ := newP X hx hZ w eT (g := mkF m pc Ls (.int n :: st)) rfl hd rfl hn (cap := cap) hcap hb hc hl
  exact own_step st' (k T' h' h.size cA X' e' rfl A'.lt E' ((Arv.new A' hn).pad (by have q := pad_rep [] (defaultValue (newarray.typeOf aty)) n.toNatClampNeg; simpa using q)))
theorem own_inb {n : Int32} {i : Nat} {j : Int32} (hj0 : ¬ j < 0) (hj : j.toNatClampNeg = i) (hi : i < n.toNatClampNeg) : ¬ j < 0 ∧ j < n := by
  refine ⟨hj0, ?_⟩
  rw [Int32.lt_iff_toInt_lt]
  simp only [Int32.toNatClampNeg] at hj hi
  rw [Int32.lt_iff_toInt_lt] at hj0
  simp only [Int32.reduceToInt] at hj0
  omega
theorem own_stC (X : Stand p l e R s m args below meth c T locs cells slots) (hx : p.tables.exec = Jvm.exec) (hZ : Z.Warmed39 s.vm) (eT : T.heap = h) {a : Addr} {kA : ClassId} {n : Int32} {vs : List Value} {dv : Value} (V : Arv Z h a kA .char n vs dv) {j x : Int32} (i : Nat) (hj0 : ¬ j < 0) (hj : j.toNatClampNeg = i) (hi : i < n.toNatClampNeg) (hi' : i < vs.length) (N : Fr Z.heap.size locs) (ha : Z.heap.size ≤ a) (hd : decode c.code pc = .ok (.castore, 1))
    (k : ∀ T' h', Stand p l e R s m args below meth c T' (locs ++ [⟨a, j.toNatClampNeg⟩]) cells slots → T'.heap = h' → Fr Z.heap.size (locs ++ [⟨a, j.toNatClampNeg⟩]) → Wr h h' a j.toNatClampNeg (.int (nar .char x)) → h'.size = h.size → Arv Z h' a kA .char n (vs.set i (.int (nar .char x))) dv → own_G p e below F (T'.setTop (mkF m (pc + 1) Ls st))) :
    own_G p e below F (T.setTop (mkF m pc Ls (.int x :: .int j :: .ref a :: st))) := by
  obtain ⟨cl, A, q1, S, q3, H, G⟩ := V
  obtain ⟨T', h', X', e', W', st'⟩ := stC X hx hZ eT A (j := j) (inb_of S (own_inb hj0 hj hi)) (g := mkF m pc Ls (.int x :: .int j :: .ref a :: st)) rfl rfl hd
  exact own_step st' (k T' h' X' e' (Fr.snoc X' N ha) W' W'.size (Arv.set A q1 S q3 H G (fits_nar_char _) W' i hj hi'))
theorem own_stI (X : Stand p l e R s m args below meth c T locs cells slots) (hx : p.tables.exec = Jvm.exec) (hZ : Z.Warmed39 s.vm) (eT : T.heap = h) {a : Addr} {kA : ClassId} {n : Int32} {vs : List Value} {dv : Value} (V : Arv Z h a kA .int n vs dv) {j x : Int32} (i : Nat) (hj0 : ¬ j < 0) (hj : j.toNatClampNeg = i) (hi : i < n.toNatClampNeg) (hi' : i < vs.length) (N : Fr Z.heap.size locs) (ha : Z.heap.size ≤ a) (hd : decode c.code pc = .ok (.iastore, 1))
    (k : ∀ T' h', Stand p l e R s m args below meth c T' (locs ++ [⟨a, j.toNatClampNeg⟩]) cells slots → T'.heap = h' → Fr Z.heap.size (locs ++ [⟨a, j.toNatClampNeg⟩]) → Wr h h' a j.toNatClampNeg (.int x) → h'.size = h.size → Arv Z h' a kA .int n (vs.set i (.int x)) dv → own_G p e below F (T'.setTop (mkF m (pc + 1) Ls st))) :
    own_G p e below F (T.setTop (mkF m pc Ls (.int x :: .int j :: .ref a :: st))) := by
  obtain ⟨cl, A, q1, S, q3, H, G⟩ := V
  obtain ⟨T', h', X', e', W', st'⟩ := stI X hx hZ eT A (j := j) (inb_of S (own_inb hj0 hj hi)) (g := mkF m pc Ls (.int x :: .int j :: .ref a :: st)) rfl rfl hd
  exact own_step st' (k T' h' X' e' (Fr.snoc X' N ha) W' W'.size (Arv.set A q1 S q3 H G rfl W' i hj hi'))
theorem own_stB (X : Stand p l e R s m args below meth c T locs cells slots) (hx : p.tables.exec = Jvm.exec) (hZ : Z.Warmed39 s.vm) (eT : T.heap = h) {a : Addr} {kA : ClassId} {n : Int32} {vs : List Value} {dv : Value} (V : Arv Z h a kA .byte n vs dv) {j x : Int32} (i : Nat) (hj0 : ¬ j < 0) (hj : j.toNatClampNeg = i) (hi : i < n.toNatClampNeg) (hi' : i < vs.length) (N : Fr Z.heap.size locs) (ha : Z.heap.size ≤ a) (hd : decode c.code pc = .ok (.bastore, 1))
    (k : ∀ T' h', Stand p l e R s m args below meth c T' (locs ++ [⟨a, j.toNatClampNeg⟩]) cells slots → T'.heap = h' → Fr Z.heap.size (locs ++ [⟨a, j.toNatClampNeg⟩]) → Wr h h' a j.toNatClampNeg (.int (nar .byte x)) → h'.size = h.size → Arv Z h' a kA .byte n (vs.set i (.int (nar .byte x))) dv → own_G p e below F (T'.setTop (mkF m (pc + 1) Ls st))) :
    own_G p e below F (T.setTop (mkF m pc Ls (.int x :: .int j :: .ref a :: st))) := by
  obtain ⟨cl, A, q1, S, q3, H, G⟩ := V
  obtain ⟨T', h', X', e', W', st'⟩ := stB X hx hZ eT A (j := j) (inb_of S (own_inb hj0 hj hi)) (g := mkF m pc Ls (.int x :: .int j :: .ref a :: st)) rfl rfl hd
  exact own_step st' (k T' h' X' e' (Fr.snoc X' N ha) W' W'.size (Arv.set A q1 S q3 H G (fits_nar_byte _) W' i hj hi'))
theorem own_ldC (X : Stand p l e R s m args below meth c T locs cells slots) (hx : p.tables.exec = Jvm.exec) (hZ : Z.Warmed39 s.vm) (eT : T.heap = h) {a : Addr} {kA : ClassId} {n : Int32} {vs : List Value} {dv v : Value} (V : Arv Z h a kA .char n vs dv) {j : Int32} (i : Nat) (hj0 : ¬ j < 0) (hj : j.toNatClampNeg = i) (hi : i < n.toNatClampNeg) (hv : vs.getD i dv = v) (hd : decode c.code pc = .ok (.caload, 1))
    (k : own_G p e below F (T.setTop (mkF m (pc + 1) Ls (v :: st)))) : own_G p e below F (T.setTop (mkF m pc Ls (.int j :: .ref a :: st))) := by
  obtain ⟨cl, A, q1, S, q3, H, G⟩ := V
  have hin := inb_of S (own_inb hj0 hj hi)
  exact own_step (X.caload hx (by rw [eT]; exact A.1) (State.isArrayOf_alike hZ.alike A.2.1) A.2.2 hin (Has.at H hin (by rw [hj]; exact hv)) (g := mkF m pc Ls (.int j :: .ref a :: st)) rfl rfl hd) k
theorem own_ldI (X : Stand p l e R s m args below meth c T locs cells slots) (hx : p.tables.exec = Jvm.exec) (hZ : Z.Warmed39 s.vm) (eT : T.heap = h) {a : Addr} {kA : ClassId} {n : Int32} {vs : List Value} {dv v : Value} (V : Arv Z h a kA .int n vs dv) {j : Int32} (i : Nat) (hj0 : ¬ j < 0) (hj : j.toNatClampNeg = i) (hi : i < n.toNatClampNeg) (hv : vs.getD i dv = v) (hd : decode c.code pc = .ok (.iaload, 1))
    (k : own_G p e below F (T.setTop (mkF m (pc + 1) Ls (v :: st)))) : own_G p e below F (T.setTop (mkF m pc Ls (.int j :: .ref a :: st))) := by
  obtain ⟨cl, A, q1, S, q3, H, G⟩ := V
  have hin := inb_of S (own_inb hj0 hj hi)
  exact own_step (X.iaload hx (by rw [eT]; exact A.1) (State.isArrayOf_alike hZ.alike A.2.1) A.2.2 hin (Has.at H hin (by rw [hj]; exact hv)) (g := mkF m pc Ls (.int j :: .ref a :: st)) rfl rfl hd) k
theorem own_ldB (X : Stand p l e R s m args below meth c T locs cells slots) (hx : p.tables.exec = Jvm.exec) (hZ : Z.Warmed39 s.vm) (eT : T.heap = h) {a : Addr} {kA : ClassId} {n : Int32} {vs : List Value} {dv v : Value} (V : Arv Z h a kA .byte n vs dv) {j : Int32} (i : Nat) (hj0 : ¬ j < 0) (hj : j.toNatClampNeg = i) (hi : i < n.toNatClampNeg) (hv : vs.getD i dv = v) (hd : decode c.code pc = .ok (.baload, 1))
    (k : own_G p e below F (T.setTop (mkF m (pc + 1) Ls (v :: st)))) : own_G p e below F (T.setTop (mkF m pc Ls (.int j :: .ref a :: st))) := by
  obtain ⟨cl, A, q1, S, q3, H, G⟩ := V
  have hin := inb_of S (own_inb hj0 hj hi)
  exact own_step (X.baloadBytes hx (by rw [eT]; exact A.1) (State.isArrayOf_alike hZ.alike A.2.1) A.2.2 hin (Has.at H hin (by rw [hj]; exact hv)) (g := mkF m pc Ls (.int j :: .ref a :: st)) rfl rfl hd) k
theorem own_len (X : Stand p l e R s m args below meth c T locs cells slots) (hx : p.tables.exec = Jvm.exec) (hZ : Z.Warmed39 s.vm) (eT : T.heap = h) {a : Addr} {kA : ClassId} {ty : FieldType} {n : Int32} {vs : List Value} {dv : Value} (V : Arv Z h a kA ty n vs dv) (hd : decode c.code pc = .ok (.arraylength, 1))
    (k : own_G p e below F (T.setTop (mkF m (pc + 1) Ls (.int n :: st)))) : own_G p e below F (T.setTop (mkF m pc Ls (.ref a :: st))) := by
  obtain ⟨cl, A, q1, S, q3, H, G⟩ := V
  exact own_step (fun t q => X.arraylength hx (by rw [eT]; exact A.1) (State.isArrayOf_alike hZ.alike A.2.1) (g := mkF m pc Ls (.ref a :: st)) rfl rfl hd t (by rw [len_of S q3]; exact q)) k
/-! calls; a callee's law in the shape that backOf gives -/
abbrev own_B (l : Launch) (R : Room) (p : Program) (e : Env) (below : List Frame) (s : State) (args : Array Value) (y : MethodName) (W : Nat) (as : Array Value) (h : Heap) (kc kn : Nat) (Q : Option Value → Heap → List Loc → Prop) : Prop :=
  Back l R p e below s args y 3 W (fun A a => a = as ∧ A.U.heap = h ∧ A.cells + kc ≤ R.cells ∧ A.slots + kn ≤ R.slots) (fun A _ v B => ∃ L, Q v B.U.heap L ∧ B.locs = A.locs ++ L ∧ B.cells = A.cells + kc ∧ B.slots = A.slots + kn)
theorem own_static {Q : Option Value → Heap → List Loc → Prop} {kc kn W : Nat} {argsL : List Value} (X : Stand p l e R s m args below meth c T locs cells slots) (hx : p.tables.exec = Jvm.exec) (hZ : Z.Warmed39 s.vm) {own : String} {index : Nat} {y : MethodName} {bytes : ByteArray} {maxL : Nat} {ret : Option FieldType} (hown : s.vm.findClass own = some m.cls)
    (w1 : (Jvm.Cond.methodLink own index y).before a0 Z = true) (w2 : (Jvm.Cond.static y).before a0 Z = true) (w3 : (Jvm.Cond.initialized y.cls).before a0 Z = true) (w4 : (Jvm.Cond.code y bytes maxL ret).before a0 Z = true) (hy : y.cls ≠ "java/lang/invoke/MethodHandle" ∧ y.cls ≠ "java/lang/invoke/VarHandle") (eT : T.heap = h)
    (hK : own_B l R p e below s args y W argsL.toArray h kc kn Q) (hc : cells + kc ≤ R.cells) (hs : slots + kn ≤ R.slots) (hsz : Ls.size = c.maxLocals) (hlen : ∀ sig, parseMethodDescriptor y.desc = some sig → argsL.length = sig.parameters.length) (hstk : stk = argsL.reverse ++ st) (hW : (st.map fun v => v.category).sum ≤ W)
    (hd : decode c.code pc = .ok (.invokestatic index, 3)) (k : ∀ v T' L, Stand p l e R s m args below meth c T' (locs ++ L) (cells + kc) (slots + kn) → Q v T'.heap L → own_G p e below F (T'.setTop (mkF m (pc + 3) Ls (v.toList ++ st)))) : own_G p e below F (T.setTop (mkF m pc Ls stk)) := by
  obtain ⟨v, _, ⟨T', L', k', n'⟩, -, X', ⟨L, hQ, l1, y1, z1⟩, st'⟩ := Jvm.LawKit.callS X hx hown (mvT hZ w1) (mvT hZ w2) (mvT hZ w3) (mvT hZ w4) hy hK (g := mkF m pc Ls stk) rfl hsz (argsL := argsL) (rest := st) hlen hstk (by show 2 * 0 + _ ≤ _; omega) hd (fun _ _ => ⟨rfl, eT, hc, hs⟩)
  dsimp only [Pt.U, Pt.locs, Pt.cells, Pt.slots] at X' l1 y1 z1 st' hQ
  subst l1 y1 z1
  exact own_step st' (k v T' L X' hQ)
theorem own_special {Q : Option Value → Heap → List Loc → Prop} {kc kn W : Nat} {argsL : List Value} {a : Addr} (X : Stand p l e R s m args below meth c T locs cells slots) (hx : p.tables.exec = Jvm.exec) (hZ : Z.Warmed39 s.vm) {own : String} {index : Nat} {y : MethodName} {bytes : ByteArray} {maxL : Nat} (hown : s.vm.findClass own = some m.cls) (hy1 : y.name = "<init>")
    (w1 : (Jvm.Cond.methodLink own index y).before a0 Z = true) (w2 : (Jvm.Cond.instanceMethod y).before a0 Z = true) (w4 : (Jvm.Cond.code y bytes maxL none).before a0 Z = true) (hy : y.cls ≠ "java/lang/invoke/MethodHandle" ∧ y.cls ≠ "java/lang/invoke/VarHandle") (eT : T.heap = h)
    (hK : own_B l R p e below s args y W (.ref a :: argsL).toArray h kc kn Q) (hc : cells + kc ≤ R.cells) (hs : slots + kn ≤ R.slots) (hsz : Ls.size = c.maxLocals) (hlen : ∀ sig, parseMethodDescriptor y.desc = some sig → argsL.length = sig.parameters.length) (hstk : stk = argsL.reverse ++ .ref a :: st) (hW : (st.map fun v => v.category).sum ≤ W)
    (hd : decode c.code pc = .ok (.invokespecial index, 3)) (k : ∀ v T' L, Stand p l e R s m args below meth c T' (locs ++ L) (cells + kc) (slots + kn) → Q v T'.heap L → own_G p e below F (T'.setTop (mkF m (pc + 3) Ls (v.toList ++ st)))) : own_G p e below F (T.setTop (mkF m pc Ls stk)) := by
  obtain ⟨v, _, ⟨T', L', k', n'⟩, -, X', ⟨L, hQ, l1, y1, z1⟩, st'⟩ := X.specialBack hx hy1 hown (mvT hZ w1) (mvT hZ w2) (mvT hZ w4) hy hK (g := mkF m pc Ls stk) rfl hsz (Steps.refl _) (a := a) (argsL := argsL) (rest := st) hlen hstk (by show 2 * 0 + _ ≤ _; omega) hd (fun _ _ => ⟨rfl, eT, hc, hs⟩)
  dsimp only [Pt.U, Pt.locs, Pt.cells, Pt.slots] at X' l1 y1 z1 st' hQ
  subst l1 y1 z1
  exact own_go st' (k v T' L X' hQ)
theorem own_virtual {Q : Option Value → Heap → List Loc → Prop} {kc kn W : Nat} {argsL : List Value} {a : Addr} {C : String} (X : Stand p l e R s m args below meth c T locs cells slots) (hx : p.tables.exec = Jvm.exec) (hZ : Z.Warmed39 s.vm) {own : String} {index : Nat} {y : MethodName} (hown : s.vm.findClass own = some m.cls)
    (w1 : (Jvm.Cond.methodLink own index y).before a0 Z = true) (w2 : (Jvm.Cond.declares y).before a0 Z = true) (w3 : (Jvm.Cond.selects C y y).before a0 Z = true) (hCy : C = y.cls) (w4 : (Jvm.Cond.instanceMethod y).before a0 Z = true) (hy : y.cls ≠ "java/lang/invoke/MethodHandle" ∧ y.cls ≠ "java/lang/invoke/VarHandle") (eT : T.heap = h) (E : Exa Z h a C)
    (hK : own_B l R p e below s args y W (.ref a :: argsL).toArray h kc kn Q) (hc : cells + kc ≤ R.cells) (hs : slots + kn ≤ R.slots) (hsz : Ls.size = c.maxLocals) (hlen : ∀ sig, parseMethodDescriptor y.desc = some sig → argsL.length = sig.parameters.length) (hstk : stk = argsL.reverse ++ .ref a :: st) (hW : (st.map fun v => v.category).sum ≤ W)
    (hd : decode c.code pc = .ok (.invokevirtual index, 3)) (k : ∀ v T' L, Stand p l e R s m args below meth c T' (locs ++ L) (cells + kc) (slots + kn) → Q v T'.heap L → own_G p e below F (T'.setTop (mkF m (pc + 3) Ls (v.toList ++ st)))) : own_G p e below F (T.setTop (mkF m pc Ls stk)) := by
  subst hCy
  obtain ⟨cB, kB, q1, q2, q3⟩ := isOf hZ eT E
  obtain ⟨v, _, ⟨T', L', k', n'⟩, -, X', ⟨L, hQ, l1, y1, z1⟩, st'⟩ := X.virtualBack hx hown (mvT hZ w1) (mvT hZ w2) (notFace_of_selects (args := #[]) (mvT hZ w3)) (mvT hZ w3) (mvT hZ w4) hy hK q1 q3 (g := mkF m pc Ls stk) rfl hsz (Steps.refl _) (argsL := argsL) (rest := st) hlen hstk (by show 2 * 0 + _ ≤ _; omega) hd (fun _ _ => ⟨rfl, eT, hc, hs⟩)
  dsimp only [Pt.U, Pt.locs, Pt.cells, Pt.slots] at X' l1 y1 z1 st' hQ
  subst l1 y1 z1
  exact own_go st' (k v T' L X' hQ)
theorem own_back {y : MethodName} {bytes : ByteArray} {maxL : Nat} {ret : Option FieldType} {rm : Room} {W : Nat} {as' : Array Value} {Q : Option Value → Heap → List Loc → Prop} (hM : own_Met l Z y bytes maxL ret [] rm as' h Q) (hZ : Z.Warmed39 s.vm) (wc : (Jvm.Cond.code y bytes maxL ret).before a0 Z = true) (wz : (Jvm.Cond.initialized y.cls).before a0 Z = true) (hf : rm.frames + 1 ≤ R.frames) (hl : W + (maxL + 11) + rm.locals ≤ R.locals) :
    own_B l R p e below s args y W as' h rm.cells rm.slots Q := backOf hM hZ wc wz hf hl
/-- a static call of a body that changes nothing -/
theorem own_staticP {r : Option Value} {fr lo W : Nat} {argsL : List Value} (X : Stand p l e R s m args below meth c T locs cells slots) (hx : p.tables.exec = Jvm.exec) (hZ : Z.Warmed39 s.vm) {own : String} {index : Nat} {y : MethodName} {bytes : ByteArray} {maxL : Nat} {ret : Option FieldType} (hown : s.vm.findClass own = some m.cls)
    (w1 : (Jvm.Cond.methodLink own index y).before a0 Z = true) (w2 : (Jvm.Cond.static y).before a0 Z = true) (w3 : (Jvm.Cond.initialized y.cls).before a0 Z = true) (w4 : (Jvm.Cond.code y bytes maxL ret).before a0 Z = true) (hy : y.cls ≠ "java/lang/invoke/MethodHandle" ∧ y.cls ≠ "java/lang/invoke/VarHandle") (eT : T.heap = h)
    (hM : own_Met l Z y bytes maxL ret [] ⟨fr, 0, 0, lo⟩ argsL.toArray h (own_P r h)) (hf : fr + 1 ≤ R.frames) (hl : W + (maxL + 11) + lo ≤ R.locals) (hc : cells ≤ R.cells) (hs : slots ≤ R.slots) (hsz : Ls.size = c.maxLocals) (hlen : ∀ sig, parseMethodDescriptor y.desc = some sig → argsL.length = sig.parameters.length) (hstk : stk = argsL.reverse ++ st) (hW : (st.map fun v => v.category).sum ≤ W)
    (hd : decode c.code pc = .ok (.invokestatic index, 3)) (k : ∀ T', Stand p l e R s m args below meth c T' locs cells slots → T'.heap = h → own_G p e below F (T'.setTop (mkF m (pc + 3) Ls (r.toList ++ st)))) : own_G p e below F (T.setTop (mkF m pc Ls stk)) :=
  own_static X hx hZ hown w1 w2 w3 w4 hy eT (own_back hM hZ w4 w3 hf hl) hc hs hsz hlen hstk hW hd fun v T' L X' hQ => by
    obtain ⟨rfl, rfl, hh⟩ := hQ
    rw [List.append_nil] at X'
    exact k T' X' hh
theorem own_virtualP {r : Option Value} {fr lo W : Nat} {argsL : List Value} {a : Addr} {C : String} (X : Stand p l e R s m args below meth c T locs cells slots) (hx : p.tables.exec = Jvm.exec) (hZ : Z.Warmed39 s.vm) {own : String} {index : Nat} {y : MethodName} {bytes : ByteArray} {maxL : Nat} {ret : Option FieldType} (hown : s.vm.findClass own = some m.cls)
    (w1 : (Jvm.Cond.methodLink own index y).before a0 Z = true) (w2 : (Jvm.Cond.declares y).before a0 Z = true) (w3 : (Jvm.Cond.selects C y y).before a0 Z = true) (hCy : C = y.cls) (w4 : (Jvm.Cond.instanceMethod y).before a0 Z = true) (hy : y.cls ≠ "java/lang/invoke/MethodHandle" ∧ y.cls ≠ "java/lang/invoke/VarHandle") (eT : T.heap = h) (E : Exa Z h a C)
    (hM : own_Met l Z y bytes maxL ret [] ⟨fr, 0, 0, lo⟩ (.ref a :: argsL).toArray h (own_P r h)) (wc : (Jvm.Cond.code y bytes maxL ret).before a0 Z = true) (wz : (Jvm.Cond.initialized y.cls).before a0 Z = true) (hf : fr + 1 ≤ R.frames) (hl : W + (maxL + 11) + lo ≤ R.locals) (hc : cells ≤ R.cells) (hs : slots ≤ R.slots) (hsz : Ls.size = c.maxLocals) (hlen : ∀ sig, parseMethodDescriptor y.desc = some sig → argsL.length = sig.parameters.length) (hstk : stk = argsL.reverse ++ .ref a :: st) (hW : (st.map fun v => v.category).sum ≤ W)
    (hd : decode c.code pc = .ok (.invokevirtual index, 3)) (k : ∀ T', Stand p l e R s m args below meth c T' locs cells slots → T'.heap = h → own_G p e below F (T'.setTop (mkF m (pc + 3) Ls (r.toList ++ st)))) : own_G p e below F (T.setTop (mkF m pc Ls stk)) :=
  own_virtual X hx hZ hown w1 w2 w3 hCy w4 hy eT E (own_back hM hZ wc wz hf hl) hc hs hsz hlen hstk hW hd fun v T' L X' hQ => by
    obtain ⟨rfl, rfl, hh⟩ := hQ
    rw [List.append_nil] at X'
    exact k T' X' hh
theorem own_initO (X : Stand p l e R s m args below meth c T locs cells slots) (hx : p.tables.exec = Jvm.exec) (hZ : Z.Warmed39 s.vm) {own : String} {index W : Nat} {a : Addr} (hown : s.vm.findClass own = some m.cls) (w1 : (Jvm.Cond.methodLink own index Lib.objectInit).before a0 Z = true) (w2 : (Jvm.Cond.instanceMethod Lib.objectInit).before a0 Z = true) (w3 : (Jvm.Cond.code Lib.objectInit ⟨#[0xb1]⟩ 1 none).before a0 Z = true) (eT : T.heap = h)
    (hsz : Ls.size = c.maxLocals) (hd : decode c.code pc = .ok (.invokespecial index, 3)) (hf : 1 ≤ R.frames) (hW : (st.map fun v => v.category).sum ≤ W) (hl : W + 12 ≤ R.locals)
    (k : ∀ T', Stand p l e R s m args below meth c T' locs cells slots → T'.heap = h → own_G p e below F (T'.setTop (mkF m (pc + 3) Ls st))) : own_G p e below F (T.setTop (mkF m pc Ls (.ref a :: st))) := by
  obtain ⟨T', X', e', st'⟩ := initO X hx hZ hown w1 w2 w3 eT (g := mkF m pc Ls (.ref a :: st)) rfl hsz rfl hd hf (W := W) (by show 2 * 0 + _ ≤ _; omega) hl
  exact own_step st' (k T' X' e')
theorem own_specialP {r : Option Value} {fr lo W : Nat} {argsL : List Value} {a : Addr} (X : Stand p l e R s m args below meth c T locs cells slots) (hx : p.tables.exec = Jvm.exec) (hZ : Z.Warmed39 s.vm) {own : String} {index : Nat} {y : MethodName} {bytes : ByteArray} {maxL : Nat} (hown : s.vm.findClass own = some m.cls) (hy1 : y.name = "<init>")
    (w1 : (Jvm.Cond.methodLink own index y).before a0 Z = true) (w2 : (Jvm.Cond.instanceMethod y).before a0 Z = true) (w4 : (Jvm.Cond.code y bytes maxL none).before a0 Z = true) (hy : y.cls ≠ "java/lang/invoke/MethodHandle" ∧ y.cls ≠ "java/lang/invoke/VarHandle") (eT : T.heap = h)
    (hM : own_Met l Z y bytes maxL none [] ⟨fr, 0, 0, lo⟩ (.ref a :: argsL).toArray h (own_P r h)) (wz : (Jvm.Cond.initialized y.cls).before a0 Z = true) (hf : fr + 1 ≤ R.frames) (hl : W + (maxL + 11) + lo ≤ R.locals) (hc : cells ≤ R.cells) (hs : slots ≤ R.slots) (hsz : Ls.size = c.maxLocals) (hlen : ∀ sig, parseMethodDescriptor y.desc = some sig → argsL.length = sig.parameters.length) (hstk : stk = argsL.reverse ++ .ref a :: st) (hW : (st.map fun v => v.category).sum ≤ W)
    (hd : decode c.code pc = .ok (.invokespecial index, 3)) (k : ∀ T', Stand p l e R s m args below meth c T' locs cells slots → T'.heap = h → own_G p e below F (T'.setTop (mkF m (pc + 3) Ls (r.toList ++ st)))) : own_G p e below F (T.setTop (mkF m pc Ls stk)) :=
  own_special X hx hZ hown hy1 w1 w2 w4 hy eT (own_back hM hZ w4 wz hf hl) hc hs hsz hlen hstk hW hd fun v T' L X' hQ => by
    obtain ⟨rfl, rfl, hh⟩ := hQ
    rw [List.append_nil] at X'
    exact k T' X' hh
theorem own_cat {v : Value} (q : v.isRef = true) : v.category = 1 := by cases v <;> first | rfl | simp [Value.isRef] at q
theorem own_narR {v : Value} {C : String} (q : v.isRef = true) : narrow (.object C) v = v := by cases v <;> first | rfl | simp [Value.isRef] at q
theorem own_fitR {v : Value} {C : String} (q : v.isRef = true) : fits (.object C) v = true := by cases v <;> first | rfl | simp [Value.isRef] at q
theorem own_ne {a b : Addr} (h : @LT.lt Nat instLTNat a b ∨ @LT.lt Nat instLTNat b a) : a ≠ b := fun q => by subst q; rcases h with h | h <;> exact Nat.lt_irrefl _ h
theorem own_ext {h0 h : Heap} (K : Keep h0 h []) : Ext h0 h := ⟨K.1, fun a c q => K.2.1 a c q nin0⟩
end OwnKit

/-! the wide mode: a walk that may intern; it stands over 's.setVm vm0' -/
section OwnWide
variable {p : Program} {l : Launch} {e : Env} {R : Room} {s : State} {m : MethodId} {args : Array Value} {below : List Frame} {meth : Method} {c : Code} {T : State} {locs : List Loc} {cells slots : Nat} {Z : State} {a0 : Array Value} {h : Heap} {F : Outcome → State → Prop} {pc pc' : Nat} {Ls : Array Slot} {st stk : List Value} {vm0 : Vm} {k0 : Nat}
def own_FW (s : State) (Q : Option Value → Heap → List Loc → Prop) (k n : Nat) (o : Outcome) (U : State) : Prop := ∃ v L, o = .returned v ∧ Q v U.heap L ∧ ReturnedEndW s o U L k n
abbrev own_MetW (l : Launch) (Z : State) (y : MethodName) (bytes : ByteArray) (maxL : Nat) (ret : Option FieldType) (ws : List Jvm.Cond) (rm : Room) (as : Array Value) (h : Heap) (Q : Option Value → Heap → List Loc → Prop) : Prop :=
  MetFree l y (head1 (Jvm.Cond.code y bytes maxL ret :: ws) rm) (fun a U => a = as ∧ Z.Warmed39 U.vm ∧ U.heap = h) (fun _ _ _ _ _ => True) (fun _ U o U' => ∃ v L, o = .returned v ∧ Q v U'.heap L ∧ ReturnedEndW U o U' L rm.cells rm.slots)
theorem own_enterW {y : MethodName} {bytes : ByteArray} {maxL : Nat} {ret : Option FieldType} {ws : List Jvm.Cond} {rm : Room} {as : Array Value} {Q : Option Value → Heap → List Loc → Prop} (hp : plainFor y = true) {fr : Array Slot} (hfr : ∀ m, entryFrame m as maxL = mkF m 0 fr [])
    (body : ∀ (p : Program) (e : Env) (s : State) (m : MethodId) (below : List Frame) (meth : Method) (c : Code) (T : State) (vm0 : Vm) (k0 : Nat), p.tables.exec = Jvm.exec → c.code = bytes → c.maxLocals = maxL → Z.Warmed39 (s.setVm vm0).vm → (s.setVm vm0).vm.findClass y.cls = some m.cls → meth.name = y.name → meth.sig.returnType = ret → meth.locks = false →
      Stand p l e rm (s.setVm vm0) m as below meth c T [] 0 0 → T.heap = h → s.heap = h → s.Since vm0 k0 → k0 ≤ h.size → own_G p e below (own_FW s Q rm.cells rm.slots) (T.setTop (mkF m 0 fr []))) : own_MetW l Z y bytes maxL ret ws rm as h Q := by
  refine MetFree.of_bodySF hp hisR ?_
  intro p e s m args below meth c s₁ Bd hml0 hP hK
  obtain ⟨rfl, hZ, hh⟩ := hP
  have X0 : Stand p l e rm s m args below meth c s₁ [] 0 0 := Stand.of_body Bd
  have q := body p e s m below meth c s₁ s.vm h.size Bd.exec Bd.bytes hml0 hZ (findClass_of_methodNamed Bd.named) (name_of_methodNamed Bd.named Bd.method).1 Bd.returns (BodyLoose.notSynchronized Bd) X0 (by rw [← hh, Bd.state]; rfl) hh ((State.WarmedH.refl s).since _) (Nat.le_refl _)
  rw [hfr m]; exact q
theorem own_retW {Q : Option Value → Heap → List Loc → Prop} {k n : Nat} {v : Option Value} {fr : JFrame} (X : Stand p l e R (s.setVm vm0) m args below meth c T locs cells slots) (hS : s.Since vm0 k0) (hk : k0 ≤ T.heap.size) (hv : meth.sig.returnType = none → v = none) (hlk : meth.locks = false)
    (hst : ∀ fs, (∀ (f : JFrame) (acts : List Action), f.method = m → f.locked = none → f.entered = [] → (doReturn e (T.setTop f) acts v).1 = T.setFrames fs) → Steps p.tables e below (T.setTop fr) (T.setFrames fs)) (hQ : Q v T.heap locs) (hc : cells ≤ k) (hn : slots ≤ n) : own_G p e below (own_FW s Q k n) (T.setTop fr) := by
  obtain ⟨fs, hr, hrun, hended, hE⟩ := X.leaveW hS hk hv hlk
  exact ⟨_, _, hst fs hr, hrun, hended, v, locs, rfl, hQ, hE.1, hE.2.1, hE.2.2.1, hE.2.2.2.mono hc hn⟩
theorem own_retWI {Q : Option Value → Heap → List Loc → Prop} {k n : Nat} {z : Int32} (X : Stand p l e R (s.setVm vm0) m args below meth c T locs cells slots) (hx : p.tables.exec = Jvm.exec) (hS : s.Since vm0 k0) (hk : k0 ≤ T.heap.size) (hret : meth.sig.returnType = some .int) (hlk : meth.locks = false) (hd : decode c.code pc = .ok (.ireturn, 1))
    (hQ : Q (some (.int z)) T.heap locs) (hc : cells ≤ k) (hn : slots ≤ n) : own_G p e below (own_FW s Q k n) (T.setTop (mkF m pc Ls (.int z :: st))) :=
  own_retW X hS hk (fun q => by rw [hret] at q; cases q) hlk (fun _ hr => own_stepI X hx hret hd hr) hQ hc hn
theorem own_retWN {Q : Option Value → Heap → List Loc → Prop} {k n : Nat} {z : Int32} {t : FieldType} (X : Stand p l e R (s.setVm vm0) m args below meth c T locs cells slots) (hx : p.tables.exec = Jvm.exec) (hS : s.Since vm0 k0) (hk : k0 ≤ T.heap.size) (hret : meth.sig.returnType = some t) (ht : t = .boolean ∨ t = .byte ∨ t = .char ∨ t = .short) (hlk : meth.locks = false) (hd : decode c.code pc = .ok (.ireturn, 1))
    (hQ : Q (some (.int (nar t z))) T.heap locs) (hc : cells ≤ k) (hn : slots ≤ n) : own_G p e below (own_FW s Q k n) (T.setTop (mkF m pc Ls (.int z :: st))) :=
  own_retW X hS hk (fun q => by rw [hret] at q; cases q) hlk (fun _ hr => retN X hx hret ht hd hr) hQ hc hn
theorem own_retWR {Q : Option Value → Heap → List Loc → Prop} {k n : Nat} {w : Value} {t : FieldType} (X : Stand p l e R (s.setVm vm0) m args below meth c T locs cells slots) (hx : p.tables.exec = Jvm.exec) (hS : s.Since vm0 k0) (hk : k0 ≤ T.heap.size) (hret : meth.sig.returnType = some t) (ht : t.isReference = true) (hnw : narrow t w = w) (hwr : w.isRef = true) (hlk : meth.locks = false) (hd : decode c.code pc = .ok (.areturn, 1))
    (hQ : Q (some w) T.heap locs) (hc : cells ≤ k) (hn : slots ≤ n) : own_G p e below (own_FW s Q k n) (T.setTop (mkF m pc Ls (w :: st))) :=
  own_retW X hS hk (fun q => by rw [hret] at q; cases q) hlk (fun _ hr => retOut X hx (t := t) (i := .areturn) hret hnw (Or.inr (Or.inr (Or.inr (Or.inr ⟨rfl, ht, hwr⟩)))) hd hr) hQ hc hn
theorem own_retWV {Q : Option Value → Heap → List Loc → Prop} {k n : Nat} (X : Stand p l e R (s.setVm vm0) m args below meth c T locs cells slots) (hx : p.tables.exec = Jvm.exec) (hS : s.Since vm0 k0) (hk : k0 ≤ T.heap.size) (hret : meth.sig.returnType = none) (hlk : meth.locks = false) (hd : decode c.code pc = .ok (.return_, 1))
    (hQ : Q none T.heap locs) (hc : cells ≤ k) (hn : slots ≤ n) : own_G p e below (own_FW s Q k n) (T.setTop (mkF m pc Ls [])) :=
  own_retW X hS hk (fun _ => rfl) hlk (fun _ hr => X.returnOut hx hret hd hr) hQ hc hn
/-- ldc of a String constant, its text not read -/
theorem own_ldcS (X : Stand p l e R (s.setVm vm0) m args below meth c T locs cells slots) (hx : p.tables.exec = Jvm.exec) (hZ : Z.Warmed39 (s.setVm vm0).vm) {own text : String} {index : Nat} (hown : (s.setVm vm0).vm.findClass own = some m.cls) (w : (Jvm.Cond.stringLink own index text).before a0 Z = true) (wS : ∀ a ∈ Bundle.stringAtoms, a.before a0 Z = true)
    (eT : T.heap = h) (hS : s.Since vm0 k0) (hk : k0 ≤ h.size) (hd : decode c.code pc = .ok (.ldc index, 2)) (n : Nat) (hn : 4 * text.toList.length ≤ n) (hbig : n ≤ 536870912) (hc : cells + 2 ≤ R.cells) (hl : slots + (n + 4) ≤ R.slots)
    (k : ∀ (a : Addr) (T' : State) (h' : Heap) (vm1 : Vm) (k1 : Nat), Stand p l e R (s.setVm vm1) m args below meth c T' locs (cells + 2) (slots + (n + 4)) → T'.heap = h' → Ext h h' → h.size ≤ h'.size → s.Since vm1 k1 → k1 ≤ h'.size → Z.Warmed39 (s.setVm vm1).vm → (s.setVm vm1).vm.findClass own = some m.cls →
      own_G p e below F (T'.setTop (mkF m (pc + 2) Ls (.ref a :: st)))) : own_G p e below F (T.setTop (mkF m pc Ls st)) := by
  obtain ⟨a, T', h', k1, X', e', E', hS', hk', hZ', ho', st'⟩ := ldcS X hx hZ hown w wS eT hS hk (g := mkF m pc Ls st) rfl hd hn hbig hc hl
  exact own_step st' (k a T' h' T'.vm k1 X' e' E' E'.1 hS' hk' hZ' ho')
/-- a static call of a callee that may intern -/
theorem own_staticW {Q : Option Value → Heap → List Loc → Prop} {rm : Room} {W : Nat} {argsL : List Value} (X : Stand p l e R (s.setVm vm0) m args below meth c T locs cells slots) (hx : p.tables.exec = Jvm.exec) (hZ : Z.Warmed39 (s.setVm vm0).vm) {own : String} {index : Nat} {y : MethodName} {bytes : ByteArray} {maxL : Nat} {ret : Option FieldType} (hown : (s.setVm vm0).vm.findClass own = some m.cls)
    (w1 : (Jvm.Cond.methodLink own index y).before a0 Z = true) (w2 : (Jvm.Cond.static y).before a0 Z = true) (w3 : (Jvm.Cond.initialized y.cls).before a0 Z = true) (w4 : (Jvm.Cond.code y bytes maxL ret).before a0 Z = true) (hy : y.cls ≠ "java/lang/invoke/MethodHandle" ∧ y.cls ≠ "java/lang/invoke/VarHandle") (eT : T.heap = h) (hS : s.Since vm0 k0) (hk : k0 ≤ h.size)
    (hM : own_MetW l Z y bytes maxL ret [] rm argsL.toArray h Q) (hf : rm.frames + 1 ≤ R.frames) (hl : W + (maxL + 11) + rm.locals ≤ R.locals) (hc : cells + rm.cells ≤ R.cells) (hs : slots + rm.slots ≤ R.slots) (hsz : Ls.size = c.maxLocals) (hlen : ∀ sig, parseMethodDescriptor y.desc = some sig → argsL.length = sig.parameters.length) (hstk : stk = argsL.reverse ++ st) (hW : (st.map fun v => v.category).sum ≤ W)
    (hd : decode c.code pc = .ok (.invokestatic index, 3)) (k : ∀ (v : Option Value) (T' : State) (L : List Loc) (vm1 : Vm) (k1 : Nat), Stand p l e R (s.setVm vm1) m args below meth c T' (locs ++ L) (cells + rm.cells) (slots + rm.slots) → h.size ≤ T'.heap.size → s.Since vm1 k1 → k1 ≤ T'.heap.size → Z.Warmed39 (s.setVm vm1).vm → (s.setVm vm1).vm.findClass own = some m.cls → Q v T'.heap L →
      own_G p e below F (T'.setTop (mkF m (pc + 3) Ls (v.toList ++ st)))) : own_G p e below F (T.setTop (mkF m pc Ls stk)) := by
  obtain ⟨v, _, ⟨T', L', k', n'⟩, -, X', hS', hg', ⟨L, hQ, l1, y1, z1⟩, st'⟩ := callSS X hx hown (mvT hZ w1) (mvT hZ w2) (mvT hZ w3) (mvT hZ w4) hy (backOfS (W := W) hM hZ w4 w3 hf hl) (g := mkF m pc Ls stk) rfl hsz (argsL := argsL) (rest := st) hlen hstk (by show 2 * 0 + _ ≤ _; omega) hd (fun _ _ => ⟨rfl, eT, hc, hs⟩)
  dsimp only [Pt.U, Pt.locs, Pt.cells, Pt.slots] at X' l1 y1 z1 st' hQ hS' hg'
  subst l1 y1 z1
  rw [eT] at hg'
  obtain ⟨r1, r2, r3, r4⟩ := rebS hS hk X' hS' hg' hZ hown
  exact own_go st' (k v T' L T'.vm T'.heap.size r1 hg' r2 (Nat.le_refl _) r3 r4 hQ)
end OwnWide

/-! the wide mode with a word on the tables at the entry (I) and at the end (Q sees the tables) -/
section OwnI
variable {p : Program} {l : Launch} {e : Env} {R : Room} {s : State} {m : MethodId} {args : Array Value} {below : List Frame} {meth : Method} {c : Code} {T : State} {locs : List Loc} {cells slots : Nat} {Z : State} {a0 : Array Value} {h : Heap} {F : Outcome → State → Prop} {pc pc' : Nat} {Ls : Array Slot} {st stk : List Value} {vm0 : Vm} {k0 : Nat} {I : Vm → Prop}
def own_FI (s : State) (Q : Option Value → Vm → Heap → List Loc → Prop) (k n : Nat) (o : Outcome) (U : State) : Prop := ∃ v L, o = .returned v ∧ Q v U.vm U.heap L ∧ ReturnedEndW s o U L k n
abbrev own_MetI (l : Launch) (Z : State) (y : MethodName) (bytes : ByteArray) (maxL : Nat) (ret : Option FieldType) (ws : List Jvm.Cond) (rm : Room) (as : Array Value) (h : Heap) (I : Vm → Prop) (Q : Option Value → Vm → Heap → List Loc → Prop) : Prop :=
  MetFree l y (head1 (Jvm.Cond.code y bytes maxL ret :: ws) rm) (fun a U => a = as ∧ Z.Warmed39 U.vm ∧ U.heap = h ∧ I U.vm) (fun _ _ _ _ _ => True) (fun _ U o U' => ∃ v L, o = .returned v ∧ Q v U'.vm U'.heap L ∧ ReturnedEndW U o U' L rm.cells rm.slots)
theorem own_enterI {y : MethodName} {bytes : ByteArray} {maxL : Nat} {ret : Option FieldType} {ws : List Jvm.Cond} {rm : Room} {as : Array Value} {Q : Option Value → Vm → Heap → List Loc → Prop} (hp : plainFor y = true) {fr : Array Slot} (hfr : ∀ m, entryFrame m as maxL = mkF m 0 fr [])
    (body : ∀ (p : Program) (e : Env) (s : State) (m : MethodId) (below : List Frame) (meth : Method) (c : Code) (T : State) (vm0 : Vm) (k0 : Nat), p.tables.exec = Jvm.exec → c.code = bytes → c.maxLocals = maxL → Z.Warmed39 (s.setVm vm0).vm → (s.setVm vm0).vm.findClass y.cls = some m.cls → meth.name = y.name → meth.sig.returnType = ret → meth.locks = false →
      Stand p l e rm (s.setVm vm0) m as below meth c T [] 0 0 → T.heap = h → s.heap = h → s.Since vm0 k0 → k0 ≤ h.size → I vm0 → own_G p e below (own_FI s Q rm.cells rm.slots) (T.setTop (mkF m 0 fr []))) : own_MetI l Z y bytes maxL ret ws rm as h I Q := by
  refine MetFree.of_bodySF hp hisR ?_
  intro p e s m args below meth c s₁ Bd hml0 hP hK
  obtain ⟨rfl, hZ, hh, hI⟩ := hP
  have X0 : Stand p l e rm s m args below meth c s₁ [] 0 0 := Stand.of_body Bd
  have q := body p e s m below meth c s₁ s.vm h.size Bd.exec Bd.bytes hml0 hZ (findClass_of_methodNamed Bd.named) (name_of_methodNamed Bd.named Bd.method).1 Bd.returns (BodyLoose.notSynchronized Bd) X0 (by rw [← hh, Bd.state]; rfl) hh ((State.WarmedH.refl s).since _) (Nat.le_refl _) hI
  rw [hfr m]; exact q
theorem own_retX {Q : Option Value → Vm → Heap → List Loc → Prop} {k n : Nat} {v : Option Value} {fr : JFrame} (X : Stand p l e R (s.setVm vm0) m args below meth c T locs cells slots) (hS : s.Since vm0 k0) (hk : k0 ≤ T.heap.size) (hv : meth.sig.returnType = none → v = none) (hlk : meth.locks = false)
    (hst : ∀ fs, (∀ (f : JFrame) (acts : List Action), f.method = m → f.locked = none → f.entered = [] → (doReturn e (T.setTop f) acts v).1 = T.setFrames fs) → Steps p.tables e below (T.setTop fr) (T.setFrames fs)) (hQ : Q v T.vm T.heap locs) (hc : cells ≤ k) (hn : slots ≤ n) : own_G p e below (own_FI s Q k n) (T.setTop fr) := by
  obtain ⟨fs, hr, hrun, hended, hE⟩ := X.leaveW hS hk hv hlk
  exact ⟨_, _, hst fs hr, hrun, hended, v, locs, rfl, hQ, hE.1, hE.2.1, hE.2.2.1, hE.2.2.2.mono hc hn⟩
theorem own_retXI {Q : Option Value → Vm → Heap → List Loc → Prop} {k n : Nat} {z : Int32} (X : Stand p l e R (s.setVm vm0) m args below meth c T locs cells slots) (hx : p.tables.exec = Jvm.exec) (hS : s.Since vm0 k0) (hk : k0 ≤ T.heap.size) (hret : meth.sig.returnType = some .int) (hlk : meth.locks = false) (hd : decode c.code pc = .ok (.ireturn, 1))
    (hQ : Q (some (.int z)) T.vm T.heap locs) (hc : cells ≤ k) (hn : slots ≤ n) : own_G p e below (own_FI s Q k n) (T.setTop (mkF m pc Ls (.int z :: st))) :=
  own_retX X hS hk (fun q => by rw [hret] at q; cases q) hlk (fun _ hr => own_stepI X hx hret hd hr) hQ hc hn
theorem own_retXN {Q : Option Value → Vm → Heap → List Loc → Prop} {k n : Nat} {z : Int32} {t : FieldType} (X : Stand p l e R (s.setVm vm0) m args below meth c T locs cells slots) (hx : p.tables.exec = Jvm.exec) (hS : s.Since vm0 k0) (hk : k0 ≤ T.heap.size) (hret : meth.sig.returnType = some t) (ht : t = .boolean ∨ t = .byte ∨ t = .char ∨ t = .short) (hlk : meth.locks = false) (hd : decode c.code pc = .ok (.ireturn, 1))
    (hQ : Q (some (.int (nar t z))) T.vm T.heap locs) (hc : cells ≤ k) (hn : slots ≤ n) : own_G p e below (own_FI s Q k n) (T.setTop (mkF m pc Ls (.int z :: st))) :=
  own_retX X hS hk (fun q => by rw [hret] at q; cases q) hlk (fun _ hr => retN X hx hret ht hd hr) hQ hc hn
theorem own_retXR {Q : Option Value → Vm → Heap → List Loc → Prop} {k n : Nat} {w : Value} {t : FieldType} (X : Stand p l e R (s.setVm vm0) m args below meth c T locs cells slots) (hx : p.tables.exec = Jvm.exec) (hS : s.Since vm0 k0) (hk : k0 ≤ T.heap.size) (hret : meth.sig.returnType = some t) (ht : t.isReference = true) (hnw : narrow t w = w) (hwr : w.isRef = true) (hlk : meth.locks = false) (hd : decode c.code pc = .ok (.areturn, 1))
    (hQ : Q (some w) T.vm T.heap locs) (hc : cells ≤ k) (hn : slots ≤ n) : own_G p e below (own_FI s Q k n) (T.setTop (mkF m pc Ls (w :: st))) :=
  own_retX X hS hk (fun q => by rw [hret] at q; cases q) hlk (fun _ hr => retOut X hx (t := t) (i := .areturn) hret hnw (Or.inr (Or.inr (Or.inr (Or.inr ⟨rfl, ht, hwr⟩)))) hd hr) hQ hc hn
theorem own_retXV {Q : Option Value → Vm → Heap → List Loc → Prop} {k n : Nat} (X : Stand p l e R (s.setVm vm0) m args below meth c T locs cells slots) (hx : p.tables.exec = Jvm.exec) (hS : s.Since vm0 k0) (hk : k0 ≤ T.heap.size) (hret : meth.sig.returnType = none) (hlk : meth.locks = false) (hd : decode c.code pc = .ok (.return_, 1))
    (hQ : Q none T.vm T.heap locs) (hc : cells ≤ k) (hn : slots ≤ n) : own_G p e below (own_FI s Q k n) (T.setTop (mkF m pc Ls [])) :=
  own_retX X hS hk (fun _ => rfl) hlk (fun _ hr => X.returnOut hx hret hd hr) hQ hc hn
theorem own_IBw {Ts : List String} {vm1 : Vm} (I : IB Z vm0 Ts) (hW : (s.setVm vm0).WarmedH vm1) : IB Z vm1 Ts := by
  obtain ⟨more, h1, h2⟩ := I
  exact ⟨more, (hW.interned_eq).trans h1, h2⟩
/-- ldc of a Latin-1 String constant, its text read -/
theorem own_ldcV {Ts : List String} (X : Stand p l e R (s.setVm vm0) m args below meth c T locs cells slots) (hx : p.tables.exec = Jvm.exec) (hZ : Z.Warmed39 (s.setVm vm0).vm) {own text : String} {index : Nat} (hown : (s.setVm vm0).vm.findClass own = some m.cls) (w : (Jvm.Cond.stringLink own index text).before a0 Z = true) (wS : ∀ a ∈ Bundle.stringAtoms, a.before a0 Z = true)
    (eT : T.heap = h) (hS : s.Since vm0 k0) (hk : k0 ≤ h.size) (N : Fr s.heap.size locs) (hkeep : ∀ (b : Addr) (cl : Cell), Z.heap[b]? = some cl → s.heap[b]? = some cl) (IV : IB Z vm0 Ts) (hnot : text ∉ Ts) (hh : Jvm.Lit.constHeld Z own index) (hcw : Jvm.Lit.compactW.before a0 Z = true)
    {vs : List Value} {z : Int32} (ht : (∀ c ∈ text.toList, c.toNat < 256) ∧ text.toList.map (fun c => Value.int (Jvm.Lit.byteI c.toNat.toUInt16)) = vs) (hz : ¬ z < 0) (hl : z.toNatClampNeg = vs.length) (hd : decode c.code pc = .ok (.ldc index, 2)) (n : Nat) (hn : 4 * text.toList.length ≤ n) (hbig : n ≤ 536870912) (hc : cells + 2 ≤ R.cells) (hl' : slots + (n + 4) ≤ R.slots)
    (k : ∀ (a : Addr) (T' : State) (h' : Heap) (vm1 : Vm) (k1 : Nat) (b : Addr) (kb : ClassId), Stand p l e R (s.setVm vm1) m args below meth c T' locs (cells + 2) (slots + (n + 4)) → T'.heap = h' → Ext h h' → h.size ≤ h'.size → s.Since vm1 k1 → k1 ≤ h'.size → Z.Warmed39 (s.setVm vm1).vm → (s.setVm vm1).vm.findClass own = some m.cls →
      Exa Z h' a "java/lang/String" → Fld Z h' a "java/lang/String" "coder" "B" (.int 0) → Fld Z h' a "java/lang/String" "value" "[B" (.ref b) → Arv Z h' b kb .byte z vs (.int 0) → IB Z vm1 (text :: Ts) → Lit (s.setVm vm1) own index a →
      own_G p e below F (T'.setTop (mkF m (pc + 2) Ls (.ref a :: st)))) : own_G p e below F (T.setTop (mkF m pc Ls st)) := by
  obtain ⟨a, T', h', k1, b, kb, X', e', E', hS', hk', hZ', ho', f1, f2, f3, f4, -, -, f5, f6, st'⟩ := ldcSVL X hx hZ hown w wS eT hS hk N hkeep IV hnot hh hcw ht hz hl (g := mkF m pc Ls st) rfl hd hn hbig hc hl'
  exact own_step st' (k a T' h' T'.vm k1 b kb X' e' E' E'.1 hS' hk' hZ' ho' f1 f2 f3 f4 f5 f6)
theorem own_ldcA (X : Stand p l e R (s.setVm vm0) m args below meth c T locs cells slots) (hx : p.tables.exec = Jvm.exec) (hZ : Z.Warmed39 (s.setVm vm0).vm) {own text : String} {index : Nat} (hown : (s.setVm vm0).vm.findClass own = some m.cls) (w : (Jvm.Cond.stringLink own index text).before a0 Z = true) {a : Addr} (L : Lit (s.setVm vm0) own index a) (hd : decode c.code pc = .ok (.ldc index, 2))
    (k : own_G p e below F (T.setTop (mkF m (pc + 2) Ls (.ref a :: st)))) : own_G p e below F (T.setTop (mkF m pc Ls st)) :=
  own_step (ldcAgain X hx hZ hown w L (g := mkF m pc Ls st) rfl hd) k
theorem own_backI {y : MethodName} {bytes : ByteArray} {maxL : Nat} {ret : Option FieldType} {rm : Room} {W : Nat} {as' : Array Value} {Q : Option Value → Vm → Heap → List Loc → Prop}
    (hM : own_MetI l Z y bytes maxL ret [] rm as' h I Q) (hZ : Z.Warmed39 s.vm) (hI : ∀ vm', s.WarmedH vm' → I vm') (wc : (Jvm.Cond.code y bytes maxL ret).before a0 Z = true) (wz : (Jvm.Cond.initialized y.cls).before a0 Z = true) (hf : rm.frames + 1 ≤ R.frames) (hl : W + (maxL + 11) + rm.locals ≤ R.locals) :
    BackS l R p e below s args y 3 W (fun A a => a = as' ∧ A.U.heap = h ∧ A.cells + rm.cells ≤ R.cells ∧ A.slots + rm.slots ≤ R.slots)
      (fun A _ v B => ∃ L, Q v B.U.vm B.U.heap L ∧ B.locs = A.locs ++ L ∧ B.cells = A.cells + rm.cells ∧ B.slots = A.slots + rm.slots) :=
  BackS.of_freeW (bytes := bytes) (maxL := maxL) (ret := ret) (E := fun _ _ o t L k n => k = rm.cells ∧ n = rm.slots ∧ ∃ v, o = .returned v ∧ Q v t.vm t.heap L) hM hf hl
    (fun m meth c A a Y hp => have hU : Z.Warmed39 A.U.vm := wtrans hZ Y.warmed
      ⟨by show (Jvm.Cond.and _ .tt).before a A.U = true; rw [Cond.before_and, mv hU wc]; rfl, mv hU wc, mv hU wz, hp.2.2.1, hp.2.2.2⟩)
    (fun m meth c A a g mk Y hp => ⟨hp.1, wtrans hZ Y.warmed, hp.2.1, hI _ Y.warmed⟩) (fun _ _ _ _ _ _ _ _ _ => trivial)
    (fun _ _ _ _ ⟨v, L, h1, h2, h3⟩ => ⟨L, _, _, h3, rfl, rfl, v, h1, h2⟩)
    (fun m meth c A a g mk v t L k n Y hp _ _ ⟨e1, e2, v', e3, e4⟩ => by cases e3; subst e1 e2; exact ⟨L, e4, rfl, rfl, rfl⟩)
abbrev own_K (p : Program) (l : Launch) (e : Env) (R : Room) (s : State) (m : MethodId) (args : Array Value) (below : List Frame) (meth : Method) (c : Code) (locs : List Loc) (kc kn : Nat) (Z : State) (h : Heap) (own : String) (Q : Option Value → Vm → Heap → List Loc → Prop) (F : Outcome → State → Prop) (pc : Nat) (Ls : Array Slot) (st : List Value) : Prop :=
  ∀ (v : Option Value) (T' : State) (L : List Loc) (vm1 : Vm) (k1 : Nat), Stand p l e R (s.setVm vm1) m args below meth c T' (locs ++ L) kc kn → vm1 = T'.vm → h.size ≤ T'.heap.size → s.Since vm1 k1 → k1 ≤ T'.heap.size → Z.Warmed39 (s.setVm vm1).vm → (s.setVm vm1).vm.findClass own = some m.cls → Q v vm1 T'.heap L →
      own_G p e below F (T'.setTop (mkF m (pc + 3) Ls (v.toList ++ st)))
theorem own_staticI {Q : Option Value → Vm → Heap → List Loc → Prop} {rm : Room} {W : Nat} {argsL : List Value} (X : Stand p l e R (s.setVm vm0) m args below meth c T locs cells slots) (hx : p.tables.exec = Jvm.exec) (hZ : Z.Warmed39 (s.setVm vm0).vm) {own : String} {index : Nat} {y : MethodName} {bytes : ByteArray} {maxL : Nat} {ret : Option FieldType} (hown : (s.setVm vm0).vm.findClass own = some m.cls)
    (w1 : (Jvm.Cond.methodLink own index y).before a0 Z = true) (w2 : (Jvm.Cond.static y).before a0 Z = true) (w3 : (Jvm.Cond.initialized y.cls).before a0 Z = true) (w4 : (Jvm.Cond.code y bytes maxL ret).before a0 Z = true) (hy : y.cls ≠ "java/lang/invoke/MethodHandle" ∧ y.cls ≠ "java/lang/invoke/VarHandle") (eT : T.heap = h) (hS : s.Since vm0 k0) (hk : k0 ≤ h.size)
    (hM : own_MetI l Z y bytes maxL ret [] rm argsL.toArray h I Q) (hI : ∀ vm', (s.setVm vm0).WarmedH vm' → I vm') (hf : rm.frames + 1 ≤ R.frames) (hl : W + (maxL + 11) + rm.locals ≤ R.locals) (hc : cells + rm.cells ≤ R.cells) (hs : slots + rm.slots ≤ R.slots) (hsz : Ls.size = c.maxLocals) (hlen : ∀ sig, parseMethodDescriptor y.desc = some sig → argsL.length = sig.parameters.length) (hstk : stk = argsL.reverse ++ st) (hW : (st.map fun v => v.category).sum ≤ W)
    (hd : decode c.code pc = .ok (.invokestatic index, 3)) (k : own_K p l e R s m args below meth c locs (cells + rm.cells) (slots + rm.slots) Z h own Q F pc Ls st) : own_G p e below F (T.setTop (mkF m pc Ls stk)) := by
  obtain ⟨v, _, ⟨T', L', k', n'⟩, -, X', hS', hg', ⟨L, hQ, l1, y1, z1⟩, st'⟩ := callSS X hx hown (mvT hZ w1) (mvT hZ w2) (mvT hZ w3) (mvT hZ w4) hy (own_backI (W := W) hM hZ hI w4 w3 hf hl) (g := mkF m pc Ls stk) rfl hsz (argsL := argsL) (rest := st) hlen hstk (by show 2 * 0 + _ ≤ _; omega) hd (fun _ _ => ⟨rfl, eT, hc, hs⟩)
  dsimp only [Pt.U, Pt.locs, Pt.cells, Pt.slots] at X' l1 y1 z1 st' hQ hS' hg'
  subst l1 y1 z1
  rw [eT] at hg'
  obtain ⟨r1, r2, r3, r4⟩ := rebS hS hk X' hS' hg' hZ hown
  exact own_go st' (k v T' L T'.vm T'.heap.size r1 rfl hg' r2 (Nat.le_refl _) r3 r4 hQ)
theorem own_specialI {Q : Option Value → Vm → Heap → List Loc → Prop} {rm : Room} {W : Nat} {argsL : List Value} {a : Addr} (X : Stand p l e R (s.setVm vm0) m args below meth c T locs cells slots) (hx : p.tables.exec = Jvm.exec) (hZ : Z.Warmed39 (s.setVm vm0).vm) {own : String} {index : Nat} {y : MethodName} {bytes : ByteArray} {maxL : Nat} (hown : (s.setVm vm0).vm.findClass own = some m.cls) (hy1 : y.name = "<init>")
    (w1 : (Jvm.Cond.methodLink own index y).before a0 Z = true) (w2 : (Jvm.Cond.instanceMethod y).before a0 Z = true) (w4 : (Jvm.Cond.code y bytes maxL none).before a0 Z = true) (wz : (Jvm.Cond.initialized y.cls).before a0 Z = true) (hy : y.cls ≠ "java/lang/invoke/MethodHandle" ∧ y.cls ≠ "java/lang/invoke/VarHandle") (eT : T.heap = h) (hS : s.Since vm0 k0) (hk : k0 ≤ h.size)
    (hM : own_MetI l Z y bytes maxL none [] rm (.ref a :: argsL).toArray h I Q) (hI : ∀ vm', (s.setVm vm0).WarmedH vm' → I vm') (hf : rm.frames + 1 ≤ R.frames) (hl : W + (maxL + 11) + rm.locals ≤ R.locals) (hc : cells + rm.cells ≤ R.cells) (hs : slots + rm.slots ≤ R.slots) (hsz : Ls.size = c.maxLocals) (hlen : ∀ sig, parseMethodDescriptor y.desc = some sig → argsL.length = sig.parameters.length) (hstk : stk = argsL.reverse ++ .ref a :: st) (hW : (st.map fun v => v.category).sum ≤ W)
    (hd : decode c.code pc = .ok (.invokespecial index, 3)) (k : own_K p l e R s m args below meth c locs (cells + rm.cells) (slots + rm.slots) Z h own Q F pc Ls st) : own_G p e below F (T.setTop (mkF m pc Ls stk)) := by
  obtain ⟨v, _, ⟨T', L', k', n'⟩, -, X', hS', hg', ⟨L, hQ, l1, y1, z1⟩, st'⟩ := X.specialBackS hx hy1 hown (mvT hZ w1) (mvT hZ w2) (mvT hZ w4) hy (own_backI (W := W) hM hZ hI w4 wz hf hl) (g := mkF m pc Ls stk) rfl hsz (Steps.refl _) (a := a) (argsL := argsL) (rest := st) hlen hstk (by show 2 * 0 + _ ≤ _; omega) hd (fun _ _ => ⟨rfl, eT, hc, hs⟩)
  dsimp only [Pt.U, Pt.locs, Pt.cells, Pt.slots] at X' l1 y1 z1 st' hQ hS' hg'
  subst l1 y1 z1
  rw [eT] at hg'
  obtain ⟨r1, r2, r3, r4⟩ := rebS hS hk X' hS' hg' hZ hown
  exact own_go st' (k v T' L T'.vm T'.heap.size r1 rfl hg' r2 (Nat.le_refl _) r3 r4 hQ)
theorem own_virtualI {Q : Option Value → Vm → Heap → List Loc → Prop} {rm : Room} {W : Nat} {argsL : List Value} {a : Addr} {C : String} (X : Stand p l e R (s.setVm vm0) m args below meth c T locs cells slots) (hx : p.tables.exec = Jvm.exec) (hZ : Z.Warmed39 (s.setVm vm0).vm) {own : String} {index : Nat} {y : MethodName} {bytes : ByteArray} {maxL : Nat} {ret : Option FieldType} (hown : (s.setVm vm0).vm.findClass own = some m.cls)
    (w1 : (Jvm.Cond.methodLink own index y).before a0 Z = true) (w2 : (Jvm.Cond.declares y).before a0 Z = true) (w3 : (Jvm.Cond.selects C y y).before a0 Z = true) (hCy : C = y.cls) (wi : (Jvm.Cond.instanceMethod y).before a0 Z = true) (w4 : (Jvm.Cond.code y bytes maxL ret).before a0 Z = true) (wz : (Jvm.Cond.initialized y.cls).before a0 Z = true) (hy : y.cls ≠ "java/lang/invoke/MethodHandle" ∧ y.cls ≠ "java/lang/invoke/VarHandle") (eT : T.heap = h) (hS : s.Since vm0 k0) (hk : k0 ≤ h.size) (E : Exa Z h a C)
    (hM : own_MetI l Z y bytes maxL ret [] rm (.ref a :: argsL).toArray h I Q) (hI : ∀ vm', (s.setVm vm0).WarmedH vm' → I vm') (hf : rm.frames + 1 ≤ R.frames) (hl : W + (maxL + 11) + rm.locals ≤ R.locals) (hc : cells + rm.cells ≤ R.cells) (hs : slots + rm.slots ≤ R.slots) (hsz : Ls.size = c.maxLocals) (hlen : ∀ sig, parseMethodDescriptor y.desc = some sig → argsL.length = sig.parameters.length) (hstk : stk = argsL.reverse ++ .ref a :: st) (hW : (st.map fun v => v.category).sum ≤ W)
    (hd : decode c.code pc = .ok (.invokevirtual index, 3)) (k : own_K p l e R s m args below meth c locs (cells + rm.cells) (slots + rm.slots) Z h own Q F pc Ls st) : own_G p e below F (T.setTop (mkF m pc Ls stk)) := by
  subst hCy
  obtain ⟨cB, kB, q1, q2, q3⟩ := isOf hZ eT E
  obtain ⟨v, _, ⟨T', L', k', n'⟩, -, X', hS', hg', ⟨L, hQ, l1, y1, z1⟩, st'⟩ := X.virtualBackS hx hown (mvT hZ w1) (mvT hZ w2) (notFace_of_selects (args := #[]) (mvT hZ w3)) (mvT hZ w3) (mvT hZ wi) hy (own_backI (W := W) hM hZ hI w4 wz hf hl) q1 q3 (g := mkF m pc Ls stk) rfl hsz (Steps.refl _) (argsL := argsL) (rest := st) hlen hstk (by show 2 * 0 + _ ≤ _; omega) hd (fun _ _ => ⟨rfl, eT, hc, hs⟩)
  dsimp only [Pt.U, Pt.locs, Pt.cells, Pt.slots] at X' l1 y1 z1 st' hQ hS' hg'
  subst l1 y1 z1
  rw [eT] at hg'
  obtain ⟨r1, r2, r3, r4⟩ := rebS hS hk X' hS' hg' hZ hown
  exact own_go st' (k v T' L T'.vm T'.heap.size r1 rfl hg' r2 (Nat.le_refl _) r3 r4 hQ)
end OwnI

theorem own_and255 (x : Int32) : ¬ nar .char ((x &&& (255 : Int32)).toUInt32.toUInt16.toUInt32.toInt32) < 0 ∧ ¬ (255 : Int32) < nar .char ((x &&& (255 : Int32)).toUInt32.toUInt16.toUInt32.toInt32) := by
  have t : ∀ k : Fin 256, ¬ nar .char ((Int32.ofNat k.val).toUInt32.toUInt16.toUInt32.toInt32) < 0 ∧ ¬ (255 : Int32) < nar .char ((Int32.ofNat k.val).toUInt32.toUInt16.toUInt32.toInt32) := by decide +kernel
  have h : (x &&& 255).toBitVec.toNat < 256 := by
    simp only [Int32.toBitVec_and, BitVec.toNat_and]
    exact Nat.lt_succ_of_le Nat.and_le_right
  have e : (x &&& 255) = Int32.ofNat (x &&& 255).toBitVec.toNat := by
    apply Int32.toBitVec_inj.mp
    show _ = BitVec.ofNat 32 _
    rw [BitVec.ofNat_toNat]; simp
  rw [e]
  exact t ⟨_, h⟩
theorem d1_0 : decode method_3_code 0 = .ok (.iload_n 0, 1) := by decide +kernel
theorem d1_1 : decode method_3_code 1 = .ok (.ifCond .ne 14, 3) := by decide +kernel
theorem d1_4 : decode method_3_code 4 = .ok (.new 19, 3) := by decide +kernel
theorem d1_7 : decode method_3_code 7 = .ok (.dup, 1) := by decide +kernel
theorem d1_8 : decode method_3_code 8 = .ok (.iconst 0, 1) := by decide +kernel
theorem d1_9 : decode method_3_code 9 = .ok (.newarray .char, 2) := by decide +kernel
theorem d1_11 : decode method_3_code 11 = .ok (.invokespecial 21, 3) := by decide +kernel
theorem d1_14 : decode method_3_code 14 = .ok (.areturn, 1) := by decide +kernel
theorem d1_15 : decode method_3_code 15 = .ok (.iload_n 0, 1) := by decide +kernel
theorem d1_16 : decode method_3_code 16 = .ok (.iconst 1, 1) := by decide +kernel
theorem d1_17 : decode method_3_code 17 = .ok (.if_icmp .ne 8, 3) := by decide +kernel
theorem d1_20 : decode method_3_code 20 = .ok (.iload_n 1, 1) := by decide +kernel
theorem d1_21 : decode method_3_code 21 = .ok (.invokestatic 24, 3) := by decide +kernel
theorem d1_24 : decode method_3_code 24 = .ok (.areturn, 1) := by decide +kernel
theorem d1_25 : decode method_3_code 25 = .ok (.new 19, 3) := by decide +kernel
theorem d1_28 : decode method_3_code 28 = .ok (.dup, 1) := by decide +kernel
theorem d1_29 : decode method_3_code 29 = .ok (.iconst 2, 1) := by decide +kernel
theorem d1_30 : decode method_3_code 30 = .ok (.newarray .char, 2) := by decide +kernel
theorem d1_32 : decode method_3_code 32 = .ok (.dup, 1) := by decide +kernel
theorem d1_33 : decode method_3_code 33 = .ok (.iconst 0, 1) := by decide +kernel
theorem d1_34 : decode method_3_code 34 = .ok (.iload_n 1, 1) := by decide +kernel
theorem d1_35 : decode method_3_code 35 = .ok (.castore, 1) := by decide +kernel
theorem d1_36 : decode method_3_code 36 = .ok (.dup, 1) := by decide +kernel
theorem d1_37 : decode method_3_code 37 = .ok (.iconst 1, 1) := by decide +kernel
theorem d1_38 : decode method_3_code 38 = .ok (.iload_n 2, 1) := by decide +kernel
theorem d1_39 : decode method_3_code 39 = .ok (.castore, 1) := by decide +kernel
theorem d1_40 : decode method_3_code 40 = .ok (.invokespecial 21, 3) := by decide +kernel
theorem d1_43 : decode method_3_code 43 = .ok (.areturn, 1) := by decide +kernel
theorem d2_0 : decode jdk_42_method_3_code 0 = .ok (.aload_n 0, 1) := by decide +kernel
theorem d2_1 : decode jdk_42_method_3_code 1 = .ok (.aload_n 1, 1) := by decide +kernel
theorem d2_2 : decode jdk_42_method_3_code 2 = .ok (.iconst 0, 1) := by decide +kernel
theorem d2_3 : decode jdk_42_method_3_code 3 = .ok (.aload_n 1, 1) := by decide +kernel
theorem d2_4 : decode jdk_42_method_3_code 4 = .ok (.arraylength, 1) := by decide +kernel
theorem d2_5 : decode jdk_42_method_3_code 5 = .ok (.aconst_null, 1) := by decide +kernel
theorem d2_6 : decode jdk_42_method_3_code 6 = .ok (.invokespecial 27, 3) := by decide +kernel
theorem d2_9 : decode jdk_42_method_3_code 9 = .ok (.return_, 1) := by decide +kernel
theorem d3_0 : decode jdk_42_method_149_code 0 = .ok (.aload_n 0, 1) := by decide +kernel
theorem d3_1 : decode jdk_42_method_149_code 1 = .ok (.invokespecial 1, 3) := by decide +kernel
theorem d3_4 : decode jdk_42_method_149_code 4 = .ok (.iload_n 3, 1) := by decide +kernel
theorem d3_5 : decode jdk_42_method_149_code 5 = .ok (.ifCond .ne 22, 3) := by decide +kernel
theorem d3_8 : decode jdk_42_method_149_code 8 = .ok (.aload_n 0, 1) := by decide +kernel
theorem d3_9 : decode jdk_42_method_149_code 9 = .ok (.ldc 7, 2) := by decide +kernel
theorem d3_11 : decode jdk_42_method_149_code 11 = .ok (.getfield 9, 3) := by decide +kernel
theorem d3_14 : decode jdk_42_method_149_code 14 = .ok (.putfield 9, 3) := by decide +kernel
theorem d3_17 : decode jdk_42_method_149_code 17 = .ok (.aload_n 0, 1) := by decide +kernel
theorem d3_18 : decode jdk_42_method_149_code 18 = .ok (.ldc 7, 2) := by decide +kernel
theorem d3_20 : decode jdk_42_method_149_code 20 = .ok (.getfield 15, 3) := by decide +kernel
theorem d3_23 : decode jdk_42_method_149_code 23 = .ok (.putfield 15, 3) := by decide +kernel
theorem d3_26 : decode jdk_42_method_149_code 26 = .ok (.return_, 1) := by decide +kernel
theorem d8_0 : decode method_2_code 0 = .ok (.iload_n 0, 1) := by decide +kernel
theorem d8_1 : decode method_2_code 1 = .ok (.ifCond .ne 7, 3) := by decide +kernel
theorem d8_4 : decode method_2_code 4 = .ok (.getstatic 7, 3) := by decide +kernel
theorem d8_7 : decode method_2_code 7 = .ok (.areturn, 1) := by decide +kernel
theorem d8_8 : decode method_2_code 8 = .ok (.iload_n 0, 1) := by decide +kernel
theorem d8_9 : decode method_2_code 9 = .ok (.iconst 1, 1) := by decide +kernel
theorem d8_10 : decode method_2_code 10 = .ok (.if_icmp .ne 7, 3) := by decide +kernel
theorem d8_13 : decode method_2_code 13 = .ok (.getstatic 13, 3) := by decide +kernel
theorem d8_16 : decode method_2_code 16 = .ok (.areturn, 1) := by decide +kernel
theorem d8_17 : decode method_2_code 17 = .ok (.getstatic 16, 3) := by decide +kernel
theorem d8_20 : decode method_2_code 20 = .ok (.areturn, 1) := by decide +kernel
theorem d9_0 : decode prog_82_method_1_code 0 = .ok (.aload_n 0, 1) := by decide +kernel
theorem d9_1 : decode prog_82_method_1_code 1 = .ok (.invokespecial 1, 3) := by decide +kernel
theorem d9_4 : decode prog_82_method_1_code 4 = .ok (.aload_n 0, 1) := by decide +kernel
theorem d9_5 : decode prog_82_method_1_code 5 = .ok (.aload_n 1, 1) := by decide +kernel
theorem d9_6 : decode prog_82_method_1_code 6 = .ok (.putfield 7, 3) := by decide +kernel
theorem d9_9 : decode prog_82_method_1_code 9 = .ok (.aload_n 0, 1) := by decide +kernel
theorem d9_10 : decode prog_82_method_1_code 10 = .ok (.aload_n 2, 1) := by decide +kernel
theorem d9_11 : decode prog_82_method_1_code 11 = .ok (.putfield 13, 3) := by decide +kernel
theorem d9_14 : decode prog_82_method_1_code 14 = .ok (.return_, 1) := by decide +kernel
theorem d10_0 : decode jdk_30_method_1_code 0 = .ok (.aload_n 0, 1) := by decide +kernel
theorem d10_1 : decode jdk_30_method_1_code 1 = .ok (.invokespecial 1, 3) := by decide +kernel
theorem d10_4 : decode jdk_30_method_1_code 4 = .ok (.return_, 1) := by decide +kernel
theorem d11_0 : decode prog_82_method_2_code 0 = .ok (.aload_n 1, 1) := by decide +kernel
theorem d11_1 : decode prog_82_method_2_code 1 = .ok (.instanceof 8, 3) := by decide +kernel
theorem d11_4 : decode prog_82_method_2_code 4 = .ok (.ifCond .eq 37, 3) := by decide +kernel
theorem d11_7 : decode prog_82_method_2_code 7 = .ok (.aload_n 1, 1) := by decide +kernel
theorem d11_8 : decode prog_82_method_2_code 8 = .ok (.checkcast 8, 3) := by decide +kernel
theorem d11_11 : decode prog_82_method_2_code 11 = .ok (.astore_n 2, 1) := by decide +kernel
theorem d11_12 : decode prog_82_method_2_code 12 = .ok (.aload_n 0, 1) := by decide +kernel
theorem d11_13 : decode prog_82_method_2_code 13 = .ok (.getfield 7, 3) := by decide +kernel
theorem d11_16 : decode prog_82_method_2_code 16 = .ok (.aload_n 2, 1) := by decide +kernel
theorem d11_17 : decode prog_82_method_2_code 17 = .ok (.getfield 7, 3) := by decide +kernel
theorem d11_20 : decode prog_82_method_2_code 20 = .ok (.invokevirtual 17, 3) := by decide +kernel
theorem d11_23 : decode prog_82_method_2_code 23 = .ok (.ifCond .eq 18, 3) := by decide +kernel
theorem d11_26 : decode prog_82_method_2_code 26 = .ok (.aload_n 0, 1) := by decide +kernel
theorem d11_27 : decode prog_82_method_2_code 27 = .ok (.getfield 13, 3) := by decide +kernel
theorem d11_30 : decode prog_82_method_2_code 30 = .ok (.aload_n 2, 1) := by decide +kernel
theorem d11_31 : decode prog_82_method_2_code 31 = .ok (.getfield 13, 3) := by decide +kernel
theorem d11_34 : decode prog_82_method_2_code 34 = .ok (.if_acmp .ne 7, 3) := by decide +kernel
theorem d11_37 : decode prog_82_method_2_code 37 = .ok (.iconst 1, 1) := by decide +kernel
theorem d11_38 : decode prog_82_method_2_code 38 = .ok (.goto 4, 3) := by decide +kernel
theorem d11_41 : decode prog_82_method_2_code 41 = .ok (.iconst 0, 1) := by decide +kernel
theorem d11_42 : decode prog_82_method_2_code 42 = .ok (.ireturn, 1) := by decide +kernel
theorem d12_0 : decode jdk_42_method_139_code 0 = .ok (.getstatic 38, 3) := by decide +kernel
theorem d12_3 : decode jdk_42_method_139_code 3 = .ok (.ifCond .eq 23, 3) := by decide +kernel
theorem d12_6 : decode jdk_42_method_139_code 6 = .ok (.iload_n 0, 1) := by decide +kernel
theorem d12_7 : decode jdk_42_method_139_code 7 = .ok (.invokestatic 1015, 3) := by decide +kernel
theorem d12_10 : decode jdk_42_method_139_code 10 = .ok (.ifCond .eq 16, 3) := by decide +kernel
theorem d12_13 : decode jdk_42_method_139_code 13 = .ok (.new 10, 3) := by decide +kernel
theorem d12_16 : decode jdk_42_method_139_code 16 = .ok (.dup, 1) := by decide +kernel
theorem d12_17 : decode jdk_42_method_139_code 17 = .ok (.iload_n 0, 1) := by decide +kernel
theorem d12_18 : decode jdk_42_method_139_code 18 = .ok (.invokestatic 1018, 3) := by decide +kernel
theorem d12_21 : decode jdk_42_method_139_code 21 = .ok (.iconst 0, 1) := by decide +kernel
theorem d12_22 : decode jdk_42_method_139_code 22 = .ok (.invokespecial 209, 3) := by decide +kernel
theorem d12_25 : decode jdk_42_method_139_code 25 = .ok (.areturn, 1) := by decide +kernel
theorem d13_0 : decode jdk_43_method_3_code 0 = .ok (.iload_n 0, 1) := by decide +kernel
theorem d13_1 : decode jdk_43_method_3_code 1 = .ok (.sipush 255, 3) := by decide +kernel
theorem d13_4 : decode jdk_43_method_3_code 4 = .ok (.if_icmp .gt 7, 3) := by decide +kernel
theorem d13_7 : decode jdk_43_method_3_code 7 = .ok (.iconst 1, 1) := by decide +kernel
theorem d13_8 : decode jdk_43_method_3_code 8 = .ok (.goto 4, 3) := by decide +kernel
theorem d13_12 : decode jdk_43_method_3_code 12 = .ok (.ireturn, 1) := by decide +kernel
theorem d14_0 : decode jdk_43_method_46_code 0 = .ok (.iconst 1, 1) := by decide +kernel
theorem d14_1 : decode jdk_43_method_46_code 1 = .ok (.newarray .byte, 2) := by decide +kernel
theorem d14_3 : decode jdk_43_method_46_code 3 = .ok (.dup, 1) := by decide +kernel
theorem d14_4 : decode jdk_43_method_46_code 4 = .ok (.iconst 0, 1) := by decide +kernel
theorem d14_5 : decode jdk_43_method_46_code 5 = .ok (.iload_n 0, 1) := by decide +kernel
theorem d14_6 : decode jdk_43_method_46_code 6 = .ok (.i2b, 1) := by decide +kernel
theorem d14_7 : decode jdk_43_method_46_code 7 = .ok (.bastore, 1) := by decide +kernel
theorem d14_8 : decode jdk_43_method_46_code 8 = .ok (.areturn, 1) := by decide +kernel
theorem d15_0 : decode jdk_42_method_151_code 0 = .ok (.aload_n 0, 1) := by decide +kernel
theorem d15_1 : decode jdk_42_method_151_code 1 = .ok (.invokespecial 1, 3) := by decide +kernel
theorem d15_4 : decode jdk_42_method_151_code 4 = .ok (.aload_n 0, 1) := by decide +kernel
theorem d15_5 : decode jdk_42_method_151_code 5 = .ok (.aload_n 1, 1) := by decide +kernel
theorem d15_6 : decode jdk_42_method_151_code 6 = .ok (.putfield 9, 3) := by decide +kernel
theorem d15_9 : decode jdk_42_method_151_code 9 = .ok (.aload_n 0, 1) := by decide +kernel
theorem d15_10 : decode jdk_42_method_151_code 10 = .ok (.iload_n 2, 1) := by decide +kernel
theorem d15_11 : decode jdk_42_method_151_code 11 = .ok (.putfield 15, 3) := by decide +kernel
theorem d15_14 : decode jdk_42_method_151_code 14 = .ok (.return_, 1) := by decide +kernel
theorem pd0 : parseMethodDescriptor "([CIILjava/lang/Void;)V" = some ⟨[(.array .char), .int, .int, (.object "java/lang/Void")], none⟩ := by decide +kernel
theorem pd1 : parseMethodDescriptor "(C)Z" = some ⟨[.char], some .boolean⟩ := by decide +kernel
theorem pd2 : parseMethodDescriptor "(C)[B" = some ⟨[.char], some (.array .byte)⟩ := by decide +kernel
theorem pd3 : parseMethodDescriptor "([BB)V" = some ⟨[(.array .byte), .byte], none⟩ := by decide +kernel
theorem pd4 : parseMethodDescriptor "([C)V" = some ⟨[(.array .char)], none⟩ := by decide +kernel
theorem pd5 : parseMethodDescriptor "(C)Ljava/lang/String;" = some ⟨[.char], some (.object "java/lang/String")⟩ := by decide +kernel
theorem pd6 : parseMethodDescriptor "()V" = some ⟨[], none⟩ := by decide +kernel
theorem pd7 : parseMethodDescriptor "(Ljava/lang/Object;)Z" = some ⟨[(.object "java/lang/Object")], some .boolean⟩ := by decide +kernel
theorem pd8 : parseMethodDescriptor "(ICC)Ljava/lang/String;" = some ⟨[.int, .char, .char], some (.object "java/lang/String")⟩ := by decide +kernel
theorem pd9 : parseMethodDescriptor "(I)Lcom/example/unganisha/unganisha/engine/CreationOrder$Phase;" = some ⟨[.int], some (.object "com/example/unganisha/unganisha/engine/CreationOrder$Phase")⟩ := by decide +kernel
theorem pd10 : parseMethodDescriptor "(Ljava/lang/String;Lcom/example/unganisha/unganisha/engine/CreationOrder$Phase;)V" = some ⟨[(.object "java/lang/String"), (.object "com/example/unganisha/unganisha/engine/CreationOrder$Phase")], none⟩ := by decide +kernel
theorem pn0 : plainName "java/lang/Record" = true := by first | (simp [plainName, overriddenIn]; done) | decide +kernel
theorem pn1 : plainName "java/lang/String" = true := by first | (simp [plainName, overriddenIn]; done) | decide +kernel
theorem pn2 : plainName "java/lang/StringLatin1" = true := by first | (simp [plainName, overriddenIn]; done) | decide +kernel
theorem pn3 : plainName "com/example/unganisha/unganisha/engine/StepEqualsPinLaw" = true := by first | (simp [plainName, overriddenIn]; done) | decide +kernel
theorem pn4 : plainName "com/example/unganisha/unganisha/engine/CreationOrder$Step" = true := by first | (simp [plainName, overriddenIn]; done) | decide +kernel
section OwnInst
variable {p : Program} {l : Launch} {e : Env} {R : Room} {s : State} {m : MethodId} {args : Array Value} {below : List Frame} {meth : Method} {c : Code} {T : State} {locs : List Loc} {cells slots : Nat} {Z : State} {a0 : Array Value} {h : Heap} {F : Outcome → State → Prop} {pc pc' : Nat} {Ls : Array Slot} {st stk : List Value}
theorem own_instY (X : Stand p l e R s m args below meth c T locs cells slots) (hx : p.tables.exec = Jvm.exec) (hZ : Z.Warmed39 s.vm) {own K : String} {index : Nat} (hown : s.vm.findClass own = some m.cls) (w : (Jvm.Cond.classLink own index K).before a0 Z = true) (eT : T.heap = h) {a : Addr} (E : Exa Z h a K) (hd : decode c.code pc = .ok (.instanceof index, 3))
    (k : ∀ T', Stand p l e R s m args below meth c T' locs cells slots → T'.heap = h → own_G p e below F (T'.setTop (mkF m (pc + 3) Ls (.int 1 :: st)))) : own_G p e below F (T.setTop (mkF m pc Ls (.ref a :: st))) := by
  obtain ⟨T', X', e', st'⟩ := instY X hx hZ hown w eT (Ins.self E) (g := mkF m pc Ls (.ref a :: st)) rfl rfl hd
  exact own_step st' (k T' X' e')
theorem own_instNo (X : Stand p l e R s m args below meth c T locs cells slots) (hx : p.tables.exec = Jvm.exec) (hZ : Z.Warmed39 s.vm) {own K C : String} {index : Nat} (hown : s.vm.findClass own = some m.cls) (w : (Jvm.Cond.classLink own index K).before a0 Z = true) (eT : T.heap = h) {a : Addr} (E : Exa Z h a C) (Fn : ∃ c t, Z.vm.findClass C = some c ∧ Z.vm.findClass K = some t ∧ Z.vm.assignable c t = false) (hd : decode c.code pc = .ok (.instanceof index, 3))
    (k : ∀ T', Stand p l e R s m args below meth c T' locs cells slots → T'.heap = h → own_G p e below F (T'.setTop (mkF m (pc + 3) Ls (.int 0 :: st)))) : own_G p e below F (T.setTop (mkF m pc Ls (.ref a :: st))) := by
  obtain ⟨T', X', e', st'⟩ := instNo X hx hZ hown w eT E Fn (g := mkF m pc Ls (.ref a :: st)) rfl rfl hd
  exact own_step st' (k T' X' e')
theorem own_instNull (X : Stand p l e R s m args below meth c T locs cells slots) (hx : p.tables.exec = Jvm.exec) {index : Nat} (hd : decode c.code pc = .ok (.instanceof index, 3)) (k : own_G p e below F (T.setTop (mkF m (pc + 3) Ls (.int 0 :: st)))) : own_G p e below F (T.setTop (mkF m pc Ls (.null :: st))) :=
  own_step (X.instanceofNull hx (g := mkF m pc Ls (.null :: st)) rfl rfl hd) k
theorem own_castY (X : Stand p l e R s m args below meth c T locs cells slots) (hx : p.tables.exec = Jvm.exec) (hZ : Z.Warmed39 s.vm) {own K : String} {index : Nat} (hown : s.vm.findClass own = some m.cls) (w : (Jvm.Cond.classLink own index K).before a0 Z = true) (eT : T.heap = h) {a : Addr} (E : Exa Z h a K) (hd : decode c.code pc = .ok (.checkcast index, 3))
    (k : ∀ T', Stand p l e R s m args below meth c T' locs cells slots → T'.heap = h → own_G p e below F (T'.setTop (mkF m (pc + 3) Ls (.ref a :: st)))) : own_G p e below F (T.setTop (mkF m pc Ls (.ref a :: st))) := by
  obtain ⟨T', X', e', st'⟩ := castY X hx hZ hown w eT (Ins.self E) (g := mkF m pc Ls (.ref a :: st)) rfl rfl hd
  exact own_step st' (k T' X' e')
/-- a class whose only superclass is the root isn't a subclass of another class -/
theorem own_notSub {C O K : String} {n : Nat} (w1 : (Jvm.Cond.superclass C O).before a0 Z = true) (w2 : (Jvm.Cond.noSuperclass O).before a0 Z = true) (wK : (Jvm.Cond.instantiable K n).before a0 Z = true) (h1 : O ≠ K) (h2 : C ≠ K) : ∃ c t, Z.vm.findClass C = some c ∧ Z.vm.findClass K = some t ∧ Z.vm.assignable c t = false := by
  obtain ⟨t, kt, g1, g2, g3, g4, -⟩ := Cond.instantiable_spec wK
  obtain ⟨co, ko, o1, o2, o3, -, -⟩ := Cond.noSuperclass_spec w2
  obtain ⟨cc, f0⟩ := found_sup w1
  obtain ⟨p, k, kp, f1, f2, f3, f4, f5, -, f7⟩ := Cond.superclass_spec f0 w1
  cases o1.symm.trans f1
  have ne1 := ids_ne o1 g1 h1
  have ne2 := ids_ne f0 g1 h2
  have gi : kt.isInterface = false := by
    cases q : kt.isInterface with
    | false => rfl
    | true => rw [q] at g4; simp at g4
  have r1 : ∀ fuel, Z.vm.isSubclassAux fuel co t = false := fun fuel => by
    cases fuel with
    | zero => rfl
    | succ f => simp [Vm.isSubclassAux, ne1, o2, o3]
  have r2 : ∀ fuel, Z.vm.isSubclassAux fuel cc t = false := fun fuel => by
    cases fuel with
    | zero => rfl
    | succ f => simp [Vm.isSubclassAux, ne2, f2, f4, r1]
  refine ⟨cc, t, f0, g1, ?_⟩
  show Z.vm.assignableAux (255 + 1) cc t = false
  simp [Vm.assignableAux, ne2, f2, g2, f5, g3, gi, Vm.isSubclass, r2]
end OwnInst

/-! a Latin-1 String of known chars, in one word -/
def own_Str (Z : State) (h : Heap) (x : Addr) (cs : List Int32) : Prop := Exa Z h x "java/lang/String" ∧ (∀ c ∈ cs, ¬ c < 0 ∧ ¬ (255 : Int32) < c) ∧ cs.length ≤ 4000 ∧ Fld Z h x "java/lang/String" "coder" "B" (.int 0) ∧ ∃ (t : Addr) (kb : ClassId), Fld Z h x "java/lang/String" "value" "[B" (.ref t) ∧ Arv Z h t kb .byte (Int32.ofNat cs.length) ((cs.map (fun c => c.toInt8.toInt32)).map Value.int) (.int 0)
theorem own_Str.ext {Z : State} {h h' : Heap} {x : Addr} {cs : List Int32} (S : own_Str Z h x cs) (E : Ext h h') : own_Str Z h' x cs := by
  obtain ⟨s1, s2, s3, s4, t, kb, s5, s6⟩ := S
  exact ⟨s1.ext E, s2, s3, s4.ext E, t, kb, s5.ext E, s6.ext E⟩
theorem own_up (cs : List Int32) (h : ∀ c ∈ cs, ¬ c < 0 ∧ ¬ (255 : Int32) < c) : ∀ c ∈ cs, ¬ c < 0 ∧ ¬ (65535 : Int32) < c := fun c hc => ⟨(h c hc).1, fun q => (h c hc).2 (by rw [Int32.lt_iff_toInt_lt] at q ⊢; have e1 : (65535 : Int32).toInt = 65535 := rfl; have e2 : (255 : Int32).toInt = 255 := rfl; omega)⟩
theorem own_mkStr {Z : State} {h : Heap} {x t : Addr} {kb : ClassId} {cs : List Int32} {n : Nat} {N : Int32} (hn : cs.length = n) (hN : N = Int32.ofNat n) (E : Exa Z h x "java/lang/String") (hp : ∀ c ∈ cs, ¬ c < 0 ∧ ¬ (255 : Int32) < c) (hl : n ≤ 4000) (C : Fld Z h x "java/lang/String" "coder" "B" (.int 0)) (F : Fld Z h x "java/lang/String" "value" "[B" (.ref t)) (B : Arv Z h t kb .byte N ((cs.map (fun c => c.toInt8.toInt32)).map Value.int) (.int 0)) : own_Str Z h x cs := by
  subst hn hN; exact ⟨E, hp, hl, C, t, kb, F, B⟩

def own_bi (b : Bool) : Int32 := if b then 1 else 0
theorem own_bi_t {b : Bool} (h : ¬ own_bi b = 0) : b = true := by cases b <;> simp_all [own_bi]
theorem own_bi_f {b : Bool} (h : own_bi b = 0) : b = false := by cases b <;> simp_all [own_bi]
theorem own_bi_nar (b : Bool) : nar .boolean (own_bi b) = own_bi b := by cases b <;> rfl
theorem own_eqB {p : Program} {l : Launch} {e : Env} {R : Room} {s : State} {args : Array Value} {below : List Frame} {W : Nat} {Z : State} {a0 : Array Value} {h : Heap} (hZ : Z.Warmed39 s.vm) (hw : ∀ d ∈ tables_1, d.before a0 Z = true) {kI : Nat} (wi : (Jvm.Cond.instantiable "java/lang/String" kI).before a0 Z = true) {x y : Addr} {cs ds : List Int32} (SS : own_Str Z h x cs) (SD : own_Str Z h y ds)
    {G1 : Int32} (O2 : Sta Z Z.heap "java/lang/String" "COMPACT_STRINGS" "Z" (.int G1)) (P5 : ¬ (G1 = (0 : Int32))) (OL : Old Z Z.heap.size h) (hfr : 2 ≤ R.frames) (hlo : W + 28 ≤ R.locals) :
    own_B l R p e below s args (⟨"java/lang/String", "equals", "(Ljava/lang/Object;)Z"⟩ : MethodName) W #[.ref x, .ref y] h 0 0 (own_P (some (.int (own_bi (decide (cs = ds))))) h) := by
  obtain ⟨s1, s2, s3, s4, t, kb, s5, s6⟩ := SS
  obtain ⟨d1, d2, d3, d4, t', kb', d5, d6⟩ := SD
  refine Back.mono (StrChars.Road.eqW (p := p) (l := l) (e := e) (R := R) (s := s) (args := args) (below := below) (len := 3) (W := W) hZ (fun d hd => hw d ((by decide +kernel : ∀ d ∈ StrChars.Road.wordsEq, d ∈ tables_1) d hd)) wi s1 s5 s4 s6 (StrChars.Road.codOf rfl fun c hc => (s2 c hc).2) (own_up cs s2) s3 d1 d5 d4 d6 (StrChars.Road.codOf rfl fun c hc => (d2 c hc).2) (own_up ds d2) d3 (O2.ext OL.2) P5 hfr hlo) (fun _ _ q => q) ?_
  rintro A a v B - ⟨L, ⟨hv, hL, hh⟩, r⟩
  refine ⟨L, ⟨?_, hL, hh⟩, r⟩
  rcases hv with ⟨rfl, q⟩ | ⟨rfl, q⟩ <;> simp [own_bi, q]

/-! the literal "" of java/lang/String: not loaded since the case's start, or loaded and known -/
def own_L (Z : State) (vm : Vm) (h : Heap) : Prop := IB Z vm [] ∨ ∃ (a b : Addr) (k : ClassId), Lit (Z.setVm vm) "java/lang/String" 7 a ∧ Exa Z h a "java/lang/String" ∧ Fld Z h a "java/lang/String" "coder" "B" (.int 0) ∧ Fld Z h a "java/lang/String" "value" "[B" (.ref b) ∧ Arv Z h b k .byte (0 : Int32) [] (.int 0)
theorem own_Lm {Z s : State} {vm0 vm1 : Vm} {h h' : Heap} (L : own_L Z vm0 h) (hW : (s.setVm vm0).WarmedH vm1) (E : Ext h h') : own_L Z vm1 h' := by
  rcases L with q | ⟨a, b, k, q1, q2, q3, q4, q5⟩
  · exact Or.inl (own_IBw q hW)
  · exact Or.inr ⟨a, b, k, Lit.stays (s := s) q1 hW.wide, q2.ext E, q3.ext E, q4.ext E, q5.ext E⟩
theorem own_extR (h : Heap) : Ext h h := own_ext (Keep.refl _ _)
def own_tx (n c0 c1 : Int32) : List Int32 := if n = 0 then [] else if n = 1 then [c0] else [c0, c1]
def own_ph (q0 q1 q2 : Addr) (i : Int32) : Addr := if i = 0 then q0 else if i = 1 then q1 else q2
abbrev own_3 (i : Int32) : Prop := i = 0 ∨ i = 1 ∨ i = 2
theorem own_tx_eq {n k x0 x1 y0 y1 : Int32} (hn : own_3 n) (hk : own_3 k) : decide (own_tx n x0 x1 = own_tx k y0 y1) = (decide (n = k) && (decide (n < 1) || decide (x0 = y0)) && (decide (n < 2) || decide (x1 = y1))) := by
  rcases hn with rfl | rfl | rfl <;> rcases hk with rfl | rfl | rfl <;> simp [own_tx]
theorem own_ph_eq {i j : Int32} {q0 q1 q2 : Addr} (hi : own_3 i) (hj : own_3 j) (h01 : q0 ≠ q1) (h02 : q0 ≠ q2) (h12 : q1 ≠ q2) : decide (own_ph q0 q1 q2 i = own_ph q0 q1 q2 j) = decide (i = j) := by
  rcases hi with rfl | rfl | rfl <;> rcases hj with rfl | rfl | rfl <;> simp [own_ph, h01, h02, h12, h01.symm, h02.symm, h12.symm]
theorem own_lift {m : Nat} (x : Int32) (hm : m < 256) : ∃ k : Fin (m + 1), (x &&& Int32.ofNat m) = Int32.ofNat k.val := by
  have h : (x &&& Int32.ofNat m).toBitVec.toNat ≤ m := by
    simp only [Int32.toBitVec_and, BitVec.toNat_and]
    refine Nat.le_trans Nat.and_le_right ?_
    show (BitVec.ofNat 32 m).toNat ≤ m
    rw [BitVec.toNat_ofNat]; exact Nat.mod_le _ _
  refine ⟨⟨(x &&& Int32.ofNat m).toBitVec.toNat, by omega⟩, ?_⟩
  apply Int32.toBitVec_inj.mp
  show _ = BitVec.ofNat 32 _
  rw [BitVec.ofNat_toNat]; simp
theorem own_m3 (x : Int32) : own_3 ((x &&& (3 : Int32)) % (3 : Int32)) := by
  obtain ⟨k, hk⟩ := own_lift (m := 3) x (by decide)
  have e : (3 : Int32) = Int32.ofNat 3 := rfl
  rw [show (x &&& (3 : Int32)) = Int32.ofNat k.val from hk]
  exact (by decide +kernel : ∀ k : Fin 4, own_3 ((Int32.ofNat k.val) % (3 : Int32))) k
theorem own_m3b {n : Int32} (hn : own_3 n) (x : Int32) : own_3 ((n + (x &&& (3 : Int32))) % (3 : Int32)) := by
  obtain ⟨k, hk⟩ := own_lift (m := 3) x (by decide)
  rw [show (x &&& (3 : Int32)) = Int32.ofNat k.val from hk]
  rcases hn with rfl | rfl | rfl
  · exact (by decide +kernel : ∀ k : Fin 4, own_3 (((0 : Int32) + Int32.ofNat k.val) % (3 : Int32))) k
  · exact (by decide +kernel : ∀ k : Fin 4, own_3 (((1 : Int32) + Int32.ofNat k.val) % (3 : Int32))) k
  · exact (by decide +kernel : ∀ k : Fin 4, own_3 (((2 : Int32) + Int32.ofNat k.val) % (3 : Int32))) k
theorem own_m4 (x : Int32) : (x &&& (3 : Int32)) = 0 ∨ (x &&& (3 : Int32)) = 1 ∨ (x &&& (3 : Int32)) = 2 ∨ (x &&& (3 : Int32)) = 3 := by
  obtain ⟨k, hk⟩ := own_lift (m := 3) x (by decide)
  rw [show (x &&& (3 : Int32)) = Int32.ofNat k.val from hk]
  exact (by decide +kernel : ∀ k : Fin 4, (Int32.ofNat k.val) = (0 : Int32) ∨ (Int32.ofNat k.val) = (1 : Int32) ∨ (Int32.ofNat k.val) = (2 : Int32) ∨ (Int32.ofNat k.val) = (3 : Int32)) k
abbrev own_by (c : Int32) : Prop := ¬ c < 0 ∧ ¬ (255 : Int32) < c
theorem own_by1 (x : Int32) : own_by (x &&& (255 : Int32)) := by
  obtain ⟨k, hk⟩ := own_lift (m := 255) x (by decide)
  rw [show (x &&& (255 : Int32)) = Int32.ofNat k.val from hk]
  exact (by decide +kernel : ∀ k : Fin 256, own_by (Int32.ofNat k.val)) k
theorem own_byN {c : Int32} (h : own_by c) : ∃ k : Nat, k < 256 ∧ c = Int32.ofNat k := by
  obtain ⟨h0, h1⟩ := h
  rw [Int32.lt_iff_toInt_lt] at h0 h1
  have q1 : (255 : Int32).toInt = 255 := rfl
  have q0 : (0 : Int32).toInt = 0 := rfl
  refine ⟨c.toInt.toNat, by omega, ?_⟩
  apply Int32.toInt_inj.mp
  rw [Int32.toInt_ofNat_small (by omega)]; omega
theorem own_by2 {c : Int32} (h : own_by c) (x : Int32) : own_by (c ^^^ (x &&& (255 : Int32))) := by
  obtain ⟨i, hi, rfl⟩ := own_byN h
  obtain ⟨j, hj, q⟩ := own_byN (own_by1 x)
  rw [q]
  have e : Int32.ofNat i ^^^ Int32.ofNat j = Int32.ofNat (i ^^^ j) := by
    apply Int32.toBitVec_inj.mp
    show BitVec.ofNat 32 i ^^^ BitVec.ofNat 32 j = BitVec.ofNat 32 (i ^^^ j)
    apply BitVec.eq_of_toNat_eq
    have hx : i ^^^ j < 2 ^ 8 := Nat.xor_lt_two_pow (by omega) (by omega)
    rw [BitVec.toNat_xor, BitVec.toNat_ofNat, BitVec.toNat_ofNat, BitVec.toNat_ofNat, Nat.mod_eq_of_lt (by omega), Nat.mod_eq_of_lt (by omega), Nat.mod_eq_of_lt (by omega)]
  rw [e]
  have hx : i ^^^ j < 2 ^ 8 := Nat.xor_lt_two_pow (by omega) (by omega)
  exact (by decide +kernel : ∀ k : Fin 256, own_by (Int32.ofNat k.val)) ⟨i ^^^ j, hx⟩
theorem own_narC {c : Int32} (h : own_by c) : nar .char c = c := by
  obtain ⟨i, hi, rfl⟩ := own_byN h
  exact (by decide +kernel : ∀ k : Fin 256, nar .char (Int32.ofNat k.val) = Int32.ofNat k.val) ⟨i, hi⟩
theorem own_i2c {c : Int32} (h : own_by c) : c.toUInt32.toUInt16.toUInt32.toInt32 = c := own_narC h
theorem ef_rec (m : MethodId) (a : Addr) : entryFrame m #[(.ref a)] 1 = mkF m 0 #[.val (.ref a)] [] := by first | (simp [entryFrame, mkF, argsToLocals, Value.category, maxLocals]; done) | rfl
set_option maxRecDepth 65536 in
set_option maxHeartbeats 40000000 in
theorem rmRec (l : Launch) (Z : State) (a0 : Array Value) (hw : ∀ d ∈ tables_1, d.before a0 Z = true) (ws : List Jvm.Cond) (a : Addr) (h0 : Heap) :
    own_Met l Z (⟨"java/lang/Record", "<init>", "()V"⟩ : MethodName) jdk_30_method_1_code 1 none ws ⟨1, 0, 0, 12⟩ #[(.ref a)] h0 (own_P none h0) := by
  refine own_enter (plainFor_of_name pn0) (fun m => ef_rec m a) ?_
  intro p e s m below meth c T0 hx hby hml hZ hown hnm hret hlk X0 e0
  show own_G p e below _ (T0.setTop (mkF m 0 #[.val (.ref a)] []))
  refine own_step (b := T0.setTop (mkF m 1 #[.val (.ref a)] [(.ref a)])) (fun _ qk => XS.aloadN X0.here hx rfl (hb hby d10_0) rfl rfl qk) ?_
  refine own_initO (W := 0) X0 hx hZ hown (own_w hw 51 rfl) (own_w hw 16 rfl) (own_w hw 17 rfl) e0 (by rw [hml]; rfl) (hb hby d10_1) (by decide) (Nat.le_of_ble_eq_true rfl) (by decide) (fun T1 X1 e1 => ?_)
  show own_G p e below _ (T1.setTop (mkF m 4 #[.val (.ref a)] []))
  exact own_retV X1 hx hret hlk (hb hby d10_4) ⟨rfl, rfl, e1⟩ (by decide) (by decide)
theorem sn_v {Z : State} {a0 : Array Value} (hw : ∀ d ∈ tables_1, d.before a0 Z = true) : Jvm.RoadKit.slotOf Z "java/lang/String" "value" "[B" ≠ Jvm.RoadKit.slotOf Z "java/lang/String" "coder" "B" := slot_ne (Or.inr (own_w hw 33 rfl)) (Or.inr (own_w hw 31 rfl)) (by decide) (t := (.array .byte)) (t' := .byte) (by decide) (by decide)
theorem ef_in (m : MethodId) (x b : Addr) : entryFrame m #[(.ref x), (.ref b), (.int (0 : Int32)), (.int (0 : Int32)), .null] 6 = mkF m 0 #[.val (.ref x), .val (.ref b), .val (.int (0 : Int32)), .val (.int (0 : Int32)), .val .null, .unset] [] := by first | (simp [entryFrame, mkF, argsToLocals, Value.category, maxLocals]; done) | rfl
set_option maxRecDepth 65536 in
set_option maxHeartbeats 40000000 in
theorem rmIn (l : Launch) (Z : State) (a0 : Array Value) (hw : ∀ d ∈ tables_1, d.before a0 Z = true) (ws : List Jvm.Cond) (x b : Addr) (h0 : Heap) (gx : Z.heap.size ≤ x) (Ex : Exa Z h0 x "java/lang/String") (Fv : Fld Z h0 x "java/lang/String" "value" "[B" .null) (Fc : Fld Z h0 x "java/lang/String" "coder" "B" (.int 0)) (OL0 : Old Z Z.heap.size h0) (CH : Jvm.Lit.constHeld Z "java/lang/String" 7) (HC : Jvm.Lit.compactW.before a0 Z = true) :
    own_MetI l Z (⟨"java/lang/String", "<init>", "([CIILjava/lang/Void;)V"⟩ : MethodName) jdk_42_method_149_code 6 none ws ⟨1, 2, 4, 12⟩ #[(.ref x), (.ref b), (.int (0 : Int32)), (.int (0 : Int32)), .null] h0 (fun vm => own_L Z vm h0) (fun v vm h L => v = none ∧ Fr Z.heap.size L ∧ Keep h0 h [x] ∧ own_Str Z h x [] ∧ own_L Z vm h) := by
  refine own_enterI (plainFor_of_name pn1) (fun m => ef_in m x b) ?_
  intro p e s m below meth c T0 vm0 k0 hx hby hml hZ hown hnm hret hlk X0 e0 es0 hS hk hI
  have hSA : ∀ d ∈ Bundle.stringAtoms, d.before a0 Z = true := fun d hd => hw d ((by decide +kernel : ∀ d ∈ Bundle.stringAtoms, d ∈ tables_1) d hd)
  have N0 := Fr.nil Z.heap.size
  show own_G p e below _ (T0.setTop (mkF m 0 #[.val (.ref x), .val (.ref b), .val (.int (0 : Int32)), .val (.int (0 : Int32)), .val .null, .unset] []))
  refine own_step (b := T0.setTop (mkF m 1 #[.val (.ref x), .val (.ref b), .val (.int (0 : Int32)), .val (.int (0 : Int32)), .val .null, .unset] [(.ref x)])) (fun _ qk => XS.aloadN X0.here hx rfl (hb hby d3_0) rfl rfl qk) ?_
  refine own_initO (W := 0) X0 hx hZ hown (own_w hw 15 rfl) (own_w hw 16 rfl) (own_w hw 17 rfl) e0 (by rw [hml]; rfl) (hb hby d3_1) (by decide) (Nat.le_of_ble_eq_true rfl) (by decide) (fun T1 X1 e1 => ?_)
  show own_G p e below _ (T1.setTop (mkF m 4 #[.val (.ref x), .val (.ref b), .val (.int (0 : Int32)), .val (.int (0 : Int32)), .val .null, .unset] []))
  refine own_step (b := T1.setTop (mkF m 5 #[.val (.ref x), .val (.ref b), .val (.int (0 : Int32)), .val (.int (0 : Int32)), .val .null, .unset] [(.int (0 : Int32))])) (fun _ qk => XS.iloadN X1.here hx rfl (hb hby d3_4) rfl qk) ?_
  refine own_if_ne X1 hx (hb hby d3_5) (pc' := 27) (by decide) (by decide) (fun c5_2 => absurd c5_2 (by decide)) (fun c5_2 => ?_)
  show own_G p e below _ (T1.setTop (mkF m 8 #[.val (.ref x), .val (.ref b), .val (.int (0 : Int32)), .val (.int (0 : Int32)), .val .null, .unset] []))
  refine own_step (b := T1.setTop (mkF m 9 #[.val (.ref x), .val (.ref b), .val (.int (0 : Int32)), .val (.int (0 : Int32)), .val .null, .unset] [(.ref x)])) (fun _ qk => XS.aloadN X1.here hx rfl (hb hby d3_8) rfl rfl qk) ?_
  rcases hI with hI | ⟨la, lb, lk, LT, LA, LC, LF, LB⟩
  · show own_G p e below _ (T1.setTop (mkF m 9 #[.val (.ref x), .val (.ref b), .val (.int (0 : Int32)), .val (.int (0 : Int32)), .val .null, .unset] [(.ref x)]))
    refine own_ldcV X1 hx hZ hown (own_w hw 61 rfl) hSA e1 hS (by omega) (Fr.nil _) (fun q cl r => by rw [es0]; exact OL0.2.2 q cl r) hI (by simp) CH HC (vs := []) (z := (0 : Int32)) (by decide) (by decide) rfl (hb hby d3_9) 0 (by decide) (by decide) (by decide) (by decide) (fun a3 T3 h3 vm3 k3 b3 kb3 X3 e3 E3 z3 hS hk hZ hown A3 C3 F3 B3 IV3 LT3 => ?_)
    show own_G p e below _ (T3.setTop (mkF m 11 #[.val (.ref x), .val (.ref b), .val (.int (0 : Int32)), .val (.int (0 : Int32)), .val .null, .unset] [(.ref a3), (.ref x)]))
    have hne : a3 ≠ x := Fld.ne F3 (Fv.ext E3) (by simp)
    have hnb : b3 ≠ x := (Exa.neArv (Ex.ext E3) B3 (own_w hw 5 rfl)).symm
    refine own_getF X3 hx hZ hown (own_w hw 32 rfl) e3 F3 (hb hby d3_11) (fun T4 X4 e4 => ?_)
    show own_G p e below _ (T4.setTop (mkF m 14 #[.val (.ref x), .val (.ref b), .val (.int (0 : Int32)), .val (.int (0 : Int32)), .val .null, .unset] [(.ref b3), (.ref x)]))
    refine own_putF X4 hx hZ hown (own_w hw 32 rfl) e4 (Fv.ext E3) (Ex.ext E3) (Or.inr ⟨(own_w hw 33 rfl), rfl, hnm⟩) (own_w hw 5 rfl) (ty := (.array .byte)) (by decide) rfl rfl N0 gx (hb hby d3_14) (fun T5 h5 X5 e5 N5 W5 z5 F5 E5 => ?_)
    show own_G p e below _ (T5.setTop (mkF m 17 #[.val (.ref x), .val (.ref b), .val (.int (0 : Int32)), .val (.int (0 : Int32)), .val .null, .unset] []))
    refine own_step (b := T5.setTop (mkF m 18 #[.val (.ref x), .val (.ref b), .val (.int (0 : Int32)), .val (.int (0 : Int32)), .val .null, .unset] [(.ref x)])) (fun _ qk => XS.aloadN X5.here hx rfl (hb hby d3_17) rfl rfl qk) ?_
    refine own_ldcA X5 hx hZ hown (own_w hw 61 rfl) LT3 (hb hby d3_18) ?_
    show own_G p e below _ (T5.setTop (mkF m 20 #[.val (.ref x), .val (.ref b), .val (.int (0 : Int32)), .val (.int (0 : Int32)), .val .null, .unset] [(.ref a3), (.ref x)]))
    refine own_getF X5 hx hZ hown (own_w hw 30 rfl) e5 (C3.other W5 (Or.inl hne)) (hb hby d3_20) (fun T6 X6 e6 => ?_)
    show own_G p e below _ (T6.setTop (mkF m 23 #[.val (.ref x), .val (.ref b), .val (.int (0 : Int32)), .val (.int (0 : Int32)), .val .null, .unset] [(.int (0 : Int32)), (.ref x)]))
    refine own_putF X6 hx hZ hown (own_w hw 30 rfl) e6 ((Fc.ext E3).other W5 (Or.inr (sn_v hw).symm)) E5 (Or.inr ⟨(own_w hw 31 rfl), rfl, hnm⟩) (own_w hw 5 rfl) (ty := .byte) (by decide) rfl rfl N5 gx (hb hby d3_23) (fun T7 h7 X7 e7 N7 W7 z7 F7 E7 => ?_)
    show own_G p e below _ (T7.setTop (mkF m 26 #[.val (.ref x), .val (.ref b), .val (.int (0 : Int32)), .val (.int (0 : Int32)), .val .null, .unset] []))
    subst e7
    exact own_retXV X7 hx hS (by omega) hret hlk (hb hby d3_26) ⟨rfl, N7, ((((Keep.refl h0 [x]).ext E3).wr W5 (Or.inl (List.mem_singleton.mpr rfl))).wr W7 (Or.inl (List.mem_singleton.mpr rfl))), own_mkStr (n := 0) rfl rfl E7 (fun _ q => nomatch q) (by decide) F7 (F5.other W7 (Or.inr (sn_v hw))) ((B3.other W5 hnb).other W7 hnb), Or.inr ⟨a3, b3, _, Lit.stays LT3 X7.warmed.wide, (A3.wr W5).wr W7, (C3.other W5 (Or.inl hne)).other W7 (Or.inl hne), (F3.other W5 (Or.inl hne)).other W7 (Or.inl hne), (B3.other W5 hnb).other W7 hnb⟩⟩ (by decide) (by decide)
  · show own_G p e below _ (T1.setTop (mkF m 9 #[.val (.ref x), .val (.ref b), .val (.int (0 : Int32)), .val (.int (0 : Int32)), .val .null, .unset] [(.ref x)]))
    have LT0 : Lit (s.setVm vm0) "java/lang/String" 7 la := LT
    refine own_ldcA X1 hx hZ hown (own_w hw 61 rfl) LT0 (hb hby d3_9) ?_
    show own_G p e below _ (T1.setTop (mkF m 11 #[.val (.ref x), .val (.ref b), .val (.int (0 : Int32)), .val (.int (0 : Int32)), .val .null, .unset] [(.ref la), (.ref x)]))
    have hne : la ≠ x := Fld.ne LF Fv (by simp)
    have hnb : lb ≠ x := (Exa.neArv Ex LB (own_w hw 5 rfl)).symm
    refine own_getF X1 hx hZ hown (own_w hw 32 rfl) e1 LF (hb hby d3_11) (fun T8 X8 e8 => ?_)
    show own_G p e below _ (T8.setTop (mkF m 14 #[.val (.ref x), .val (.ref b), .val (.int (0 : Int32)), .val (.int (0 : Int32)), .val .null, .unset] [(.ref lb), (.ref x)]))
    refine own_putF X8 hx hZ hown (own_w hw 32 rfl) e8 Fv Ex (Or.inr ⟨(own_w hw 33 rfl), rfl, hnm⟩) (own_w hw 5 rfl) (ty := (.array .byte)) (by decide) rfl rfl N0 gx (hb hby d3_14) (fun T9 h9 X9 e9 N9 W9 z9 F9 E9 => ?_)
    show own_G p e below _ (T9.setTop (mkF m 17 #[.val (.ref x), .val (.ref b), .val (.int (0 : Int32)), .val (.int (0 : Int32)), .val .null, .unset] []))
    refine own_step (b := T9.setTop (mkF m 18 #[.val (.ref x), .val (.ref b), .val (.int (0 : Int32)), .val (.int (0 : Int32)), .val .null, .unset] [(.ref x)])) (fun _ qk => XS.aloadN X9.here hx rfl (hb hby d3_17) rfl rfl qk) ?_
    refine own_ldcA X9 hx hZ hown (own_w hw 61 rfl) LT0 (hb hby d3_18) ?_
    show own_G p e below _ (T9.setTop (mkF m 20 #[.val (.ref x), .val (.ref b), .val (.int (0 : Int32)), .val (.int (0 : Int32)), .val .null, .unset] [(.ref la), (.ref x)]))
    refine own_getF X9 hx hZ hown (own_w hw 30 rfl) e9 (LC.other W9 (Or.inl hne)) (hb hby d3_20) (fun T10 X10 e10 => ?_)
    show own_G p e below _ (T10.setTop (mkF m 23 #[.val (.ref x), .val (.ref b), .val (.int (0 : Int32)), .val (.int (0 : Int32)), .val .null, .unset] [(.int (0 : Int32)), (.ref x)]))
    refine own_putF X10 hx hZ hown (own_w hw 30 rfl) e10 (Fc.other W9 (Or.inr (sn_v hw).symm)) E9 (Or.inr ⟨(own_w hw 31 rfl), rfl, hnm⟩) (own_w hw 5 rfl) (ty := .byte) (by decide) rfl rfl N9 gx (hb hby d3_23) (fun T11 h11 X11 e11 N11 W11 z11 F11 E11 => ?_)
    show own_G p e below _ (T11.setTop (mkF m 26 #[.val (.ref x), .val (.ref b), .val (.int (0 : Int32)), .val (.int (0 : Int32)), .val .null, .unset] []))
    subst e11
    exact own_retXV X11 hx hS (by omega) hret hlk (hb hby d3_26) ⟨rfl, N11, (((Keep.refl h0 [x]).wr W9 (Or.inl (List.mem_singleton.mpr rfl))).wr W11 (Or.inl (List.mem_singleton.mpr rfl))), own_mkStr (n := 0) rfl rfl E11 (fun _ q => nomatch q) (by decide) F11 (F9.other W11 (Or.inr (sn_v hw))) ((LB.other W9 hnb).other W11 hnb), Or.inr ⟨la, lb, _, Lit.stays LT0 X11.warmed.wide, (LA.wr W9).wr W11, (LC.other W9 (Or.inl hne)).other W11 (Or.inl hne), (LF.other W9 (Or.inl hne)).other W11 (Or.inl hne), (LB.other W9 hnb).other W11 hnb⟩⟩ (by decide) (by decide)
theorem ef_out (m : MethodId) (x b : Addr) : entryFrame m #[(.ref x), (.ref b)] 2 = mkF m 0 #[.val (.ref x), .val (.ref b)] [] := by first | (simp [entryFrame, mkF, argsToLocals, Value.category, maxLocals]; done) | rfl
set_option maxRecDepth 65536 in
set_option maxHeartbeats 40000000 in
theorem rmOut (l : Launch) (Z : State) (a0 : Array Value) (hw : ∀ d ∈ tables_1, d.before a0 Z = true) (ws : List Jvm.Cond) (x b : Addr) (h0 : Heap) (gx : Z.heap.size ≤ x) (Ex : Exa Z h0 x "java/lang/String") (Fv : Fld Z h0 x "java/lang/String" "value" "[B" .null) (Fc : Fld Z h0 x "java/lang/String" "coder" "B" (.int 0)) (OL0 : Old Z Z.heap.size h0) (CH : Jvm.Lit.constHeld Z "java/lang/String" 7) (HC : Jvm.Lit.compactW.before a0 Z = true) (kc : ClassId) (V : Arv Z h0 b kc .char (0 : Int32) [] (.int 0)) :
    own_MetI l Z (⟨"java/lang/String", "<init>", "([C)V"⟩ : MethodName) jdk_42_method_3_code 2 none ws ⟨2, 2, 4, 29⟩ #[(.ref x), (.ref b)] h0 (fun vm => own_L Z vm h0) (fun v vm h L => v = none ∧ Fr Z.heap.size L ∧ Keep h0 h [x] ∧ own_Str Z h x [] ∧ own_L Z vm h) := by
  refine own_enterI (plainFor_of_name pn1) (fun m => ef_out m x b) ?_
  intro p e s m below meth c T0 vm0 k0 hx hby hml hZ hown hnm hret hlk X0 e0 es0 hS hk hI
  show own_G p e below _ (T0.setTop (mkF m 0 #[.val (.ref x), .val (.ref b)] []))
  refine own_step (b := T0.setTop (mkF m 1 #[.val (.ref x), .val (.ref b)] [(.ref x)])) (fun _ qk => XS.aloadN X0.here hx rfl (hb hby d2_0) rfl rfl qk) ?_
  refine own_step (b := T0.setTop (mkF m 2 #[.val (.ref x), .val (.ref b)] [(.ref b), (.ref x)])) (fun _ qk => XS.aloadN X0.here hx rfl (hb hby d2_1) rfl rfl qk) ?_
  refine own_step (b := T0.setTop (mkF m 3 #[.val (.ref x), .val (.ref b)] [(.int (0 : Int32)), (.ref b), (.ref x)])) (fun _ qk => XS.iconst X0.here hx rfl (hb hby d2_2) qk) ?_
  refine own_step (b := T0.setTop (mkF m 4 #[.val (.ref x), .val (.ref b)] [(.ref b), (.int (0 : Int32)), (.ref b), (.ref x)])) (fun _ qk => XS.aloadN X0.here hx rfl (hb hby d2_3) rfl rfl qk) ?_
  refine own_len X0 hx hZ e0 V (hb hby d2_4) ?_
  show own_G p e below _ (T0.setTop (mkF m 5 #[.val (.ref x), .val (.ref b)] [(.int (0 : Int32)), (.int (0 : Int32)), (.ref b), (.ref x)]))
  refine own_step (b := T0.setTop (mkF m 6 #[.val (.ref x), .val (.ref b)] [.null, (.int (0 : Int32)), (.int (0 : Int32)), (.ref b), (.ref x)])) (fun _ qk => XS.aconstNull X0.here hx rfl (hb hby d2_5) qk) ?_
  refine own_specialI (a := x) (W := 0) (argsL := [(.ref b), (.int (0 : Int32)), (.int (0 : Int32)), .null]) (st := []) X0 hx hZ hown rfl (own_w hw 11 rfl) (own_w hw 12 rfl) (own_w hw 14 rfl) (own_w hw 6 rfl) (by decide) e0 hS (by omega) (rmIn l Z a0 hw [] x b h0 gx Ex Fv Fc OL0 CH HC) (fun _ hW => own_Lm hI hW (own_extR _)) (by decide) (by decide) (by decide) (by decide) (by rw [hml]; rfl) (lenOf pd0 rfl) rfl (Nat.le_of_ble_eq_true rfl) (hb hby d2_6) (fun v1 T1 L1 vm1 k1 X1 ev1 z1 hS hk hZ hown hQ1 => ?_)
  obtain ⟨rfl, M1, K1, SS1, LL1⟩ := hQ1
  show own_G p e below _ (T1.setTop (mkF m 9 #[.val (.ref x), .val (.ref b)] []))
  exact own_retXV X1 hx hS (by omega) hret hlk (hb hby d2_9) ⟨rfl, M1, K1, SS1, own_Lm LL1 X1.warmed (own_extR _)⟩ (by decide) (by decide)
theorem ef_can (m : MethodId) (x : Int32) : entryFrame m #[(.int x)] 1 = mkF m 0 #[.val (.int x)] [] := by first | (simp [entryFrame, mkF, argsToLocals, Value.category, maxLocals]; done) | rfl
set_option maxRecDepth 65536 in
set_option maxHeartbeats 40000000 in
theorem rmCan (l : Launch) (Z : State) (a0 : Array Value) (hw : ∀ d ∈ tables_1, d.before a0 Z = true) (ws : List Jvm.Cond) (x : Int32) (h0 : Heap) (hx2 : ¬ (255 : Int32) < x) :
    own_Met l Z (⟨"java/lang/StringLatin1", "canEncode", "(C)Z"⟩ : MethodName) jdk_43_method_3_code 1 (some .boolean) ws ⟨0, 0, 0, 0⟩ #[(.int x)] h0 (own_P (some (.int (1 : Int32))) h0) := by
  refine own_enter (plainFor_of_name pn2) (fun m => ef_can m x) ?_
  intro p e s m below meth c T0 hx hby hml hZ hown hnm hret hlk X0 e0
  show own_G p e below _ (T0.setTop (mkF m 0 #[.val (.int x)] []))
  refine own_step (b := T0.setTop (mkF m 1 #[.val (.int x)] [(.int x)])) (fun _ qk => XS.iloadN X0.here hx rfl (hb hby d13_0) rfl qk) ?_
  refine own_step (b := T0.setTop (mkF m 4 #[.val (.int x)] [(.int (255 : Int32)), (.int x)])) (fun _ qk => XS.sipush X0.here hx rfl (hb hby d13_1) qk) ?_
  refine own_icmp_gt X0 hx (hb hby d13_4) (pc' := 11) (by decide) (by decide) (fun c => absurd c hx2) (fun c => ?_)
  show own_G p e below _ (T0.setTop (mkF m 7 #[.val (.int x)] []))
  refine own_step (b := T0.setTop (mkF m 8 #[.val (.int x)] [(.int (1 : Int32))])) (fun _ qk => XS.iconst X0.here hx rfl (hb hby d13_7) qk) ?_
  refine own_step (b := T0.setTop (mkF m 12 #[.val (.int x)] [(.int (1 : Int32))])) (fun _ qk => XS.goto X0.here hx rfl (pc0 := 8) (pc' := 12) rfl (hb hby d13_8) (by decide) (by decide) qk) ?_
  exact own_retN X0 hx hret (by simp) hlk (hb hby d13_12) ⟨rfl, rfl, e0⟩ (by decide) (by decide)
theorem ef_tob (m : MethodId) (x : Int32) : entryFrame m #[(.int x)] 1 = mkF m 0 #[.val (.int x)] [] := by first | (simp [entryFrame, mkF, argsToLocals, Value.category, maxLocals]; done) | rfl
set_option maxRecDepth 65536 in
set_option maxHeartbeats 40000000 in
theorem rmTob (l : Launch) (Z : State) (a0 : Array Value) (hw : ∀ d ∈ tables_1, d.before a0 Z = true) (ws : List Jvm.Cond) (x : Int32) (h0 : Heap) (OL0 : Old Z Z.heap.size h0) :
    own_Met l Z (⟨"java/lang/StringLatin1", "toBytes", "(C)[B"⟩ : MethodName) jdk_43_method_46_code 1 (some (.array .byte)) ws ⟨0, 1, 1, 0⟩ #[(.int x)] h0 (fun v h L => ∃ (r : Addr) (kr : ClassId), v = some (.ref r) ∧ Fr Z.heap.size L ∧ Ext h0 h ∧ h0.size ≤ r ∧ Arv Z h r kr .byte (1 : Int32) [.int (x.toInt8.toInt32)] (.int 0)) := by
  refine own_enter (plainFor_of_name pn2) (fun m => ef_tob m x) ?_
  intro p e s m below meth c T0 hx hby hml hZ hown hnm hret hlk X0 e0
  have zz0 : Z.heap.size ≤ h0.size := OL0.2.1
  have N0 := Fr.nil Z.heap.size
  show own_G p e below _ (T0.setTop (mkF m 0 #[.val (.int x)] []))
  refine own_step (b := T0.setTop (mkF m 1 #[.val (.int x)] [(.int (1 : Int32))])) (fun _ qk => XS.iconst X0.here hx rfl (hb hby d14_0) qk) ?_
  refine own_newP X0 hx hZ (own_w hw 23 rfl) e0 (hb hby d14_1) (n := (1 : Int32)) (by decide) 1 (by decide) (by decide) (by decide) (by decide) (fun T1 h1 a1 k1 X1 e1 g1 l1 E1 V1 => ?_)
  have V1' : Arv Z h1 a1 k1 .byte (1 : Int32) [.int 0] (.int 0) := V1
  show own_G p e below _ (T1.setTop (mkF m 3 #[.val (.int x)] [(.ref a1)]))
  refine own_step (b := T1.setTop (mkF m 4 #[.val (.int x)] [(.ref a1), (.ref a1)])) (fun _ qk => XS.dup X1.here hx rfl (hb hby d14_3) rfl rfl qk) ?_
  refine own_step (b := T1.setTop (mkF m 5 #[.val (.int x)] [(.int (0 : Int32)), (.ref a1), (.ref a1)])) (fun _ qk => XS.iconst X1.here hx rfl (hb hby d14_4) qk) ?_
  refine own_step (b := T1.setTop (mkF m 6 #[.val (.int x)] [(.int x), (.int (0 : Int32)), (.ref a1), (.ref a1)])) (fun _ qk => XS.iloadN X1.here hx rfl (hb hby d14_5) rfl qk) ?_
  refine own_step (b := T1.setTop (mkF m 7 #[.val (.int x)] [(.int (x.toInt8.toInt32)), (.int (0 : Int32)), (.ref a1), (.ref a1)])) (fun _ qk => XT.i2b X1.here hx rfl (hb hby d14_6) rfl qk) ?_
  refine own_stB X1 hx hZ e1 V1' 0 (by decide) (by decide) (by decide) (Nat.le_of_ble_eq_true rfl) N0 (by omega) (hb hby d14_7) (fun T2 h2 X2 e2 N2 W2 z2 V2 => ?_)
  have VB : Arv Z h2 a1 k1 .byte (1 : Int32) [.int (x.toInt8.toInt32)] (.int 0) := by have q := V2; rw [show nar .byte (x.toInt8.toInt32) = x.toInt8.toInt32 by simp [nar]] at q; exact q
  show own_G p e below _ (T2.setTop (mkF m 8 #[.val (.int x)] [(.ref a1)]))
  subst e2
  exact own_retR X2 hx hret rfl rfl rfl hlk (hb hby d14_8) ⟨_, _, rfl, N2, own_ext (((Keep.refl h0 []).ext E1).wr W2 (Or.inr (by omega))), by omega, VB⟩ (by decide) (by decide)
theorem ef_sbb (m : MethodId) (x r : Addr) : entryFrame m #[(.ref x), (.ref r), (.int (0 : Int32))] 3 = mkF m 0 #[.val (.ref x), .val (.ref r), .val (.int (0 : Int32))] [] := by first | (simp [entryFrame, mkF, argsToLocals, Value.category, maxLocals]; done) | rfl
set_option maxRecDepth 65536 in
set_option maxHeartbeats 40000000 in
theorem rmSbb (l : Launch) (Z : State) (a0 : Array Value) (hw : ∀ d ∈ tables_1, d.before a0 Z = true) (ws : List Jvm.Cond) (x r : Addr) (h0 : Heap) (gx : Z.heap.size ≤ x) (Ex : Exa Z h0 x "java/lang/String") (Fv : Fld Z h0 x "java/lang/String" "value" "[B" .null) (Fc : Fld Z h0 x "java/lang/String" "coder" "B" (.int 0)) :
    own_Met l Z (⟨"java/lang/String", "<init>", "([BB)V"⟩ : MethodName) jdk_42_method_151_code 3 none ws ⟨1, 0, 0, 12⟩ #[(.ref x), (.ref r), (.int (0 : Int32))] h0 (fun v h L => v = none ∧ Fr Z.heap.size L ∧ Keep h0 h [x] ∧ Exa Z h x "java/lang/String" ∧ Fld Z h x "java/lang/String" "value" "[B" (.ref r) ∧ Fld Z h x "java/lang/String" "coder" "B" (.int 0)) := by
  refine own_enter (plainFor_of_name pn1) (fun m => ef_sbb m x r) ?_
  intro p e s m below meth c T0 hx hby hml hZ hown hnm hret hlk X0 e0
  have N0 := Fr.nil Z.heap.size
  show own_G p e below _ (T0.setTop (mkF m 0 #[.val (.ref x), .val (.ref r), .val (.int (0 : Int32))] []))
  refine own_step (b := T0.setTop (mkF m 1 #[.val (.ref x), .val (.ref r), .val (.int (0 : Int32))] [(.ref x)])) (fun _ qk => XS.aloadN X0.here hx rfl (hb hby d15_0) rfl rfl qk) ?_
  refine own_initO (W := 0) X0 hx hZ hown (own_w hw 15 rfl) (own_w hw 16 rfl) (own_w hw 17 rfl) e0 (by rw [hml]; rfl) (hb hby d15_1) (by decide) (Nat.le_of_ble_eq_true rfl) (by decide) (fun T1 X1 e1 => ?_)
  show own_G p e below _ (T1.setTop (mkF m 4 #[.val (.ref x), .val (.ref r), .val (.int (0 : Int32))] []))
  refine own_step (b := T1.setTop (mkF m 5 #[.val (.ref x), .val (.ref r), .val (.int (0 : Int32))] [(.ref x)])) (fun _ qk => XS.aloadN X1.here hx rfl (hb hby d15_4) rfl rfl qk) ?_
  refine own_step (b := T1.setTop (mkF m 6 #[.val (.ref x), .val (.ref r), .val (.int (0 : Int32))] [(.ref r), (.ref x)])) (fun _ qk => XS.aloadN X1.here hx rfl (hb hby d15_5) rfl rfl qk) ?_
  refine own_putF X1 hx hZ hown (own_w hw 32 rfl) e1 Fv Ex (Or.inr ⟨(own_w hw 33 rfl), rfl, hnm⟩) (own_w hw 5 rfl) (ty := (.array .byte)) (by decide) rfl rfl N0 gx (hb hby d15_6) (fun T2 h2 X2 e2 N2 W2 z2 F2 E2 => ?_)
  show own_G p e below _ (T2.setTop (mkF m 9 #[.val (.ref x), .val (.ref r), .val (.int (0 : Int32))] []))
  refine own_step (b := T2.setTop (mkF m 10 #[.val (.ref x), .val (.ref r), .val (.int (0 : Int32))] [(.ref x)])) (fun _ qk => XS.aloadN X2.here hx rfl (hb hby d15_9) rfl rfl qk) ?_
  refine own_step (b := T2.setTop (mkF m 11 #[.val (.ref x), .val (.ref r), .val (.int (0 : Int32))] [(.int (0 : Int32)), (.ref x)])) (fun _ qk => XS.iloadN X2.here hx rfl (hb hby d15_10) rfl qk) ?_
  refine own_putF X2 hx hZ hown (own_w hw 30 rfl) e2 (Fc.other W2 (Or.inr (sn_v hw).symm)) E2 (Or.inr ⟨(own_w hw 31 rfl), rfl, hnm⟩) (own_w hw 5 rfl) (ty := .byte) (by decide) rfl rfl N2 gx (hb hby d15_11) (fun T3 h3 X3 e3 N3 W3 z3 F3 E3 => ?_)
  show own_G p e below _ (T3.setTop (mkF m 14 #[.val (.ref x), .val (.ref r), .val (.int (0 : Int32))] []))
  subst e3
  exact own_retV X3 hx hret hlk (hb hby d15_14) ⟨rfl, N3, (((Keep.refl h0 [x]).wr W2 (Or.inl (List.mem_singleton.mpr rfl))).wr W3 (Or.inl (List.mem_singleton.mpr rfl))), E3, F2.other W3 (Or.inr (sn_v hw)), F3⟩ (by decide) (by decide)
theorem ef_vo (m : MethodId) (x : Int32) : entryFrame m #[(.int x)] 1 = mkF m 0 #[.val (.int x)] [] := by first | (simp [entryFrame, mkF, argsToLocals, Value.category, maxLocals]; done) | rfl
theorem own_a0 {P : Int32 → Prop} : ∀ x ∈ ([] : List Int32), P x := fun _ q => nomatch q
theorem own_aS {P : Int32 → Prop} {y : Int32} {L : List Int32} (q : P y) (r : ∀ x ∈ L, P x) : ∀ x ∈ y :: L, P x := fun x z => (List.mem_cons.mp z).elim (fun u => u ▸ q) (r x)
set_option maxRecDepth 65536 in
set_option maxHeartbeats 40000000 in
theorem rmVo (l : Launch) (Z : State) (a0 : Array Value) (hw : ∀ d ∈ tables_1, d.before a0 Z = true) (ws : List Jvm.Cond) (x : Int32) (h0 : Heap) (hbx : own_by x) (OL0 : Old Z Z.heap.size h0) (G1 : Int32) (O2 : Sta Z Z.heap "java/lang/String" "COMPACT_STRINGS" "Z" (.int G1)) (P5 : ¬ (G1 = (0 : Int32))) :
    own_Met l Z (⟨"java/lang/String", "valueOf", "(C)Ljava/lang/String;"⟩ : MethodName) jdk_42_method_139_code 1 (some (.object "java/lang/String")) ws ⟨2, 2, 5, 27⟩ #[(.int x)] h0 (fun v h L => ∃ r : Addr, v = some (.ref r) ∧ Fr Z.heap.size L ∧ Ext h0 h ∧ own_Str Z h r [x]) := by
  refine own_enter (plainFor_of_name pn1) (fun m => ef_vo m x) ?_
  intro p e s m below meth c T0 hx hby hml hZ hown hnm hret hlk X0 e0
  have zz0 : Z.heap.size ≤ h0.size := OL0.2.1
  have N0 := Fr.nil Z.heap.size
  show own_G p e below _ (T0.setTop (mkF m 0 #[.val (.int x)] []))
  refine own_getS X0 hx hZ hown (own_w hw 18 rfl) e0 (O2.ext OL0.2) (hb hby d12_0) (fun T1 X1 e1 => ?_)
  show own_G p e below _ (T1.setTop (mkF m 3 #[.val (.int x)] [(.int G1)]))
  refine own_if_eq X1 hx (hb hby d12_3) (pc' := 26) (by decide) (by decide) (fun c3 => absurd c3 P5) (fun c3 => ?_)
  show own_G p e below _ (T1.setTop (mkF m 6 #[.val (.int x)] []))
  refine own_step (b := T1.setTop (mkF m 7 #[.val (.int x)] [(.int x)])) (fun _ qk => XS.iloadN X1.here hx rfl (hb hby d12_6) rfl qk) ?_
  refine own_staticP (W := 0) (argsL := [(.int x)]) (st := []) X1 hx hZ hown (own_w hw 70 rfl) (own_w hw 71 rfl) (own_w hw 72 rfl) (own_w hw 73 rfl) (by decide) e1 (rmCan l Z a0 hw [] x h0 hbx.2) (by decide) (by decide) (by decide) (by decide) (by rw [hml]; rfl) (lenOf pd1 rfl) rfl (Nat.le_of_ble_eq_true rfl) (hb hby d12_7) (fun T2 X2 e2 => ?_)
  show own_G p e below _ (T2.setTop (mkF m 10 #[.val (.int x)] [(.int (1 : Int32))]))
  refine own_if_eq X2 hx (hb hby d12_10) (pc' := 26) (by decide) (by decide) (fun c10_3 => absurd c10_3 (by decide)) (fun c10_3 => ?_)
  show own_G p e below _ (T2.setTop (mkF m 13 #[.val (.int x)] []))
  refine own_newO X2 hx hZ hown (own_w hw 74 rfl) (own_w hw 5 rfl) (own_w hw 6 rfl) e2 (hb hby d12_13) (by decide) (by decide) (fun T4 h4 a4 X4 e4 g4 l4 E4 A4 D4 => ?_)
  show own_G p e below _ (T4.setTop (mkF m 16 #[.val (.int x)] [(.ref a4)]))
  have OL4 := OL0.ext E4
  refine own_step (b := T4.setTop (mkF m 17 #[.val (.int x)] [(.ref a4), (.ref a4)])) (fun _ qk => XS.dup X4.here hx rfl (hb hby d12_16) rfl rfl qk) ?_
  refine own_step (b := T4.setTop (mkF m 18 #[.val (.int x)] [(.int x), (.ref a4), (.ref a4)])) (fun _ qk => XS.iloadN X4.here hx rfl (hb hby d12_17) rfl qk) ?_
  refine own_static (W := 2) (argsL := [(.int x)]) (st := [(.ref a4), (.ref a4)]) X4 hx hZ hown (own_w hw 75 rfl) (own_w hw 76 rfl) (own_w hw 72 rfl) (own_w hw 77 rfl) (by decide) e4 (own_back (W := 2) (rmTob l Z a0 hw [] x h4 OL4) hZ (own_w hw 77 rfl) (own_w hw 72 rfl) (by decide) (by decide)) (by decide) (by decide) (by rw [hml]; rfl) (lenOf pd2 rfl) rfl (Nat.le_of_ble_eq_true rfl) (hb hby d12_18) (fun v5 T5 L5 X5 hQ5 => ?_)
  obtain ⟨r5, kr5, rfl, M5, E5, g5, V5⟩ := hQ5
  have z5 : h4.size ≤ T5.heap.size := E5.1
  show own_G p e below _ (T5.setTop (mkF m 21 #[.val (.int x)] [(.ref r5), (.ref a4), (.ref a4)]))
  refine own_step (b := T5.setTop (mkF m 22 #[.val (.int x)] [(.int (0 : Int32)), (.ref r5), (.ref a4), (.ref a4)])) (fun _ qk => XS.iconst X5.here hx rfl (hb hby d12_21) qk) ?_
  refine own_special (a := a4) (W := 1) (argsL := [(.ref r5), (.int (0 : Int32))]) (st := [(.ref a4)]) X5 hx hZ hown rfl (own_w hw 78 rfl) (own_w hw 79 rfl) (own_w hw 80 rfl) (by decide) rfl (own_back (W := 1) (rmSbb l Z a0 hw [] a4 r5 T5.heap (by omega) (A4.ext E5) ((D4 (Or.inr (own_w hw 33 rfl)) (ty := (.array .byte)) (by decide)).ext E5) ((D4 (Or.inr (own_w hw 31 rfl)) (ty := .byte) (by decide)).ext E5)) hZ (own_w hw 80 rfl) (own_w hw 6 rfl) (by decide) (by decide)) (by decide) (by decide) (by rw [hml]; rfl) (lenOf pd3 rfl) rfl (Nat.le_of_ble_eq_true rfl) (hb hby d12_22) (fun v6 T6 L6 X6 hQ6 => ?_)
  obtain ⟨rfl, M6, K6, Ex6, Fv6, Fc6⟩ := hQ6
  show own_G p e below _ (T6.setTop (mkF m 25 #[.val (.int x)] [(.ref a4)]))
  exact own_retR X6 hx hret rfl rfl rfl hlk (hb hby d12_25) ⟨_, rfl, Fr.app (Fr.app N0 M5) M6, own_ext ((((Keep.refl h0 []).ext E4).ext E5).trans K6 (allS (Or.inr (by omega)) all0)), own_mkStr (n := 1) rfl rfl Ex6 (own_aS hbx own_a0) (by decide) Fc6 Fv6 (V5.keep K6 (ninS (own_ne (by omega)) nin0))⟩ (by decide) (by decide)
theorem ef_text (m : MethodId) (n x y : Int32) : entryFrame m #[(.int n), (.int x), (.int y)] 3 = mkF m 0 #[.val (.int n), .val (.int x), .val (.int y)] [] := by first | (simp [entryFrame, mkF, argsToLocals, Value.category, maxLocals]; done) | rfl
set_option maxRecDepth 65536 in
set_option maxHeartbeats 40000000 in
theorem rmText (l : Launch) (Z : State) (a0 : Array Value) (hw : ∀ d ∈ tables_1, d.before a0 Z = true) (ws : List Jvm.Cond) (n c0 c1 : Int32) (h0 : Heap) (hb0 : own_by c0) (hb1 : own_by c1) (OL0 : Old Z Z.heap.size h0) (G1 : Int32) (O2 : Sta Z Z.heap "java/lang/String" "COMPACT_STRINGS" "Z" (.int G1)) (P5 : ¬ (G1 = (0 : Int32))) (CH : Jvm.Lit.constHeld Z "java/lang/String" 7) (HC : Jvm.Lit.compactW.before a0 Z = true) :
    own_MetI l Z (⟨"com/example/unganisha/unganisha/engine/StepEqualsPinLaw", "text", "(ICC)Ljava/lang/String;"⟩ : MethodName) method_3_code 3 (some (.object "java/lang/String")) ws ⟨4, 4, 8, 66⟩ #[(.int n), (.int c0), (.int c1)] h0 (fun vm => own_L Z vm h0) (fun v vm h L => ∃ r : Addr, v = some (.ref r) ∧ Fr Z.heap.size L ∧ Ext h0 h ∧ own_Str Z h r (own_tx n c0 c1) ∧ own_L Z vm h) := by
  refine own_enterI (plainFor_of_name pn3) (fun m => ef_text m n c0 c1) ?_
  intro p e s m below meth c T0 vm0 k0 hx hby hml hZ hown hnm hret hlk X0 e0 es0 hS hk hI
  have zz0 : Z.heap.size ≤ h0.size := OL0.2.1
  have N0 := Fr.nil Z.heap.size
  have hws : ∀ d ∈ StrChars.Road.words, d.before a0 Z = true := fun d hd => hw d ((by decide +kernel : ∀ d ∈ StrChars.Road.words, d ∈ tables_1) d hd)
  show own_G p e below _ (T0.setTop (mkF m 0 #[.val (.int n), .val (.int c0), .val (.int c1)] []))
  refine own_step (b := T0.setTop (mkF m 1 #[.val (.int n), .val (.int c0), .val (.int c1)] [(.int n)])) (fun _ qk => XS.iloadN X0.here hx rfl (hb hby d1_0) rfl qk) ?_
  refine own_if_ne X0 hx (hb hby d1_1) (pc' := 15) (by decide) (by decide) (fun d0 => ?_) (fun d0 => ?_)
  · show own_G p e below _ (T0.setTop (mkF m 15 #[.val (.int n), .val (.int c0), .val (.int c1)] []))
    refine own_step (b := T0.setTop (mkF m 16 #[.val (.int n), .val (.int c0), .val (.int c1)] [(.int n)])) (fun _ qk => XS.iloadN X0.here hx rfl (hb hby d1_15) rfl qk) ?_
    refine own_step (b := T0.setTop (mkF m 17 #[.val (.int n), .val (.int c0), .val (.int c1)] [(.int (1 : Int32)), (.int n)])) (fun _ qk => XS.iconst X0.here hx rfl (hb hby d1_16) qk) ?_
    refine own_icmp_ne X0 hx (hb hby d1_17) (pc' := 25) (by decide) (by decide) (fun d1 => ?_) (fun d1 => ?_)
    · show own_G p e below _ (T0.setTop (mkF m 25 #[.val (.int n), .val (.int c0), .val (.int c1)] []))
      refine own_newO X0 hx hZ hown (own_w hw 4 rfl) (own_w hw 5 rfl) (own_w hw 6 rfl) e0 (hb hby d1_25) (by decide) (by decide) (fun T1 h1 a1 X1 e1 g1 l1 E1 A1 D1 => ?_)
      show own_G p e below _ (T1.setTop (mkF m 28 #[.val (.int n), .val (.int c0), .val (.int c1)] [(.ref a1)]))
      have OL1 := OL0.ext E1
      refine own_step (b := T1.setTop (mkF m 29 #[.val (.int n), .val (.int c0), .val (.int c1)] [(.ref a1), (.ref a1)])) (fun _ qk => XS.dup X1.here hx rfl (hb hby d1_28) rfl rfl qk) ?_
      refine own_step (b := T1.setTop (mkF m 30 #[.val (.int n), .val (.int c0), .val (.int c1)] [(.int (2 : Int32)), (.ref a1), (.ref a1)])) (fun _ qk => XS.iconst X1.here hx rfl (hb hby d1_29) qk) ?_
      refine own_newP X1 hx hZ (own_w hw 7 rfl) e1 (hb hby d1_30) (n := (2 : Int32)) (by decide) 2 (by decide) (by decide) (by decide) (by decide) (fun T2 h2 a2 k2 X2 e2 g2 l2 E2 V2 => ?_)
      have V2' : Arv Z h2 a2 k2 .char (2 : Int32) [.int 0, .int 0] (.int 0) := V2
      show own_G p e below _ (T2.setTop (mkF m 32 #[.val (.int n), .val (.int c0), .val (.int c1)] [(.ref a2), (.ref a1), (.ref a1)]))
      have OL2 := OL1.ext E2
      have KF2 := (Keep.refl h2 [a2])
      refine own_step (b := T2.setTop (mkF m 33 #[.val (.int n), .val (.int c0), .val (.int c1)] [(.ref a2), (.ref a2), (.ref a1), (.ref a1)])) (fun _ qk => XS.dup X2.here hx rfl (hb hby d1_32) rfl rfl qk) ?_
      refine own_step (b := T2.setTop (mkF m 34 #[.val (.int n), .val (.int c0), .val (.int c1)] [(.int (0 : Int32)), (.ref a2), (.ref a2), (.ref a1), (.ref a1)])) (fun _ qk => XS.iconst X2.here hx rfl (hb hby d1_33) qk) ?_
      refine own_step (b := T2.setTop (mkF m 35 #[.val (.int n), .val (.int c0), .val (.int c1)] [(.int c0), (.int (0 : Int32)), (.ref a2), (.ref a2), (.ref a1), (.ref a1)])) (fun _ qk => XS.iloadN X2.here hx rfl (hb hby d1_34) rfl qk) ?_
      refine own_stC X2 hx hZ e2 V2' 0 (by decide) (by decide) (by decide) (Nat.le_of_ble_eq_true rfl) N0 (by omega) (hb hby d1_35) (fun T3 h3 X3 e3 N3 W3 z3 V3 => ?_)
      have V3' : Arv Z h3 a2 k2 .char (2 : Int32) [.int (nar .char c0), .int 0] (.int 0) := V3
      show own_G p e below _ (T3.setTop (mkF m 36 #[.val (.int n), .val (.int c0), .val (.int c1)] [(.ref a2), (.ref a1), (.ref a1)]))
      have V3s : Arv Z h3 a2 k2 .char (2 : Int32) [.int c0, .int 0] (.int 0) := by have q := V3'; rw [own_narC hb0] at q; exact q
      have OL3 := OL2.wr W3 (by omega)
      have KF3 := KF2.wr W3 (Or.inl (List.mem_singleton.mpr rfl))
      refine own_step (b := T3.setTop (mkF m 37 #[.val (.int n), .val (.int c0), .val (.int c1)] [(.ref a2), (.ref a2), (.ref a1), (.ref a1)])) (fun _ qk => XS.dup X3.here hx rfl (hb hby d1_36) rfl rfl qk) ?_
      refine own_step (b := T3.setTop (mkF m 38 #[.val (.int n), .val (.int c0), .val (.int c1)] [(.int (1 : Int32)), (.ref a2), (.ref a2), (.ref a1), (.ref a1)])) (fun _ qk => XS.iconst X3.here hx rfl (hb hby d1_37) qk) ?_
      refine own_step (b := T3.setTop (mkF m 39 #[.val (.int n), .val (.int c0), .val (.int c1)] [(.int c1), (.int (1 : Int32)), (.ref a2), (.ref a2), (.ref a1), (.ref a1)])) (fun _ qk => XS.iloadN X3.here hx rfl (hb hby d1_38) rfl qk) ?_
      refine own_stC X3 hx hZ e3 V3s 1 (by decide) (by decide) (by decide) (Nat.le_of_ble_eq_true rfl) N3 (by omega) (hb hby d1_39) (fun T4 h4 X4 e4 N4 W4 z4 V4 => ?_)
      have V4' : Arv Z h4 a2 k2 .char (2 : Int32) [.int c0, .int (nar .char c1)] (.int 0) := V4
      show own_G p e below _ (T4.setTop (mkF m 40 #[.val (.int n), .val (.int c0), .val (.int c1)] [(.ref a2), (.ref a1), (.ref a1)]))
      have V4s : Arv Z h4 a2 k2 .char (2 : Int32) [.int c0, .int c1] (.int 0) := by have q := V4'; rw [own_narC hb1] at q; exact q
      have OL4 := OL3.wr W4 (by omega)
      have KF4 := KF3.wr W4 (Or.inl (List.mem_singleton.mpr rfl))
      have hp : ∀ c ∈ ([c0, c1] : List Int32), ¬ c < 0 ∧ ¬ (255 : Int32) < c := own_aS hb0 (own_aS hb1 own_a0)
      refine own_special (W := 1) (argsL := [(.ref a2)]) (a := a1) (st := [(.ref a1)]) X4 hx hZ hown rfl (own_w hw 8 rfl) (own_w hw 9 rfl) (own_w hw 10 rfl) (by decide) e4 (StrChars.Road.backV (W := 1) hZ hws (kI := 4) (own_w hw 5 rfl) (cs := ([c0, c1] : List Int32)) (bs := (([c0, c1] : List Int32)).map (fun c => c.toInt8.toInt32)) (n := 2) (n0 := Z.heap.size) (by omega) (by omega) ((A1.ext E2).keep KF4) (((D1 (Or.inr (own_w hw 33 rfl)) (ty := (.array .byte)) (by decide)).ext E2).keep KF4 (ninS (own_ne (by omega)) nin0)) (((D1 (Or.inr (own_w hw 31 rfl)) (ty := .byte) (by decide)).ext E2).keep KF4 (ninS (own_ne (by omega)) nin0)) V4s (O2.ext OL4.2) P5 rfl rfl (by decide) (by decide) hp rfl (by decide) (by decide)) (by decide) (by decide) (by rw [hml]; rfl) (lenOf pd4 rfl) rfl (Nat.le_of_ble_eq_true rfl) (hb hby d1_40) (fun v5 T5 L5 X5 hQ5 => ?_)
      obtain ⟨rfl, M5, K5, E5, C5, t5, kb5, u5, uu5, uuu5, F5, B5⟩ := hQ5
      have z5 : h4.size ≤ T5.heap.size := K5.1
      have N5 := Fr.app N4 M5
      have OL5 := OL4.keep K5 (allS (by omega) all0)
      show own_G p e below _ (T5.setTop (mkF m 43 #[.val (.int n), .val (.int c0), .val (.int c1)] [(.ref a1)]))
      have EE : Ext h0 T5.heap := own_ext (((((Keep.refl h0 []).ext E1).ext E2).trans KF4 (allS (Or.inr (by omega)) all0)).trans K5 (allS (Or.inr (by omega)) all0))
      exact own_retXR X5 hx hS (by omega) hret rfl rfl rfl hlk (hb hby d1_43) ⟨_, rfl, N5, EE, by rw [own_tx, if_neg d0, if_neg d1]; exact own_mkStr (n := 2) rfl rfl E5 hp (by decide) C5 F5 B5, own_Lm hI X5.warmed EE⟩ (by decide) (by decide)
    · show own_G p e below _ (T0.setTop (mkF m 20 #[.val (.int n), .val (.int c0), .val (.int c1)] []))
      refine own_step (b := T0.setTop (mkF m 21 #[.val (.int n), .val (.int c0), .val (.int c1)] [(.int c0)])) (fun _ qk => XS.iloadN X0.here hx rfl (hb hby d1_20) rfl qk) ?_
      refine own_static (W := 0) (argsL := [(.int c0)]) (st := []) X0 hx hZ hown (own_w hw 67 rfl) (own_w hw 68 rfl) (own_w hw 6 rfl) (own_w hw 69 rfl) (by decide) e0 (own_back (W := 0) (rmVo l Z a0 hw [] c0 h0 hb0 OL0 G1 O2 P5) hZ (own_w hw 69 rfl) (own_w hw 6 rfl) (by decide) (by decide)) (by decide) (by decide) (by rw [hml]; rfl) (lenOf pd5 rfl) rfl (Nat.le_of_ble_eq_true rfl) (hb hby d1_21) (fun v6 T6 L6 X6 hQ6 => ?_)
      obtain ⟨r6, rfl, M6, E6, SS6⟩ := hQ6
      have z6 : h0.size ≤ T6.heap.size := E6.1
      show own_G p e below _ (T6.setTop (mkF m 24 #[.val (.int n), .val (.int c0), .val (.int c1)] [(.ref r6)]))
      exact own_retXR X6 hx hS (by omega) hret rfl rfl rfl hlk (hb hby d1_24) ⟨_, rfl, M6, E6, by rw [own_tx, if_neg d0, if_pos d1]; exact SS6, own_Lm hI X6.warmed E6⟩ (by decide) (by decide)
  · show own_G p e below _ (T0.setTop (mkF m 4 #[.val (.int n), .val (.int c0), .val (.int c1)] []))
    refine own_newO X0 hx hZ hown (own_w hw 4 rfl) (own_w hw 5 rfl) (own_w hw 6 rfl) e0 (hb hby d1_4) (by decide) (by decide) (fun T7 h7 a7 X7 e7 g7 l7 E7 A7 D7 => ?_)
    show own_G p e below _ (T7.setTop (mkF m 7 #[.val (.int n), .val (.int c0), .val (.int c1)] [(.ref a7)]))
    have OL7 := OL0.ext E7
    refine own_step (b := T7.setTop (mkF m 8 #[.val (.int n), .val (.int c0), .val (.int c1)] [(.ref a7), (.ref a7)])) (fun _ qk => XS.dup X7.here hx rfl (hb hby d1_7) rfl rfl qk) ?_
    refine own_step (b := T7.setTop (mkF m 9 #[.val (.int n), .val (.int c0), .val (.int c1)] [(.int (0 : Int32)), (.ref a7), (.ref a7)])) (fun _ qk => XS.iconst X7.here hx rfl (hb hby d1_8) qk) ?_
    refine own_newP X7 hx hZ (own_w hw 7 rfl) e7 (hb hby d1_9) (n := (0 : Int32)) (by decide) 0 (by decide) (by decide) (by decide) (by decide) (fun T8 h8 a8 k8 X8 e8 g8 l8 E8 V8 => ?_)
    have V8' : Arv Z h8 a8 k8 .char (0 : Int32) [] (.int 0) := V8
    show own_G p e below _ (T8.setTop (mkF m 11 #[.val (.int n), .val (.int c0), .val (.int c1)] [(.ref a8), (.ref a7), (.ref a7)]))
    have OL8 := OL7.ext E8
    have EL : Ext h0 h8 := own_ext (((Keep.refl h0 []).ext E7).ext E8)
    refine own_specialI (a := a7) (W := 1) (argsL := [(.ref a8)]) (st := [(.ref a7)]) X8 hx hZ hown rfl (own_w hw 8 rfl) (own_w hw 9 rfl) (own_w hw 10 rfl) (own_w hw 6 rfl) (by decide) e8 hS (by omega) (rmOut l Z a0 hw [] a7 a8 h8 (by omega) (A7.ext E8) ((D7 (Or.inr (own_w hw 33 rfl)) (ty := (.array .byte)) (by decide)).ext E8) ((D7 (Or.inr (own_w hw 31 rfl)) (ty := .byte) (by decide)).ext E8) OL8 CH HC k8 V8') (fun _ hW => own_Lm hI hW EL) (by decide) (by decide) (by decide) (by decide) (by rw [hml]; rfl) (lenOf pd4 rfl) rfl (Nat.le_of_ble_eq_true rfl) (hb hby d1_11) (fun v9 T9 L9 vm9 k9 X9 ev9 z9 hS hk hZ hown hQ9 => ?_)
    obtain ⟨rfl, M9, K9, SS9, LL9⟩ := hQ9
    show own_G p e below _ (T9.setTop (mkF m 14 #[.val (.int n), .val (.int c0), .val (.int c1)] [(.ref a7)]))
    exact own_retXR X9 hx hS (by omega) hret rfl rfl rfl hlk (hb hby d1_14) ⟨_, rfl, M9, own_ext ((((Keep.refl h0 []).ext E7).ext E8).trans K9 (allS (Or.inr (by omega)) all0)), by rw [own_tx, if_pos d0]; exact SS9, own_Lm LL9 X9.warmed (own_extR _)⟩ (by decide) (by decide)
theorem ef_ph (m : MethodId) (x : Int32) : entryFrame m #[(.int x)] 1 = mkF m 0 #[.val (.int x)] [] := by first | (simp [entryFrame, mkF, argsToLocals, Value.category, maxLocals]; done) | rfl
set_option maxRecDepth 65536 in
set_option maxHeartbeats 40000000 in
theorem rmPh (l : Launch) (Z : State) (a0 : Array Value) (hw : ∀ d ∈ tables_1, d.before a0 Z = true) (ws : List Jvm.Cond) (x : Int32) (h0 : Heap) (OL0 : Old Z Z.heap.size h0) (q0 q1 q2 : Addr) (Q0 : Sta Z Z.heap "com/example/unganisha/unganisha/engine/CreationOrder$Phase" "CONSTRUCT" "Lcom/example/unganisha/unganisha/engine/CreationOrder$Phase;" (.ref q0)) (Q1 : Sta Z Z.heap "com/example/unganisha/unganisha/engine/CreationOrder$Phase" "FINISH" "Lcom/example/unganisha/unganisha/engine/CreationOrder$Phase;" (.ref q1)) (Q2 : Sta Z Z.heap "com/example/unganisha/unganisha/engine/CreationOrder$Phase" "BUILD" "Lcom/example/unganisha/unganisha/engine/CreationOrder$Phase;" (.ref q2)) :
    own_Met l Z (⟨"com/example/unganisha/unganisha/engine/StepEqualsPinLaw", "phase", "(I)Lcom/example/unganisha/unganisha/engine/CreationOrder$Phase;"⟩ : MethodName) method_2_code 1 (some (.object "com/example/unganisha/unganisha/engine/CreationOrder$Phase")) ws ⟨0, 0, 0, 0⟩ #[(.int x)] h0 (own_P (some (.ref (own_ph q0 q1 q2 x))) h0) := by
  refine own_enter (plainFor_of_name pn3) (fun m => ef_ph m x) ?_
  intro p e s m below meth c T0 hx hby hml hZ hown hnm hret hlk X0 e0
  show own_G p e below _ (T0.setTop (mkF m 0 #[.val (.int x)] []))
  refine own_step (b := T0.setTop (mkF m 1 #[.val (.int x)] [(.int x)])) (fun _ qk => XS.iloadN X0.here hx rfl (hb hby d8_0) rfl qk) ?_
  refine own_if_ne X0 hx (hb hby d8_1) (pc' := 8) (by decide) (by decide) (fun d0 => ?_) (fun d0 => ?_)
  · show own_G p e below _ (T0.setTop (mkF m 8 #[.val (.int x)] []))
    refine own_step (b := T0.setTop (mkF m 9 #[.val (.int x)] [(.int x)])) (fun _ qk => XS.iloadN X0.here hx rfl (hb hby d8_8) rfl qk) ?_
    refine own_step (b := T0.setTop (mkF m 10 #[.val (.int x)] [(.int (1 : Int32)), (.int x)])) (fun _ qk => XS.iconst X0.here hx rfl (hb hby d8_9) qk) ?_
    refine own_icmp_ne X0 hx (hb hby d8_10) (pc' := 17) (by decide) (by decide) (fun d1 => ?_) (fun d1 => ?_)
    · show own_G p e below _ (T0.setTop (mkF m 17 #[.val (.int x)] []))
      refine own_getS X0 hx hZ hown (own_w hw 89 rfl) e0 (Q2.ext OL0.2) (hb hby d8_17) (fun T1 X1 e1 => ?_)
      show own_G p e below _ (T1.setTop (mkF m 20 #[.val (.int x)] [(.ref q2)]))
      exact own_retR X1 hx hret rfl rfl rfl hlk (hb hby d8_20) ⟨by rw [own_ph, if_neg d0, if_neg d1], rfl, e1⟩ (by decide) (by decide)
    · show own_G p e below _ (T0.setTop (mkF m 13 #[.val (.int x)] []))
      refine own_getS X0 hx hZ hown (own_w hw 81 rfl) e0 (Q1.ext OL0.2) (hb hby d8_13) (fun T2 X2 e2 => ?_)
      show own_G p e below _ (T2.setTop (mkF m 16 #[.val (.int x)] [(.ref q1)]))
      exact own_retR X2 hx hret rfl rfl rfl hlk (hb hby d8_16) ⟨by rw [own_ph, if_neg d0, if_pos d1], rfl, e2⟩ (by decide) (by decide)
  · show own_G p e below _ (T0.setTop (mkF m 4 #[.val (.int x)] []))
    refine own_getS X0 hx hZ hown (own_w hw 40 rfl) e0 (Q0.ext OL0.2) (hb hby d8_4) (fun T3 X3 e3 => ?_)
    show own_G p e below _ (T3.setTop (mkF m 7 #[.val (.int x)] [(.ref q0)]))
    exact own_retR X3 hx hret rfl rfl rfl hlk (hb hby d8_7) ⟨by rw [own_ph, if_pos d0], rfl, e3⟩ (by decide) (by decide)
theorem sn_s {Z : State} {a0 : Array Value} (hw : ∀ d ∈ tables_1, d.before a0 Z = true) : Jvm.RoadKit.slotOf Z "com/example/unganisha/unganisha/engine/CreationOrder$Step" "bean" "Ljava/lang/String;" ≠ Jvm.RoadKit.slotOf Z "com/example/unganisha/unganisha/engine/CreationOrder$Step" "phase" "Lcom/example/unganisha/unganisha/engine/CreationOrder$Phase;" := slot_ne (Or.inr (own_w hw 53 rfl)) (Or.inr (own_w hw 55 rfl)) (by decide) (t := (.object "java/lang/String")) (t' := (.object "com/example/unganisha/unganisha/engine/CreationOrder$Phase")) (by decide) (by decide)
theorem ef_si (m : MethodId) (x y q : Addr) : entryFrame m #[(.ref x), (.ref y), (.ref q)] 3 = mkF m 0 #[.val (.ref x), .val (.ref y), .val (.ref q)] [] := by first | (simp [entryFrame, mkF, argsToLocals, Value.category, maxLocals]; done) | rfl
set_option maxRecDepth 65536 in
set_option maxHeartbeats 40000000 in
theorem rmSi (l : Launch) (Z : State) (a0 : Array Value) (hw : ∀ d ∈ tables_1, d.before a0 Z = true) (ws : List Jvm.Cond) (x y q : Addr) (h0 : Heap) (gx : Z.heap.size ≤ x) (Ex : Exa Z h0 x "com/example/unganisha/unganisha/engine/CreationOrder$Step") (F0 : Fld Z h0 x "com/example/unganisha/unganisha/engine/CreationOrder$Step" "bean" "Ljava/lang/String;" .null) (F1 : Fld Z h0 x "com/example/unganisha/unganisha/engine/CreationOrder$Step" "phase" "Lcom/example/unganisha/unganisha/engine/CreationOrder$Phase;" .null) :
    own_Met l Z (⟨"com/example/unganisha/unganisha/engine/CreationOrder$Step", "<init>", "(Ljava/lang/String;Lcom/example/unganisha/unganisha/engine/CreationOrder$Phase;)V"⟩ : MethodName) prog_82_method_1_code 3 none ws ⟨2, 0, 0, 24⟩ #[(.ref x), (.ref y), (.ref q)] h0 (fun v h L => v = none ∧ Fr Z.heap.size L ∧ Keep h0 h [x] ∧ Exa Z h x "com/example/unganisha/unganisha/engine/CreationOrder$Step" ∧ Fld Z h x "com/example/unganisha/unganisha/engine/CreationOrder$Step" "bean" "Ljava/lang/String;" (.ref y) ∧ Fld Z h x "com/example/unganisha/unganisha/engine/CreationOrder$Step" "phase" "Lcom/example/unganisha/unganisha/engine/CreationOrder$Phase;" (.ref q)) := by
  refine own_enter (plainFor_of_name pn4) (fun m => ef_si m x y q) ?_
  intro p e s m below meth c T0 hx hby hml hZ hown hnm hret hlk X0 e0
  have N0 := Fr.nil Z.heap.size
  show own_G p e below _ (T0.setTop (mkF m 0 #[.val (.ref x), .val (.ref y), .val (.ref q)] []))
  refine own_step (b := T0.setTop (mkF m 1 #[.val (.ref x), .val (.ref y), .val (.ref q)] [(.ref x)])) (fun _ qk => XS.aloadN X0.here hx rfl (hb hby d9_0) rfl rfl qk) ?_
  refine own_specialP (a := x) (W := 0) (argsL := []) (st := []) X0 hx hZ hown rfl (own_w hw 46 rfl) (own_w hw 47 rfl) (own_w hw 50 rfl) (by decide) e0 (rmRec l Z a0 hw [] x h0) (own_w hw 49 rfl) (by decide) (by decide) (by decide) (by decide) (by rw [hml]; rfl) (lenOf pd6 rfl) rfl (Nat.le_of_ble_eq_true rfl) (hb hby d9_1) (fun T1 X1 e1 => ?_)
  show own_G p e below _ (T1.setTop (mkF m 4 #[.val (.ref x), .val (.ref y), .val (.ref q)] []))
  refine own_step (b := T1.setTop (mkF m 5 #[.val (.ref x), .val (.ref y), .val (.ref q)] [(.ref x)])) (fun _ qk => XS.aloadN X1.here hx rfl (hb hby d9_4) rfl rfl qk) ?_
  refine own_step (b := T1.setTop (mkF m 6 #[.val (.ref x), .val (.ref y), .val (.ref q)] [(.ref y), (.ref x)])) (fun _ qk => XS.aloadN X1.here hx rfl (hb hby d9_5) rfl rfl qk) ?_
  refine own_putF X1 hx hZ hown (own_w hw 52 rfl) e1 F0 Ex (Or.inr ⟨(own_w hw 53 rfl), rfl, hnm⟩) (own_w hw 35 rfl) (ty := (.object "java/lang/String")) (by decide) rfl rfl N0 gx (hb hby d9_6) (fun T2 h2 X2 e2 N2 W2 z2 F2 E2 => ?_)
  show own_G p e below _ (T2.setTop (mkF m 9 #[.val (.ref x), .val (.ref y), .val (.ref q)] []))
  refine own_step (b := T2.setTop (mkF m 10 #[.val (.ref x), .val (.ref y), .val (.ref q)] [(.ref x)])) (fun _ qk => XS.aloadN X2.here hx rfl (hb hby d9_9) rfl rfl qk) ?_
  refine own_step (b := T2.setTop (mkF m 11 #[.val (.ref x), .val (.ref y), .val (.ref q)] [(.ref q), (.ref x)])) (fun _ qk => XS.aloadN X2.here hx rfl (hb hby d9_10) rfl rfl qk) ?_
  refine own_putF X2 hx hZ hown (own_w hw 54 rfl) e2 (F1.other W2 (Or.inr (sn_s hw).symm)) E2 (Or.inr ⟨(own_w hw 55 rfl), rfl, hnm⟩) (own_w hw 35 rfl) (ty := (.object "com/example/unganisha/unganisha/engine/CreationOrder$Phase")) (by decide) rfl rfl N2 gx (hb hby d9_11) (fun T3 h3 X3 e3 N3 W3 z3 F3 E3 => ?_)
  show own_G p e below _ (T3.setTop (mkF m 14 #[.val (.ref x), .val (.ref y), .val (.ref q)] []))
  subst e3
  exact own_retV X3 hx hret hlk (hb hby d9_14) ⟨rfl, N3, (((Keep.refl h0 [x]).wr W2 (Or.inl (List.mem_singleton.mpr rfl))).wr W3 (Or.inl (List.mem_singleton.mpr rfl))), E3, F2.other W3 (Or.inr (sn_s hw)), F3⟩ (by decide) (by decide)
theorem ef_eq (m : MethodId) (x y : Addr) : entryFrame m #[(.ref x), (.ref y)] 3 = mkF m 0 #[.val (.ref x), .val (.ref y), .unset] [] := by first | (simp [entryFrame, mkF, argsToLocals, Value.category, maxLocals]; done) | rfl
theorem ef_eqn (m : MethodId) (x : Addr) : entryFrame m #[(.ref x), .null] 3 = mkF m 0 #[.val (.ref x), .val .null, .unset] [] := by first | (simp [entryFrame, mkF, argsToLocals, Value.category, maxLocals]; done) | rfl
set_option maxRecDepth 65536 in
set_option maxHeartbeats 40000000 in
theorem rmEqN (l : Launch) (Z : State) (a0 : Array Value) (hw : ∀ d ∈ tables_1, d.before a0 Z = true) (ws : List Jvm.Cond) (x : Addr) (h0 : Heap) :
    own_Met l Z (⟨"com/example/unganisha/unganisha/engine/CreationOrder$Step", "equals", "(Ljava/lang/Object;)Z"⟩ : MethodName) prog_82_method_2_code 3 (some .boolean) ws ⟨2, 0, 0, 28⟩ #[(.ref x), .null] h0 (own_P (some (.int (own_bi false))) h0) := by
  refine own_enter (plainFor_of_name pn4) (fun m => ef_eqn m x) ?_
  intro p e s m below meth c T0 hx hby hml hZ hown hnm hret hlk X0 e0
  show own_G p e below _ (T0.setTop (mkF m 0 #[.val (.ref x), .val .null, .unset] []))
  refine own_step (b := T0.setTop (mkF m 1 #[.val (.ref x), .val .null, .unset] [.null])) (fun _ qk => XS.aloadN X0.here hx rfl (hb hby d11_0) rfl rfl qk) ?_
  refine own_instNull X0 hx (hb hby d11_1) ?_
  show own_G p e below _ (T0.setTop (mkF m 4 #[.val (.ref x), .val .null, .unset] [(.int (0 : Int32))]))
  refine own_if_eq X0 hx (hb hby d11_4) (pc' := 41) (by decide) (by decide) (fun c4_1 => ?_) (fun c4_1 => absurd c4_1 (by decide))
  show own_G p e below _ (T0.setTop (mkF m 41 #[.val (.ref x), .val .null, .unset] []))
  refine own_step (b := T0.setTop (mkF m 42 #[.val (.ref x), .val .null, .unset] [(.int (0 : Int32))])) (fun _ qk => XS.iconst X0.here hx rfl (hb hby d11_41) qk) ?_
  exact own_retN X0 hx hret (by simp) hlk (hb hby d11_42) ⟨rfl, rfl, e0⟩ (by decide) (by decide)
set_option maxRecDepth 65536 in
set_option maxHeartbeats 40000000 in
theorem rmEqS (l : Launch) (Z : State) (a0 : Array Value) (hw : ∀ d ∈ tables_1, d.before a0 Z = true) (ws : List Jvm.Cond) (x y : Addr) (h0 : Heap) (Ey : Exa Z h0 y "java/lang/String") :
    own_Met l Z (⟨"com/example/unganisha/unganisha/engine/CreationOrder$Step", "equals", "(Ljava/lang/Object;)Z"⟩ : MethodName) prog_82_method_2_code 3 (some .boolean) ws ⟨2, 0, 0, 28⟩ #[(.ref x), (.ref y)] h0 (own_P (some (.int (own_bi false))) h0) := by
  refine own_enter (plainFor_of_name pn4) (fun m => ef_eq m x y) ?_
  intro p e s m below meth c T0 hx hby hml hZ hown hnm hret hlk X0 e0
  show own_G p e below _ (T0.setTop (mkF m 0 #[.val (.ref x), .val (.ref y), .unset] []))
  refine own_step (b := T0.setTop (mkF m 1 #[.val (.ref x), .val (.ref y), .unset] [(.ref y)])) (fun _ qk => XS.aloadN X0.here hx rfl (hb hby d11_0) rfl rfl qk) ?_
  refine own_instNo X0 hx hZ hown (own_w hw 64 rfl) e0 Ey (own_notSub (own_w hw 65 rfl) (own_w hw 66 rfl) (own_w hw 35 rfl) (by decide) (by decide)) (hb hby d11_1) (fun T1 X1 e1 => ?_)
  show own_G p e below _ (T1.setTop (mkF m 4 #[.val (.ref x), .val (.ref y), .unset] [(.int (0 : Int32))]))
  refine own_if_eq X1 hx (hb hby d11_4) (pc' := 41) (by decide) (by decide) (fun c4_2 => ?_) (fun c4_2 => absurd c4_2 (by decide))
  show own_G p e below _ (T1.setTop (mkF m 41 #[.val (.ref x), .val (.ref y), .unset] []))
  refine own_step (b := T1.setTop (mkF m 42 #[.val (.ref x), .val (.ref y), .unset] [(.int (0 : Int32))])) (fun _ qk => XS.iconst X1.here hx rfl (hb hby d11_41) qk) ?_
  exact own_retN X1 hx hret (by simp) hlk (hb hby d11_42) ⟨rfl, rfl, e1⟩ (by decide) (by decide)
set_option maxRecDepth 65536 in
set_option maxHeartbeats 40000000 in
theorem rmEq (l : Launch) (Z : State) (a0 : Array Value) (hw : ∀ d ∈ tables_1, d.before a0 Z = true) (ws : List Jvm.Cond) (x y sx sy qx qy : Addr) (cs ds : List Int32) (h0 : Heap) (Ey : Exa Z h0 y "com/example/unganisha/unganisha/engine/CreationOrder$Step") (Bx : Fld Z h0 x "com/example/unganisha/unganisha/engine/CreationOrder$Step" "bean" "Ljava/lang/String;" (.ref sx)) (Px : Fld Z h0 x "com/example/unganisha/unganisha/engine/CreationOrder$Step" "phase" "Lcom/example/unganisha/unganisha/engine/CreationOrder$Phase;" (.ref qx)) (By : Fld Z h0 y "com/example/unganisha/unganisha/engine/CreationOrder$Step" "bean" "Ljava/lang/String;" (.ref sy)) (Py : Fld Z h0 y "com/example/unganisha/unganisha/engine/CreationOrder$Step" "phase" "Lcom/example/unganisha/unganisha/engine/CreationOrder$Phase;" (.ref qy)) (SX : own_Str Z h0 sx cs) (SY : own_Str Z h0 sy ds) (OL0 : Old Z Z.heap.size h0) (G1 : Int32) (O2 : Sta Z Z.heap "java/lang/String" "COMPACT_STRINGS" "Z" (.int G1)) (P5 : ¬ (G1 = (0 : Int32))) :
    own_Met l Z (⟨"com/example/unganisha/unganisha/engine/CreationOrder$Step", "equals", "(Ljava/lang/Object;)Z"⟩ : MethodName) prog_82_method_2_code 3 (some .boolean) ws ⟨2, 0, 0, 28⟩ #[(.ref x), (.ref y)] h0 (own_P (some (.int (own_bi (decide (cs = ds) && decide (qx = qy))))) h0) := by
  refine own_enter (plainFor_of_name pn4) (fun m => ef_eq m x y) ?_
  intro p e s m below meth c T0 hx hby hml hZ hown hnm hret hlk X0 e0
  show own_G p e below _ (T0.setTop (mkF m 0 #[.val (.ref x), .val (.ref y), .unset] []))
  refine own_step (b := T0.setTop (mkF m 1 #[.val (.ref x), .val (.ref y), .unset] [(.ref y)])) (fun _ qk => XS.aloadN X0.here hx rfl (hb hby d11_0) rfl rfl qk) ?_
  refine own_instY X0 hx hZ hown (own_w hw 64 rfl) e0 Ey (hb hby d11_1) (fun T1 X1 e1 => ?_)
  show own_G p e below _ (T1.setTop (mkF m 4 #[.val (.ref x), .val (.ref y), .unset] [(.int (1 : Int32))]))
  refine own_if_eq X1 hx (hb hby d11_4) (pc' := 41) (by decide) (by decide) (fun c4_2 => absurd c4_2 (by decide)) (fun c4_2 => ?_)
  show own_G p e below _ (T1.setTop (mkF m 7 #[.val (.ref x), .val (.ref y), .unset] []))
  refine own_step (b := T1.setTop (mkF m 8 #[.val (.ref x), .val (.ref y), .unset] [(.ref y)])) (fun _ qk => XS.aloadN X1.here hx rfl (hb hby d11_7) rfl rfl qk) ?_
  refine own_castY X1 hx hZ hown (own_w hw 64 rfl) e1 Ey (hb hby d11_8) (fun T3 X3 e3 => ?_)
  show own_G p e below _ (T3.setTop (mkF m 11 #[.val (.ref x), .val (.ref y), .unset] [(.ref y)]))
  refine own_step (b := T3.setTop (mkF m 12 #[.val (.ref x), .val (.ref y), .val (.ref y)] [])) (fun _ qk => XS.astoreN X3.here hx rfl (hb hby d11_11) rfl rfl (l' := #[.val (.ref x), .val (.ref y), .val (.ref y)]) rfl qk) ?_
  refine own_step (b := T3.setTop (mkF m 13 #[.val (.ref x), .val (.ref y), .val (.ref y)] [(.ref x)])) (fun _ qk => XS.aloadN X3.here hx rfl (hb hby d11_12) rfl rfl qk) ?_
  refine own_getF X3 hx hZ hown (own_w hw 52 rfl) e3 Bx (hb hby d11_13) (fun T4 X4 e4 => ?_)
  show own_G p e below _ (T4.setTop (mkF m 16 #[.val (.ref x), .val (.ref y), .val (.ref y)] [(.ref sx)]))
  refine own_step (b := T4.setTop (mkF m 17 #[.val (.ref x), .val (.ref y), .val (.ref y)] [(.ref y), (.ref sx)])) (fun _ qk => XS.aloadN X4.here hx rfl (hb hby d11_16) rfl rfl qk) ?_
  refine own_getF X4 hx hZ hown (own_w hw 52 rfl) e4 By (hb hby d11_17) (fun T5 X5 e5 => ?_)
  show own_G p e below _ (T5.setTop (mkF m 20 #[.val (.ref x), .val (.ref y), .val (.ref y)] [(.ref sy), (.ref sx)]))
  refine own_virtual (a := sx) (W := 0) (argsL := [(.ref sy)]) (st := []) X5 hx hZ hown (own_w hw 84 rfl) (own_w hw 85 rfl) (own_w hw 87 rfl) rfl (own_w hw 86 rfl) (by decide) e5 SX.1 (own_eqB (W := 0) hZ hw (kI := 4) (own_w hw 5 rfl) SX SY O2 P5 OL0 (by decide) (by decide)) (by decide) (by decide) (by rw [hml]; rfl) (lenOf pd7 rfl) rfl (Nat.le_of_ble_eq_true rfl) (hb hby d11_20) (fun v6 T6 L6 X6 hQ6 => ?_)
  obtain ⟨rfl, rfl, hh6⟩ := hQ6
  rw [List.append_nil] at X6
  show own_G p e below _ (T6.setTop (mkF m 23 #[.val (.ref x), .val (.ref y), .val (.ref y)] [(.int (own_bi (decide (cs = ds))))]))
  refine own_if_eq X6 hx (hb hby d11_23) (pc' := 41) (by decide) (by decide) (fun ce => ?_) (fun ce => ?_)
  · show own_G p e below _ (T6.setTop (mkF m 41 #[.val (.ref x), .val (.ref y), .val (.ref y)] []))
    have ceb := own_bi_f ce
    refine own_step (b := T6.setTop (mkF m 42 #[.val (.ref x), .val (.ref y), .val (.ref y)] [(.int (0 : Int32))])) (fun _ qk => XS.iconst X6.here hx rfl (hb hby d11_41) qk) ?_
    exact own_retN X6 hx hret (by simp) hlk (hb hby d11_42) ⟨by rw [show (decide (cs = ds) && decide (qx = qy)) = false by simp [ceb]]; rfl, rfl, hh6⟩ (by decide) (by decide)
  · show own_G p e below _ (T6.setTop (mkF m 26 #[.val (.ref x), .val (.ref y), .val (.ref y)] []))
    have ceb := own_bi_t ce
    refine own_step (b := T6.setTop (mkF m 27 #[.val (.ref x), .val (.ref y), .val (.ref y)] [(.ref x)])) (fun _ qk => XS.aloadN X6.here hx rfl (hb hby d11_26) rfl rfl qk) ?_
    refine own_getF X6 hx hZ hown (own_w hw 54 rfl) hh6 Px (hb hby d11_27) (fun T7 X7 e7 => ?_)
    show own_G p e below _ (T7.setTop (mkF m 30 #[.val (.ref x), .val (.ref y), .val (.ref y)] [(.ref qx)]))
    refine own_step (b := T7.setTop (mkF m 31 #[.val (.ref x), .val (.ref y), .val (.ref y)] [(.ref y), (.ref qx)])) (fun _ qk => XS.aloadN X7.here hx rfl (hb hby d11_30) rfl rfl qk) ?_
    refine own_getF X7 hx hZ hown (own_w hw 54 rfl) e7 Py (hb hby d11_31) (fun T8 X8 e8 => ?_)
    show own_G p e below _ (T8.setTop (mkF m 34 #[.val (.ref x), .val (.ref y), .val (.ref y)] [(.ref qy), (.ref qx)]))
    by_cases cq : qx = qy
    · show own_G p e below _ (T8.setTop (mkF m 34 #[.val (.ref x), .val (.ref y), .val (.ref y)] [(.ref qy), (.ref qx)]))
      refine own_step (b := T8.setTop (mkF m 37 #[.val (.ref x), .val (.ref y), .val (.ref y)] [])) (fun _ qk => XT.acmpNo X8.here hx rfl (hb hby d11_34) rfl rfl rfl (by simp [XT.acmp, cq]) qk) ?_
      refine own_step (b := T8.setTop (mkF m 38 #[.val (.ref x), .val (.ref y), .val (.ref y)] [(.int (1 : Int32))])) (fun _ qk => XS.iconst X8.here hx rfl (hb hby d11_37) qk) ?_
      refine own_step (b := T8.setTop (mkF m 42 #[.val (.ref x), .val (.ref y), .val (.ref y)] [(.int (1 : Int32))])) (fun _ qk => XS.goto X8.here hx rfl (pc0 := 38) (pc' := 42) rfl (hb hby d11_38) (by decide) (by decide) qk) ?_
      exact own_retN X8 hx hret (by simp) hlk (hb hby d11_42) ⟨by rw [show (decide (cs = ds) && decide (qx = qy)) = true by simp [ceb, cq]]; rfl, rfl, e8⟩ (by decide) (by decide)
    · show own_G p e below _ (T8.setTop (mkF m 34 #[.val (.ref x), .val (.ref y), .val (.ref y)] [(.ref qy), (.ref qx)]))
      refine own_step (b := T8.setTop (mkF m 41 #[.val (.ref x), .val (.ref y), .val (.ref y)] [])) (fun _ qk => XT.acmpYes X8.here hx rfl (pc0 := 34) (pc' := 41) rfl (hb hby d11_34) rfl rfl rfl (by simp [XT.acmp, cq]) (by decide) (by decide) qk) ?_
      refine own_step (b := T8.setTop (mkF m 42 #[.val (.ref x), .val (.ref y), .val (.ref y)] [(.int (0 : Int32))])) (fun _ qk => XS.iconst X8.here hx rfl (hb hby d11_41) qk) ?_
      exact own_retN X8 hx hret (by simp) hlk (hb hby d11_42) ⟨by rw [show (decide (cs = ds) && decide (qx = qy)) = false by simp [cq]]; rfl, rfl, e8⟩ (by decide) (by decide)
theorem ef_0 (m : MethodId) (p0 p1 p2 : Int32) : entryFrame m #[(.int p0), (.int p1), (.int p2)] maxLocals = mkF m 0 #[.val (.int p0), .val (.int p1), .val (.int p2), .unset, .unset, .unset, .unset, .unset, .unset, .unset, .unset, .unset, .unset, .unset, .unset, .unset, .unset, .unset] [] := by first | (simp [entryFrame, mkF, argsToLocals, Value.category, maxLocals]; done) | rfl
set_option maxRecDepth 65536 in
set_option maxHeartbeats 40000000 in
theorem rm0 (l : Launch) (Z : State) (a0 : Array Value) (hw : ∀ d ∈ tables_1, d.before a0 Z = true) (ws : List Jvm.Cond) (p0 p1 p2 : Int32) (h0 : Heap) (G1 : Int32) (O2 : Sta Z Z.heap "java/lang/String" "COMPACT_STRINGS" "Z" (.int G1)) (P5 : ¬ (G1 = (0 : Int32))) (OL0 : Old Z Z.heap.size h0) (CH : Jvm.Lit.constHeld Z "java/lang/String" 7) (HC : Jvm.Lit.compactW.before a0 Z = true) (q0 q1 q2 : Addr) (Q0 : Sta Z Z.heap "com/example/unganisha/unganisha/engine/CreationOrder$Phase" "CONSTRUCT" "Lcom/example/unganisha/unganisha/engine/CreationOrder$Phase;" (.ref q0)) (Q1 : Sta Z Z.heap "com/example/unganisha/unganisha/engine/CreationOrder$Phase" "FINISH" "Lcom/example/unganisha/unganisha/engine/CreationOrder$Phase;" (.ref q1)) (Q2 : Sta Z Z.heap "com/example/unganisha/unganisha/engine/CreationOrder$Phase" "BUILD" "Lcom/example/unganisha/unganisha/engine/CreationOrder$Phase;" (.ref q2)) (h01 : q0 ≠ q1) (h02 : q0 ≠ q2) (h12 : q1 ≠ q2) :
    own_MetI l Z x code maxLocals ret ws room_1 #[(.int p0), (.int p1), (.int p2)] h0 (fun vm => IB Z vm []) (fun v vm h L => v = some (.int 1) ∧ Fr Z.heap.size L) := by
  refine own_enterI (plainFor_of_name pn3) (fun m => ef_0 m p0 p1 p2) ?_
  intro p e s m below meth c T0 vm0 k0 hx hby hml hZ hown hnm hret hlk X0 e0 es0 hS hk hI
  have zz0 : Z.heap.size ≤ h0.size := OL0.2.1
  have N0 := Fr.nil Z.heap.size
  show own_G p e below _ (T0.setTop (mkF m 0 #[.val (.int p0), .val (.int p1), .val (.int p2), .unset, .unset, .unset, .unset, .unset, .unset, .unset, .unset, .unset, .unset, .unset, .unset, .unset, .unset, .unset] []))
  refine own_step (b := T0.setTop (mkF m 1 #[.val (.int p0), .val (.int p1), .val (.int p2), .unset, .unset, .unset, .unset, .unset, .unset, .unset, .unset, .unset, .unset, .unset, .unset, .unset, .unset, .unset] [(.int p2)])) (fun _ qk => XS.iloadN X0.here hx rfl (hb hby at_0) rfl qk) ?_
  refine own_step (b := T0.setTop (mkF m 2 #[.val (.int p0), .val (.int p1), .val (.int p2), .unset, .unset, .unset, .unset, .unset, .unset, .unset, .unset, .unset, .unset, .unset, .unset, .unset, .unset, .unset] [(.int (3 : Int32)), (.int p2)])) (fun _ qk => XS.iconst X0.here hx rfl (hb hby at_1) qk) ?_
  refine own_step (b := T0.setTop (mkF m 3 #[.val (.int p0), .val (.int p1), .val (.int p2), .unset, .unset, .unset, .unset, .unset, .unset, .unset, .unset, .unset, .unset, .unset, .unset, .unset, .unset, .unset] [(.int (p2 &&& (3 : Int32)))])) (fun _ qk => XS.iand X0.here hx rfl (hb hby at_2) rfl qk) ?_
  refine own_step (b := T0.setTop (mkF m 4 #[.val (.int p0), .val (.int p1), .val (.int p2), .unset, .unset, .unset, .unset, .unset, .unset, .unset, .unset, .unset, .unset, .unset, .unset, .unset, .unset, .unset] [(.int (3 : Int32)), (.int (p2 &&& (3 : Int32)))])) (fun _ qk => XS.iconst X0.here hx rfl (hb hby at_3) qk) ?_
  refine own_step (b := T0.setTop (mkF m 5 #[.val (.int p0), .val (.int p1), .val (.int p2), .unset, .unset, .unset, .unset, .unset, .unset, .unset, .unset, .unset, .unset, .unset, .unset, .unset, .unset, .unset] [(.int ((p2 &&& (3 : Int32)) % (3 : Int32)))])) (fun _ qk => iremM X0 hx rfl (hb hby at_4) rfl (by decide) qk) ?_
  have R_n1 : own_3 ((p2 &&& (3 : Int32)) % (3 : Int32)) := own_m3 _
  generalize ((p2 &&& (3 : Int32)) % (3 : Int32)) = n1 at R_n1 ⊢
  show own_G p e below _ (T0.setTop (mkF m 5 #[.val (.int p0), .val (.int p1), .val (.int p2), .unset, .unset, .unset, .unset, .unset, .unset, .unset, .unset, .unset, .unset, .unset, .unset, .unset, .unset, .unset] [(.int n1)]))
  refine own_step (b := T0.setTop (mkF m 6 #[.val (.int p0), .val (.int p1), .val (.int p2), .val (.int n1), .unset, .unset, .unset, .unset, .unset, .unset, .unset, .unset, .unset, .unset, .unset, .unset, .unset, .unset] [])) (fun _ qk => XS.istoreN X0.here hx rfl (hb hby at_5) rfl (l' := #[.val (.int p0), .val (.int p1), .val (.int p2), .val (.int n1), .unset, .unset, .unset, .unset, .unset, .unset, .unset, .unset, .unset, .unset, .unset, .unset, .unset, .unset]) rfl qk) ?_
  refine own_step (b := T0.setTop (mkF m 7 #[.val (.int p0), .val (.int p1), .val (.int p2), .val (.int n1), .unset, .unset, .unset, .unset, .unset, .unset, .unset, .unset, .unset, .unset, .unset, .unset, .unset, .unset] [(.int p0)])) (fun _ qk => XS.iloadN X0.here hx rfl (hb hby at_6) rfl qk) ?_
  refine own_step (b := T0.setTop (mkF m 10 #[.val (.int p0), .val (.int p1), .val (.int p2), .val (.int n1), .unset, .unset, .unset, .unset, .unset, .unset, .unset, .unset, .unset, .unset, .unset, .unset, .unset, .unset] [(.int (255 : Int32)), (.int p0)])) (fun _ qk => XS.sipush X0.here hx rfl (hb hby at_7) qk) ?_
  refine own_step (b := T0.setTop (mkF m 11 #[.val (.int p0), .val (.int p1), .val (.int p2), .val (.int n1), .unset, .unset, .unset, .unset, .unset, .unset, .unset, .unset, .unset, .unset, .unset, .unset, .unset, .unset] [(.int (p0 &&& (255 : Int32)))])) (fun _ qk => XS.iand X0.here hx rfl (hb hby at_10) rfl qk) ?_
  have R_x0 : own_by (p0 &&& (255 : Int32)) := own_by1 _
  generalize (p0 &&& (255 : Int32)) = x0 at R_x0 ⊢
  show own_G p e below _ (T0.setTop (mkF m 11 #[.val (.int p0), .val (.int p1), .val (.int p2), .val (.int n1), .unset, .unset, .unset, .unset, .unset, .unset, .unset, .unset, .unset, .unset, .unset, .unset, .unset, .unset] [(.int x0)]))
  refine own_step (b := T0.setTop (mkF m 13 #[.val (.int p0), .val (.int p1), .val (.int p2), .val (.int n1), .val (.int x0), .unset, .unset, .unset, .unset, .unset, .unset, .unset, .unset, .unset, .unset, .unset, .unset, .unset] [])) (fun _ qk => XS.istore X0.here hx rfl (hb hby at_11) rfl (l' := #[.val (.int p0), .val (.int p1), .val (.int p2), .val (.int n1), .val (.int x0), .unset, .unset, .unset, .unset, .unset, .unset, .unset, .unset, .unset, .unset, .unset, .unset, .unset]) rfl qk) ?_
  refine own_step (b := T0.setTop (mkF m 14 #[.val (.int p0), .val (.int p1), .val (.int p2), .val (.int n1), .val (.int x0), .unset, .unset, .unset, .unset, .unset, .unset, .unset, .unset, .unset, .unset, .unset, .unset, .unset] [(.int p0)])) (fun _ qk => XS.iloadN X0.here hx rfl (hb hby at_13) rfl qk) ?_
  refine own_step (b := T0.setTop (mkF m 16 #[.val (.int p0), .val (.int p1), .val (.int p2), .val (.int n1), .val (.int x0), .unset, .unset, .unset, .unset, .unset, .unset, .unset, .unset, .unset, .unset, .unset, .unset, .unset] [(.int (8 : Int32)), (.int p0)])) (fun _ qk => XS.bipush X0.here hx rfl (hb hby at_14) qk) ?_
  refine own_step (b := T0.setTop (mkF m 17 #[.val (.int p0), .val (.int p1), .val (.int p2), .val (.int n1), .val (.int x0), .unset, .unset, .unset, .unset, .unset, .unset, .unset, .unset, .unset, .unset, .unset, .unset, .unset] [(.int (XT.ushr p0 (8 : Int32)))])) (fun _ qk => XT.iushr X0.here hx rfl (hb hby at_16) rfl qk) ?_
  refine own_step (b := T0.setTop (mkF m 20 #[.val (.int p0), .val (.int p1), .val (.int p2), .val (.int n1), .val (.int x0), .unset, .unset, .unset, .unset, .unset, .unset, .unset, .unset, .unset, .unset, .unset, .unset, .unset] [(.int (255 : Int32)), (.int (XT.ushr p0 (8 : Int32)))])) (fun _ qk => XS.sipush X0.here hx rfl (hb hby at_17) qk) ?_
  refine own_step (b := T0.setTop (mkF m 21 #[.val (.int p0), .val (.int p1), .val (.int p2), .val (.int n1), .val (.int x0), .unset, .unset, .unset, .unset, .unset, .unset, .unset, .unset, .unset, .unset, .unset, .unset, .unset] [(.int ((XT.ushr p0 (8 : Int32)) &&& (255 : Int32)))])) (fun _ qk => XS.iand X0.here hx rfl (hb hby at_20) rfl qk) ?_
  have R_x1 : own_by ((XT.ushr p0 (8 : Int32)) &&& (255 : Int32)) := own_by1 _
  generalize ((XT.ushr p0 (8 : Int32)) &&& (255 : Int32)) = x1 at R_x1 ⊢
  show own_G p e below _ (T0.setTop (mkF m 21 #[.val (.int p0), .val (.int p1), .val (.int p2), .val (.int n1), .val (.int x0), .unset, .unset, .unset, .unset, .unset, .unset, .unset, .unset, .unset, .unset, .unset, .unset, .unset] [(.int x1)]))
  refine own_step (b := T0.setTop (mkF m 23 #[.val (.int p0), .val (.int p1), .val (.int p2), .val (.int n1), .val (.int x0), .val (.int x1), .unset, .unset, .unset, .unset, .unset, .unset, .unset, .unset, .unset, .unset, .unset, .unset] [])) (fun _ qk => XS.istore X0.here hx rfl (hb hby at_21) rfl (l' := #[.val (.int p0), .val (.int p1), .val (.int p2), .val (.int n1), .val (.int x0), .val (.int x1), .unset, .unset, .unset, .unset, .unset, .unset, .unset, .unset, .unset, .unset, .unset, .unset]) rfl qk) ?_
  refine own_step (b := T0.setTop (mkF m 24 #[.val (.int p0), .val (.int p1), .val (.int p2), .val (.int n1), .val (.int x0), .val (.int x1), .unset, .unset, .unset, .unset, .unset, .unset, .unset, .unset, .unset, .unset, .unset, .unset] [(.int n1)])) (fun _ qk => XS.iloadN X0.here hx rfl (hb hby at_23) rfl qk) ?_
  refine own_step (b := T0.setTop (mkF m 25 #[.val (.int p0), .val (.int p1), .val (.int p2), .val (.int n1), .val (.int x0), .val (.int x1), .unset, .unset, .unset, .unset, .unset, .unset, .unset, .unset, .unset, .unset, .unset, .unset] [(.int p1), (.int n1)])) (fun _ qk => XS.iloadN X0.here hx rfl (hb hby at_24) rfl qk) ?_
  refine own_step (b := T0.setTop (mkF m 27 #[.val (.int p0), .val (.int p1), .val (.int p2), .val (.int n1), .val (.int x0), .val (.int x1), .unset, .unset, .unset, .unset, .unset, .unset, .unset, .unset, .unset, .unset, .unset, .unset] [(.int (16 : Int32)), (.int p1), (.int n1)])) (fun _ qk => XS.bipush X0.here hx rfl (hb hby at_25) qk) ?_
  refine own_step (b := T0.setTop (mkF m 28 #[.val (.int p0), .val (.int p1), .val (.int p2), .val (.int n1), .val (.int x0), .val (.int x1), .unset, .unset, .unset, .unset, .unset, .unset, .unset, .unset, .unset, .unset, .unset, .unset] [(.int (XT.ushr p1 (16 : Int32))), (.int n1)])) (fun _ qk => XT.iushr X0.here hx rfl (hb hby at_27) rfl qk) ?_
  refine own_step (b := T0.setTop (mkF m 29 #[.val (.int p0), .val (.int p1), .val (.int p2), .val (.int n1), .val (.int x0), .val (.int x1), .unset, .unset, .unset, .unset, .unset, .unset, .unset, .unset, .unset, .unset, .unset, .unset] [(.int (3 : Int32)), (.int (XT.ushr p1 (16 : Int32))), (.int n1)])) (fun _ qk => XS.iconst X0.here hx rfl (hb hby at_28) qk) ?_
  refine own_step (b := T0.setTop (mkF m 30 #[.val (.int p0), .val (.int p1), .val (.int p2), .val (.int n1), .val (.int x0), .val (.int x1), .unset, .unset, .unset, .unset, .unset, .unset, .unset, .unset, .unset, .unset, .unset, .unset] [(.int ((XT.ushr p1 (16 : Int32)) &&& (3 : Int32))), (.int n1)])) (fun _ qk => XS.iand X0.here hx rfl (hb hby at_29) rfl qk) ?_
  refine own_step (b := T0.setTop (mkF m 31 #[.val (.int p0), .val (.int p1), .val (.int p2), .val (.int n1), .val (.int x0), .val (.int x1), .unset, .unset, .unset, .unset, .unset, .unset, .unset, .unset, .unset, .unset, .unset, .unset] [(.int (n1 + ((XT.ushr p1 (16 : Int32)) &&& (3 : Int32))))])) (fun _ qk => XS.iadd X0.here hx rfl (hb hby at_30) rfl qk) ?_
  refine own_step (b := T0.setTop (mkF m 32 #[.val (.int p0), .val (.int p1), .val (.int p2), .val (.int n1), .val (.int x0), .val (.int x1), .unset, .unset, .unset, .unset, .unset, .unset, .unset, .unset, .unset, .unset, .unset, .unset] [(.int (3 : Int32)), (.int (n1 + ((XT.ushr p1 (16 : Int32)) &&& (3 : Int32))))])) (fun _ qk => XS.iconst X0.here hx rfl (hb hby at_31) qk) ?_
  refine own_step (b := T0.setTop (mkF m 33 #[.val (.int p0), .val (.int p1), .val (.int p2), .val (.int n1), .val (.int x0), .val (.int x1), .unset, .unset, .unset, .unset, .unset, .unset, .unset, .unset, .unset, .unset, .unset, .unset] [(.int ((n1 + ((XT.ushr p1 (16 : Int32)) &&& (3 : Int32))) % (3 : Int32)))])) (fun _ qk => iremM X0 hx rfl (hb hby at_32) rfl (by decide) qk) ?_
  have R_n2 : own_3 ((n1 + ((XT.ushr p1 (16 : Int32)) &&& (3 : Int32))) % (3 : Int32)) := own_m3b R_n1 _
  generalize ((n1 + ((XT.ushr p1 (16 : Int32)) &&& (3 : Int32))) % (3 : Int32)) = n2 at R_n2 ⊢
  show own_G p e below _ (T0.setTop (mkF m 33 #[.val (.int p0), .val (.int p1), .val (.int p2), .val (.int n1), .val (.int x0), .val (.int x1), .unset, .unset, .unset, .unset, .unset, .unset, .unset, .unset, .unset, .unset, .unset, .unset] [(.int n2)]))
  refine own_step (b := T0.setTop (mkF m 35 #[.val (.int p0), .val (.int p1), .val (.int p2), .val (.int n1), .val (.int x0), .val (.int x1), .val (.int n2), .unset, .unset, .unset, .unset, .unset, .unset, .unset, .unset, .unset, .unset, .unset] [])) (fun _ qk => XS.istore X0.here hx rfl (hb hby at_33) rfl (l' := #[.val (.int p0), .val (.int p1), .val (.int p2), .val (.int n1), .val (.int x0), .val (.int x1), .val (.int n2), .unset, .unset, .unset, .unset, .unset, .unset, .unset, .unset, .unset, .unset, .unset]) rfl qk) ?_
  refine own_step (b := T0.setTop (mkF m 37 #[.val (.int p0), .val (.int p1), .val (.int p2), .val (.int n1), .val (.int x0), .val (.int x1), .val (.int n2), .unset, .unset, .unset, .unset, .unset, .unset, .unset, .unset, .unset, .unset, .unset] [(.int x0)])) (fun _ qk => XS.iload X0.here hx rfl (hb hby at_35) rfl qk) ?_
  refine own_step (b := T0.setTop (mkF m 38 #[.val (.int p0), .val (.int p1), .val (.int p2), .val (.int n1), .val (.int x0), .val (.int x1), .val (.int n2), .unset, .unset, .unset, .unset, .unset, .unset, .unset, .unset, .unset, .unset, .unset] [(.int p1), (.int x0)])) (fun _ qk => XS.iloadN X0.here hx rfl (hb hby at_37) rfl qk) ?_
  refine own_step (b := T0.setTop (mkF m 41 #[.val (.int p0), .val (.int p1), .val (.int p2), .val (.int n1), .val (.int x0), .val (.int x1), .val (.int n2), .unset, .unset, .unset, .unset, .unset, .unset, .unset, .unset, .unset, .unset, .unset] [(.int (255 : Int32)), (.int p1), (.int x0)])) (fun _ qk => XS.sipush X0.here hx rfl (hb hby at_38) qk) ?_
  refine own_step (b := T0.setTop (mkF m 42 #[.val (.int p0), .val (.int p1), .val (.int p2), .val (.int n1), .val (.int x0), .val (.int x1), .val (.int n2), .unset, .unset, .unset, .unset, .unset, .unset, .unset, .unset, .unset, .unset, .unset] [(.int (p1 &&& (255 : Int32))), (.int x0)])) (fun _ qk => XS.iand X0.here hx rfl (hb hby at_41) rfl qk) ?_
  refine own_step (b := T0.setTop (mkF m 43 #[.val (.int p0), .val (.int p1), .val (.int p2), .val (.int n1), .val (.int x0), .val (.int x1), .val (.int n2), .unset, .unset, .unset, .unset, .unset, .unset, .unset, .unset, .unset, .unset, .unset] [(.int (x0 ^^^ (p1 &&& (255 : Int32))))])) (fun _ qk => XT.ixor X0.here hx rfl (hb hby at_42) rfl qk) ?_
  have R_y0 : own_by (x0 ^^^ (p1 &&& (255 : Int32))) := own_by2 R_x0 _
  generalize (x0 ^^^ (p1 &&& (255 : Int32))) = y0 at R_y0 ⊢
  show own_G p e below _ (T0.setTop (mkF m 43 #[.val (.int p0), .val (.int p1), .val (.int p2), .val (.int n1), .val (.int x0), .val (.int x1), .val (.int n2), .unset, .unset, .unset, .unset, .unset, .unset, .unset, .unset, .unset, .unset, .unset] [(.int y0)]))
  refine own_step (b := T0.setTop (mkF m 45 #[.val (.int p0), .val (.int p1), .val (.int p2), .val (.int n1), .val (.int x0), .val (.int x1), .val (.int n2), .val (.int y0), .unset, .unset, .unset, .unset, .unset, .unset, .unset, .unset, .unset, .unset] [])) (fun _ qk => XS.istore X0.here hx rfl (hb hby at_43) rfl (l' := #[.val (.int p0), .val (.int p1), .val (.int p2), .val (.int n1), .val (.int x0), .val (.int x1), .val (.int n2), .val (.int y0), .unset, .unset, .unset, .unset, .unset, .unset, .unset, .unset, .unset, .unset]) rfl qk) ?_
  refine own_step (b := T0.setTop (mkF m 47 #[.val (.int p0), .val (.int p1), .val (.int p2), .val (.int n1), .val (.int x0), .val (.int x1), .val (.int n2), .val (.int y0), .unset, .unset, .unset, .unset, .unset, .unset, .unset, .unset, .unset, .unset] [(.int x1)])) (fun _ qk => XS.iload X0.here hx rfl (hb hby at_45) rfl qk) ?_
  refine own_step (b := T0.setTop (mkF m 48 #[.val (.int p0), .val (.int p1), .val (.int p2), .val (.int n1), .val (.int x0), .val (.int x1), .val (.int n2), .val (.int y0), .unset, .unset, .unset, .unset, .unset, .unset, .unset, .unset, .unset, .unset] [(.int p1), (.int x1)])) (fun _ qk => XS.iloadN X0.here hx rfl (hb hby at_47) rfl qk) ?_
  refine own_step (b := T0.setTop (mkF m 50 #[.val (.int p0), .val (.int p1), .val (.int p2), .val (.int n1), .val (.int x0), .val (.int x1), .val (.int n2), .val (.int y0), .unset, .unset, .unset, .unset, .unset, .unset, .unset, .unset, .unset, .unset] [(.int (8 : Int32)), (.int p1), (.int x1)])) (fun _ qk => XS.bipush X0.here hx rfl (hb hby at_48) qk) ?_
  refine own_step (b := T0.setTop (mkF m 51 #[.val (.int p0), .val (.int p1), .val (.int p2), .val (.int n1), .val (.int x0), .val (.int x1), .val (.int n2), .val (.int y0), .unset, .unset, .unset, .unset, .unset, .unset, .unset, .unset, .unset, .unset] [(.int (XT.ushr p1 (8 : Int32))), (.int x1)])) (fun _ qk => XT.iushr X0.here hx rfl (hb hby at_50) rfl qk) ?_
  refine own_step (b := T0.setTop (mkF m 54 #[.val (.int p0), .val (.int p1), .val (.int p2), .val (.int n1), .val (.int x0), .val (.int x1), .val (.int n2), .val (.int y0), .unset, .unset, .unset, .unset, .unset, .unset, .unset, .unset, .unset, .unset] [(.int (255 : Int32)), (.int (XT.ushr p1 (8 : Int32))), (.int x1)])) (fun _ qk => XS.sipush X0.here hx rfl (hb hby at_51) qk) ?_
  refine own_step (b := T0.setTop (mkF m 55 #[.val (.int p0), .val (.int p1), .val (.int p2), .val (.int n1), .val (.int x0), .val (.int x1), .val (.int n2), .val (.int y0), .unset, .unset, .unset, .unset, .unset, .unset, .unset, .unset, .unset, .unset] [(.int ((XT.ushr p1 (8 : Int32)) &&& (255 : Int32))), (.int x1)])) (fun _ qk => XS.iand X0.here hx rfl (hb hby at_54) rfl qk) ?_
  refine own_step (b := T0.setTop (mkF m 56 #[.val (.int p0), .val (.int p1), .val (.int p2), .val (.int n1), .val (.int x0), .val (.int x1), .val (.int n2), .val (.int y0), .unset, .unset, .unset, .unset, .unset, .unset, .unset, .unset, .unset, .unset] [(.int (x1 ^^^ ((XT.ushr p1 (8 : Int32)) &&& (255 : Int32))))])) (fun _ qk => XT.ixor X0.here hx rfl (hb hby at_55) rfl qk) ?_
  have R_y1 : own_by (x1 ^^^ ((XT.ushr p1 (8 : Int32)) &&& (255 : Int32))) := own_by2 R_x1 _
  generalize (x1 ^^^ ((XT.ushr p1 (8 : Int32)) &&& (255 : Int32))) = y1 at R_y1 ⊢
  show own_G p e below _ (T0.setTop (mkF m 56 #[.val (.int p0), .val (.int p1), .val (.int p2), .val (.int n1), .val (.int x0), .val (.int x1), .val (.int n2), .val (.int y0), .unset, .unset, .unset, .unset, .unset, .unset, .unset, .unset, .unset, .unset] [(.int y1)]))
  refine own_step (b := T0.setTop (mkF m 58 #[.val (.int p0), .val (.int p1), .val (.int p2), .val (.int n1), .val (.int x0), .val (.int x1), .val (.int n2), .val (.int y0), .val (.int y1), .unset, .unset, .unset, .unset, .unset, .unset, .unset, .unset, .unset] [])) (fun _ qk => XS.istore X0.here hx rfl (hb hby at_56) rfl (l' := #[.val (.int p0), .val (.int p1), .val (.int p2), .val (.int n1), .val (.int x0), .val (.int x1), .val (.int n2), .val (.int y0), .val (.int y1), .unset, .unset, .unset, .unset, .unset, .unset, .unset, .unset, .unset]) rfl qk) ?_
  refine own_step (b := T0.setTop (mkF m 59 #[.val (.int p0), .val (.int p1), .val (.int p2), .val (.int n1), .val (.int x0), .val (.int x1), .val (.int n2), .val (.int y0), .val (.int y1), .unset, .unset, .unset, .unset, .unset, .unset, .unset, .unset, .unset] [(.int p2)])) (fun _ qk => XS.iloadN X0.here hx rfl (hb hby at_58) rfl qk) ?_
  refine own_step (b := T0.setTop (mkF m 60 #[.val (.int p0), .val (.int p1), .val (.int p2), .val (.int n1), .val (.int x0), .val (.int x1), .val (.int n2), .val (.int y0), .val (.int y1), .unset, .unset, .unset, .unset, .unset, .unset, .unset, .unset, .unset] [(.int (2 : Int32)), (.int p2)])) (fun _ qk => XS.iconst X0.here hx rfl (hb hby at_59) qk) ?_
  refine own_step (b := T0.setTop (mkF m 61 #[.val (.int p0), .val (.int p1), .val (.int p2), .val (.int n1), .val (.int x0), .val (.int x1), .val (.int n2), .val (.int y0), .val (.int y1), .unset, .unset, .unset, .unset, .unset, .unset, .unset, .unset, .unset] [(.int (XT.ushr p2 (2 : Int32)))])) (fun _ qk => XT.iushr X0.here hx rfl (hb hby at_60) rfl qk) ?_
  refine own_step (b := T0.setTop (mkF m 62 #[.val (.int p0), .val (.int p1), .val (.int p2), .val (.int n1), .val (.int x0), .val (.int x1), .val (.int n2), .val (.int y0), .val (.int y1), .unset, .unset, .unset, .unset, .unset, .unset, .unset, .unset, .unset] [(.int (3 : Int32)), (.int (XT.ushr p2 (2 : Int32)))])) (fun _ qk => XS.iconst X0.here hx rfl (hb hby at_61) qk) ?_
  refine own_step (b := T0.setTop (mkF m 63 #[.val (.int p0), .val (.int p1), .val (.int p2), .val (.int n1), .val (.int x0), .val (.int x1), .val (.int n2), .val (.int y0), .val (.int y1), .unset, .unset, .unset, .unset, .unset, .unset, .unset, .unset, .unset] [(.int ((XT.ushr p2 (2 : Int32)) &&& (3 : Int32)))])) (fun _ qk => XS.iand X0.here hx rfl (hb hby at_62) rfl qk) ?_
  refine own_step (b := T0.setTop (mkF m 64 #[.val (.int p0), .val (.int p1), .val (.int p2), .val (.int n1), .val (.int x0), .val (.int x1), .val (.int n2), .val (.int y0), .val (.int y1), .unset, .unset, .unset, .unset, .unset, .unset, .unset, .unset, .unset] [(.int (3 : Int32)), (.int ((XT.ushr p2 (2 : Int32)) &&& (3 : Int32)))])) (fun _ qk => XS.iconst X0.here hx rfl (hb hby at_63) qk) ?_
  refine own_step (b := T0.setTop (mkF m 65 #[.val (.int p0), .val (.int p1), .val (.int p2), .val (.int n1), .val (.int x0), .val (.int x1), .val (.int n2), .val (.int y0), .val (.int y1), .unset, .unset, .unset, .unset, .unset, .unset, .unset, .unset, .unset] [(.int (((XT.ushr p2 (2 : Int32)) &&& (3 : Int32)) % (3 : Int32)))])) (fun _ qk => iremM X0 hx rfl (hb hby at_64) rfl (by decide) qk) ?_
  have R_i1 : own_3 (((XT.ushr p2 (2 : Int32)) &&& (3 : Int32)) % (3 : Int32)) := own_m3 _
  generalize (((XT.ushr p2 (2 : Int32)) &&& (3 : Int32)) % (3 : Int32)) = i1 at R_i1 ⊢
  show own_G p e below _ (T0.setTop (mkF m 65 #[.val (.int p0), .val (.int p1), .val (.int p2), .val (.int n1), .val (.int x0), .val (.int x1), .val (.int n2), .val (.int y0), .val (.int y1), .unset, .unset, .unset, .unset, .unset, .unset, .unset, .unset, .unset] [(.int i1)]))
  refine own_step (b := T0.setTop (mkF m 67 #[.val (.int p0), .val (.int p1), .val (.int p2), .val (.int n1), .val (.int x0), .val (.int x1), .val (.int n2), .val (.int y0), .val (.int y1), .val (.int i1), .unset, .unset, .unset, .unset, .unset, .unset, .unset, .unset] [])) (fun _ qk => XS.istore X0.here hx rfl (hb hby at_65) rfl (l' := #[.val (.int p0), .val (.int p1), .val (.int p2), .val (.int n1), .val (.int x0), .val (.int x1), .val (.int n2), .val (.int y0), .val (.int y1), .val (.int i1), .unset, .unset, .unset, .unset, .unset, .unset, .unset, .unset]) rfl qk) ?_
  refine own_step (b := T0.setTop (mkF m 68 #[.val (.int p0), .val (.int p1), .val (.int p2), .val (.int n1), .val (.int x0), .val (.int x1), .val (.int n2), .val (.int y0), .val (.int y1), .val (.int i1), .unset, .unset, .unset, .unset, .unset, .unset, .unset, .unset] [(.int p2)])) (fun _ qk => XS.iloadN X0.here hx rfl (hb hby at_67) rfl qk) ?_
  refine own_step (b := T0.setTop (mkF m 69 #[.val (.int p0), .val (.int p1), .val (.int p2), .val (.int n1), .val (.int x0), .val (.int x1), .val (.int n2), .val (.int y0), .val (.int y1), .val (.int i1), .unset, .unset, .unset, .unset, .unset, .unset, .unset, .unset] [(.int (4 : Int32)), (.int p2)])) (fun _ qk => XS.iconst X0.here hx rfl (hb hby at_68) qk) ?_
  refine own_step (b := T0.setTop (mkF m 70 #[.val (.int p0), .val (.int p1), .val (.int p2), .val (.int n1), .val (.int x0), .val (.int x1), .val (.int n2), .val (.int y0), .val (.int y1), .val (.int i1), .unset, .unset, .unset, .unset, .unset, .unset, .unset, .unset] [(.int (XT.ushr p2 (4 : Int32)))])) (fun _ qk => XT.iushr X0.here hx rfl (hb hby at_69) rfl qk) ?_
  refine own_step (b := T0.setTop (mkF m 71 #[.val (.int p0), .val (.int p1), .val (.int p2), .val (.int n1), .val (.int x0), .val (.int x1), .val (.int n2), .val (.int y0), .val (.int y1), .val (.int i1), .unset, .unset, .unset, .unset, .unset, .unset, .unset, .unset] [(.int (3 : Int32)), (.int (XT.ushr p2 (4 : Int32)))])) (fun _ qk => XS.iconst X0.here hx rfl (hb hby at_70) qk) ?_
  refine own_step (b := T0.setTop (mkF m 72 #[.val (.int p0), .val (.int p1), .val (.int p2), .val (.int n1), .val (.int x0), .val (.int x1), .val (.int n2), .val (.int y0), .val (.int y1), .val (.int i1), .unset, .unset, .unset, .unset, .unset, .unset, .unset, .unset] [(.int ((XT.ushr p2 (4 : Int32)) &&& (3 : Int32)))])) (fun _ qk => XS.iand X0.here hx rfl (hb hby at_71) rfl qk) ?_
  refine own_step (b := T0.setTop (mkF m 73 #[.val (.int p0), .val (.int p1), .val (.int p2), .val (.int n1), .val (.int x0), .val (.int x1), .val (.int n2), .val (.int y0), .val (.int y1), .val (.int i1), .unset, .unset, .unset, .unset, .unset, .unset, .unset, .unset] [(.int (3 : Int32)), (.int ((XT.ushr p2 (4 : Int32)) &&& (3 : Int32)))])) (fun _ qk => XS.iconst X0.here hx rfl (hb hby at_72) qk) ?_
  refine own_step (b := T0.setTop (mkF m 74 #[.val (.int p0), .val (.int p1), .val (.int p2), .val (.int n1), .val (.int x0), .val (.int x1), .val (.int n2), .val (.int y0), .val (.int y1), .val (.int i1), .unset, .unset, .unset, .unset, .unset, .unset, .unset, .unset] [(.int (((XT.ushr p2 (4 : Int32)) &&& (3 : Int32)) % (3 : Int32)))])) (fun _ qk => iremM X0 hx rfl (hb hby at_73) rfl (by decide) qk) ?_
  have R_i2 : own_3 (((XT.ushr p2 (4 : Int32)) &&& (3 : Int32)) % (3 : Int32)) := own_m3 _
  generalize (((XT.ushr p2 (4 : Int32)) &&& (3 : Int32)) % (3 : Int32)) = i2 at R_i2 ⊢
  show own_G p e below _ (T0.setTop (mkF m 74 #[.val (.int p0), .val (.int p1), .val (.int p2), .val (.int n1), .val (.int x0), .val (.int x1), .val (.int n2), .val (.int y0), .val (.int y1), .val (.int i1), .unset, .unset, .unset, .unset, .unset, .unset, .unset, .unset] [(.int i2)]))
  refine own_step (b := T0.setTop (mkF m 76 #[.val (.int p0), .val (.int p1), .val (.int p2), .val (.int n1), .val (.int x0), .val (.int x1), .val (.int n2), .val (.int y0), .val (.int y1), .val (.int i1), .val (.int i2), .unset, .unset, .unset, .unset, .unset, .unset, .unset] [])) (fun _ qk => XS.istore X0.here hx rfl (hb hby at_74) rfl (l' := #[.val (.int p0), .val (.int p1), .val (.int p2), .val (.int n1), .val (.int x0), .val (.int x1), .val (.int n2), .val (.int y0), .val (.int y1), .val (.int i1), .val (.int i2), .unset, .unset, .unset, .unset, .unset, .unset, .unset]) rfl qk) ?_
  refine own_step (b := T0.setTop (mkF m 77 #[.val (.int p0), .val (.int p1), .val (.int p2), .val (.int n1), .val (.int x0), .val (.int x1), .val (.int n2), .val (.int y0), .val (.int y1), .val (.int i1), .val (.int i2), .unset, .unset, .unset, .unset, .unset, .unset, .unset] [(.int p2)])) (fun _ qk => XS.iloadN X0.here hx rfl (hb hby at_76) rfl qk) ?_
  refine own_step (b := T0.setTop (mkF m 79 #[.val (.int p0), .val (.int p1), .val (.int p2), .val (.int n1), .val (.int x0), .val (.int x1), .val (.int n2), .val (.int y0), .val (.int y1), .val (.int i1), .val (.int i2), .unset, .unset, .unset, .unset, .unset, .unset, .unset] [(.int (6 : Int32)), (.int p2)])) (fun _ qk => XS.bipush X0.here hx rfl (hb hby at_77) qk) ?_
  refine own_step (b := T0.setTop (mkF m 80 #[.val (.int p0), .val (.int p1), .val (.int p2), .val (.int n1), .val (.int x0), .val (.int x1), .val (.int n2), .val (.int y0), .val (.int y1), .val (.int i1), .val (.int i2), .unset, .unset, .unset, .unset, .unset, .unset, .unset] [(.int (XT.ushr p2 (6 : Int32)))])) (fun _ qk => XT.iushr X0.here hx rfl (hb hby at_79) rfl qk) ?_
  refine own_step (b := T0.setTop (mkF m 81 #[.val (.int p0), .val (.int p1), .val (.int p2), .val (.int n1), .val (.int x0), .val (.int x1), .val (.int n2), .val (.int y0), .val (.int y1), .val (.int i1), .val (.int i2), .unset, .unset, .unset, .unset, .unset, .unset, .unset] [(.int (3 : Int32)), (.int (XT.ushr p2 (6 : Int32)))])) (fun _ qk => XS.iconst X0.here hx rfl (hb hby at_80) qk) ?_
  refine own_step (b := T0.setTop (mkF m 82 #[.val (.int p0), .val (.int p1), .val (.int p2), .val (.int n1), .val (.int x0), .val (.int x1), .val (.int n2), .val (.int y0), .val (.int y1), .val (.int i1), .val (.int i2), .unset, .unset, .unset, .unset, .unset, .unset, .unset] [(.int ((XT.ushr p2 (6 : Int32)) &&& (3 : Int32)))])) (fun _ qk => XS.iand X0.here hx rfl (hb hby at_81) rfl qk) ?_
  have R_kd : ((XT.ushr p2 (6 : Int32)) &&& (3 : Int32)) = 0 ∨ ((XT.ushr p2 (6 : Int32)) &&& (3 : Int32)) = 1 ∨ ((XT.ushr p2 (6 : Int32)) &&& (3 : Int32)) = 2 ∨ ((XT.ushr p2 (6 : Int32)) &&& (3 : Int32)) = 3 := own_m4 _
  generalize ((XT.ushr p2 (6 : Int32)) &&& (3 : Int32)) = kd at R_kd ⊢
  show own_G p e below _ (T0.setTop (mkF m 82 #[.val (.int p0), .val (.int p1), .val (.int p2), .val (.int n1), .val (.int x0), .val (.int x1), .val (.int n2), .val (.int y0), .val (.int y1), .val (.int i1), .val (.int i2), .unset, .unset, .unset, .unset, .unset, .unset, .unset] [(.int kd)]))
  refine own_step (b := T0.setTop (mkF m 84 #[.val (.int p0), .val (.int p1), .val (.int p2), .val (.int n1), .val (.int x0), .val (.int x1), .val (.int n2), .val (.int y0), .val (.int y1), .val (.int i1), .val (.int i2), .val (.int kd), .unset, .unset, .unset, .unset, .unset, .unset] [])) (fun _ qk => XS.istore X0.here hx rfl (hb hby at_82) rfl (l' := #[.val (.int p0), .val (.int p1), .val (.int p2), .val (.int n1), .val (.int x0), .val (.int x1), .val (.int n2), .val (.int y0), .val (.int y1), .val (.int i1), .val (.int i2), .val (.int kd), .unset, .unset, .unset, .unset, .unset, .unset]) rfl qk) ?_
  refine own_step (b := T0.setTop (mkF m 85 #[.val (.int p0), .val (.int p1), .val (.int p2), .val (.int n1), .val (.int x0), .val (.int x1), .val (.int n2), .val (.int y0), .val (.int y1), .val (.int i1), .val (.int i2), .val (.int kd), .unset, .unset, .unset, .unset, .unset, .unset] [(.int n1)])) (fun _ qk => XS.iloadN X0.here hx rfl (hb hby at_84) rfl qk) ?_
  refine own_step (b := T0.setTop (mkF m 87 #[.val (.int p0), .val (.int p1), .val (.int p2), .val (.int n1), .val (.int x0), .val (.int x1), .val (.int n2), .val (.int y0), .val (.int y1), .val (.int i1), .val (.int i2), .val (.int kd), .unset, .unset, .unset, .unset, .unset, .unset] [(.int x0), (.int n1)])) (fun _ qk => XS.iload X0.here hx rfl (hb hby at_85) rfl qk) ?_
  refine own_step (b := T0.setTop (mkF m 88 #[.val (.int p0), .val (.int p1), .val (.int p2), .val (.int n1), .val (.int x0), .val (.int x1), .val (.int n2), .val (.int y0), .val (.int y1), .val (.int i1), .val (.int i2), .val (.int kd), .unset, .unset, .unset, .unset, .unset, .unset] [(.int (x0.toUInt32.toUInt16.toUInt32.toInt32)), (.int n1)])) (fun _ qk => XT.i2c X0.here hx rfl (hb hby at_87) rfl qk) ?_
  rw [own_i2c R_x0]
  show own_G p e below _ (T0.setTop (mkF m 88 #[.val (.int p0), .val (.int p1), .val (.int p2), .val (.int n1), .val (.int x0), .val (.int x1), .val (.int n2), .val (.int y0), .val (.int y1), .val (.int i1), .val (.int i2), .val (.int kd), .unset, .unset, .unset, .unset, .unset, .unset] [(.int x0), (.int n1)]))
  refine own_step (b := T0.setTop (mkF m 90 #[.val (.int p0), .val (.int p1), .val (.int p2), .val (.int n1), .val (.int x0), .val (.int x1), .val (.int n2), .val (.int y0), .val (.int y1), .val (.int i1), .val (.int i2), .val (.int kd), .unset, .unset, .unset, .unset, .unset, .unset] [(.int x1), (.int x0), (.int n1)])) (fun _ qk => XS.iload X0.here hx rfl (hb hby at_88) rfl qk) ?_
  refine own_step (b := T0.setTop (mkF m 91 #[.val (.int p0), .val (.int p1), .val (.int p2), .val (.int n1), .val (.int x0), .val (.int x1), .val (.int n2), .val (.int y0), .val (.int y1), .val (.int i1), .val (.int i2), .val (.int kd), .unset, .unset, .unset, .unset, .unset, .unset] [(.int (x1.toUInt32.toUInt16.toUInt32.toInt32)), (.int x0), (.int n1)])) (fun _ qk => XT.i2c X0.here hx rfl (hb hby at_90) rfl qk) ?_
  rw [own_i2c R_x1]
  show own_G p e below _ (T0.setTop (mkF m 91 #[.val (.int p0), .val (.int p1), .val (.int p2), .val (.int n1), .val (.int x0), .val (.int x1), .val (.int n2), .val (.int y0), .val (.int y1), .val (.int i1), .val (.int i2), .val (.int kd), .unset, .unset, .unset, .unset, .unset, .unset] [(.int x1), (.int x0), (.int n1)]))
  refine own_staticI (W := 0) (argsL := [(.int n1), (.int x0), (.int x1)]) (st := []) X0 hx hZ hown (own_w hw 0 rfl) (own_w hw 1 rfl) (own_w hw 2 rfl) (own_w hw 3 rfl) (by decide) e0 hS (by omega) (rmText l Z a0 hw [] n1 x0 x1 h0 R_x0 R_x1 OL0 G1 O2 P5 CH HC) (fun _ hW => own_Lm (Or.inl hI) hW (own_extR _)) (by decide) (by decide) (by decide) (by decide) (by rw [hml]; rfl) (lenOf pd8 rfl) rfl (Nat.le_of_ble_eq_true rfl) (hb hby at_91) (fun v1 T1 L1 vm1 k1 X1 ev1 z1 hS hk hZ hown hQ1 => ?_)
  obtain ⟨s1, rfl, M1, E1, S_s1, LL1⟩ := hQ1
  have N1 := Fr.app N0 M1
  have OL1 := OL0.ext E1
  show own_G p e below _ (T1.setTop (mkF m 94 #[.val (.int p0), .val (.int p1), .val (.int p2), .val (.int n1), .val (.int x0), .val (.int x1), .val (.int n2), .val (.int y0), .val (.int y1), .val (.int i1), .val (.int i2), .val (.int kd), .unset, .unset, .unset, .unset, .unset, .unset] [(.ref s1)]))
  refine own_step (b := T1.setTop (mkF m 96 #[.val (.int p0), .val (.int p1), .val (.int p2), .val (.int n1), .val (.int x0), .val (.int x1), .val (.int n2), .val (.int y0), .val (.int y1), .val (.int i1), .val (.int i2), .val (.int kd), .val (.ref s1), .unset, .unset, .unset, .unset, .unset] [])) (fun _ qk => XS.astore X1.here hx rfl (hb hby at_94) rfl rfl (l' := #[.val (.int p0), .val (.int p1), .val (.int p2), .val (.int n1), .val (.int x0), .val (.int x1), .val (.int n2), .val (.int y0), .val (.int y1), .val (.int i1), .val (.int i2), .val (.int kd), .val (.ref s1), .unset, .unset, .unset, .unset, .unset]) rfl qk) ?_
  refine own_step (b := T1.setTop (mkF m 98 #[.val (.int p0), .val (.int p1), .val (.int p2), .val (.int n1), .val (.int x0), .val (.int x1), .val (.int n2), .val (.int y0), .val (.int y1), .val (.int i1), .val (.int i2), .val (.int kd), .val (.ref s1), .unset, .unset, .unset, .unset, .unset] [(.int n2)])) (fun _ qk => XS.iload X1.here hx rfl (hb hby at_96) rfl qk) ?_
  refine own_step (b := T1.setTop (mkF m 100 #[.val (.int p0), .val (.int p1), .val (.int p2), .val (.int n1), .val (.int x0), .val (.int x1), .val (.int n2), .val (.int y0), .val (.int y1), .val (.int i1), .val (.int i2), .val (.int kd), .val (.ref s1), .unset, .unset, .unset, .unset, .unset] [(.int y0), (.int n2)])) (fun _ qk => XS.iload X1.here hx rfl (hb hby at_98) rfl qk) ?_
  refine own_step (b := T1.setTop (mkF m 101 #[.val (.int p0), .val (.int p1), .val (.int p2), .val (.int n1), .val (.int x0), .val (.int x1), .val (.int n2), .val (.int y0), .val (.int y1), .val (.int i1), .val (.int i2), .val (.int kd), .val (.ref s1), .unset, .unset, .unset, .unset, .unset] [(.int (y0.toUInt32.toUInt16.toUInt32.toInt32)), (.int n2)])) (fun _ qk => XT.i2c X1.here hx rfl (hb hby at_100) rfl qk) ?_
  rw [own_i2c R_y0]
  show own_G p e below _ (T1.setTop (mkF m 101 #[.val (.int p0), .val (.int p1), .val (.int p2), .val (.int n1), .val (.int x0), .val (.int x1), .val (.int n2), .val (.int y0), .val (.int y1), .val (.int i1), .val (.int i2), .val (.int kd), .val (.ref s1), .unset, .unset, .unset, .unset, .unset] [(.int y0), (.int n2)]))
  refine own_step (b := T1.setTop (mkF m 103 #[.val (.int p0), .val (.int p1), .val (.int p2), .val (.int n1), .val (.int x0), .val (.int x1), .val (.int n2), .val (.int y0), .val (.int y1), .val (.int i1), .val (.int i2), .val (.int kd), .val (.ref s1), .unset, .unset, .unset, .unset, .unset] [(.int y1), (.int y0), (.int n2)])) (fun _ qk => XS.iload X1.here hx rfl (hb hby at_101) rfl qk) ?_
  refine own_step (b := T1.setTop (mkF m 104 #[.val (.int p0), .val (.int p1), .val (.int p2), .val (.int n1), .val (.int x0), .val (.int x1), .val (.int n2), .val (.int y0), .val (.int y1), .val (.int i1), .val (.int i2), .val (.int kd), .val (.ref s1), .unset, .unset, .unset, .unset, .unset] [(.int (y1.toUInt32.toUInt16.toUInt32.toInt32)), (.int y0), (.int n2)])) (fun _ qk => XT.i2c X1.here hx rfl (hb hby at_103) rfl qk) ?_
  rw [own_i2c R_y1]
  show own_G p e below _ (T1.setTop (mkF m 104 #[.val (.int p0), .val (.int p1), .val (.int p2), .val (.int n1), .val (.int x0), .val (.int x1), .val (.int n2), .val (.int y0), .val (.int y1), .val (.int i1), .val (.int i2), .val (.int kd), .val (.ref s1), .unset, .unset, .unset, .unset, .unset] [(.int y1), (.int y0), (.int n2)]))
  refine own_staticI (W := 0) (argsL := [(.int n2), (.int y0), (.int y1)]) (st := []) X1 hx hZ hown (own_w hw 0 rfl) (own_w hw 1 rfl) (own_w hw 2 rfl) (own_w hw 3 rfl) (by decide) rfl hS (by omega) (rmText l Z a0 hw [] n2 y0 y1 T1.heap R_y0 R_y1 OL1 G1 O2 P5 CH HC) (fun _ hW => own_Lm LL1 hW (own_extR _)) (by decide) (by decide) (by decide) (by decide) (by rw [hml]; rfl) (lenOf pd8 rfl) rfl (Nat.le_of_ble_eq_true rfl) (hb hby at_104) (fun v2 T2 L2 vm2 k2 X2 ev2 z2 hS hk hZ hown hQ2 => ?_)
  obtain ⟨s2, rfl, M2, E2, S_s2, LL2⟩ := hQ2
  have N2 := Fr.app N1 M2
  have OL2 := OL1.ext E2
  show own_G p e below _ (T2.setTop (mkF m 107 #[.val (.int p0), .val (.int p1), .val (.int p2), .val (.int n1), .val (.int x0), .val (.int x1), .val (.int n2), .val (.int y0), .val (.int y1), .val (.int i1), .val (.int i2), .val (.int kd), .val (.ref s1), .unset, .unset, .unset, .unset, .unset] [(.ref s2)]))
  have S1b := S_s1.ext E2
  refine own_step (b := T2.setTop (mkF m 109 #[.val (.int p0), .val (.int p1), .val (.int p2), .val (.int n1), .val (.int x0), .val (.int x1), .val (.int n2), .val (.int y0), .val (.int y1), .val (.int i1), .val (.int i2), .val (.int kd), .val (.ref s1), .val (.ref s2), .unset, .unset, .unset, .unset] [])) (fun _ qk => XS.astore X2.here hx rfl (hb hby at_107) rfl rfl (l' := #[.val (.int p0), .val (.int p1), .val (.int p2), .val (.int n1), .val (.int x0), .val (.int x1), .val (.int n2), .val (.int y0), .val (.int y1), .val (.int i1), .val (.int i2), .val (.int kd), .val (.ref s1), .val (.ref s2), .unset, .unset, .unset, .unset]) rfl qk) ?_
  refine own_newO X2 hx hZ hown (own_w hw 34 rfl) (own_w hw 35 rfl) (own_w hw 36 rfl) rfl (hb hby at_109) (by decide) (by decide) (fun T3 h3 a3 X3 e3 g3 l3 E3 A3 D3 => ?_)
  show own_G p e below _ (T3.setTop (mkF m 112 #[.val (.int p0), .val (.int p1), .val (.int p2), .val (.int n1), .val (.int x0), .val (.int x1), .val (.int n2), .val (.int y0), .val (.int y1), .val (.int i1), .val (.int i2), .val (.int kd), .val (.ref s1), .val (.ref s2), .unset, .unset, .unset, .unset] [(.ref a3)]))
  have OL3 := OL2.ext E3
  refine own_step (b := T3.setTop (mkF m 113 #[.val (.int p0), .val (.int p1), .val (.int p2), .val (.int n1), .val (.int x0), .val (.int x1), .val (.int n2), .val (.int y0), .val (.int y1), .val (.int i1), .val (.int i2), .val (.int kd), .val (.ref s1), .val (.ref s2), .unset, .unset, .unset, .unset] [(.ref a3), (.ref a3)])) (fun _ qk => XS.dup X3.here hx rfl (hb hby at_112) rfl rfl qk) ?_
  refine own_step (b := T3.setTop (mkF m 115 #[.val (.int p0), .val (.int p1), .val (.int p2), .val (.int n1), .val (.int x0), .val (.int x1), .val (.int n2), .val (.int y0), .val (.int y1), .val (.int i1), .val (.int i2), .val (.int kd), .val (.ref s1), .val (.ref s2), .unset, .unset, .unset, .unset] [(.ref s1), (.ref a3), (.ref a3)])) (fun _ qk => XS.aload X3.here hx rfl (hb hby at_113) rfl rfl qk) ?_
  refine own_step (b := T3.setTop (mkF m 117 #[.val (.int p0), .val (.int p1), .val (.int p2), .val (.int n1), .val (.int x0), .val (.int x1), .val (.int n2), .val (.int y0), .val (.int y1), .val (.int i1), .val (.int i2), .val (.int kd), .val (.ref s1), .val (.ref s2), .unset, .unset, .unset, .unset] [(.int i1), (.ref s1), (.ref a3), (.ref a3)])) (fun _ qk => XS.iload X3.here hx rfl (hb hby at_115) rfl qk) ?_
  refine own_staticP (W := 3) (argsL := [(.int i1)]) (st := [(.ref s1), (.ref a3), (.ref a3)]) X3 hx hZ hown (own_w hw 37 rfl) (own_w hw 38 rfl) (own_w hw 2 rfl) (own_w hw 39 rfl) (by decide) e3 (rmPh l Z a0 hw [] i1 h3 OL3 q0 q1 q2 Q0 Q1 Q2) (by decide) (by decide) (by decide) (by decide) (by rw [hml]; rfl) (lenOf pd9 rfl) rfl (Nat.le_of_ble_eq_true rfl) (hb hby at_117) (fun T4 X4 e4 => ?_)
  show own_G p e below _ (T4.setTop (mkF m 120 #[.val (.int p0), .val (.int p1), .val (.int p2), .val (.int n1), .val (.int x0), .val (.int x1), .val (.int n2), .val (.int y0), .val (.int y1), .val (.int i1), .val (.int i2), .val (.int kd), .val (.ref s1), .val (.ref s2), .unset, .unset, .unset, .unset] [(.ref (own_ph q0 q1 q2 i1)), (.ref s1), (.ref a3), (.ref a3)]))
  refine own_special (a := a3) (W := 1) (argsL := [(.ref s1), (.ref (own_ph q0 q1 q2 i1))]) (st := [(.ref a3)]) X4 hx hZ hown rfl (own_w hw 43 rfl) (own_w hw 44 rfl) (own_w hw 45 rfl) (by decide) e4 (own_back (W := 1) (rmSi l Z a0 hw [] a3 s1 (own_ph q0 q1 q2 i1) h3 (by omega) A3 (D3 (Or.inr (own_w hw 53 rfl)) (ty := (.object "java/lang/String")) (by decide)) (D3 (Or.inr (own_w hw 55 rfl)) (ty := (.object "com/example/unganisha/unganisha/engine/CreationOrder$Phase")) (by decide))) hZ (own_w hw 45 rfl) (own_w hw 36 rfl) (by decide) (by decide)) (by decide) (by decide) (by rw [hml]; rfl) (lenOf pd10 rfl) rfl (Nat.le_of_ble_eq_true rfl) (hb hby at_120) (fun v5 T5 L5 X5 hQ5 => ?_)
  obtain ⟨rfl, M5, K5, Ex5, Fb5, Fp5⟩ := hQ5
  have z5 : h3.size ≤ T5.heap.size := K5.1
  have N5 := Fr.app N2 M5
  have OL5 := OL3.keep K5 (allS (by omega) all0)
  have EE5 : Ext T2.heap T5.heap := own_ext (((Keep.refl T2.heap []).ext E3).trans K5 (allS (Or.inr (by omega)) all0))
  show own_G p e below _ (T5.setTop (mkF m 123 #[.val (.int p0), .val (.int p1), .val (.int p2), .val (.int n1), .val (.int x0), .val (.int x1), .val (.int n2), .val (.int y0), .val (.int y1), .val (.int i1), .val (.int i2), .val (.int kd), .val (.ref s1), .val (.ref s2), .unset, .unset, .unset, .unset] [(.ref a3)]))
  have S1c := S1b.ext EE5
  have S2c := S_s2.ext EE5
  refine own_step (b := T5.setTop (mkF m 125 #[.val (.int p0), .val (.int p1), .val (.int p2), .val (.int n1), .val (.int x0), .val (.int x1), .val (.int n2), .val (.int y0), .val (.int y1), .val (.int i1), .val (.int i2), .val (.int kd), .val (.ref s1), .val (.ref s2), .val (.ref a3), .unset, .unset, .unset] [])) (fun _ qk => XS.astore X5.here hx rfl (hb hby at_123) rfl rfl (l' := #[.val (.int p0), .val (.int p1), .val (.int p2), .val (.int n1), .val (.int x0), .val (.int x1), .val (.int n2), .val (.int y0), .val (.int y1), .val (.int i1), .val (.int i2), .val (.int kd), .val (.ref s1), .val (.ref s2), .val (.ref a3), .unset, .unset, .unset]) rfl qk) ?_
  rcases R_kd with rfl | rfl | rfl | rfl
  · show own_G p e below _ (T5.setTop (mkF m 125 #[.val (.int p0), .val (.int p1), .val (.int p2), .val (.int n1), .val (.int x0), .val (.int x1), .val (.int n2), .val (.int y0), .val (.int y1), .val (.int i1), .val (.int i2), .val (.int (0 : Int32)), .val (.ref s1), .val (.ref s2), .val (.ref a3), .unset, .unset, .unset] []))
    show own_G p e below _ (T5.setTop (mkF m 125 #[.val (.int p0), .val (.int p1), .val (.int p2), .val (.int n1), .val (.int x0), .val (.int x1), .val (.int n2), .val (.int y0), .val (.int y1), .val (.int i1), .val (.int i2), .val (.int (0 : Int32)), .val (.ref s1), .val (.ref s2), .val (.ref a3), .unset, .unset, .unset] []))
    refine own_step (b := T5.setTop (mkF m 127 #[.val (.int p0), .val (.int p1), .val (.int p2), .val (.int n1), .val (.int x0), .val (.int x1), .val (.int n2), .val (.int y0), .val (.int y1), .val (.int i1), .val (.int i2), .val (.int (0 : Int32)), .val (.ref s1), .val (.ref s2), .val (.ref a3), .unset, .unset, .unset] [(.int (0 : Int32))])) (fun _ qk => XS.iload X5.here hx rfl (hb hby at_125) rfl qk) ?_
    refine own_if_ne X5 hx (hb hby at_127) (pc' := 136) (by decide) (by decide) (fun c127_6 => absurd c127_6 (by decide)) (fun c127_6 => ?_)
    show own_G p e below _ (T5.setTop (mkF m 130 #[.val (.int p0), .val (.int p1), .val (.int p2), .val (.int n1), .val (.int x0), .val (.int x1), .val (.int n2), .val (.int y0), .val (.int y1), .val (.int i1), .val (.int i2), .val (.int (0 : Int32)), .val (.ref s1), .val (.ref s2), .val (.ref a3), .unset, .unset, .unset] []))
    refine own_step (b := T5.setTop (mkF m 131 #[.val (.int p0), .val (.int p1), .val (.int p2), .val (.int n1), .val (.int x0), .val (.int x1), .val (.int n2), .val (.int y0), .val (.int y1), .val (.int i1), .val (.int i2), .val (.int (0 : Int32)), .val (.ref s1), .val (.ref s2), .val (.ref a3), .unset, .unset, .unset] [.null])) (fun _ qk => XS.aconstNull X5.here hx rfl (hb hby at_130) qk) ?_
    refine own_step (b := T5.setTop (mkF m 133 #[.val (.int p0), .val (.int p1), .val (.int p2), .val (.int n1), .val (.int x0), .val (.int x1), .val (.int n2), .val (.int y0), .val (.int y1), .val (.int i1), .val (.int i2), .val (.int (0 : Int32)), .val (.ref s1), .val (.ref s2), .val (.ref a3), .val .null, .unset, .unset] [])) (fun _ qk => XS.astore X5.here hx rfl (hb hby at_131) rfl rfl (l' := #[.val (.int p0), .val (.int p1), .val (.int p2), .val (.int n1), .val (.int x0), .val (.int x1), .val (.int n2), .val (.int y0), .val (.int y1), .val (.int i1), .val (.int i2), .val (.int (0 : Int32)), .val (.ref s1), .val (.ref s2), .val (.ref a3), .val .null, .unset, .unset]) rfl qk) ?_
    refine own_step (b := T5.setTop (mkF m 178 #[.val (.int p0), .val (.int p1), .val (.int p2), .val (.int n1), .val (.int x0), .val (.int x1), .val (.int n2), .val (.int y0), .val (.int y1), .val (.int i1), .val (.int i2), .val (.int (0 : Int32)), .val (.ref s1), .val (.ref s2), .val (.ref a3), .val .null, .unset, .unset] [])) (fun _ qk => XS.goto X5.here hx rfl (pc0 := 133) (pc' := 178) rfl (hb hby at_133) (by decide) (by decide) qk) ?_
    have J213 : ∀ sb : Int32, own_G p e below (own_FI s (fun v vm h L => v = some (.int 1) ∧ Fr Z.heap.size L) room_1.cells room_1.slots) (T5.setTop (mkF m 213 #[.val (.int p0), .val (.int p1), .val (.int p2), .val (.int n1), .val (.int x0), .val (.int x1), .val (.int n2), .val (.int y0), .val (.int y1), .val (.int i1), .val (.int i2), .val (.int (0 : Int32)), .val (.ref s1), .val (.ref s2), .val (.ref a3), .val .null, .unset, .unset] [(.int sb)])) := by
      intro sb
      show own_G p e below _ (T5.setTop (mkF m 213 #[.val (.int p0), .val (.int p1), .val (.int p2), .val (.int n1), .val (.int x0), .val (.int x1), .val (.int n2), .val (.int y0), .val (.int y1), .val (.int i1), .val (.int i2), .val (.int (0 : Int32)), .val (.ref s1), .val (.ref s2), .val (.ref a3), .val .null, .unset, .unset] [(.int sb)]))
      refine own_step (b := T5.setTop (mkF m 215 #[.val (.int p0), .val (.int p1), .val (.int p2), .val (.int n1), .val (.int x0), .val (.int x1), .val (.int n2), .val (.int y0), .val (.int y1), .val (.int i1), .val (.int i2), .val (.int (0 : Int32)), .val (.ref s1), .val (.ref s2), .val (.ref a3), .val .null, .val (.int sb), .unset] [])) (fun _ qk => XS.istore X5.here hx rfl (hb hby at_213) rfl (l' := #[.val (.int p0), .val (.int p1), .val (.int p2), .val (.int n1), .val (.int x0), .val (.int x1), .val (.int n2), .val (.int y0), .val (.int y1), .val (.int i1), .val (.int i2), .val (.int (0 : Int32)), .val (.ref s1), .val (.ref s2), .val (.ref a3), .val .null, .val (.int sb), .unset]) rfl qk) ?_
      refine own_step (b := T5.setTop (mkF m 217 #[.val (.int p0), .val (.int p1), .val (.int p2), .val (.int n1), .val (.int x0), .val (.int x1), .val (.int n2), .val (.int y0), .val (.int y1), .val (.int i1), .val (.int i2), .val (.int (0 : Int32)), .val (.ref s1), .val (.ref s2), .val (.ref a3), .val .null, .val (.int sb), .unset] [(.int (0 : Int32))])) (fun _ qk => XS.iload X5.here hx rfl (hb hby at_215) rfl qk) ?_
      refine own_step (b := T5.setTop (mkF m 218 #[.val (.int p0), .val (.int p1), .val (.int p2), .val (.int n1), .val (.int x0), .val (.int x1), .val (.int n2), .val (.int y0), .val (.int y1), .val (.int i1), .val (.int i2), .val (.int (0 : Int32)), .val (.ref s1), .val (.ref s2), .val (.ref a3), .val .null, .val (.int sb), .unset] [(.int (2 : Int32)), (.int (0 : Int32))])) (fun _ qk => XS.iconst X5.here hx rfl (hb hby at_217) qk) ?_
      refine own_icmp_ge X5 hx (hb hby at_218) (pc' := 227) (by decide) (by decide) (fun c218_7 => absurd c218_7 (by decide)) (fun c218_7 => ?_)
      show own_G p e below _ (T5.setTop (mkF m 221 #[.val (.int p0), .val (.int p1), .val (.int p2), .val (.int n1), .val (.int x0), .val (.int x1), .val (.int n2), .val (.int y0), .val (.int y1), .val (.int i1), .val (.int i2), .val (.int (0 : Int32)), .val (.ref s1), .val (.ref s2), .val (.ref a3), .val .null, .val (.int sb), .unset] []))
      refine own_step (b := T5.setTop (mkF m 222 #[.val (.int p0), .val (.int p1), .val (.int p2), .val (.int n1), .val (.int x0), .val (.int x1), .val (.int n2), .val (.int y0), .val (.int y1), .val (.int i1), .val (.int i2), .val (.int (0 : Int32)), .val (.ref s1), .val (.ref s2), .val (.ref a3), .val .null, .val (.int sb), .unset] [(.int (0 : Int32))])) (fun _ qk => XS.iconst X5.here hx rfl (hb hby at_221) qk) ?_
      refine own_step (b := T5.setTop (mkF m 224 #[.val (.int p0), .val (.int p1), .val (.int p2), .val (.int n1), .val (.int x0), .val (.int x1), .val (.int n2), .val (.int y0), .val (.int y1), .val (.int i1), .val (.int i2), .val (.int (0 : Int32)), .val (.ref s1), .val (.ref s2), .val (.ref a3), .val .null, .val (.int sb), .val (.int (0 : Int32))] [])) (fun _ qk => XS.istore X5.here hx rfl (hb hby at_222) rfl (l' := #[.val (.int p0), .val (.int p1), .val (.int p2), .val (.int n1), .val (.int x0), .val (.int x1), .val (.int n2), .val (.int y0), .val (.int y1), .val (.int i1), .val (.int i2), .val (.int (0 : Int32)), .val (.ref s1), .val (.ref s2), .val (.ref a3), .val .null, .val (.int sb), .val (.int (0 : Int32))]) rfl qk) ?_
      refine own_step (b := T5.setTop (mkF m 258 #[.val (.int p0), .val (.int p1), .val (.int p2), .val (.int n1), .val (.int x0), .val (.int x1), .val (.int n2), .val (.int y0), .val (.int y1), .val (.int i1), .val (.int i2), .val (.int (0 : Int32)), .val (.ref s1), .val (.ref s2), .val (.ref a3), .val .null, .val (.int sb), .val (.int (0 : Int32))] [])) (fun _ qk => XS.goto X5.here hx rfl (pc0 := 224) (pc' := 258) rfl (hb hby at_224) (by decide) (by decide) qk) ?_
      refine own_step (b := T5.setTop (mkF m 260 #[.val (.int p0), .val (.int p1), .val (.int p2), .val (.int n1), .val (.int x0), .val (.int x1), .val (.int n2), .val (.int y0), .val (.int y1), .val (.int i1), .val (.int i2), .val (.int (0 : Int32)), .val (.ref s1), .val (.ref s2), .val (.ref a3), .val .null, .val (.int sb), .val (.int (0 : Int32))] [(.ref a3)])) (fun _ qk => XS.aload X5.here hx rfl (hb hby at_258) rfl rfl qk) ?_
      refine own_step (b := T5.setTop (mkF m 262 #[.val (.int p0), .val (.int p1), .val (.int p2), .val (.int n1), .val (.int x0), .val (.int x1), .val (.int n2), .val (.int y0), .val (.int y1), .val (.int i1), .val (.int i2), .val (.int (0 : Int32)), .val (.ref s1), .val (.ref s2), .val (.ref a3), .val .null, .val (.int sb), .val (.int (0 : Int32))] [.null, (.ref a3)])) (fun _ qk => XS.aload X5.here hx rfl (hb hby at_260) rfl rfl qk) ?_
      refine own_virtualP (a := a3) (W := 0) (argsL := [.null]) (st := []) X5 hx hZ hown (own_w hw 56 rfl) (own_w hw 57 rfl) (own_w hw 59 rfl) rfl (own_w hw 58 rfl) (by decide) rfl Ex5 (rmEqN l Z a0 hw [] a3 T5.heap) (own_w hw 60 rfl) (own_w hw 36 rfl) (by decide) (by decide) (by decide) (by decide) (by rw [hml]; rfl) (lenOf pd7 rfl) rfl (Nat.le_of_ble_eq_true rfl) (hb hby at_262) (fun T8 X8 e8 => ?_)
      show own_G p e below _ (T8.setTop (mkF m 265 #[.val (.int p0), .val (.int p1), .val (.int p2), .val (.int n1), .val (.int x0), .val (.int x1), .val (.int n2), .val (.int y0), .val (.int y1), .val (.int i1), .val (.int i2), .val (.int (0 : Int32)), .val (.ref s1), .val (.ref s2), .val (.ref a3), .val .null, .val (.int sb), .val (.int (0 : Int32))] [(.int (own_bi false))]))
      refine own_step (b := T8.setTop (mkF m 267 #[.val (.int p0), .val (.int p1), .val (.int p2), .val (.int n1), .val (.int x0), .val (.int x1), .val (.int n2), .val (.int y0), .val (.int y1), .val (.int i1), .val (.int i2), .val (.int (0 : Int32)), .val (.ref s1), .val (.ref s2), .val (.ref a3), .val .null, .val (.int sb), .val (.int (0 : Int32))] [(.int (0 : Int32)), (.int (own_bi false))])) (fun _ qk => XS.iload X8.here hx rfl (hb hby at_265) rfl qk) ?_
      have hm9 : false = false := rfl
      refine own_icmp_ne X8 hx (hb hby at_267) (pc' := 274) (by decide) (by decide) (fun cf9 => absurd (by rw [hm9]; rfl) cf9) (fun cf9 => ?_)
      show own_G p e below _ (T8.setTop (mkF m 270 #[.val (.int p0), .val (.int p1), .val (.int p2), .val (.int n1), .val (.int x0), .val (.int x1), .val (.int n2), .val (.int y0), .val (.int y1), .val (.int i1), .val (.int i2), .val (.int (0 : Int32)), .val (.ref s1), .val (.ref s2), .val (.ref a3), .val .null, .val (.int sb), .val (.int (0 : Int32))] []))
      refine own_step (b := T8.setTop (mkF m 271 #[.val (.int p0), .val (.int p1), .val (.int p2), .val (.int n1), .val (.int x0), .val (.int x1), .val (.int n2), .val (.int y0), .val (.int y1), .val (.int i1), .val (.int i2), .val (.int (0 : Int32)), .val (.ref s1), .val (.ref s2), .val (.ref a3), .val .null, .val (.int sb), .val (.int (0 : Int32))] [(.int (1 : Int32))])) (fun _ qk => XS.iconst X8.here hx rfl (hb hby at_270) qk) ?_
      refine own_step (b := T8.setTop (mkF m 275 #[.val (.int p0), .val (.int p1), .val (.int p2), .val (.int n1), .val (.int x0), .val (.int x1), .val (.int n2), .val (.int y0), .val (.int y1), .val (.int i1), .val (.int i2), .val (.int (0 : Int32)), .val (.ref s1), .val (.ref s2), .val (.ref a3), .val .null, .val (.int sb), .val (.int (0 : Int32))] [(.int (1 : Int32))])) (fun _ qk => XS.goto X8.here hx rfl (pc0 := 271) (pc' := 275) rfl (hb hby at_271) (by decide) (by decide) qk) ?_
      exact own_retXN X8 hx hS (by rw [show T8.heap = T5.heap from e8]; omega) hret (by simp) hlk (hb hby at_275) ⟨rfl, N5⟩ (by decide) (by decide)
    show own_G p e below _ (T5.setTop (mkF m 178 #[.val (.int p0), .val (.int p1), .val (.int p2), .val (.int n1), .val (.int x0), .val (.int x1), .val (.int n2), .val (.int y0), .val (.int y1), .val (.int i1), .val (.int i2), .val (.int (0 : Int32)), .val (.ref s1), .val (.ref s2), .val (.ref a3), .val .null, .unset, .unset] []))
    refine own_step (b := T5.setTop (mkF m 179 #[.val (.int p0), .val (.int p1), .val (.int p2), .val (.int n1), .val (.int x0), .val (.int x1), .val (.int n2), .val (.int y0), .val (.int y1), .val (.int i1), .val (.int i2), .val (.int (0 : Int32)), .val (.ref s1), .val (.ref s2), .val (.ref a3), .val .null, .unset, .unset] [(.int n1)])) (fun _ qk => XS.iloadN X5.here hx rfl (hb hby at_178) rfl qk) ?_
    refine own_step (b := T5.setTop (mkF m 181 #[.val (.int p0), .val (.int p1), .val (.int p2), .val (.int n1), .val (.int x0), .val (.int x1), .val (.int n2), .val (.int y0), .val (.int y1), .val (.int i1), .val (.int i2), .val (.int (0 : Int32)), .val (.ref s1), .val (.ref s2), .val (.ref a3), .val .null, .unset, .unset] [(.int n2), (.int n1)])) (fun _ qk => XS.iload X5.here hx rfl (hb hby at_179) rfl qk) ?_
    refine own_icmp_ne X5 hx (hb hby at_181) (pc' := 212) (by decide) (by decide) (fun c181_10 => ?_) (fun c181_10 => ?_)
    · show own_G p e below _ (T5.setTop (mkF m 212 #[.val (.int p0), .val (.int p1), .val (.int p2), .val (.int n1), .val (.int x0), .val (.int x1), .val (.int n2), .val (.int y0), .val (.int y1), .val (.int i1), .val (.int i2), .val (.int (0 : Int32)), .val (.ref s1), .val (.ref s2), .val (.ref a3), .val .null, .unset, .unset] []))
      refine own_step (b := T5.setTop (mkF m 213 #[.val (.int p0), .val (.int p1), .val (.int p2), .val (.int n1), .val (.int x0), .val (.int x1), .val (.int n2), .val (.int y0), .val (.int y1), .val (.int i1), .val (.int i2), .val (.int (0 : Int32)), .val (.ref s1), .val (.ref s2), .val (.ref a3), .val .null, .unset, .unset] [(.int (0 : Int32))])) (fun _ qk => XS.iconst X5.here hx rfl (hb hby at_212) qk) ?_
      exact J213 _
    · show own_G p e below _ (T5.setTop (mkF m 184 #[.val (.int p0), .val (.int p1), .val (.int p2), .val (.int n1), .val (.int x0), .val (.int x1), .val (.int n2), .val (.int y0), .val (.int y1), .val (.int i1), .val (.int i2), .val (.int (0 : Int32)), .val (.ref s1), .val (.ref s2), .val (.ref a3), .val .null, .unset, .unset] []))
      refine own_step (b := T5.setTop (mkF m 185 #[.val (.int p0), .val (.int p1), .val (.int p2), .val (.int n1), .val (.int x0), .val (.int x1), .val (.int n2), .val (.int y0), .val (.int y1), .val (.int i1), .val (.int i2), .val (.int (0 : Int32)), .val (.ref s1), .val (.ref s2), .val (.ref a3), .val .null, .unset, .unset] [(.int n1)])) (fun _ qk => XS.iloadN X5.here hx rfl (hb hby at_184) rfl qk) ?_
      refine own_step (b := T5.setTop (mkF m 186 #[.val (.int p0), .val (.int p1), .val (.int p2), .val (.int n1), .val (.int x0), .val (.int x1), .val (.int n2), .val (.int y0), .val (.int y1), .val (.int i1), .val (.int i2), .val (.int (0 : Int32)), .val (.ref s1), .val (.ref s2), .val (.ref a3), .val .null, .unset, .unset] [(.int (1 : Int32)), (.int n1)])) (fun _ qk => XS.iconst X5.here hx rfl (hb hby at_185) qk) ?_
      refine own_icmp_lt X5 hx (hb hby at_186) (pc' := 196) (by decide) (by decide) (fun c186_11 => ?_) (fun c186_11 => ?_)
      · show own_G p e below _ (T5.setTop (mkF m 196 #[.val (.int p0), .val (.int p1), .val (.int p2), .val (.int n1), .val (.int x0), .val (.int x1), .val (.int n2), .val (.int y0), .val (.int y1), .val (.int i1), .val (.int i2), .val (.int (0 : Int32)), .val (.ref s1), .val (.ref s2), .val (.ref a3), .val .null, .unset, .unset] []))
        refine own_step (b := T5.setTop (mkF m 197 #[.val (.int p0), .val (.int p1), .val (.int p2), .val (.int n1), .val (.int x0), .val (.int x1), .val (.int n2), .val (.int y0), .val (.int y1), .val (.int i1), .val (.int i2), .val (.int (0 : Int32)), .val (.ref s1), .val (.ref s2), .val (.ref a3), .val .null, .unset, .unset] [(.int n1)])) (fun _ qk => XS.iloadN X5.here hx rfl (hb hby at_196) rfl qk) ?_
        refine own_step (b := T5.setTop (mkF m 198 #[.val (.int p0), .val (.int p1), .val (.int p2), .val (.int n1), .val (.int x0), .val (.int x1), .val (.int n2), .val (.int y0), .val (.int y1), .val (.int i1), .val (.int i2), .val (.int (0 : Int32)), .val (.ref s1), .val (.ref s2), .val (.ref a3), .val .null, .unset, .unset] [(.int (2 : Int32)), (.int n1)])) (fun _ qk => XS.iconst X5.here hx rfl (hb hby at_197) qk) ?_
        refine own_icmp_lt X5 hx (hb hby at_198) (pc' := 208) (by decide) (by decide) (fun c198_12 => ?_) (fun c198_12 => ?_)
        · show own_G p e below _ (T5.setTop (mkF m 208 #[.val (.int p0), .val (.int p1), .val (.int p2), .val (.int n1), .val (.int x0), .val (.int x1), .val (.int n2), .val (.int y0), .val (.int y1), .val (.int i1), .val (.int i2), .val (.int (0 : Int32)), .val (.ref s1), .val (.ref s2), .val (.ref a3), .val .null, .unset, .unset] []))
          refine own_step (b := T5.setTop (mkF m 209 #[.val (.int p0), .val (.int p1), .val (.int p2), .val (.int n1), .val (.int x0), .val (.int x1), .val (.int n2), .val (.int y0), .val (.int y1), .val (.int i1), .val (.int i2), .val (.int (0 : Int32)), .val (.ref s1), .val (.ref s2), .val (.ref a3), .val .null, .unset, .unset] [(.int (1 : Int32))])) (fun _ qk => XS.iconst X5.here hx rfl (hb hby at_208) qk) ?_
          refine own_step (b := T5.setTop (mkF m 213 #[.val (.int p0), .val (.int p1), .val (.int p2), .val (.int n1), .val (.int x0), .val (.int x1), .val (.int n2), .val (.int y0), .val (.int y1), .val (.int i1), .val (.int i2), .val (.int (0 : Int32)), .val (.ref s1), .val (.ref s2), .val (.ref a3), .val .null, .unset, .unset] [(.int (1 : Int32))])) (fun _ qk => XS.goto X5.here hx rfl (pc0 := 209) (pc' := 213) rfl (hb hby at_209) (by decide) (by decide) qk) ?_
          exact J213 _
        · show own_G p e below _ (T5.setTop (mkF m 201 #[.val (.int p0), .val (.int p1), .val (.int p2), .val (.int n1), .val (.int x0), .val (.int x1), .val (.int n2), .val (.int y0), .val (.int y1), .val (.int i1), .val (.int i2), .val (.int (0 : Int32)), .val (.ref s1), .val (.ref s2), .val (.ref a3), .val .null, .unset, .unset] []))
          refine own_step (b := T5.setTop (mkF m 203 #[.val (.int p0), .val (.int p1), .val (.int p2), .val (.int n1), .val (.int x0), .val (.int x1), .val (.int n2), .val (.int y0), .val (.int y1), .val (.int i1), .val (.int i2), .val (.int (0 : Int32)), .val (.ref s1), .val (.ref s2), .val (.ref a3), .val .null, .unset, .unset] [(.int x1)])) (fun _ qk => XS.iload X5.here hx rfl (hb hby at_201) rfl qk) ?_
          refine own_step (b := T5.setTop (mkF m 205 #[.val (.int p0), .val (.int p1), .val (.int p2), .val (.int n1), .val (.int x0), .val (.int x1), .val (.int n2), .val (.int y0), .val (.int y1), .val (.int i1), .val (.int i2), .val (.int (0 : Int32)), .val (.ref s1), .val (.ref s2), .val (.ref a3), .val .null, .unset, .unset] [(.int y1), (.int x1)])) (fun _ qk => XS.iload X5.here hx rfl (hb hby at_203) rfl qk) ?_
          refine own_icmp_ne X5 hx (hb hby at_205) (pc' := 212) (by decide) (by decide) (fun c205_13 => ?_) (fun c205_13 => ?_)
          · show own_G p e below _ (T5.setTop (mkF m 212 #[.val (.int p0), .val (.int p1), .val (.int p2), .val (.int n1), .val (.int x0), .val (.int x1), .val (.int n2), .val (.int y0), .val (.int y1), .val (.int i1), .val (.int i2), .val (.int (0 : Int32)), .val (.ref s1), .val (.ref s2), .val (.ref a3), .val .null, .unset, .unset] []))
            refine own_step (b := T5.setTop (mkF m 213 #[.val (.int p0), .val (.int p1), .val (.int p2), .val (.int n1), .val (.int x0), .val (.int x1), .val (.int n2), .val (.int y0), .val (.int y1), .val (.int i1), .val (.int i2), .val (.int (0 : Int32)), .val (.ref s1), .val (.ref s2), .val (.ref a3), .val .null, .unset, .unset] [(.int (0 : Int32))])) (fun _ qk => XS.iconst X5.here hx rfl (hb hby at_212) qk) ?_
            exact J213 _
          · show own_G p e below _ (T5.setTop (mkF m 208 #[.val (.int p0), .val (.int p1), .val (.int p2), .val (.int n1), .val (.int x0), .val (.int x1), .val (.int n2), .val (.int y0), .val (.int y1), .val (.int i1), .val (.int i2), .val (.int (0 : Int32)), .val (.ref s1), .val (.ref s2), .val (.ref a3), .val .null, .unset, .unset] []))
            refine own_step (b := T5.setTop (mkF m 209 #[.val (.int p0), .val (.int p1), .val (.int p2), .val (.int n1), .val (.int x0), .val (.int x1), .val (.int n2), .val (.int y0), .val (.int y1), .val (.int i1), .val (.int i2), .val (.int (0 : Int32)), .val (.ref s1), .val (.ref s2), .val (.ref a3), .val .null, .unset, .unset] [(.int (1 : Int32))])) (fun _ qk => XS.iconst X5.here hx rfl (hb hby at_208) qk) ?_
            refine own_step (b := T5.setTop (mkF m 213 #[.val (.int p0), .val (.int p1), .val (.int p2), .val (.int n1), .val (.int x0), .val (.int x1), .val (.int n2), .val (.int y0), .val (.int y1), .val (.int i1), .val (.int i2), .val (.int (0 : Int32)), .val (.ref s1), .val (.ref s2), .val (.ref a3), .val .null, .unset, .unset] [(.int (1 : Int32))])) (fun _ qk => XS.goto X5.here hx rfl (pc0 := 209) (pc' := 213) rfl (hb hby at_209) (by decide) (by decide) qk) ?_
            exact J213 _
      · show own_G p e below _ (T5.setTop (mkF m 189 #[.val (.int p0), .val (.int p1), .val (.int p2), .val (.int n1), .val (.int x0), .val (.int x1), .val (.int n2), .val (.int y0), .val (.int y1), .val (.int i1), .val (.int i2), .val (.int (0 : Int32)), .val (.ref s1), .val (.ref s2), .val (.ref a3), .val .null, .unset, .unset] []))
        refine own_step (b := T5.setTop (mkF m 191 #[.val (.int p0), .val (.int p1), .val (.int p2), .val (.int n1), .val (.int x0), .val (.int x1), .val (.int n2), .val (.int y0), .val (.int y1), .val (.int i1), .val (.int i2), .val (.int (0 : Int32)), .val (.ref s1), .val (.ref s2), .val (.ref a3), .val .null, .unset, .unset] [(.int x0)])) (fun _ qk => XS.iload X5.here hx rfl (hb hby at_189) rfl qk) ?_
        refine own_step (b := T5.setTop (mkF m 193 #[.val (.int p0), .val (.int p1), .val (.int p2), .val (.int n1), .val (.int x0), .val (.int x1), .val (.int n2), .val (.int y0), .val (.int y1), .val (.int i1), .val (.int i2), .val (.int (0 : Int32)), .val (.ref s1), .val (.ref s2), .val (.ref a3), .val .null, .unset, .unset] [(.int y0), (.int x0)])) (fun _ qk => XS.iload X5.here hx rfl (hb hby at_191) rfl qk) ?_
        refine own_icmp_ne X5 hx (hb hby at_193) (pc' := 212) (by decide) (by decide) (fun c193_14 => ?_) (fun c193_14 => ?_)
        · show own_G p e below _ (T5.setTop (mkF m 212 #[.val (.int p0), .val (.int p1), .val (.int p2), .val (.int n1), .val (.int x0), .val (.int x1), .val (.int n2), .val (.int y0), .val (.int y1), .val (.int i1), .val (.int i2), .val (.int (0 : Int32)), .val (.ref s1), .val (.ref s2), .val (.ref a3), .val .null, .unset, .unset] []))
          refine own_step (b := T5.setTop (mkF m 213 #[.val (.int p0), .val (.int p1), .val (.int p2), .val (.int n1), .val (.int x0), .val (.int x1), .val (.int n2), .val (.int y0), .val (.int y1), .val (.int i1), .val (.int i2), .val (.int (0 : Int32)), .val (.ref s1), .val (.ref s2), .val (.ref a3), .val .null, .unset, .unset] [(.int (0 : Int32))])) (fun _ qk => XS.iconst X5.here hx rfl (hb hby at_212) qk) ?_
          exact J213 _
        · show own_G p e below _ (T5.setTop (mkF m 196 #[.val (.int p0), .val (.int p1), .val (.int p2), .val (.int n1), .val (.int x0), .val (.int x1), .val (.int n2), .val (.int y0), .val (.int y1), .val (.int i1), .val (.int i2), .val (.int (0 : Int32)), .val (.ref s1), .val (.ref s2), .val (.ref a3), .val .null, .unset, .unset] []))
          refine own_step (b := T5.setTop (mkF m 197 #[.val (.int p0), .val (.int p1), .val (.int p2), .val (.int n1), .val (.int x0), .val (.int x1), .val (.int n2), .val (.int y0), .val (.int y1), .val (.int i1), .val (.int i2), .val (.int (0 : Int32)), .val (.ref s1), .val (.ref s2), .val (.ref a3), .val .null, .unset, .unset] [(.int n1)])) (fun _ qk => XS.iloadN X5.here hx rfl (hb hby at_196) rfl qk) ?_
          refine own_step (b := T5.setTop (mkF m 198 #[.val (.int p0), .val (.int p1), .val (.int p2), .val (.int n1), .val (.int x0), .val (.int x1), .val (.int n2), .val (.int y0), .val (.int y1), .val (.int i1), .val (.int i2), .val (.int (0 : Int32)), .val (.ref s1), .val (.ref s2), .val (.ref a3), .val .null, .unset, .unset] [(.int (2 : Int32)), (.int n1)])) (fun _ qk => XS.iconst X5.here hx rfl (hb hby at_197) qk) ?_
          refine own_icmp_lt X5 hx (hb hby at_198) (pc' := 208) (by decide) (by decide) (fun c198_15 => ?_) (fun c198_15 => ?_)
          · show own_G p e below _ (T5.setTop (mkF m 208 #[.val (.int p0), .val (.int p1), .val (.int p2), .val (.int n1), .val (.int x0), .val (.int x1), .val (.int n2), .val (.int y0), .val (.int y1), .val (.int i1), .val (.int i2), .val (.int (0 : Int32)), .val (.ref s1), .val (.ref s2), .val (.ref a3), .val .null, .unset, .unset] []))
            refine own_step (b := T5.setTop (mkF m 209 #[.val (.int p0), .val (.int p1), .val (.int p2), .val (.int n1), .val (.int x0), .val (.int x1), .val (.int n2), .val (.int y0), .val (.int y1), .val (.int i1), .val (.int i2), .val (.int (0 : Int32)), .val (.ref s1), .val (.ref s2), .val (.ref a3), .val .null, .unset, .unset] [(.int (1 : Int32))])) (fun _ qk => XS.iconst X5.here hx rfl (hb hby at_208) qk) ?_
            refine own_step (b := T5.setTop (mkF m 213 #[.val (.int p0), .val (.int p1), .val (.int p2), .val (.int n1), .val (.int x0), .val (.int x1), .val (.int n2), .val (.int y0), .val (.int y1), .val (.int i1), .val (.int i2), .val (.int (0 : Int32)), .val (.ref s1), .val (.ref s2), .val (.ref a3), .val .null, .unset, .unset] [(.int (1 : Int32))])) (fun _ qk => XS.goto X5.here hx rfl (pc0 := 209) (pc' := 213) rfl (hb hby at_209) (by decide) (by decide) qk) ?_
            exact J213 _
          · show own_G p e below _ (T5.setTop (mkF m 201 #[.val (.int p0), .val (.int p1), .val (.int p2), .val (.int n1), .val (.int x0), .val (.int x1), .val (.int n2), .val (.int y0), .val (.int y1), .val (.int i1), .val (.int i2), .val (.int (0 : Int32)), .val (.ref s1), .val (.ref s2), .val (.ref a3), .val .null, .unset, .unset] []))
            refine own_step (b := T5.setTop (mkF m 203 #[.val (.int p0), .val (.int p1), .val (.int p2), .val (.int n1), .val (.int x0), .val (.int x1), .val (.int n2), .val (.int y0), .val (.int y1), .val (.int i1), .val (.int i2), .val (.int (0 : Int32)), .val (.ref s1), .val (.ref s2), .val (.ref a3), .val .null, .unset, .unset] [(.int x1)])) (fun _ qk => XS.iload X5.here hx rfl (hb hby at_201) rfl qk) ?_
            refine own_step (b := T5.setTop (mkF m 205 #[.val (.int p0), .val (.int p1), .val (.int p2), .val (.int n1), .val (.int x0), .val (.int x1), .val (.int n2), .val (.int y0), .val (.int y1), .val (.int i1), .val (.int i2), .val (.int (0 : Int32)), .val (.ref s1), .val (.ref s2), .val (.ref a3), .val .null, .unset, .unset] [(.int y1), (.int x1)])) (fun _ qk => XS.iload X5.here hx rfl (hb hby at_203) rfl qk) ?_
            refine own_icmp_ne X5 hx (hb hby at_205) (pc' := 212) (by decide) (by decide) (fun c205_16 => ?_) (fun c205_16 => ?_)
            · show own_G p e below _ (T5.setTop (mkF m 212 #[.val (.int p0), .val (.int p1), .val (.int p2), .val (.int n1), .val (.int x0), .val (.int x1), .val (.int n2), .val (.int y0), .val (.int y1), .val (.int i1), .val (.int i2), .val (.int (0 : Int32)), .val (.ref s1), .val (.ref s2), .val (.ref a3), .val .null, .unset, .unset] []))
              refine own_step (b := T5.setTop (mkF m 213 #[.val (.int p0), .val (.int p1), .val (.int p2), .val (.int n1), .val (.int x0), .val (.int x1), .val (.int n2), .val (.int y0), .val (.int y1), .val (.int i1), .val (.int i2), .val (.int (0 : Int32)), .val (.ref s1), .val (.ref s2), .val (.ref a3), .val .null, .unset, .unset] [(.int (0 : Int32))])) (fun _ qk => XS.iconst X5.here hx rfl (hb hby at_212) qk) ?_
              exact J213 _
            · show own_G p e below _ (T5.setTop (mkF m 208 #[.val (.int p0), .val (.int p1), .val (.int p2), .val (.int n1), .val (.int x0), .val (.int x1), .val (.int n2), .val (.int y0), .val (.int y1), .val (.int i1), .val (.int i2), .val (.int (0 : Int32)), .val (.ref s1), .val (.ref s2), .val (.ref a3), .val .null, .unset, .unset] []))
              refine own_step (b := T5.setTop (mkF m 209 #[.val (.int p0), .val (.int p1), .val (.int p2), .val (.int n1), .val (.int x0), .val (.int x1), .val (.int n2), .val (.int y0), .val (.int y1), .val (.int i1), .val (.int i2), .val (.int (0 : Int32)), .val (.ref s1), .val (.ref s2), .val (.ref a3), .val .null, .unset, .unset] [(.int (1 : Int32))])) (fun _ qk => XS.iconst X5.here hx rfl (hb hby at_208) qk) ?_
              refine own_step (b := T5.setTop (mkF m 213 #[.val (.int p0), .val (.int p1), .val (.int p2), .val (.int n1), .val (.int x0), .val (.int x1), .val (.int n2), .val (.int y0), .val (.int y1), .val (.int i1), .val (.int i2), .val (.int (0 : Int32)), .val (.ref s1), .val (.ref s2), .val (.ref a3), .val .null, .unset, .unset] [(.int (1 : Int32))])) (fun _ qk => XS.goto X5.here hx rfl (pc0 := 209) (pc' := 213) rfl (hb hby at_209) (by decide) (by decide) qk) ?_
              exact J213 _
  · show own_G p e below _ (T5.setTop (mkF m 125 #[.val (.int p0), .val (.int p1), .val (.int p2), .val (.int n1), .val (.int x0), .val (.int x1), .val (.int n2), .val (.int y0), .val (.int y1), .val (.int i1), .val (.int i2), .val (.int (1 : Int32)), .val (.ref s1), .val (.ref s2), .val (.ref a3), .unset, .unset, .unset] []))
    show own_G p e below _ (T5.setTop (mkF m 125 #[.val (.int p0), .val (.int p1), .val (.int p2), .val (.int n1), .val (.int x0), .val (.int x1), .val (.int n2), .val (.int y0), .val (.int y1), .val (.int i1), .val (.int i2), .val (.int (1 : Int32)), .val (.ref s1), .val (.ref s2), .val (.ref a3), .unset, .unset, .unset] []))
    refine own_step (b := T5.setTop (mkF m 127 #[.val (.int p0), .val (.int p1), .val (.int p2), .val (.int n1), .val (.int x0), .val (.int x1), .val (.int n2), .val (.int y0), .val (.int y1), .val (.int i1), .val (.int i2), .val (.int (1 : Int32)), .val (.ref s1), .val (.ref s2), .val (.ref a3), .unset, .unset, .unset] [(.int (1 : Int32))])) (fun _ qk => XS.iload X5.here hx rfl (hb hby at_125) rfl qk) ?_
    refine own_if_ne X5 hx (hb hby at_127) (pc' := 136) (by decide) (by decide) (fun c127_17 => ?_) (fun c127_17 => absurd c127_17 (by decide))
    show own_G p e below _ (T5.setTop (mkF m 136 #[.val (.int p0), .val (.int p1), .val (.int p2), .val (.int n1), .val (.int x0), .val (.int x1), .val (.int n2), .val (.int y0), .val (.int y1), .val (.int i1), .val (.int i2), .val (.int (1 : Int32)), .val (.ref s1), .val (.ref s2), .val (.ref a3), .unset, .unset, .unset] []))
    refine own_step (b := T5.setTop (mkF m 138 #[.val (.int p0), .val (.int p1), .val (.int p2), .val (.int n1), .val (.int x0), .val (.int x1), .val (.int n2), .val (.int y0), .val (.int y1), .val (.int i1), .val (.int i2), .val (.int (1 : Int32)), .val (.ref s1), .val (.ref s2), .val (.ref a3), .unset, .unset, .unset] [(.int (1 : Int32))])) (fun _ qk => XS.iload X5.here hx rfl (hb hby at_136) rfl qk) ?_
    refine own_step (b := T5.setTop (mkF m 139 #[.val (.int p0), .val (.int p1), .val (.int p2), .val (.int n1), .val (.int x0), .val (.int x1), .val (.int n2), .val (.int y0), .val (.int y1), .val (.int i1), .val (.int i2), .val (.int (1 : Int32)), .val (.ref s1), .val (.ref s2), .val (.ref a3), .unset, .unset, .unset] [(.int (1 : Int32)), (.int (1 : Int32))])) (fun _ qk => XS.iconst X5.here hx rfl (hb hby at_138) qk) ?_
    refine own_icmp_ne X5 hx (hb hby at_139) (pc' := 149) (by decide) (by decide) (fun c139_18 => absurd c139_18 (by decide)) (fun c139_18 => ?_)
    show own_G p e below _ (T5.setTop (mkF m 142 #[.val (.int p0), .val (.int p1), .val (.int p2), .val (.int n1), .val (.int x0), .val (.int x1), .val (.int n2), .val (.int y0), .val (.int y1), .val (.int i1), .val (.int i2), .val (.int (1 : Int32)), .val (.ref s1), .val (.ref s2), .val (.ref a3), .unset, .unset, .unset] []))
    refine own_step (b := T5.setTop (mkF m 144 #[.val (.int p0), .val (.int p1), .val (.int p2), .val (.int n1), .val (.int x0), .val (.int x1), .val (.int n2), .val (.int y0), .val (.int y1), .val (.int i1), .val (.int i2), .val (.int (1 : Int32)), .val (.ref s1), .val (.ref s2), .val (.ref a3), .unset, .unset, .unset] [(.ref s2)])) (fun _ qk => XS.aload X5.here hx rfl (hb hby at_142) rfl rfl qk) ?_
    refine own_step (b := T5.setTop (mkF m 146 #[.val (.int p0), .val (.int p1), .val (.int p2), .val (.int n1), .val (.int x0), .val (.int x1), .val (.int n2), .val (.int y0), .val (.int y1), .val (.int i1), .val (.int i2), .val (.int (1 : Int32)), .val (.ref s1), .val (.ref s2), .val (.ref a3), .val (.ref s2), .unset, .unset] [])) (fun _ qk => XS.astore X5.here hx rfl (hb hby at_144) rfl rfl (l' := #[.val (.int p0), .val (.int p1), .val (.int p2), .val (.int n1), .val (.int x0), .val (.int x1), .val (.int n2), .val (.int y0), .val (.int y1), .val (.int i1), .val (.int i2), .val (.int (1 : Int32)), .val (.ref s1), .val (.ref s2), .val (.ref a3), .val (.ref s2), .unset, .unset]) rfl qk) ?_
    refine own_step (b := T5.setTop (mkF m 178 #[.val (.int p0), .val (.int p1), .val (.int p2), .val (.int n1), .val (.int x0), .val (.int x1), .val (.int n2), .val (.int y0), .val (.int y1), .val (.int i1), .val (.int i2), .val (.int (1 : Int32)), .val (.ref s1), .val (.ref s2), .val (.ref a3), .val (.ref s2), .unset, .unset] [])) (fun _ qk => XS.goto X5.here hx rfl (pc0 := 146) (pc' := 178) rfl (hb hby at_146) (by decide) (by decide) qk) ?_
    have J213 : ∀ sb : Int32, own_G p e below (own_FI s (fun v vm h L => v = some (.int 1) ∧ Fr Z.heap.size L) room_1.cells room_1.slots) (T5.setTop (mkF m 213 #[.val (.int p0), .val (.int p1), .val (.int p2), .val (.int n1), .val (.int x0), .val (.int x1), .val (.int n2), .val (.int y0), .val (.int y1), .val (.int i1), .val (.int i2), .val (.int (1 : Int32)), .val (.ref s1), .val (.ref s2), .val (.ref a3), .val (.ref s2), .unset, .unset] [(.int sb)])) := by
      intro sb
      show own_G p e below _ (T5.setTop (mkF m 213 #[.val (.int p0), .val (.int p1), .val (.int p2), .val (.int n1), .val (.int x0), .val (.int x1), .val (.int n2), .val (.int y0), .val (.int y1), .val (.int i1), .val (.int i2), .val (.int (1 : Int32)), .val (.ref s1), .val (.ref s2), .val (.ref a3), .val (.ref s2), .unset, .unset] [(.int sb)]))
      refine own_step (b := T5.setTop (mkF m 215 #[.val (.int p0), .val (.int p1), .val (.int p2), .val (.int n1), .val (.int x0), .val (.int x1), .val (.int n2), .val (.int y0), .val (.int y1), .val (.int i1), .val (.int i2), .val (.int (1 : Int32)), .val (.ref s1), .val (.ref s2), .val (.ref a3), .val (.ref s2), .val (.int sb), .unset] [])) (fun _ qk => XS.istore X5.here hx rfl (hb hby at_213) rfl (l' := #[.val (.int p0), .val (.int p1), .val (.int p2), .val (.int n1), .val (.int x0), .val (.int x1), .val (.int n2), .val (.int y0), .val (.int y1), .val (.int i1), .val (.int i2), .val (.int (1 : Int32)), .val (.ref s1), .val (.ref s2), .val (.ref a3), .val (.ref s2), .val (.int sb), .unset]) rfl qk) ?_
      refine own_step (b := T5.setTop (mkF m 217 #[.val (.int p0), .val (.int p1), .val (.int p2), .val (.int n1), .val (.int x0), .val (.int x1), .val (.int n2), .val (.int y0), .val (.int y1), .val (.int i1), .val (.int i2), .val (.int (1 : Int32)), .val (.ref s1), .val (.ref s2), .val (.ref a3), .val (.ref s2), .val (.int sb), .unset] [(.int (1 : Int32))])) (fun _ qk => XS.iload X5.here hx rfl (hb hby at_215) rfl qk) ?_
      refine own_step (b := T5.setTop (mkF m 218 #[.val (.int p0), .val (.int p1), .val (.int p2), .val (.int n1), .val (.int x0), .val (.int x1), .val (.int n2), .val (.int y0), .val (.int y1), .val (.int i1), .val (.int i2), .val (.int (1 : Int32)), .val (.ref s1), .val (.ref s2), .val (.ref a3), .val (.ref s2), .val (.int sb), .unset] [(.int (2 : Int32)), (.int (1 : Int32))])) (fun _ qk => XS.iconst X5.here hx rfl (hb hby at_217) qk) ?_
      refine own_icmp_ge X5 hx (hb hby at_218) (pc' := 227) (by decide) (by decide) (fun c218_19 => absurd c218_19 (by decide)) (fun c218_19 => ?_)
      show own_G p e below _ (T5.setTop (mkF m 221 #[.val (.int p0), .val (.int p1), .val (.int p2), .val (.int n1), .val (.int x0), .val (.int x1), .val (.int n2), .val (.int y0), .val (.int y1), .val (.int i1), .val (.int i2), .val (.int (1 : Int32)), .val (.ref s1), .val (.ref s2), .val (.ref a3), .val (.ref s2), .val (.int sb), .unset] []))
      refine own_step (b := T5.setTop (mkF m 222 #[.val (.int p0), .val (.int p1), .val (.int p2), .val (.int n1), .val (.int x0), .val (.int x1), .val (.int n2), .val (.int y0), .val (.int y1), .val (.int i1), .val (.int i2), .val (.int (1 : Int32)), .val (.ref s1), .val (.ref s2), .val (.ref a3), .val (.ref s2), .val (.int sb), .unset] [(.int (0 : Int32))])) (fun _ qk => XS.iconst X5.here hx rfl (hb hby at_221) qk) ?_
      refine own_step (b := T5.setTop (mkF m 224 #[.val (.int p0), .val (.int p1), .val (.int p2), .val (.int n1), .val (.int x0), .val (.int x1), .val (.int n2), .val (.int y0), .val (.int y1), .val (.int i1), .val (.int i2), .val (.int (1 : Int32)), .val (.ref s1), .val (.ref s2), .val (.ref a3), .val (.ref s2), .val (.int sb), .val (.int (0 : Int32))] [])) (fun _ qk => XS.istore X5.here hx rfl (hb hby at_222) rfl (l' := #[.val (.int p0), .val (.int p1), .val (.int p2), .val (.int n1), .val (.int x0), .val (.int x1), .val (.int n2), .val (.int y0), .val (.int y1), .val (.int i1), .val (.int i2), .val (.int (1 : Int32)), .val (.ref s1), .val (.ref s2), .val (.ref a3), .val (.ref s2), .val (.int sb), .val (.int (0 : Int32))]) rfl qk) ?_
      refine own_step (b := T5.setTop (mkF m 258 #[.val (.int p0), .val (.int p1), .val (.int p2), .val (.int n1), .val (.int x0), .val (.int x1), .val (.int n2), .val (.int y0), .val (.int y1), .val (.int i1), .val (.int i2), .val (.int (1 : Int32)), .val (.ref s1), .val (.ref s2), .val (.ref a3), .val (.ref s2), .val (.int sb), .val (.int (0 : Int32))] [])) (fun _ qk => XS.goto X5.here hx rfl (pc0 := 224) (pc' := 258) rfl (hb hby at_224) (by decide) (by decide) qk) ?_
      refine own_step (b := T5.setTop (mkF m 260 #[.val (.int p0), .val (.int p1), .val (.int p2), .val (.int n1), .val (.int x0), .val (.int x1), .val (.int n2), .val (.int y0), .val (.int y1), .val (.int i1), .val (.int i2), .val (.int (1 : Int32)), .val (.ref s1), .val (.ref s2), .val (.ref a3), .val (.ref s2), .val (.int sb), .val (.int (0 : Int32))] [(.ref a3)])) (fun _ qk => XS.aload X5.here hx rfl (hb hby at_258) rfl rfl qk) ?_
      refine own_step (b := T5.setTop (mkF m 262 #[.val (.int p0), .val (.int p1), .val (.int p2), .val (.int n1), .val (.int x0), .val (.int x1), .val (.int n2), .val (.int y0), .val (.int y1), .val (.int i1), .val (.int i2), .val (.int (1 : Int32)), .val (.ref s1), .val (.ref s2), .val (.ref a3), .val (.ref s2), .val (.int sb), .val (.int (0 : Int32))] [(.ref s2), (.ref a3)])) (fun _ qk => XS.aload X5.here hx rfl (hb hby at_260) rfl rfl qk) ?_
      refine own_virtualP (a := a3) (W := 0) (argsL := [(.ref s2)]) (st := []) X5 hx hZ hown (own_w hw 56 rfl) (own_w hw 57 rfl) (own_w hw 59 rfl) rfl (own_w hw 58 rfl) (by decide) rfl Ex5 (rmEqS l Z a0 hw [] a3 s2 T5.heap S2c.1) (own_w hw 60 rfl) (own_w hw 36 rfl) (by decide) (by decide) (by decide) (by decide) (by rw [hml]; rfl) (lenOf pd7 rfl) rfl (Nat.le_of_ble_eq_true rfl) (hb hby at_262) (fun T20 X20 e20 => ?_)
      show own_G p e below _ (T20.setTop (mkF m 265 #[.val (.int p0), .val (.int p1), .val (.int p2), .val (.int n1), .val (.int x0), .val (.int x1), .val (.int n2), .val (.int y0), .val (.int y1), .val (.int i1), .val (.int i2), .val (.int (1 : Int32)), .val (.ref s1), .val (.ref s2), .val (.ref a3), .val (.ref s2), .val (.int sb), .val (.int (0 : Int32))] [(.int (own_bi false))]))
      refine own_step (b := T20.setTop (mkF m 267 #[.val (.int p0), .val (.int p1), .val (.int p2), .val (.int n1), .val (.int x0), .val (.int x1), .val (.int n2), .val (.int y0), .val (.int y1), .val (.int i1), .val (.int i2), .val (.int (1 : Int32)), .val (.ref s1), .val (.ref s2), .val (.ref a3), .val (.ref s2), .val (.int sb), .val (.int (0 : Int32))] [(.int (0 : Int32)), (.int (own_bi false))])) (fun _ qk => XS.iload X20.here hx rfl (hb hby at_265) rfl qk) ?_
      have hm21 : false = false := rfl
      refine own_icmp_ne X20 hx (hb hby at_267) (pc' := 274) (by decide) (by decide) (fun cf21 => absurd (by rw [hm21]; rfl) cf21) (fun cf21 => ?_)
      show own_G p e below _ (T20.setTop (mkF m 270 #[.val (.int p0), .val (.int p1), .val (.int p2), .val (.int n1), .val (.int x0), .val (.int x1), .val (.int n2), .val (.int y0), .val (.int y1), .val (.int i1), .val (.int i2), .val (.int (1 : Int32)), .val (.ref s1), .val (.ref s2), .val (.ref a3), .val (.ref s2), .val (.int sb), .val (.int (0 : Int32))] []))
      refine own_step (b := T20.setTop (mkF m 271 #[.val (.int p0), .val (.int p1), .val (.int p2), .val (.int n1), .val (.int x0), .val (.int x1), .val (.int n2), .val (.int y0), .val (.int y1), .val (.int i1), .val (.int i2), .val (.int (1 : Int32)), .val (.ref s1), .val (.ref s2), .val (.ref a3), .val (.ref s2), .val (.int sb), .val (.int (0 : Int32))] [(.int (1 : Int32))])) (fun _ qk => XS.iconst X20.here hx rfl (hb hby at_270) qk) ?_
      refine own_step (b := T20.setTop (mkF m 275 #[.val (.int p0), .val (.int p1), .val (.int p2), .val (.int n1), .val (.int x0), .val (.int x1), .val (.int n2), .val (.int y0), .val (.int y1), .val (.int i1), .val (.int i2), .val (.int (1 : Int32)), .val (.ref s1), .val (.ref s2), .val (.ref a3), .val (.ref s2), .val (.int sb), .val (.int (0 : Int32))] [(.int (1 : Int32))])) (fun _ qk => XS.goto X20.here hx rfl (pc0 := 271) (pc' := 275) rfl (hb hby at_271) (by decide) (by decide) qk) ?_
      exact own_retXN X20 hx hS (by rw [show T20.heap = T5.heap from e20]; omega) hret (by simp) hlk (hb hby at_275) ⟨rfl, N5⟩ (by decide) (by decide)
    show own_G p e below _ (T5.setTop (mkF m 178 #[.val (.int p0), .val (.int p1), .val (.int p2), .val (.int n1), .val (.int x0), .val (.int x1), .val (.int n2), .val (.int y0), .val (.int y1), .val (.int i1), .val (.int i2), .val (.int (1 : Int32)), .val (.ref s1), .val (.ref s2), .val (.ref a3), .val (.ref s2), .unset, .unset] []))
    refine own_step (b := T5.setTop (mkF m 179 #[.val (.int p0), .val (.int p1), .val (.int p2), .val (.int n1), .val (.int x0), .val (.int x1), .val (.int n2), .val (.int y0), .val (.int y1), .val (.int i1), .val (.int i2), .val (.int (1 : Int32)), .val (.ref s1), .val (.ref s2), .val (.ref a3), .val (.ref s2), .unset, .unset] [(.int n1)])) (fun _ qk => XS.iloadN X5.here hx rfl (hb hby at_178) rfl qk) ?_
    refine own_step (b := T5.setTop (mkF m 181 #[.val (.int p0), .val (.int p1), .val (.int p2), .val (.int n1), .val (.int x0), .val (.int x1), .val (.int n2), .val (.int y0), .val (.int y1), .val (.int i1), .val (.int i2), .val (.int (1 : Int32)), .val (.ref s1), .val (.ref s2), .val (.ref a3), .val (.ref s2), .unset, .unset] [(.int n2), (.int n1)])) (fun _ qk => XS.iload X5.here hx rfl (hb hby at_179) rfl qk) ?_
    refine own_icmp_ne X5 hx (hb hby at_181) (pc' := 212) (by decide) (by decide) (fun c181_22 => ?_) (fun c181_22 => ?_)
    · show own_G p e below _ (T5.setTop (mkF m 212 #[.val (.int p0), .val (.int p1), .val (.int p2), .val (.int n1), .val (.int x0), .val (.int x1), .val (.int n2), .val (.int y0), .val (.int y1), .val (.int i1), .val (.int i2), .val (.int (1 : Int32)), .val (.ref s1), .val (.ref s2), .val (.ref a3), .val (.ref s2), .unset, .unset] []))
      refine own_step (b := T5.setTop (mkF m 213 #[.val (.int p0), .val (.int p1), .val (.int p2), .val (.int n1), .val (.int x0), .val (.int x1), .val (.int n2), .val (.int y0), .val (.int y1), .val (.int i1), .val (.int i2), .val (.int (1 : Int32)), .val (.ref s1), .val (.ref s2), .val (.ref a3), .val (.ref s2), .unset, .unset] [(.int (0 : Int32))])) (fun _ qk => XS.iconst X5.here hx rfl (hb hby at_212) qk) ?_
      exact J213 _
    · show own_G p e below _ (T5.setTop (mkF m 184 #[.val (.int p0), .val (.int p1), .val (.int p2), .val (.int n1), .val (.int x0), .val (.int x1), .val (.int n2), .val (.int y0), .val (.int y1), .val (.int i1), .val (.int i2), .val (.int (1 : Int32)), .val (.ref s1), .val (.ref s2), .val (.ref a3), .val (.ref s2), .unset, .unset] []))
      refine own_step (b := T5.setTop (mkF m 185 #[.val (.int p0), .val (.int p1), .val (.int p2), .val (.int n1), .val (.int x0), .val (.int x1), .val (.int n2), .val (.int y0), .val (.int y1), .val (.int i1), .val (.int i2), .val (.int (1 : Int32)), .val (.ref s1), .val (.ref s2), .val (.ref a3), .val (.ref s2), .unset, .unset] [(.int n1)])) (fun _ qk => XS.iloadN X5.here hx rfl (hb hby at_184) rfl qk) ?_
      refine own_step (b := T5.setTop (mkF m 186 #[.val (.int p0), .val (.int p1), .val (.int p2), .val (.int n1), .val (.int x0), .val (.int x1), .val (.int n2), .val (.int y0), .val (.int y1), .val (.int i1), .val (.int i2), .val (.int (1 : Int32)), .val (.ref s1), .val (.ref s2), .val (.ref a3), .val (.ref s2), .unset, .unset] [(.int (1 : Int32)), (.int n1)])) (fun _ qk => XS.iconst X5.here hx rfl (hb hby at_185) qk) ?_
      refine own_icmp_lt X5 hx (hb hby at_186) (pc' := 196) (by decide) (by decide) (fun c186_23 => ?_) (fun c186_23 => ?_)
      · show own_G p e below _ (T5.setTop (mkF m 196 #[.val (.int p0), .val (.int p1), .val (.int p2), .val (.int n1), .val (.int x0), .val (.int x1), .val (.int n2), .val (.int y0), .val (.int y1), .val (.int i1), .val (.int i2), .val (.int (1 : Int32)), .val (.ref s1), .val (.ref s2), .val (.ref a3), .val (.ref s2), .unset, .unset] []))
        refine own_step (b := T5.setTop (mkF m 197 #[.val (.int p0), .val (.int p1), .val (.int p2), .val (.int n1), .val (.int x0), .val (.int x1), .val (.int n2), .val (.int y0), .val (.int y1), .val (.int i1), .val (.int i2), .val (.int (1 : Int32)), .val (.ref s1), .val (.ref s2), .val (.ref a3), .val (.ref s2), .unset, .unset] [(.int n1)])) (fun _ qk => XS.iloadN X5.here hx rfl (hb hby at_196) rfl qk) ?_
        refine own_step (b := T5.setTop (mkF m 198 #[.val (.int p0), .val (.int p1), .val (.int p2), .val (.int n1), .val (.int x0), .val (.int x1), .val (.int n2), .val (.int y0), .val (.int y1), .val (.int i1), .val (.int i2), .val (.int (1 : Int32)), .val (.ref s1), .val (.ref s2), .val (.ref a3), .val (.ref s2), .unset, .unset] [(.int (2 : Int32)), (.int n1)])) (fun _ qk => XS.iconst X5.here hx rfl (hb hby at_197) qk) ?_
        refine own_icmp_lt X5 hx (hb hby at_198) (pc' := 208) (by decide) (by decide) (fun c198_24 => ?_) (fun c198_24 => ?_)
        · show own_G p e below _ (T5.setTop (mkF m 208 #[.val (.int p0), .val (.int p1), .val (.int p2), .val (.int n1), .val (.int x0), .val (.int x1), .val (.int n2), .val (.int y0), .val (.int y1), .val (.int i1), .val (.int i2), .val (.int (1 : Int32)), .val (.ref s1), .val (.ref s2), .val (.ref a3), .val (.ref s2), .unset, .unset] []))
          refine own_step (b := T5.setTop (mkF m 209 #[.val (.int p0), .val (.int p1), .val (.int p2), .val (.int n1), .val (.int x0), .val (.int x1), .val (.int n2), .val (.int y0), .val (.int y1), .val (.int i1), .val (.int i2), .val (.int (1 : Int32)), .val (.ref s1), .val (.ref s2), .val (.ref a3), .val (.ref s2), .unset, .unset] [(.int (1 : Int32))])) (fun _ qk => XS.iconst X5.here hx rfl (hb hby at_208) qk) ?_
          refine own_step (b := T5.setTop (mkF m 213 #[.val (.int p0), .val (.int p1), .val (.int p2), .val (.int n1), .val (.int x0), .val (.int x1), .val (.int n2), .val (.int y0), .val (.int y1), .val (.int i1), .val (.int i2), .val (.int (1 : Int32)), .val (.ref s1), .val (.ref s2), .val (.ref a3), .val (.ref s2), .unset, .unset] [(.int (1 : Int32))])) (fun _ qk => XS.goto X5.here hx rfl (pc0 := 209) (pc' := 213) rfl (hb hby at_209) (by decide) (by decide) qk) ?_
          exact J213 _
        · show own_G p e below _ (T5.setTop (mkF m 201 #[.val (.int p0), .val (.int p1), .val (.int p2), .val (.int n1), .val (.int x0), .val (.int x1), .val (.int n2), .val (.int y0), .val (.int y1), .val (.int i1), .val (.int i2), .val (.int (1 : Int32)), .val (.ref s1), .val (.ref s2), .val (.ref a3), .val (.ref s2), .unset, .unset] []))
          refine own_step (b := T5.setTop (mkF m 203 #[.val (.int p0), .val (.int p1), .val (.int p2), .val (.int n1), .val (.int x0), .val (.int x1), .val (.int n2), .val (.int y0), .val (.int y1), .val (.int i1), .val (.int i2), .val (.int (1 : Int32)), .val (.ref s1), .val (.ref s2), .val (.ref a3), .val (.ref s2), .unset, .unset] [(.int x1)])) (fun _ qk => XS.iload X5.here hx rfl (hb hby at_201) rfl qk) ?_
          refine own_step (b := T5.setTop (mkF m 205 #[.val (.int p0), .val (.int p1), .val (.int p2), .val (.int n1), .val (.int x0), .val (.int x1), .val (.int n2), .val (.int y0), .val (.int y1), .val (.int i1), .val (.int i2), .val (.int (1 : Int32)), .val (.ref s1), .val (.ref s2), .val (.ref a3), .val (.ref s2), .unset, .unset] [(.int y1), (.int x1)])) (fun _ qk => XS.iload X5.here hx rfl (hb hby at_203) rfl qk) ?_
          refine own_icmp_ne X5 hx (hb hby at_205) (pc' := 212) (by decide) (by decide) (fun c205_25 => ?_) (fun c205_25 => ?_)
          · show own_G p e below _ (T5.setTop (mkF m 212 #[.val (.int p0), .val (.int p1), .val (.int p2), .val (.int n1), .val (.int x0), .val (.int x1), .val (.int n2), .val (.int y0), .val (.int y1), .val (.int i1), .val (.int i2), .val (.int (1 : Int32)), .val (.ref s1), .val (.ref s2), .val (.ref a3), .val (.ref s2), .unset, .unset] []))
            refine own_step (b := T5.setTop (mkF m 213 #[.val (.int p0), .val (.int p1), .val (.int p2), .val (.int n1), .val (.int x0), .val (.int x1), .val (.int n2), .val (.int y0), .val (.int y1), .val (.int i1), .val (.int i2), .val (.int (1 : Int32)), .val (.ref s1), .val (.ref s2), .val (.ref a3), .val (.ref s2), .unset, .unset] [(.int (0 : Int32))])) (fun _ qk => XS.iconst X5.here hx rfl (hb hby at_212) qk) ?_
            exact J213 _
          · show own_G p e below _ (T5.setTop (mkF m 208 #[.val (.int p0), .val (.int p1), .val (.int p2), .val (.int n1), .val (.int x0), .val (.int x1), .val (.int n2), .val (.int y0), .val (.int y1), .val (.int i1), .val (.int i2), .val (.int (1 : Int32)), .val (.ref s1), .val (.ref s2), .val (.ref a3), .val (.ref s2), .unset, .unset] []))
            refine own_step (b := T5.setTop (mkF m 209 #[.val (.int p0), .val (.int p1), .val (.int p2), .val (.int n1), .val (.int x0), .val (.int x1), .val (.int n2), .val (.int y0), .val (.int y1), .val (.int i1), .val (.int i2), .val (.int (1 : Int32)), .val (.ref s1), .val (.ref s2), .val (.ref a3), .val (.ref s2), .unset, .unset] [(.int (1 : Int32))])) (fun _ qk => XS.iconst X5.here hx rfl (hb hby at_208) qk) ?_
            refine own_step (b := T5.setTop (mkF m 213 #[.val (.int p0), .val (.int p1), .val (.int p2), .val (.int n1), .val (.int x0), .val (.int x1), .val (.int n2), .val (.int y0), .val (.int y1), .val (.int i1), .val (.int i2), .val (.int (1 : Int32)), .val (.ref s1), .val (.ref s2), .val (.ref a3), .val (.ref s2), .unset, .unset] [(.int (1 : Int32))])) (fun _ qk => XS.goto X5.here hx rfl (pc0 := 209) (pc' := 213) rfl (hb hby at_209) (by decide) (by decide) qk) ?_
            exact J213 _
      · show own_G p e below _ (T5.setTop (mkF m 189 #[.val (.int p0), .val (.int p1), .val (.int p2), .val (.int n1), .val (.int x0), .val (.int x1), .val (.int n2), .val (.int y0), .val (.int y1), .val (.int i1), .val (.int i2), .val (.int (1 : Int32)), .val (.ref s1), .val (.ref s2), .val (.ref a3), .val (.ref s2), .unset, .unset] []))
        refine own_step (b := T5.setTop (mkF m 191 #[.val (.int p0), .val (.int p1), .val (.int p2), .val (.int n1), .val (.int x0), .val (.int x1), .val (.int n2), .val (.int y0), .val (.int y1), .val (.int i1), .val (.int i2), .val (.int (1 : Int32)), .val (.ref s1), .val (.ref s2), .val (.ref a3), .val (.ref s2), .unset, .unset] [(.int x0)])) (fun _ qk => XS.iload X5.here hx rfl (hb hby at_189) rfl qk) ?_
        refine own_step (b := T5.setTop (mkF m 193 #[.val (.int p0), .val (.int p1), .val (.int p2), .val (.int n1), .val (.int x0), .val (.int x1), .val (.int n2), .val (.int y0), .val (.int y1), .val (.int i1), .val (.int i2), .val (.int (1 : Int32)), .val (.ref s1), .val (.ref s2), .val (.ref a3), .val (.ref s2), .unset, .unset] [(.int y0), (.int x0)])) (fun _ qk => XS.iload X5.here hx rfl (hb hby at_191) rfl qk) ?_
        refine own_icmp_ne X5 hx (hb hby at_193) (pc' := 212) (by decide) (by decide) (fun c193_26 => ?_) (fun c193_26 => ?_)
        · show own_G p e below _ (T5.setTop (mkF m 212 #[.val (.int p0), .val (.int p1), .val (.int p2), .val (.int n1), .val (.int x0), .val (.int x1), .val (.int n2), .val (.int y0), .val (.int y1), .val (.int i1), .val (.int i2), .val (.int (1 : Int32)), .val (.ref s1), .val (.ref s2), .val (.ref a3), .val (.ref s2), .unset, .unset] []))
          refine own_step (b := T5.setTop (mkF m 213 #[.val (.int p0), .val (.int p1), .val (.int p2), .val (.int n1), .val (.int x0), .val (.int x1), .val (.int n2), .val (.int y0), .val (.int y1), .val (.int i1), .val (.int i2), .val (.int (1 : Int32)), .val (.ref s1), .val (.ref s2), .val (.ref a3), .val (.ref s2), .unset, .unset] [(.int (0 : Int32))])) (fun _ qk => XS.iconst X5.here hx rfl (hb hby at_212) qk) ?_
          exact J213 _
        · show own_G p e below _ (T5.setTop (mkF m 196 #[.val (.int p0), .val (.int p1), .val (.int p2), .val (.int n1), .val (.int x0), .val (.int x1), .val (.int n2), .val (.int y0), .val (.int y1), .val (.int i1), .val (.int i2), .val (.int (1 : Int32)), .val (.ref s1), .val (.ref s2), .val (.ref a3), .val (.ref s2), .unset, .unset] []))
          refine own_step (b := T5.setTop (mkF m 197 #[.val (.int p0), .val (.int p1), .val (.int p2), .val (.int n1), .val (.int x0), .val (.int x1), .val (.int n2), .val (.int y0), .val (.int y1), .val (.int i1), .val (.int i2), .val (.int (1 : Int32)), .val (.ref s1), .val (.ref s2), .val (.ref a3), .val (.ref s2), .unset, .unset] [(.int n1)])) (fun _ qk => XS.iloadN X5.here hx rfl (hb hby at_196) rfl qk) ?_
          refine own_step (b := T5.setTop (mkF m 198 #[.val (.int p0), .val (.int p1), .val (.int p2), .val (.int n1), .val (.int x0), .val (.int x1), .val (.int n2), .val (.int y0), .val (.int y1), .val (.int i1), .val (.int i2), .val (.int (1 : Int32)), .val (.ref s1), .val (.ref s2), .val (.ref a3), .val (.ref s2), .unset, .unset] [(.int (2 : Int32)), (.int n1)])) (fun _ qk => XS.iconst X5.here hx rfl (hb hby at_197) qk) ?_
          refine own_icmp_lt X5 hx (hb hby at_198) (pc' := 208) (by decide) (by decide) (fun c198_27 => ?_) (fun c198_27 => ?_)
          · show own_G p e below _ (T5.setTop (mkF m 208 #[.val (.int p0), .val (.int p1), .val (.int p2), .val (.int n1), .val (.int x0), .val (.int x1), .val (.int n2), .val (.int y0), .val (.int y1), .val (.int i1), .val (.int i2), .val (.int (1 : Int32)), .val (.ref s1), .val (.ref s2), .val (.ref a3), .val (.ref s2), .unset, .unset] []))
            refine own_step (b := T5.setTop (mkF m 209 #[.val (.int p0), .val (.int p1), .val (.int p2), .val (.int n1), .val (.int x0), .val (.int x1), .val (.int n2), .val (.int y0), .val (.int y1), .val (.int i1), .val (.int i2), .val (.int (1 : Int32)), .val (.ref s1), .val (.ref s2), .val (.ref a3), .val (.ref s2), .unset, .unset] [(.int (1 : Int32))])) (fun _ qk => XS.iconst X5.here hx rfl (hb hby at_208) qk) ?_
            refine own_step (b := T5.setTop (mkF m 213 #[.val (.int p0), .val (.int p1), .val (.int p2), .val (.int n1), .val (.int x0), .val (.int x1), .val (.int n2), .val (.int y0), .val (.int y1), .val (.int i1), .val (.int i2), .val (.int (1 : Int32)), .val (.ref s1), .val (.ref s2), .val (.ref a3), .val (.ref s2), .unset, .unset] [(.int (1 : Int32))])) (fun _ qk => XS.goto X5.here hx rfl (pc0 := 209) (pc' := 213) rfl (hb hby at_209) (by decide) (by decide) qk) ?_
            exact J213 _
          · show own_G p e below _ (T5.setTop (mkF m 201 #[.val (.int p0), .val (.int p1), .val (.int p2), .val (.int n1), .val (.int x0), .val (.int x1), .val (.int n2), .val (.int y0), .val (.int y1), .val (.int i1), .val (.int i2), .val (.int (1 : Int32)), .val (.ref s1), .val (.ref s2), .val (.ref a3), .val (.ref s2), .unset, .unset] []))
            refine own_step (b := T5.setTop (mkF m 203 #[.val (.int p0), .val (.int p1), .val (.int p2), .val (.int n1), .val (.int x0), .val (.int x1), .val (.int n2), .val (.int y0), .val (.int y1), .val (.int i1), .val (.int i2), .val (.int (1 : Int32)), .val (.ref s1), .val (.ref s2), .val (.ref a3), .val (.ref s2), .unset, .unset] [(.int x1)])) (fun _ qk => XS.iload X5.here hx rfl (hb hby at_201) rfl qk) ?_
            refine own_step (b := T5.setTop (mkF m 205 #[.val (.int p0), .val (.int p1), .val (.int p2), .val (.int n1), .val (.int x0), .val (.int x1), .val (.int n2), .val (.int y0), .val (.int y1), .val (.int i1), .val (.int i2), .val (.int (1 : Int32)), .val (.ref s1), .val (.ref s2), .val (.ref a3), .val (.ref s2), .unset, .unset] [(.int y1), (.int x1)])) (fun _ qk => XS.iload X5.here hx rfl (hb hby at_203) rfl qk) ?_
            refine own_icmp_ne X5 hx (hb hby at_205) (pc' := 212) (by decide) (by decide) (fun c205_28 => ?_) (fun c205_28 => ?_)
            · show own_G p e below _ (T5.setTop (mkF m 212 #[.val (.int p0), .val (.int p1), .val (.int p2), .val (.int n1), .val (.int x0), .val (.int x1), .val (.int n2), .val (.int y0), .val (.int y1), .val (.int i1), .val (.int i2), .val (.int (1 : Int32)), .val (.ref s1), .val (.ref s2), .val (.ref a3), .val (.ref s2), .unset, .unset] []))
              refine own_step (b := T5.setTop (mkF m 213 #[.val (.int p0), .val (.int p1), .val (.int p2), .val (.int n1), .val (.int x0), .val (.int x1), .val (.int n2), .val (.int y0), .val (.int y1), .val (.int i1), .val (.int i2), .val (.int (1 : Int32)), .val (.ref s1), .val (.ref s2), .val (.ref a3), .val (.ref s2), .unset, .unset] [(.int (0 : Int32))])) (fun _ qk => XS.iconst X5.here hx rfl (hb hby at_212) qk) ?_
              exact J213 _
            · show own_G p e below _ (T5.setTop (mkF m 208 #[.val (.int p0), .val (.int p1), .val (.int p2), .val (.int n1), .val (.int x0), .val (.int x1), .val (.int n2), .val (.int y0), .val (.int y1), .val (.int i1), .val (.int i2), .val (.int (1 : Int32)), .val (.ref s1), .val (.ref s2), .val (.ref a3), .val (.ref s2), .unset, .unset] []))
              refine own_step (b := T5.setTop (mkF m 209 #[.val (.int p0), .val (.int p1), .val (.int p2), .val (.int n1), .val (.int x0), .val (.int x1), .val (.int n2), .val (.int y0), .val (.int y1), .val (.int i1), .val (.int i2), .val (.int (1 : Int32)), .val (.ref s1), .val (.ref s2), .val (.ref a3), .val (.ref s2), .unset, .unset] [(.int (1 : Int32))])) (fun _ qk => XS.iconst X5.here hx rfl (hb hby at_208) qk) ?_
              refine own_step (b := T5.setTop (mkF m 213 #[.val (.int p0), .val (.int p1), .val (.int p2), .val (.int n1), .val (.int x0), .val (.int x1), .val (.int n2), .val (.int y0), .val (.int y1), .val (.int i1), .val (.int i2), .val (.int (1 : Int32)), .val (.ref s1), .val (.ref s2), .val (.ref a3), .val (.ref s2), .unset, .unset] [(.int (1 : Int32))])) (fun _ qk => XS.goto X5.here hx rfl (pc0 := 209) (pc' := 213) rfl (hb hby at_209) (by decide) (by decide) qk) ?_
              exact J213 _
  · show own_G p e below _ (T5.setTop (mkF m 125 #[.val (.int p0), .val (.int p1), .val (.int p2), .val (.int n1), .val (.int x0), .val (.int x1), .val (.int n2), .val (.int y0), .val (.int y1), .val (.int i1), .val (.int i2), .val (.int (2 : Int32)), .val (.ref s1), .val (.ref s2), .val (.ref a3), .unset, .unset, .unset] []))
    show own_G p e below _ (T5.setTop (mkF m 125 #[.val (.int p0), .val (.int p1), .val (.int p2), .val (.int n1), .val (.int x0), .val (.int x1), .val (.int n2), .val (.int y0), .val (.int y1), .val (.int i1), .val (.int i2), .val (.int (2 : Int32)), .val (.ref s1), .val (.ref s2), .val (.ref a3), .unset, .unset, .unset] []))
    refine own_step (b := T5.setTop (mkF m 127 #[.val (.int p0), .val (.int p1), .val (.int p2), .val (.int n1), .val (.int x0), .val (.int x1), .val (.int n2), .val (.int y0), .val (.int y1), .val (.int i1), .val (.int i2), .val (.int (2 : Int32)), .val (.ref s1), .val (.ref s2), .val (.ref a3), .unset, .unset, .unset] [(.int (2 : Int32))])) (fun _ qk => XS.iload X5.here hx rfl (hb hby at_125) rfl qk) ?_
    refine own_if_ne X5 hx (hb hby at_127) (pc' := 136) (by decide) (by decide) (fun c127_29 => ?_) (fun c127_29 => absurd c127_29 (by decide))
    show own_G p e below _ (T5.setTop (mkF m 136 #[.val (.int p0), .val (.int p1), .val (.int p2), .val (.int n1), .val (.int x0), .val (.int x1), .val (.int n2), .val (.int y0), .val (.int y1), .val (.int i1), .val (.int i2), .val (.int (2 : Int32)), .val (.ref s1), .val (.ref s2), .val (.ref a3), .unset, .unset, .unset] []))
    refine own_step (b := T5.setTop (mkF m 138 #[.val (.int p0), .val (.int p1), .val (.int p2), .val (.int n1), .val (.int x0), .val (.int x1), .val (.int n2), .val (.int y0), .val (.int y1), .val (.int i1), .val (.int i2), .val (.int (2 : Int32)), .val (.ref s1), .val (.ref s2), .val (.ref a3), .unset, .unset, .unset] [(.int (2 : Int32))])) (fun _ qk => XS.iload X5.here hx rfl (hb hby at_136) rfl qk) ?_
    refine own_step (b := T5.setTop (mkF m 139 #[.val (.int p0), .val (.int p1), .val (.int p2), .val (.int n1), .val (.int x0), .val (.int x1), .val (.int n2), .val (.int y0), .val (.int y1), .val (.int i1), .val (.int i2), .val (.int (2 : Int32)), .val (.ref s1), .val (.ref s2), .val (.ref a3), .unset, .unset, .unset] [(.int (1 : Int32)), (.int (2 : Int32))])) (fun _ qk => XS.iconst X5.here hx rfl (hb hby at_138) qk) ?_
    refine own_icmp_ne X5 hx (hb hby at_139) (pc' := 149) (by decide) (by decide) (fun c139_30 => ?_) (fun c139_30 => absurd c139_30 (by decide))
    show own_G p e below _ (T5.setTop (mkF m 149 #[.val (.int p0), .val (.int p1), .val (.int p2), .val (.int n1), .val (.int x0), .val (.int x1), .val (.int n2), .val (.int y0), .val (.int y1), .val (.int i1), .val (.int i2), .val (.int (2 : Int32)), .val (.ref s1), .val (.ref s2), .val (.ref a3), .unset, .unset, .unset] []))
    refine own_step (b := T5.setTop (mkF m 151 #[.val (.int p0), .val (.int p1), .val (.int p2), .val (.int n1), .val (.int x0), .val (.int x1), .val (.int n2), .val (.int y0), .val (.int y1), .val (.int i1), .val (.int i2), .val (.int (2 : Int32)), .val (.ref s1), .val (.ref s2), .val (.ref a3), .unset, .unset, .unset] [(.int (2 : Int32))])) (fun _ qk => XS.iload X5.here hx rfl (hb hby at_149) rfl qk) ?_
    refine own_step (b := T5.setTop (mkF m 152 #[.val (.int p0), .val (.int p1), .val (.int p2), .val (.int n1), .val (.int x0), .val (.int x1), .val (.int n2), .val (.int y0), .val (.int y1), .val (.int i1), .val (.int i2), .val (.int (2 : Int32)), .val (.ref s1), .val (.ref s2), .val (.ref a3), .unset, .unset, .unset] [(.int (2 : Int32)), (.int (2 : Int32))])) (fun _ qk => XS.iconst X5.here hx rfl (hb hby at_151) qk) ?_
    refine own_icmp_ne X5 hx (hb hby at_152) (pc' := 174) (by decide) (by decide) (fun c152_31 => absurd c152_31 (by decide)) (fun c152_31 => ?_)
    show own_G p e below _ (T5.setTop (mkF m 155 #[.val (.int p0), .val (.int p1), .val (.int p2), .val (.int n1), .val (.int x0), .val (.int x1), .val (.int n2), .val (.int y0), .val (.int y1), .val (.int i1), .val (.int i2), .val (.int (2 : Int32)), .val (.ref s1), .val (.ref s2), .val (.ref a3), .unset, .unset, .unset] []))
    refine own_newO X5 hx hZ hown (own_w hw 34 rfl) (own_w hw 35 rfl) (own_w hw 36 rfl) rfl (hb hby at_155) (by decide) (by decide) (fun T32 h32 a32 X32 e32 g32 l32 E32 A32 D32 => ?_)
    show own_G p e below _ (T32.setTop (mkF m 158 #[.val (.int p0), .val (.int p1), .val (.int p2), .val (.int n1), .val (.int x0), .val (.int x1), .val (.int n2), .val (.int y0), .val (.int y1), .val (.int i1), .val (.int i2), .val (.int (2 : Int32)), .val (.ref s1), .val (.ref s2), .val (.ref a3), .unset, .unset, .unset] [(.ref a32)]))
    have OL32 := OL5.ext E32
    refine own_step (b := T32.setTop (mkF m 159 #[.val (.int p0), .val (.int p1), .val (.int p2), .val (.int n1), .val (.int x0), .val (.int x1), .val (.int n2), .val (.int y0), .val (.int y1), .val (.int i1), .val (.int i2), .val (.int (2 : Int32)), .val (.ref s1), .val (.ref s2), .val (.ref a3), .unset, .unset, .unset] [(.ref a32), (.ref a32)])) (fun _ qk => XS.dup X32.here hx rfl (hb hby at_158) rfl rfl qk) ?_
    refine own_step (b := T32.setTop (mkF m 161 #[.val (.int p0), .val (.int p1), .val (.int p2), .val (.int n1), .val (.int x0), .val (.int x1), .val (.int n2), .val (.int y0), .val (.int y1), .val (.int i1), .val (.int i2), .val (.int (2 : Int32)), .val (.ref s1), .val (.ref s2), .val (.ref a3), .unset, .unset, .unset] [(.ref s2), (.ref a32), (.ref a32)])) (fun _ qk => XS.aload X32.here hx rfl (hb hby at_159) rfl rfl qk) ?_
    refine own_step (b := T32.setTop (mkF m 163 #[.val (.int p0), .val (.int p1), .val (.int p2), .val (.int n1), .val (.int x0), .val (.int x1), .val (.int n2), .val (.int y0), .val (.int y1), .val (.int i1), .val (.int i2), .val (.int (2 : Int32)), .val (.ref s1), .val (.ref s2), .val (.ref a3), .unset, .unset, .unset] [(.int i2), (.ref s2), (.ref a32), (.ref a32)])) (fun _ qk => XS.iload X32.here hx rfl (hb hby at_161) rfl qk) ?_
    refine own_staticP (W := 3) (argsL := [(.int i2)]) (st := [(.ref s2), (.ref a32), (.ref a32)]) X32 hx hZ hown (own_w hw 37 rfl) (own_w hw 38 rfl) (own_w hw 2 rfl) (own_w hw 39 rfl) (by decide) e32 (rmPh l Z a0 hw [] i2 h32 OL32 q0 q1 q2 Q0 Q1 Q2) (by decide) (by decide) (by decide) (by decide) (by rw [hml]; rfl) (lenOf pd9 rfl) rfl (Nat.le_of_ble_eq_true rfl) (hb hby at_163) (fun T33 X33 e33 => ?_)
    show own_G p e below _ (T33.setTop (mkF m 166 #[.val (.int p0), .val (.int p1), .val (.int p2), .val (.int n1), .val (.int x0), .val (.int x1), .val (.int n2), .val (.int y0), .val (.int y1), .val (.int i1), .val (.int i2), .val (.int (2 : Int32)), .val (.ref s1), .val (.ref s2), .val (.ref a3), .unset, .unset, .unset] [(.ref (own_ph q0 q1 q2 i2)), (.ref s2), (.ref a32), (.ref a32)]))
    refine own_special (a := a32) (W := 1) (argsL := [(.ref s2), (.ref (own_ph q0 q1 q2 i2))]) (st := [(.ref a32)]) X33 hx hZ hown rfl (own_w hw 43 rfl) (own_w hw 44 rfl) (own_w hw 45 rfl) (by decide) e33 (own_back (W := 1) (rmSi l Z a0 hw [] a32 s2 (own_ph q0 q1 q2 i2) h32 (by omega) A32 (D32 (Or.inr (own_w hw 53 rfl)) (ty := (.object "java/lang/String")) (by decide)) (D32 (Or.inr (own_w hw 55 rfl)) (ty := (.object "com/example/unganisha/unganisha/engine/CreationOrder$Phase")) (by decide))) hZ (own_w hw 45 rfl) (own_w hw 36 rfl) (by decide) (by decide)) (by decide) (by decide) (by rw [hml]; rfl) (lenOf pd10 rfl) rfl (Nat.le_of_ble_eq_true rfl) (hb hby at_166) (fun v34 T34 L34 X34 hQ34 => ?_)
    obtain ⟨rfl, M34, K34, Ex34, Fb34, Fp34⟩ := hQ34
    have z34 : h32.size ≤ T34.heap.size := K34.1
    have N34 := Fr.app N5 M34
    have OL34 := OL32.keep K34 (allS (by omega) all0)
    have EE34 : Ext T5.heap T34.heap := own_ext (((Keep.refl T5.heap []).ext E32).trans K34 (allS (Or.inr (by omega)) all0))
    show own_G p e below _ (T34.setTop (mkF m 169 #[.val (.int p0), .val (.int p1), .val (.int p2), .val (.int n1), .val (.int x0), .val (.int x1), .val (.int n2), .val (.int y0), .val (.int y1), .val (.int i1), .val (.int i2), .val (.int (2 : Int32)), .val (.ref s1), .val (.ref s2), .val (.ref a3), .unset, .unset, .unset] [(.ref a32)]))
    have S1d := S1c.ext EE34
    have S2d := S2c.ext EE34
    have Exd := Ex5.ext EE34
    have Fbd := Fb5.ext EE34
    have Fpd := Fp5.ext EE34
    refine own_step (b := T34.setTop (mkF m 171 #[.val (.int p0), .val (.int p1), .val (.int p2), .val (.int n1), .val (.int x0), .val (.int x1), .val (.int n2), .val (.int y0), .val (.int y1), .val (.int i1), .val (.int i2), .val (.int (2 : Int32)), .val (.ref s1), .val (.ref s2), .val (.ref a3), .val (.ref a32), .unset, .unset] [])) (fun _ qk => XS.astore X34.here hx rfl (hb hby at_169) rfl rfl (l' := #[.val (.int p0), .val (.int p1), .val (.int p2), .val (.int n1), .val (.int x0), .val (.int x1), .val (.int n2), .val (.int y0), .val (.int y1), .val (.int i1), .val (.int i2), .val (.int (2 : Int32)), .val (.ref s1), .val (.ref s2), .val (.ref a3), .val (.ref a32), .unset, .unset]) rfl qk) ?_
    refine own_step (b := T34.setTop (mkF m 178 #[.val (.int p0), .val (.int p1), .val (.int p2), .val (.int n1), .val (.int x0), .val (.int x1), .val (.int n2), .val (.int y0), .val (.int y1), .val (.int i1), .val (.int i2), .val (.int (2 : Int32)), .val (.ref s1), .val (.ref s2), .val (.ref a3), .val (.ref a32), .unset, .unset] [])) (fun _ qk => XS.goto X34.here hx rfl (pc0 := 171) (pc' := 178) rfl (hb hby at_171) (by decide) (by decide) qk) ?_
    have J213 : ∀ sb : Int32, sb = own_bi (decide (n1 = n2) && (decide (n1 < 1) || decide (x0 = y0)) && (decide (n1 < 2) || decide (x1 = y1))) → own_G p e below (own_FI s (fun v vm h L => v = some (.int 1) ∧ Fr Z.heap.size L) room_1.cells room_1.slots) (T34.setTop (mkF m 213 #[.val (.int p0), .val (.int p1), .val (.int p2), .val (.int n1), .val (.int x0), .val (.int x1), .val (.int n2), .val (.int y0), .val (.int y1), .val (.int i1), .val (.int i2), .val (.int (2 : Int32)), .val (.ref s1), .val (.ref s2), .val (.ref a3), .val (.ref a32), .unset, .unset] [(.int sb)])) := by
      intro sb hsb
      show own_G p e below _ (T34.setTop (mkF m 213 #[.val (.int p0), .val (.int p1), .val (.int p2), .val (.int n1), .val (.int x0), .val (.int x1), .val (.int n2), .val (.int y0), .val (.int y1), .val (.int i1), .val (.int i2), .val (.int (2 : Int32)), .val (.ref s1), .val (.ref s2), .val (.ref a3), .val (.ref a32), .unset, .unset] [(.int sb)]))
      refine own_step (b := T34.setTop (mkF m 215 #[.val (.int p0), .val (.int p1), .val (.int p2), .val (.int n1), .val (.int x0), .val (.int x1), .val (.int n2), .val (.int y0), .val (.int y1), .val (.int i1), .val (.int i2), .val (.int (2 : Int32)), .val (.ref s1), .val (.ref s2), .val (.ref a3), .val (.ref a32), .val (.int sb), .unset] [])) (fun _ qk => XS.istore X34.here hx rfl (hb hby at_213) rfl (l' := #[.val (.int p0), .val (.int p1), .val (.int p2), .val (.int n1), .val (.int x0), .val (.int x1), .val (.int n2), .val (.int y0), .val (.int y1), .val (.int i1), .val (.int i2), .val (.int (2 : Int32)), .val (.ref s1), .val (.ref s2), .val (.ref a3), .val (.ref a32), .val (.int sb), .unset]) rfl qk) ?_
      refine own_step (b := T34.setTop (mkF m 217 #[.val (.int p0), .val (.int p1), .val (.int p2), .val (.int n1), .val (.int x0), .val (.int x1), .val (.int n2), .val (.int y0), .val (.int y1), .val (.int i1), .val (.int i2), .val (.int (2 : Int32)), .val (.ref s1), .val (.ref s2), .val (.ref a3), .val (.ref a32), .val (.int sb), .unset] [(.int (2 : Int32))])) (fun _ qk => XS.iload X34.here hx rfl (hb hby at_215) rfl qk) ?_
      refine own_step (b := T34.setTop (mkF m 218 #[.val (.int p0), .val (.int p1), .val (.int p2), .val (.int n1), .val (.int x0), .val (.int x1), .val (.int n2), .val (.int y0), .val (.int y1), .val (.int i1), .val (.int i2), .val (.int (2 : Int32)), .val (.ref s1), .val (.ref s2), .val (.ref a3), .val (.ref a32), .val (.int sb), .unset] [(.int (2 : Int32)), (.int (2 : Int32))])) (fun _ qk => XS.iconst X34.here hx rfl (hb hby at_217) qk) ?_
      refine own_icmp_ge X34 hx (hb hby at_218) (pc' := 227) (by decide) (by decide) (fun c218_35 => ?_) (fun c218_35 => absurd c218_35 (by decide))
      show own_G p e below _ (T34.setTop (mkF m 227 #[.val (.int p0), .val (.int p1), .val (.int p2), .val (.int n1), .val (.int x0), .val (.int x1), .val (.int n2), .val (.int y0), .val (.int y1), .val (.int i1), .val (.int i2), .val (.int (2 : Int32)), .val (.ref s1), .val (.ref s2), .val (.ref a3), .val (.ref a32), .val (.int sb), .unset] []))
      refine own_step (b := T34.setTop (mkF m 229 #[.val (.int p0), .val (.int p1), .val (.int p2), .val (.int n1), .val (.int x0), .val (.int x1), .val (.int n2), .val (.int y0), .val (.int y1), .val (.int i1), .val (.int i2), .val (.int (2 : Int32)), .val (.ref s1), .val (.ref s2), .val (.ref a3), .val (.ref a32), .val (.int sb), .unset] [(.int (2 : Int32))])) (fun _ qk => XS.iload X34.here hx rfl (hb hby at_227) rfl qk) ?_
      refine own_step (b := T34.setTop (mkF m 230 #[.val (.int p0), .val (.int p1), .val (.int p2), .val (.int n1), .val (.int x0), .val (.int x1), .val (.int n2), .val (.int y0), .val (.int y1), .val (.int i1), .val (.int i2), .val (.int (2 : Int32)), .val (.ref s1), .val (.ref s2), .val (.ref a3), .val (.ref a32), .val (.int sb), .unset] [(.int (2 : Int32)), (.int (2 : Int32))])) (fun _ qk => XS.iconst X34.here hx rfl (hb hby at_229) qk) ?_
      refine own_icmp_ne X34 hx (hb hby at_230) (pc' := 255) (by decide) (by decide) (fun c230_36 => absurd c230_36 (by decide)) (fun c230_36 => ?_)
      show own_G p e below _ (T34.setTop (mkF m 233 #[.val (.int p0), .val (.int p1), .val (.int p2), .val (.int n1), .val (.int x0), .val (.int x1), .val (.int n2), .val (.int y0), .val (.int y1), .val (.int i1), .val (.int i2), .val (.int (2 : Int32)), .val (.ref s1), .val (.ref s2), .val (.ref a3), .val (.ref a32), .val (.int sb), .unset] []))
      refine own_step (b := T34.setTop (mkF m 235 #[.val (.int p0), .val (.int p1), .val (.int p2), .val (.int n1), .val (.int x0), .val (.int x1), .val (.int n2), .val (.int y0), .val (.int y1), .val (.int i1), .val (.int i2), .val (.int (2 : Int32)), .val (.ref s1), .val (.ref s2), .val (.ref a3), .val (.ref a32), .val (.int sb), .unset] [(.int sb)])) (fun _ qk => XS.iload X34.here hx rfl (hb hby at_233) rfl qk) ?_
      refine own_if_eq X34 hx (hb hby at_235) (pc' := 249) (by decide) (by decide) (fun cs => ?_) (fun cs => ?_)
      · show own_G p e below _ (T34.setTop (mkF m 249 #[.val (.int p0), .val (.int p1), .val (.int p2), .val (.int n1), .val (.int x0), .val (.int x1), .val (.int n2), .val (.int y0), .val (.int y1), .val (.int i1), .val (.int i2), .val (.int (2 : Int32)), .val (.ref s1), .val (.ref s2), .val (.ref a3), .val (.ref a32), .val (.int sb), .unset] []))
        rw [hsb] at cs
        have csb := own_bi_f cs
        refine own_step (b := T34.setTop (mkF m 250 #[.val (.int p0), .val (.int p1), .val (.int p2), .val (.int n1), .val (.int x0), .val (.int x1), .val (.int n2), .val (.int y0), .val (.int y1), .val (.int i1), .val (.int i2), .val (.int (2 : Int32)), .val (.ref s1), .val (.ref s2), .val (.ref a3), .val (.ref a32), .val (.int sb), .unset] [(.int (0 : Int32))])) (fun _ qk => XS.iconst X34.here hx rfl (hb hby at_249) qk) ?_
        refine own_step (b := T34.setTop (mkF m 252 #[.val (.int p0), .val (.int p1), .val (.int p2), .val (.int n1), .val (.int x0), .val (.int x1), .val (.int n2), .val (.int y0), .val (.int y1), .val (.int i1), .val (.int i2), .val (.int (2 : Int32)), .val (.ref s1), .val (.ref s2), .val (.ref a3), .val (.ref a32), .val (.int sb), .val (.int (0 : Int32))] [])) (fun _ qk => XS.istore X34.here hx rfl (hb hby at_250) rfl (l' := #[.val (.int p0), .val (.int p1), .val (.int p2), .val (.int n1), .val (.int x0), .val (.int x1), .val (.int n2), .val (.int y0), .val (.int y1), .val (.int i1), .val (.int i2), .val (.int (2 : Int32)), .val (.ref s1), .val (.ref s2), .val (.ref a3), .val (.ref a32), .val (.int sb), .val (.int (0 : Int32))]) rfl qk) ?_
        refine own_step (b := T34.setTop (mkF m 258 #[.val (.int p0), .val (.int p1), .val (.int p2), .val (.int n1), .val (.int x0), .val (.int x1), .val (.int n2), .val (.int y0), .val (.int y1), .val (.int i1), .val (.int i2), .val (.int (2 : Int32)), .val (.ref s1), .val (.ref s2), .val (.ref a3), .val (.ref a32), .val (.int sb), .val (.int (0 : Int32))] [])) (fun _ qk => XS.goto X34.here hx rfl (pc0 := 252) (pc' := 258) rfl (hb hby at_252) (by decide) (by decide) qk) ?_
        refine own_step (b := T34.setTop (mkF m 260 #[.val (.int p0), .val (.int p1), .val (.int p2), .val (.int n1), .val (.int x0), .val (.int x1), .val (.int n2), .val (.int y0), .val (.int y1), .val (.int i1), .val (.int i2), .val (.int (2 : Int32)), .val (.ref s1), .val (.ref s2), .val (.ref a3), .val (.ref a32), .val (.int sb), .val (.int (0 : Int32))] [(.ref a3)])) (fun _ qk => XS.aload X34.here hx rfl (hb hby at_258) rfl rfl qk) ?_
        refine own_step (b := T34.setTop (mkF m 262 #[.val (.int p0), .val (.int p1), .val (.int p2), .val (.int n1), .val (.int x0), .val (.int x1), .val (.int n2), .val (.int y0), .val (.int y1), .val (.int i1), .val (.int i2), .val (.int (2 : Int32)), .val (.ref s1), .val (.ref s2), .val (.ref a3), .val (.ref a32), .val (.int sb), .val (.int (0 : Int32))] [(.ref a32), (.ref a3)])) (fun _ qk => XS.aload X34.here hx rfl (hb hby at_260) rfl rfl qk) ?_
        refine own_virtualP (a := a3) (W := 0) (argsL := [(.ref a32)]) (st := []) X34 hx hZ hown (own_w hw 56 rfl) (own_w hw 57 rfl) (own_w hw 59 rfl) rfl (own_w hw 58 rfl) (by decide) rfl Exd (rmEq l Z a0 hw [] a3 a32 s1 s2 (own_ph q0 q1 q2 i1) (own_ph q0 q1 q2 i2) (own_tx n1 x0 x1) (own_tx n2 y0 y1) T34.heap Ex34 Fbd Fpd Fb34 Fp34 S1d S2d OL34 G1 O2 P5) (own_w hw 60 rfl) (own_w hw 36 rfl) (by decide) (by decide) (by decide) (by decide) (by rw [hml]; rfl) (lenOf pd7 rfl) rfl (Nat.le_of_ble_eq_true rfl) (hb hby at_262) (fun T37 X37 e37 => ?_)
        show own_G p e below _ (T37.setTop (mkF m 265 #[.val (.int p0), .val (.int p1), .val (.int p2), .val (.int n1), .val (.int x0), .val (.int x1), .val (.int n2), .val (.int y0), .val (.int y1), .val (.int i1), .val (.int i2), .val (.int (2 : Int32)), .val (.ref s1), .val (.ref s2), .val (.ref a3), .val (.ref a32), .val (.int sb), .val (.int (0 : Int32))] [(.int (own_bi (decide (own_tx n1 x0 x1 = own_tx n2 y0 y1) && decide (own_ph q0 q1 q2 i1 = own_ph q0 q1 q2 i2))))]))
        refine own_step (b := T37.setTop (mkF m 267 #[.val (.int p0), .val (.int p1), .val (.int p2), .val (.int n1), .val (.int x0), .val (.int x1), .val (.int n2), .val (.int y0), .val (.int y1), .val (.int i1), .val (.int i2), .val (.int (2 : Int32)), .val (.ref s1), .val (.ref s2), .val (.ref a3), .val (.ref a32), .val (.int sb), .val (.int (0 : Int32))] [(.int (0 : Int32)), (.int (own_bi (decide (own_tx n1 x0 x1 = own_tx n2 y0 y1) && decide (own_ph q0 q1 q2 i1 = own_ph q0 q1 q2 i2))))])) (fun _ qk => XS.iload X37.here hx rfl (hb hby at_265) rfl qk) ?_
        have hm38 : (decide (own_tx n1 x0 x1 = own_tx n2 y0 y1) && decide (own_ph q0 q1 q2 i1 = own_ph q0 q1 q2 i2)) = false := by rw [own_tx_eq R_n1 R_n2, own_ph_eq R_i1 R_i2 h01 h02 h12]; simp only [csb, Bool.false_and]
        refine own_icmp_ne X37 hx (hb hby at_267) (pc' := 274) (by decide) (by decide) (fun cf38 => absurd (by rw [hm38]; rfl) cf38) (fun cf38 => ?_)
        show own_G p e below _ (T37.setTop (mkF m 270 #[.val (.int p0), .val (.int p1), .val (.int p2), .val (.int n1), .val (.int x0), .val (.int x1), .val (.int n2), .val (.int y0), .val (.int y1), .val (.int i1), .val (.int i2), .val (.int (2 : Int32)), .val (.ref s1), .val (.ref s2), .val (.ref a3), .val (.ref a32), .val (.int sb), .val (.int (0 : Int32))] []))
        refine own_step (b := T37.setTop (mkF m 271 #[.val (.int p0), .val (.int p1), .val (.int p2), .val (.int n1), .val (.int x0), .val (.int x1), .val (.int n2), .val (.int y0), .val (.int y1), .val (.int i1), .val (.int i2), .val (.int (2 : Int32)), .val (.ref s1), .val (.ref s2), .val (.ref a3), .val (.ref a32), .val (.int sb), .val (.int (0 : Int32))] [(.int (1 : Int32))])) (fun _ qk => XS.iconst X37.here hx rfl (hb hby at_270) qk) ?_
        refine own_step (b := T37.setTop (mkF m 275 #[.val (.int p0), .val (.int p1), .val (.int p2), .val (.int n1), .val (.int x0), .val (.int x1), .val (.int n2), .val (.int y0), .val (.int y1), .val (.int i1), .val (.int i2), .val (.int (2 : Int32)), .val (.ref s1), .val (.ref s2), .val (.ref a3), .val (.ref a32), .val (.int sb), .val (.int (0 : Int32))] [(.int (1 : Int32))])) (fun _ qk => XS.goto X37.here hx rfl (pc0 := 271) (pc' := 275) rfl (hb hby at_271) (by decide) (by decide) qk) ?_
        exact own_retXN X37 hx hS (by rw [show T37.heap = T34.heap from e37]; omega) hret (by simp) hlk (hb hby at_275) ⟨rfl, N34⟩ (by decide) (by decide)
      · show own_G p e below _ (T34.setTop (mkF m 238 #[.val (.int p0), .val (.int p1), .val (.int p2), .val (.int n1), .val (.int x0), .val (.int x1), .val (.int n2), .val (.int y0), .val (.int y1), .val (.int i1), .val (.int i2), .val (.int (2 : Int32)), .val (.ref s1), .val (.ref s2), .val (.ref a3), .val (.ref a32), .val (.int sb), .unset] []))
        rw [hsb] at cs
        have csb := own_bi_t cs
        refine own_step (b := T34.setTop (mkF m 240 #[.val (.int p0), .val (.int p1), .val (.int p2), .val (.int n1), .val (.int x0), .val (.int x1), .val (.int n2), .val (.int y0), .val (.int y1), .val (.int i1), .val (.int i2), .val (.int (2 : Int32)), .val (.ref s1), .val (.ref s2), .val (.ref a3), .val (.ref a32), .val (.int sb), .unset] [(.int i1)])) (fun _ qk => XS.iload X34.here hx rfl (hb hby at_238) rfl qk) ?_
        refine own_step (b := T34.setTop (mkF m 242 #[.val (.int p0), .val (.int p1), .val (.int p2), .val (.int n1), .val (.int x0), .val (.int x1), .val (.int n2), .val (.int y0), .val (.int y1), .val (.int i1), .val (.int i2), .val (.int (2 : Int32)), .val (.ref s1), .val (.ref s2), .val (.ref a3), .val (.ref a32), .val (.int sb), .unset] [(.int i2), (.int i1)])) (fun _ qk => XS.iload X34.here hx rfl (hb hby at_240) rfl qk) ?_
        refine own_icmp_ne X34 hx (hb hby at_242) (pc' := 249) (by decide) (by decide) (fun ci => ?_) (fun ci => ?_)
        · show own_G p e below _ (T34.setTop (mkF m 249 #[.val (.int p0), .val (.int p1), .val (.int p2), .val (.int n1), .val (.int x0), .val (.int x1), .val (.int n2), .val (.int y0), .val (.int y1), .val (.int i1), .val (.int i2), .val (.int (2 : Int32)), .val (.ref s1), .val (.ref s2), .val (.ref a3), .val (.ref a32), .val (.int sb), .unset] []))
          refine own_step (b := T34.setTop (mkF m 250 #[.val (.int p0), .val (.int p1), .val (.int p2), .val (.int n1), .val (.int x0), .val (.int x1), .val (.int n2), .val (.int y0), .val (.int y1), .val (.int i1), .val (.int i2), .val (.int (2 : Int32)), .val (.ref s1), .val (.ref s2), .val (.ref a3), .val (.ref a32), .val (.int sb), .unset] [(.int (0 : Int32))])) (fun _ qk => XS.iconst X34.here hx rfl (hb hby at_249) qk) ?_
          refine own_step (b := T34.setTop (mkF m 252 #[.val (.int p0), .val (.int p1), .val (.int p2), .val (.int n1), .val (.int x0), .val (.int x1), .val (.int n2), .val (.int y0), .val (.int y1), .val (.int i1), .val (.int i2), .val (.int (2 : Int32)), .val (.ref s1), .val (.ref s2), .val (.ref a3), .val (.ref a32), .val (.int sb), .val (.int (0 : Int32))] [])) (fun _ qk => XS.istore X34.here hx rfl (hb hby at_250) rfl (l' := #[.val (.int p0), .val (.int p1), .val (.int p2), .val (.int n1), .val (.int x0), .val (.int x1), .val (.int n2), .val (.int y0), .val (.int y1), .val (.int i1), .val (.int i2), .val (.int (2 : Int32)), .val (.ref s1), .val (.ref s2), .val (.ref a3), .val (.ref a32), .val (.int sb), .val (.int (0 : Int32))]) rfl qk) ?_
          refine own_step (b := T34.setTop (mkF m 258 #[.val (.int p0), .val (.int p1), .val (.int p2), .val (.int n1), .val (.int x0), .val (.int x1), .val (.int n2), .val (.int y0), .val (.int y1), .val (.int i1), .val (.int i2), .val (.int (2 : Int32)), .val (.ref s1), .val (.ref s2), .val (.ref a3), .val (.ref a32), .val (.int sb), .val (.int (0 : Int32))] [])) (fun _ qk => XS.goto X34.here hx rfl (pc0 := 252) (pc' := 258) rfl (hb hby at_252) (by decide) (by decide) qk) ?_
          refine own_step (b := T34.setTop (mkF m 260 #[.val (.int p0), .val (.int p1), .val (.int p2), .val (.int n1), .val (.int x0), .val (.int x1), .val (.int n2), .val (.int y0), .val (.int y1), .val (.int i1), .val (.int i2), .val (.int (2 : Int32)), .val (.ref s1), .val (.ref s2), .val (.ref a3), .val (.ref a32), .val (.int sb), .val (.int (0 : Int32))] [(.ref a3)])) (fun _ qk => XS.aload X34.here hx rfl (hb hby at_258) rfl rfl qk) ?_
          refine own_step (b := T34.setTop (mkF m 262 #[.val (.int p0), .val (.int p1), .val (.int p2), .val (.int n1), .val (.int x0), .val (.int x1), .val (.int n2), .val (.int y0), .val (.int y1), .val (.int i1), .val (.int i2), .val (.int (2 : Int32)), .val (.ref s1), .val (.ref s2), .val (.ref a3), .val (.ref a32), .val (.int sb), .val (.int (0 : Int32))] [(.ref a32), (.ref a3)])) (fun _ qk => XS.aload X34.here hx rfl (hb hby at_260) rfl rfl qk) ?_
          refine own_virtualP (a := a3) (W := 0) (argsL := [(.ref a32)]) (st := []) X34 hx hZ hown (own_w hw 56 rfl) (own_w hw 57 rfl) (own_w hw 59 rfl) rfl (own_w hw 58 rfl) (by decide) rfl Exd (rmEq l Z a0 hw [] a3 a32 s1 s2 (own_ph q0 q1 q2 i1) (own_ph q0 q1 q2 i2) (own_tx n1 x0 x1) (own_tx n2 y0 y1) T34.heap Ex34 Fbd Fpd Fb34 Fp34 S1d S2d OL34 G1 O2 P5) (own_w hw 60 rfl) (own_w hw 36 rfl) (by decide) (by decide) (by decide) (by decide) (by rw [hml]; rfl) (lenOf pd7 rfl) rfl (Nat.le_of_ble_eq_true rfl) (hb hby at_262) (fun T39 X39 e39 => ?_)
          show own_G p e below _ (T39.setTop (mkF m 265 #[.val (.int p0), .val (.int p1), .val (.int p2), .val (.int n1), .val (.int x0), .val (.int x1), .val (.int n2), .val (.int y0), .val (.int y1), .val (.int i1), .val (.int i2), .val (.int (2 : Int32)), .val (.ref s1), .val (.ref s2), .val (.ref a3), .val (.ref a32), .val (.int sb), .val (.int (0 : Int32))] [(.int (own_bi (decide (own_tx n1 x0 x1 = own_tx n2 y0 y1) && decide (own_ph q0 q1 q2 i1 = own_ph q0 q1 q2 i2))))]))
          refine own_step (b := T39.setTop (mkF m 267 #[.val (.int p0), .val (.int p1), .val (.int p2), .val (.int n1), .val (.int x0), .val (.int x1), .val (.int n2), .val (.int y0), .val (.int y1), .val (.int i1), .val (.int i2), .val (.int (2 : Int32)), .val (.ref s1), .val (.ref s2), .val (.ref a3), .val (.ref a32), .val (.int sb), .val (.int (0 : Int32))] [(.int (0 : Int32)), (.int (own_bi (decide (own_tx n1 x0 x1 = own_tx n2 y0 y1) && decide (own_ph q0 q1 q2 i1 = own_ph q0 q1 q2 i2))))])) (fun _ qk => XS.iload X39.here hx rfl (hb hby at_265) rfl qk) ?_
          have hm40 : (decide (own_tx n1 x0 x1 = own_tx n2 y0 y1) && decide (own_ph q0 q1 q2 i1 = own_ph q0 q1 q2 i2)) = false := by rw [own_tx_eq R_n1 R_n2, own_ph_eq R_i1 R_i2 h01 h02 h12]; simp only [csb, Bool.true_and]; simp [ci]
          refine own_icmp_ne X39 hx (hb hby at_267) (pc' := 274) (by decide) (by decide) (fun cf40 => absurd (by rw [hm40]; rfl) cf40) (fun cf40 => ?_)
          show own_G p e below _ (T39.setTop (mkF m 270 #[.val (.int p0), .val (.int p1), .val (.int p2), .val (.int n1), .val (.int x0), .val (.int x1), .val (.int n2), .val (.int y0), .val (.int y1), .val (.int i1), .val (.int i2), .val (.int (2 : Int32)), .val (.ref s1), .val (.ref s2), .val (.ref a3), .val (.ref a32), .val (.int sb), .val (.int (0 : Int32))] []))
          refine own_step (b := T39.setTop (mkF m 271 #[.val (.int p0), .val (.int p1), .val (.int p2), .val (.int n1), .val (.int x0), .val (.int x1), .val (.int n2), .val (.int y0), .val (.int y1), .val (.int i1), .val (.int i2), .val (.int (2 : Int32)), .val (.ref s1), .val (.ref s2), .val (.ref a3), .val (.ref a32), .val (.int sb), .val (.int (0 : Int32))] [(.int (1 : Int32))])) (fun _ qk => XS.iconst X39.here hx rfl (hb hby at_270) qk) ?_
          refine own_step (b := T39.setTop (mkF m 275 #[.val (.int p0), .val (.int p1), .val (.int p2), .val (.int n1), .val (.int x0), .val (.int x1), .val (.int n2), .val (.int y0), .val (.int y1), .val (.int i1), .val (.int i2), .val (.int (2 : Int32)), .val (.ref s1), .val (.ref s2), .val (.ref a3), .val (.ref a32), .val (.int sb), .val (.int (0 : Int32))] [(.int (1 : Int32))])) (fun _ qk => XS.goto X39.here hx rfl (pc0 := 271) (pc' := 275) rfl (hb hby at_271) (by decide) (by decide) qk) ?_
          exact own_retXN X39 hx hS (by rw [show T39.heap = T34.heap from e39]; omega) hret (by simp) hlk (hb hby at_275) ⟨rfl, N34⟩ (by decide) (by decide)
        · show own_G p e below _ (T34.setTop (mkF m 245 #[.val (.int p0), .val (.int p1), .val (.int p2), .val (.int n1), .val (.int x0), .val (.int x1), .val (.int n2), .val (.int y0), .val (.int y1), .val (.int i1), .val (.int i2), .val (.int (2 : Int32)), .val (.ref s1), .val (.ref s2), .val (.ref a3), .val (.ref a32), .val (.int sb), .unset] []))
          refine own_step (b := T34.setTop (mkF m 246 #[.val (.int p0), .val (.int p1), .val (.int p2), .val (.int n1), .val (.int x0), .val (.int x1), .val (.int n2), .val (.int y0), .val (.int y1), .val (.int i1), .val (.int i2), .val (.int (2 : Int32)), .val (.ref s1), .val (.ref s2), .val (.ref a3), .val (.ref a32), .val (.int sb), .unset] [(.int (1 : Int32))])) (fun _ qk => XS.iconst X34.here hx rfl (hb hby at_245) qk) ?_
          refine own_step (b := T34.setTop (mkF m 250 #[.val (.int p0), .val (.int p1), .val (.int p2), .val (.int n1), .val (.int x0), .val (.int x1), .val (.int n2), .val (.int y0), .val (.int y1), .val (.int i1), .val (.int i2), .val (.int (2 : Int32)), .val (.ref s1), .val (.ref s2), .val (.ref a3), .val (.ref a32), .val (.int sb), .unset] [(.int (1 : Int32))])) (fun _ qk => XS.goto X34.here hx rfl (pc0 := 246) (pc' := 250) rfl (hb hby at_246) (by decide) (by decide) qk) ?_
          refine own_step (b := T34.setTop (mkF m 252 #[.val (.int p0), .val (.int p1), .val (.int p2), .val (.int n1), .val (.int x0), .val (.int x1), .val (.int n2), .val (.int y0), .val (.int y1), .val (.int i1), .val (.int i2), .val (.int (2 : Int32)), .val (.ref s1), .val (.ref s2), .val (.ref a3), .val (.ref a32), .val (.int sb), .val (.int (1 : Int32))] [])) (fun _ qk => XS.istore X34.here hx rfl (hb hby at_250) rfl (l' := #[.val (.int p0), .val (.int p1), .val (.int p2), .val (.int n1), .val (.int x0), .val (.int x1), .val (.int n2), .val (.int y0), .val (.int y1), .val (.int i1), .val (.int i2), .val (.int (2 : Int32)), .val (.ref s1), .val (.ref s2), .val (.ref a3), .val (.ref a32), .val (.int sb), .val (.int (1 : Int32))]) rfl qk) ?_
          refine own_step (b := T34.setTop (mkF m 258 #[.val (.int p0), .val (.int p1), .val (.int p2), .val (.int n1), .val (.int x0), .val (.int x1), .val (.int n2), .val (.int y0), .val (.int y1), .val (.int i1), .val (.int i2), .val (.int (2 : Int32)), .val (.ref s1), .val (.ref s2), .val (.ref a3), .val (.ref a32), .val (.int sb), .val (.int (1 : Int32))] [])) (fun _ qk => XS.goto X34.here hx rfl (pc0 := 252) (pc' := 258) rfl (hb hby at_252) (by decide) (by decide) qk) ?_
          refine own_step (b := T34.setTop (mkF m 260 #[.val (.int p0), .val (.int p1), .val (.int p2), .val (.int n1), .val (.int x0), .val (.int x1), .val (.int n2), .val (.int y0), .val (.int y1), .val (.int i1), .val (.int i2), .val (.int (2 : Int32)), .val (.ref s1), .val (.ref s2), .val (.ref a3), .val (.ref a32), .val (.int sb), .val (.int (1 : Int32))] [(.ref a3)])) (fun _ qk => XS.aload X34.here hx rfl (hb hby at_258) rfl rfl qk) ?_
          refine own_step (b := T34.setTop (mkF m 262 #[.val (.int p0), .val (.int p1), .val (.int p2), .val (.int n1), .val (.int x0), .val (.int x1), .val (.int n2), .val (.int y0), .val (.int y1), .val (.int i1), .val (.int i2), .val (.int (2 : Int32)), .val (.ref s1), .val (.ref s2), .val (.ref a3), .val (.ref a32), .val (.int sb), .val (.int (1 : Int32))] [(.ref a32), (.ref a3)])) (fun _ qk => XS.aload X34.here hx rfl (hb hby at_260) rfl rfl qk) ?_
          refine own_virtualP (a := a3) (W := 0) (argsL := [(.ref a32)]) (st := []) X34 hx hZ hown (own_w hw 56 rfl) (own_w hw 57 rfl) (own_w hw 59 rfl) rfl (own_w hw 58 rfl) (by decide) rfl Exd (rmEq l Z a0 hw [] a3 a32 s1 s2 (own_ph q0 q1 q2 i1) (own_ph q0 q1 q2 i2) (own_tx n1 x0 x1) (own_tx n2 y0 y1) T34.heap Ex34 Fbd Fpd Fb34 Fp34 S1d S2d OL34 G1 O2 P5) (own_w hw 60 rfl) (own_w hw 36 rfl) (by decide) (by decide) (by decide) (by decide) (by rw [hml]; rfl) (lenOf pd7 rfl) rfl (Nat.le_of_ble_eq_true rfl) (hb hby at_262) (fun T41 X41 e41 => ?_)
          show own_G p e below _ (T41.setTop (mkF m 265 #[.val (.int p0), .val (.int p1), .val (.int p2), .val (.int n1), .val (.int x0), .val (.int x1), .val (.int n2), .val (.int y0), .val (.int y1), .val (.int i1), .val (.int i2), .val (.int (2 : Int32)), .val (.ref s1), .val (.ref s2), .val (.ref a3), .val (.ref a32), .val (.int sb), .val (.int (1 : Int32))] [(.int (own_bi (decide (own_tx n1 x0 x1 = own_tx n2 y0 y1) && decide (own_ph q0 q1 q2 i1 = own_ph q0 q1 q2 i2))))]))
          refine own_step (b := T41.setTop (mkF m 267 #[.val (.int p0), .val (.int p1), .val (.int p2), .val (.int n1), .val (.int x0), .val (.int x1), .val (.int n2), .val (.int y0), .val (.int y1), .val (.int i1), .val (.int i2), .val (.int (2 : Int32)), .val (.ref s1), .val (.ref s2), .val (.ref a3), .val (.ref a32), .val (.int sb), .val (.int (1 : Int32))] [(.int (1 : Int32)), (.int (own_bi (decide (own_tx n1 x0 x1 = own_tx n2 y0 y1) && decide (own_ph q0 q1 q2 i1 = own_ph q0 q1 q2 i2))))])) (fun _ qk => XS.iload X41.here hx rfl (hb hby at_265) rfl qk) ?_
          have hm42 : (decide (own_tx n1 x0 x1 = own_tx n2 y0 y1) && decide (own_ph q0 q1 q2 i1 = own_ph q0 q1 q2 i2)) = true := by rw [own_tx_eq R_n1 R_n2, own_ph_eq R_i1 R_i2 h01 h02 h12]; simp only [csb, Bool.true_and]; simp [ci]
          refine own_icmp_ne X41 hx (hb hby at_267) (pc' := 274) (by decide) (by decide) (fun cf42 => absurd (by rw [hm42]; rfl) cf42) (fun cf42 => ?_)
          show own_G p e below _ (T41.setTop (mkF m 270 #[.val (.int p0), .val (.int p1), .val (.int p2), .val (.int n1), .val (.int x0), .val (.int x1), .val (.int n2), .val (.int y0), .val (.int y1), .val (.int i1), .val (.int i2), .val (.int (2 : Int32)), .val (.ref s1), .val (.ref s2), .val (.ref a3), .val (.ref a32), .val (.int sb), .val (.int (1 : Int32))] []))
          refine own_step (b := T41.setTop (mkF m 271 #[.val (.int p0), .val (.int p1), .val (.int p2), .val (.int n1), .val (.int x0), .val (.int x1), .val (.int n2), .val (.int y0), .val (.int y1), .val (.int i1), .val (.int i2), .val (.int (2 : Int32)), .val (.ref s1), .val (.ref s2), .val (.ref a3), .val (.ref a32), .val (.int sb), .val (.int (1 : Int32))] [(.int (1 : Int32))])) (fun _ qk => XS.iconst X41.here hx rfl (hb hby at_270) qk) ?_
          refine own_step (b := T41.setTop (mkF m 275 #[.val (.int p0), .val (.int p1), .val (.int p2), .val (.int n1), .val (.int x0), .val (.int x1), .val (.int n2), .val (.int y0), .val (.int y1), .val (.int i1), .val (.int i2), .val (.int (2 : Int32)), .val (.ref s1), .val (.ref s2), .val (.ref a3), .val (.ref a32), .val (.int sb), .val (.int (1 : Int32))] [(.int (1 : Int32))])) (fun _ qk => XS.goto X41.here hx rfl (pc0 := 271) (pc' := 275) rfl (hb hby at_271) (by decide) (by decide) qk) ?_
          exact own_retXN X41 hx hS (by rw [show T41.heap = T34.heap from e41]; omega) hret (by simp) hlk (hb hby at_275) ⟨rfl, N34⟩ (by decide) (by decide)
    show own_G p e below _ (T34.setTop (mkF m 178 #[.val (.int p0), .val (.int p1), .val (.int p2), .val (.int n1), .val (.int x0), .val (.int x1), .val (.int n2), .val (.int y0), .val (.int y1), .val (.int i1), .val (.int i2), .val (.int (2 : Int32)), .val (.ref s1), .val (.ref s2), .val (.ref a3), .val (.ref a32), .unset, .unset] []))
    refine own_step (b := T34.setTop (mkF m 179 #[.val (.int p0), .val (.int p1), .val (.int p2), .val (.int n1), .val (.int x0), .val (.int x1), .val (.int n2), .val (.int y0), .val (.int y1), .val (.int i1), .val (.int i2), .val (.int (2 : Int32)), .val (.ref s1), .val (.ref s2), .val (.ref a3), .val (.ref a32), .unset, .unset] [(.int n1)])) (fun _ qk => XS.iloadN X34.here hx rfl (hb hby at_178) rfl qk) ?_
    refine own_step (b := T34.setTop (mkF m 181 #[.val (.int p0), .val (.int p1), .val (.int p2), .val (.int n1), .val (.int x0), .val (.int x1), .val (.int n2), .val (.int y0), .val (.int y1), .val (.int i1), .val (.int i2), .val (.int (2 : Int32)), .val (.ref s1), .val (.ref s2), .val (.ref a3), .val (.ref a32), .unset, .unset] [(.int n2), (.int n1)])) (fun _ qk => XS.iload X34.here hx rfl (hb hby at_179) rfl qk) ?_
    refine own_icmp_ne X34 hx (hb hby at_181) (pc' := 212) (by decide) (by decide) (fun c181_43 => ?_) (fun c181_43 => ?_)
    · show own_G p e below _ (T34.setTop (mkF m 212 #[.val (.int p0), .val (.int p1), .val (.int p2), .val (.int n1), .val (.int x0), .val (.int x1), .val (.int n2), .val (.int y0), .val (.int y1), .val (.int i1), .val (.int i2), .val (.int (2 : Int32)), .val (.ref s1), .val (.ref s2), .val (.ref a3), .val (.ref a32), .unset, .unset] []))
      refine own_step (b := T34.setTop (mkF m 213 #[.val (.int p0), .val (.int p1), .val (.int p2), .val (.int n1), .val (.int x0), .val (.int x1), .val (.int n2), .val (.int y0), .val (.int y1), .val (.int i1), .val (.int i2), .val (.int (2 : Int32)), .val (.ref s1), .val (.ref s2), .val (.ref a3), .val (.ref a32), .unset, .unset] [(.int (0 : Int32))])) (fun _ qk => XS.iconst X34.here hx rfl (hb hby at_212) qk) ?_
      exact J213 _ (by rw [show (decide (n1 = n2) && (decide (n1 < 1) || decide (x0 = y0)) && (decide (n1 < 2) || decide (x1 = y1))) = false by simp only [decide_eq_false c181_43, Bool.and_true, Bool.true_and, Bool.or_true, Bool.true_or, Bool.false_and, Bool.and_false, Bool.or_false, Bool.false_or]]; rfl)
    · show own_G p e below _ (T34.setTop (mkF m 184 #[.val (.int p0), .val (.int p1), .val (.int p2), .val (.int n1), .val (.int x0), .val (.int x1), .val (.int n2), .val (.int y0), .val (.int y1), .val (.int i1), .val (.int i2), .val (.int (2 : Int32)), .val (.ref s1), .val (.ref s2), .val (.ref a3), .val (.ref a32), .unset, .unset] []))
      refine own_step (b := T34.setTop (mkF m 185 #[.val (.int p0), .val (.int p1), .val (.int p2), .val (.int n1), .val (.int x0), .val (.int x1), .val (.int n2), .val (.int y0), .val (.int y1), .val (.int i1), .val (.int i2), .val (.int (2 : Int32)), .val (.ref s1), .val (.ref s2), .val (.ref a3), .val (.ref a32), .unset, .unset] [(.int n1)])) (fun _ qk => XS.iloadN X34.here hx rfl (hb hby at_184) rfl qk) ?_
      refine own_step (b := T34.setTop (mkF m 186 #[.val (.int p0), .val (.int p1), .val (.int p2), .val (.int n1), .val (.int x0), .val (.int x1), .val (.int n2), .val (.int y0), .val (.int y1), .val (.int i1), .val (.int i2), .val (.int (2 : Int32)), .val (.ref s1), .val (.ref s2), .val (.ref a3), .val (.ref a32), .unset, .unset] [(.int (1 : Int32)), (.int n1)])) (fun _ qk => XS.iconst X34.here hx rfl (hb hby at_185) qk) ?_
      refine own_icmp_lt X34 hx (hb hby at_186) (pc' := 196) (by decide) (by decide) (fun c186_44 => ?_) (fun c186_44 => ?_)
      · show own_G p e below _ (T34.setTop (mkF m 196 #[.val (.int p0), .val (.int p1), .val (.int p2), .val (.int n1), .val (.int x0), .val (.int x1), .val (.int n2), .val (.int y0), .val (.int y1), .val (.int i1), .val (.int i2), .val (.int (2 : Int32)), .val (.ref s1), .val (.ref s2), .val (.ref a3), .val (.ref a32), .unset, .unset] []))
        refine own_step (b := T34.setTop (mkF m 197 #[.val (.int p0), .val (.int p1), .val (.int p2), .val (.int n1), .val (.int x0), .val (.int x1), .val (.int n2), .val (.int y0), .val (.int y1), .val (.int i1), .val (.int i2), .val (.int (2 : Int32)), .val (.ref s1), .val (.ref s2), .val (.ref a3), .val (.ref a32), .unset, .unset] [(.int n1)])) (fun _ qk => XS.iloadN X34.here hx rfl (hb hby at_196) rfl qk) ?_
        refine own_step (b := T34.setTop (mkF m 198 #[.val (.int p0), .val (.int p1), .val (.int p2), .val (.int n1), .val (.int x0), .val (.int x1), .val (.int n2), .val (.int y0), .val (.int y1), .val (.int i1), .val (.int i2), .val (.int (2 : Int32)), .val (.ref s1), .val (.ref s2), .val (.ref a3), .val (.ref a32), .unset, .unset] [(.int (2 : Int32)), (.int n1)])) (fun _ qk => XS.iconst X34.here hx rfl (hb hby at_197) qk) ?_
        refine own_icmp_lt X34 hx (hb hby at_198) (pc' := 208) (by decide) (by decide) (fun c198_45 => ?_) (fun c198_45 => ?_)
        · show own_G p e below _ (T34.setTop (mkF m 208 #[.val (.int p0), .val (.int p1), .val (.int p2), .val (.int n1), .val (.int x0), .val (.int x1), .val (.int n2), .val (.int y0), .val (.int y1), .val (.int i1), .val (.int i2), .val (.int (2 : Int32)), .val (.ref s1), .val (.ref s2), .val (.ref a3), .val (.ref a32), .unset, .unset] []))
          refine own_step (b := T34.setTop (mkF m 209 #[.val (.int p0), .val (.int p1), .val (.int p2), .val (.int n1), .val (.int x0), .val (.int x1), .val (.int n2), .val (.int y0), .val (.int y1), .val (.int i1), .val (.int i2), .val (.int (2 : Int32)), .val (.ref s1), .val (.ref s2), .val (.ref a3), .val (.ref a32), .unset, .unset] [(.int (1 : Int32))])) (fun _ qk => XS.iconst X34.here hx rfl (hb hby at_208) qk) ?_
          refine own_step (b := T34.setTop (mkF m 213 #[.val (.int p0), .val (.int p1), .val (.int p2), .val (.int n1), .val (.int x0), .val (.int x1), .val (.int n2), .val (.int y0), .val (.int y1), .val (.int i1), .val (.int i2), .val (.int (2 : Int32)), .val (.ref s1), .val (.ref s2), .val (.ref a3), .val (.ref a32), .unset, .unset] [(.int (1 : Int32))])) (fun _ qk => XS.goto X34.here hx rfl (pc0 := 209) (pc' := 213) rfl (hb hby at_209) (by decide) (by decide) qk) ?_
          exact J213 _ (by rw [show (decide (n1 = n2) && (decide (n1 < 1) || decide (x0 = y0)) && (decide (n1 < 2) || decide (x1 = y1))) = true by simp only [decide_eq_true c181_43, decide_eq_true c186_44, decide_eq_true c198_45, Bool.and_true, Bool.true_and, Bool.or_true, Bool.true_or, Bool.false_and, Bool.and_false, Bool.or_false, Bool.false_or]]; rfl)
        · show own_G p e below _ (T34.setTop (mkF m 201 #[.val (.int p0), .val (.int p1), .val (.int p2), .val (.int n1), .val (.int x0), .val (.int x1), .val (.int n2), .val (.int y0), .val (.int y1), .val (.int i1), .val (.int i2), .val (.int (2 : Int32)), .val (.ref s1), .val (.ref s2), .val (.ref a3), .val (.ref a32), .unset, .unset] []))
          refine own_step (b := T34.setTop (mkF m 203 #[.val (.int p0), .val (.int p1), .val (.int p2), .val (.int n1), .val (.int x0), .val (.int x1), .val (.int n2), .val (.int y0), .val (.int y1), .val (.int i1), .val (.int i2), .val (.int (2 : Int32)), .val (.ref s1), .val (.ref s2), .val (.ref a3), .val (.ref a32), .unset, .unset] [(.int x1)])) (fun _ qk => XS.iload X34.here hx rfl (hb hby at_201) rfl qk) ?_
          refine own_step (b := T34.setTop (mkF m 205 #[.val (.int p0), .val (.int p1), .val (.int p2), .val (.int n1), .val (.int x0), .val (.int x1), .val (.int n2), .val (.int y0), .val (.int y1), .val (.int i1), .val (.int i2), .val (.int (2 : Int32)), .val (.ref s1), .val (.ref s2), .val (.ref a3), .val (.ref a32), .unset, .unset] [(.int y1), (.int x1)])) (fun _ qk => XS.iload X34.here hx rfl (hb hby at_203) rfl qk) ?_
          refine own_icmp_ne X34 hx (hb hby at_205) (pc' := 212) (by decide) (by decide) (fun c205_46 => ?_) (fun c205_46 => ?_)
          · show own_G p e below _ (T34.setTop (mkF m 212 #[.val (.int p0), .val (.int p1), .val (.int p2), .val (.int n1), .val (.int x0), .val (.int x1), .val (.int n2), .val (.int y0), .val (.int y1), .val (.int i1), .val (.int i2), .val (.int (2 : Int32)), .val (.ref s1), .val (.ref s2), .val (.ref a3), .val (.ref a32), .unset, .unset] []))
            refine own_step (b := T34.setTop (mkF m 213 #[.val (.int p0), .val (.int p1), .val (.int p2), .val (.int n1), .val (.int x0), .val (.int x1), .val (.int n2), .val (.int y0), .val (.int y1), .val (.int i1), .val (.int i2), .val (.int (2 : Int32)), .val (.ref s1), .val (.ref s2), .val (.ref a3), .val (.ref a32), .unset, .unset] [(.int (0 : Int32))])) (fun _ qk => XS.iconst X34.here hx rfl (hb hby at_212) qk) ?_
            exact J213 _ (by rw [show (decide (n1 = n2) && (decide (n1 < 1) || decide (x0 = y0)) && (decide (n1 < 2) || decide (x1 = y1))) = false by simp only [decide_eq_true c181_43, decide_eq_true c186_44, decide_eq_false c198_45, decide_eq_false c205_46, Bool.and_true, Bool.true_and, Bool.or_true, Bool.true_or, Bool.false_and, Bool.and_false, Bool.or_false, Bool.false_or]]; rfl)
          · show own_G p e below _ (T34.setTop (mkF m 208 #[.val (.int p0), .val (.int p1), .val (.int p2), .val (.int n1), .val (.int x0), .val (.int x1), .val (.int n2), .val (.int y0), .val (.int y1), .val (.int i1), .val (.int i2), .val (.int (2 : Int32)), .val (.ref s1), .val (.ref s2), .val (.ref a3), .val (.ref a32), .unset, .unset] []))
            refine own_step (b := T34.setTop (mkF m 209 #[.val (.int p0), .val (.int p1), .val (.int p2), .val (.int n1), .val (.int x0), .val (.int x1), .val (.int n2), .val (.int y0), .val (.int y1), .val (.int i1), .val (.int i2), .val (.int (2 : Int32)), .val (.ref s1), .val (.ref s2), .val (.ref a3), .val (.ref a32), .unset, .unset] [(.int (1 : Int32))])) (fun _ qk => XS.iconst X34.here hx rfl (hb hby at_208) qk) ?_
            refine own_step (b := T34.setTop (mkF m 213 #[.val (.int p0), .val (.int p1), .val (.int p2), .val (.int n1), .val (.int x0), .val (.int x1), .val (.int n2), .val (.int y0), .val (.int y1), .val (.int i1), .val (.int i2), .val (.int (2 : Int32)), .val (.ref s1), .val (.ref s2), .val (.ref a3), .val (.ref a32), .unset, .unset] [(.int (1 : Int32))])) (fun _ qk => XS.goto X34.here hx rfl (pc0 := 209) (pc' := 213) rfl (hb hby at_209) (by decide) (by decide) qk) ?_
            exact J213 _ (by rw [show (decide (n1 = n2) && (decide (n1 < 1) || decide (x0 = y0)) && (decide (n1 < 2) || decide (x1 = y1))) = true by simp only [decide_eq_true c181_43, decide_eq_true c186_44, decide_eq_false c198_45, decide_eq_true c205_46, Bool.and_true, Bool.true_and, Bool.or_true, Bool.true_or, Bool.false_and, Bool.and_false, Bool.or_false, Bool.false_or]]; rfl)
      · show own_G p e below _ (T34.setTop (mkF m 189 #[.val (.int p0), .val (.int p1), .val (.int p2), .val (.int n1), .val (.int x0), .val (.int x1), .val (.int n2), .val (.int y0), .val (.int y1), .val (.int i1), .val (.int i2), .val (.int (2 : Int32)), .val (.ref s1), .val (.ref s2), .val (.ref a3), .val (.ref a32), .unset, .unset] []))
        refine own_step (b := T34.setTop (mkF m 191 #[.val (.int p0), .val (.int p1), .val (.int p2), .val (.int n1), .val (.int x0), .val (.int x1), .val (.int n2), .val (.int y0), .val (.int y1), .val (.int i1), .val (.int i2), .val (.int (2 : Int32)), .val (.ref s1), .val (.ref s2), .val (.ref a3), .val (.ref a32), .unset, .unset] [(.int x0)])) (fun _ qk => XS.iload X34.here hx rfl (hb hby at_189) rfl qk) ?_
        refine own_step (b := T34.setTop (mkF m 193 #[.val (.int p0), .val (.int p1), .val (.int p2), .val (.int n1), .val (.int x0), .val (.int x1), .val (.int n2), .val (.int y0), .val (.int y1), .val (.int i1), .val (.int i2), .val (.int (2 : Int32)), .val (.ref s1), .val (.ref s2), .val (.ref a3), .val (.ref a32), .unset, .unset] [(.int y0), (.int x0)])) (fun _ qk => XS.iload X34.here hx rfl (hb hby at_191) rfl qk) ?_
        refine own_icmp_ne X34 hx (hb hby at_193) (pc' := 212) (by decide) (by decide) (fun c193_47 => ?_) (fun c193_47 => ?_)
        · show own_G p e below _ (T34.setTop (mkF m 212 #[.val (.int p0), .val (.int p1), .val (.int p2), .val (.int n1), .val (.int x0), .val (.int x1), .val (.int n2), .val (.int y0), .val (.int y1), .val (.int i1), .val (.int i2), .val (.int (2 : Int32)), .val (.ref s1), .val (.ref s2), .val (.ref a3), .val (.ref a32), .unset, .unset] []))
          refine own_step (b := T34.setTop (mkF m 213 #[.val (.int p0), .val (.int p1), .val (.int p2), .val (.int n1), .val (.int x0), .val (.int x1), .val (.int n2), .val (.int y0), .val (.int y1), .val (.int i1), .val (.int i2), .val (.int (2 : Int32)), .val (.ref s1), .val (.ref s2), .val (.ref a3), .val (.ref a32), .unset, .unset] [(.int (0 : Int32))])) (fun _ qk => XS.iconst X34.here hx rfl (hb hby at_212) qk) ?_
          exact J213 _ (by rw [show (decide (n1 = n2) && (decide (n1 < 1) || decide (x0 = y0)) && (decide (n1 < 2) || decide (x1 = y1))) = false by simp only [decide_eq_true c181_43, decide_eq_false c186_44, decide_eq_false c193_47, Bool.and_true, Bool.true_and, Bool.or_true, Bool.true_or, Bool.false_and, Bool.and_false, Bool.or_false, Bool.false_or]]; rfl)
        · show own_G p e below _ (T34.setTop (mkF m 196 #[.val (.int p0), .val (.int p1), .val (.int p2), .val (.int n1), .val (.int x0), .val (.int x1), .val (.int n2), .val (.int y0), .val (.int y1), .val (.int i1), .val (.int i2), .val (.int (2 : Int32)), .val (.ref s1), .val (.ref s2), .val (.ref a3), .val (.ref a32), .unset, .unset] []))
          refine own_step (b := T34.setTop (mkF m 197 #[.val (.int p0), .val (.int p1), .val (.int p2), .val (.int n1), .val (.int x0), .val (.int x1), .val (.int n2), .val (.int y0), .val (.int y1), .val (.int i1), .val (.int i2), .val (.int (2 : Int32)), .val (.ref s1), .val (.ref s2), .val (.ref a3), .val (.ref a32), .unset, .unset] [(.int n1)])) (fun _ qk => XS.iloadN X34.here hx rfl (hb hby at_196) rfl qk) ?_
          refine own_step (b := T34.setTop (mkF m 198 #[.val (.int p0), .val (.int p1), .val (.int p2), .val (.int n1), .val (.int x0), .val (.int x1), .val (.int n2), .val (.int y0), .val (.int y1), .val (.int i1), .val (.int i2), .val (.int (2 : Int32)), .val (.ref s1), .val (.ref s2), .val (.ref a3), .val (.ref a32), .unset, .unset] [(.int (2 : Int32)), (.int n1)])) (fun _ qk => XS.iconst X34.here hx rfl (hb hby at_197) qk) ?_
          refine own_icmp_lt X34 hx (hb hby at_198) (pc' := 208) (by decide) (by decide) (fun c198_48 => ?_) (fun c198_48 => ?_)
          · show own_G p e below _ (T34.setTop (mkF m 208 #[.val (.int p0), .val (.int p1), .val (.int p2), .val (.int n1), .val (.int x0), .val (.int x1), .val (.int n2), .val (.int y0), .val (.int y1), .val (.int i1), .val (.int i2), .val (.int (2 : Int32)), .val (.ref s1), .val (.ref s2), .val (.ref a3), .val (.ref a32), .unset, .unset] []))
            refine own_step (b := T34.setTop (mkF m 209 #[.val (.int p0), .val (.int p1), .val (.int p2), .val (.int n1), .val (.int x0), .val (.int x1), .val (.int n2), .val (.int y0), .val (.int y1), .val (.int i1), .val (.int i2), .val (.int (2 : Int32)), .val (.ref s1), .val (.ref s2), .val (.ref a3), .val (.ref a32), .unset, .unset] [(.int (1 : Int32))])) (fun _ qk => XS.iconst X34.here hx rfl (hb hby at_208) qk) ?_
            refine own_step (b := T34.setTop (mkF m 213 #[.val (.int p0), .val (.int p1), .val (.int p2), .val (.int n1), .val (.int x0), .val (.int x1), .val (.int n2), .val (.int y0), .val (.int y1), .val (.int i1), .val (.int i2), .val (.int (2 : Int32)), .val (.ref s1), .val (.ref s2), .val (.ref a3), .val (.ref a32), .unset, .unset] [(.int (1 : Int32))])) (fun _ qk => XS.goto X34.here hx rfl (pc0 := 209) (pc' := 213) rfl (hb hby at_209) (by decide) (by decide) qk) ?_
            exact J213 _ (by rw [show (decide (n1 = n2) && (decide (n1 < 1) || decide (x0 = y0)) && (decide (n1 < 2) || decide (x1 = y1))) = true by simp only [decide_eq_true c181_43, decide_eq_false c186_44, decide_eq_true c193_47, decide_eq_true c198_48, Bool.and_true, Bool.true_and, Bool.or_true, Bool.true_or, Bool.false_and, Bool.and_false, Bool.or_false, Bool.false_or]]; rfl)
          · show own_G p e below _ (T34.setTop (mkF m 201 #[.val (.int p0), .val (.int p1), .val (.int p2), .val (.int n1), .val (.int x0), .val (.int x1), .val (.int n2), .val (.int y0), .val (.int y1), .val (.int i1), .val (.int i2), .val (.int (2 : Int32)), .val (.ref s1), .val (.ref s2), .val (.ref a3), .val (.ref a32), .unset, .unset] []))
            refine own_step (b := T34.setTop (mkF m 203 #[.val (.int p0), .val (.int p1), .val (.int p2), .val (.int n1), .val (.int x0), .val (.int x1), .val (.int n2), .val (.int y0), .val (.int y1), .val (.int i1), .val (.int i2), .val (.int (2 : Int32)), .val (.ref s1), .val (.ref s2), .val (.ref a3), .val (.ref a32), .unset, .unset] [(.int x1)])) (fun _ qk => XS.iload X34.here hx rfl (hb hby at_201) rfl qk) ?_
            refine own_step (b := T34.setTop (mkF m 205 #[.val (.int p0), .val (.int p1), .val (.int p2), .val (.int n1), .val (.int x0), .val (.int x1), .val (.int n2), .val (.int y0), .val (.int y1), .val (.int i1), .val (.int i2), .val (.int (2 : Int32)), .val (.ref s1), .val (.ref s2), .val (.ref a3), .val (.ref a32), .unset, .unset] [(.int y1), (.int x1)])) (fun _ qk => XS.iload X34.here hx rfl (hb hby at_203) rfl qk) ?_
            refine own_icmp_ne X34 hx (hb hby at_205) (pc' := 212) (by decide) (by decide) (fun c205_49 => ?_) (fun c205_49 => ?_)
            · show own_G p e below _ (T34.setTop (mkF m 212 #[.val (.int p0), .val (.int p1), .val (.int p2), .val (.int n1), .val (.int x0), .val (.int x1), .val (.int n2), .val (.int y0), .val (.int y1), .val (.int i1), .val (.int i2), .val (.int (2 : Int32)), .val (.ref s1), .val (.ref s2), .val (.ref a3), .val (.ref a32), .unset, .unset] []))
              refine own_step (b := T34.setTop (mkF m 213 #[.val (.int p0), .val (.int p1), .val (.int p2), .val (.int n1), .val (.int x0), .val (.int x1), .val (.int n2), .val (.int y0), .val (.int y1), .val (.int i1), .val (.int i2), .val (.int (2 : Int32)), .val (.ref s1), .val (.ref s2), .val (.ref a3), .val (.ref a32), .unset, .unset] [(.int (0 : Int32))])) (fun _ qk => XS.iconst X34.here hx rfl (hb hby at_212) qk) ?_
              exact J213 _ (by rw [show (decide (n1 = n2) && (decide (n1 < 1) || decide (x0 = y0)) && (decide (n1 < 2) || decide (x1 = y1))) = false by simp only [decide_eq_true c181_43, decide_eq_false c186_44, decide_eq_true c193_47, decide_eq_false c198_48, decide_eq_false c205_49, Bool.and_true, Bool.true_and, Bool.or_true, Bool.true_or, Bool.false_and, Bool.and_false, Bool.or_false, Bool.false_or]]; rfl)
            · show own_G p e below _ (T34.setTop (mkF m 208 #[.val (.int p0), .val (.int p1), .val (.int p2), .val (.int n1), .val (.int x0), .val (.int x1), .val (.int n2), .val (.int y0), .val (.int y1), .val (.int i1), .val (.int i2), .val (.int (2 : Int32)), .val (.ref s1), .val (.ref s2), .val (.ref a3), .val (.ref a32), .unset, .unset] []))
              refine own_step (b := T34.setTop (mkF m 209 #[.val (.int p0), .val (.int p1), .val (.int p2), .val (.int n1), .val (.int x0), .val (.int x1), .val (.int n2), .val (.int y0), .val (.int y1), .val (.int i1), .val (.int i2), .val (.int (2 : Int32)), .val (.ref s1), .val (.ref s2), .val (.ref a3), .val (.ref a32), .unset, .unset] [(.int (1 : Int32))])) (fun _ qk => XS.iconst X34.here hx rfl (hb hby at_208) qk) ?_
              refine own_step (b := T34.setTop (mkF m 213 #[.val (.int p0), .val (.int p1), .val (.int p2), .val (.int n1), .val (.int x0), .val (.int x1), .val (.int n2), .val (.int y0), .val (.int y1), .val (.int i1), .val (.int i2), .val (.int (2 : Int32)), .val (.ref s1), .val (.ref s2), .val (.ref a3), .val (.ref a32), .unset, .unset] [(.int (1 : Int32))])) (fun _ qk => XS.goto X34.here hx rfl (pc0 := 209) (pc' := 213) rfl (hb hby at_209) (by decide) (by decide) qk) ?_
              exact J213 _ (by rw [show (decide (n1 = n2) && (decide (n1 < 1) || decide (x0 = y0)) && (decide (n1 < 2) || decide (x1 = y1))) = true by simp only [decide_eq_true c181_43, decide_eq_false c186_44, decide_eq_true c193_47, decide_eq_false c198_48, decide_eq_true c205_49, Bool.and_true, Bool.true_and, Bool.or_true, Bool.true_or, Bool.false_and, Bool.and_false, Bool.or_false, Bool.false_or]]; rfl)
  · show own_G p e below _ (T5.setTop (mkF m 125 #[.val (.int p0), .val (.int p1), .val (.int p2), .val (.int n1), .val (.int x0), .val (.int x1), .val (.int n2), .val (.int y0), .val (.int y1), .val (.int i1), .val (.int i2), .val (.int (3 : Int32)), .val (.ref s1), .val (.ref s2), .val (.ref a3), .unset, .unset, .unset] []))
    show own_G p e below _ (T5.setTop (mkF m 125 #[.val (.int p0), .val (.int p1), .val (.int p2), .val (.int n1), .val (.int x0), .val (.int x1), .val (.int n2), .val (.int y0), .val (.int y1), .val (.int i1), .val (.int i2), .val (.int (3 : Int32)), .val (.ref s1), .val (.ref s2), .val (.ref a3), .unset, .unset, .unset] []))
    refine own_step (b := T5.setTop (mkF m 127 #[.val (.int p0), .val (.int p1), .val (.int p2), .val (.int n1), .val (.int x0), .val (.int x1), .val (.int n2), .val (.int y0), .val (.int y1), .val (.int i1), .val (.int i2), .val (.int (3 : Int32)), .val (.ref s1), .val (.ref s2), .val (.ref a3), .unset, .unset, .unset] [(.int (3 : Int32))])) (fun _ qk => XS.iload X5.here hx rfl (hb hby at_125) rfl qk) ?_
    refine own_if_ne X5 hx (hb hby at_127) (pc' := 136) (by decide) (by decide) (fun c127_50 => ?_) (fun c127_50 => absurd c127_50 (by decide))
    show own_G p e below _ (T5.setTop (mkF m 136 #[.val (.int p0), .val (.int p1), .val (.int p2), .val (.int n1), .val (.int x0), .val (.int x1), .val (.int n2), .val (.int y0), .val (.int y1), .val (.int i1), .val (.int i2), .val (.int (3 : Int32)), .val (.ref s1), .val (.ref s2), .val (.ref a3), .unset, .unset, .unset] []))
    refine own_step (b := T5.setTop (mkF m 138 #[.val (.int p0), .val (.int p1), .val (.int p2), .val (.int n1), .val (.int x0), .val (.int x1), .val (.int n2), .val (.int y0), .val (.int y1), .val (.int i1), .val (.int i2), .val (.int (3 : Int32)), .val (.ref s1), .val (.ref s2), .val (.ref a3), .unset, .unset, .unset] [(.int (3 : Int32))])) (fun _ qk => XS.iload X5.here hx rfl (hb hby at_136) rfl qk) ?_
    refine own_step (b := T5.setTop (mkF m 139 #[.val (.int p0), .val (.int p1), .val (.int p2), .val (.int n1), .val (.int x0), .val (.int x1), .val (.int n2), .val (.int y0), .val (.int y1), .val (.int i1), .val (.int i2), .val (.int (3 : Int32)), .val (.ref s1), .val (.ref s2), .val (.ref a3), .unset, .unset, .unset] [(.int (1 : Int32)), (.int (3 : Int32))])) (fun _ qk => XS.iconst X5.here hx rfl (hb hby at_138) qk) ?_
    refine own_icmp_ne X5 hx (hb hby at_139) (pc' := 149) (by decide) (by decide) (fun c139_51 => ?_) (fun c139_51 => absurd c139_51 (by decide))
    show own_G p e below _ (T5.setTop (mkF m 149 #[.val (.int p0), .val (.int p1), .val (.int p2), .val (.int n1), .val (.int x0), .val (.int x1), .val (.int n2), .val (.int y0), .val (.int y1), .val (.int i1), .val (.int i2), .val (.int (3 : Int32)), .val (.ref s1), .val (.ref s2), .val (.ref a3), .unset, .unset, .unset] []))
    refine own_step (b := T5.setTop (mkF m 151 #[.val (.int p0), .val (.int p1), .val (.int p2), .val (.int n1), .val (.int x0), .val (.int x1), .val (.int n2), .val (.int y0), .val (.int y1), .val (.int i1), .val (.int i2), .val (.int (3 : Int32)), .val (.ref s1), .val (.ref s2), .val (.ref a3), .unset, .unset, .unset] [(.int (3 : Int32))])) (fun _ qk => XS.iload X5.here hx rfl (hb hby at_149) rfl qk) ?_
    refine own_step (b := T5.setTop (mkF m 152 #[.val (.int p0), .val (.int p1), .val (.int p2), .val (.int n1), .val (.int x0), .val (.int x1), .val (.int n2), .val (.int y0), .val (.int y1), .val (.int i1), .val (.int i2), .val (.int (3 : Int32)), .val (.ref s1), .val (.ref s2), .val (.ref a3), .unset, .unset, .unset] [(.int (2 : Int32)), (.int (3 : Int32))])) (fun _ qk => XS.iconst X5.here hx rfl (hb hby at_151) qk) ?_
    refine own_icmp_ne X5 hx (hb hby at_152) (pc' := 174) (by decide) (by decide) (fun c152_52 => ?_) (fun c152_52 => absurd c152_52 (by decide))
    show own_G p e below _ (T5.setTop (mkF m 174 #[.val (.int p0), .val (.int p1), .val (.int p2), .val (.int n1), .val (.int x0), .val (.int x1), .val (.int n2), .val (.int y0), .val (.int y1), .val (.int i1), .val (.int i2), .val (.int (3 : Int32)), .val (.ref s1), .val (.ref s2), .val (.ref a3), .unset, .unset, .unset] []))
    refine own_step (b := T5.setTop (mkF m 176 #[.val (.int p0), .val (.int p1), .val (.int p2), .val (.int n1), .val (.int x0), .val (.int x1), .val (.int n2), .val (.int y0), .val (.int y1), .val (.int i1), .val (.int i2), .val (.int (3 : Int32)), .val (.ref s1), .val (.ref s2), .val (.ref a3), .unset, .unset, .unset] [(.ref a3)])) (fun _ qk => XS.aload X5.here hx rfl (hb hby at_174) rfl rfl qk) ?_
    refine own_step (b := T5.setTop (mkF m 178 #[.val (.int p0), .val (.int p1), .val (.int p2), .val (.int n1), .val (.int x0), .val (.int x1), .val (.int n2), .val (.int y0), .val (.int y1), .val (.int i1), .val (.int i2), .val (.int (3 : Int32)), .val (.ref s1), .val (.ref s2), .val (.ref a3), .val (.ref a3), .unset, .unset] [])) (fun _ qk => XS.astore X5.here hx rfl (hb hby at_176) rfl rfl (l' := #[.val (.int p0), .val (.int p1), .val (.int p2), .val (.int n1), .val (.int x0), .val (.int x1), .val (.int n2), .val (.int y0), .val (.int y1), .val (.int i1), .val (.int i2), .val (.int (3 : Int32)), .val (.ref s1), .val (.ref s2), .val (.ref a3), .val (.ref a3), .unset, .unset]) rfl qk) ?_
    have J213 : ∀ sb : Int32, own_G p e below (own_FI s (fun v vm h L => v = some (.int 1) ∧ Fr Z.heap.size L) room_1.cells room_1.slots) (T5.setTop (mkF m 213 #[.val (.int p0), .val (.int p1), .val (.int p2), .val (.int n1), .val (.int x0), .val (.int x1), .val (.int n2), .val (.int y0), .val (.int y1), .val (.int i1), .val (.int i2), .val (.int (3 : Int32)), .val (.ref s1), .val (.ref s2), .val (.ref a3), .val (.ref a3), .unset, .unset] [(.int sb)])) := by
      intro sb
      show own_G p e below _ (T5.setTop (mkF m 213 #[.val (.int p0), .val (.int p1), .val (.int p2), .val (.int n1), .val (.int x0), .val (.int x1), .val (.int n2), .val (.int y0), .val (.int y1), .val (.int i1), .val (.int i2), .val (.int (3 : Int32)), .val (.ref s1), .val (.ref s2), .val (.ref a3), .val (.ref a3), .unset, .unset] [(.int sb)]))
      refine own_step (b := T5.setTop (mkF m 215 #[.val (.int p0), .val (.int p1), .val (.int p2), .val (.int n1), .val (.int x0), .val (.int x1), .val (.int n2), .val (.int y0), .val (.int y1), .val (.int i1), .val (.int i2), .val (.int (3 : Int32)), .val (.ref s1), .val (.ref s2), .val (.ref a3), .val (.ref a3), .val (.int sb), .unset] [])) (fun _ qk => XS.istore X5.here hx rfl (hb hby at_213) rfl (l' := #[.val (.int p0), .val (.int p1), .val (.int p2), .val (.int n1), .val (.int x0), .val (.int x1), .val (.int n2), .val (.int y0), .val (.int y1), .val (.int i1), .val (.int i2), .val (.int (3 : Int32)), .val (.ref s1), .val (.ref s2), .val (.ref a3), .val (.ref a3), .val (.int sb), .unset]) rfl qk) ?_
      refine own_step (b := T5.setTop (mkF m 217 #[.val (.int p0), .val (.int p1), .val (.int p2), .val (.int n1), .val (.int x0), .val (.int x1), .val (.int n2), .val (.int y0), .val (.int y1), .val (.int i1), .val (.int i2), .val (.int (3 : Int32)), .val (.ref s1), .val (.ref s2), .val (.ref a3), .val (.ref a3), .val (.int sb), .unset] [(.int (3 : Int32))])) (fun _ qk => XS.iload X5.here hx rfl (hb hby at_215) rfl qk) ?_
      refine own_step (b := T5.setTop (mkF m 218 #[.val (.int p0), .val (.int p1), .val (.int p2), .val (.int n1), .val (.int x0), .val (.int x1), .val (.int n2), .val (.int y0), .val (.int y1), .val (.int i1), .val (.int i2), .val (.int (3 : Int32)), .val (.ref s1), .val (.ref s2), .val (.ref a3), .val (.ref a3), .val (.int sb), .unset] [(.int (2 : Int32)), (.int (3 : Int32))])) (fun _ qk => XS.iconst X5.here hx rfl (hb hby at_217) qk) ?_
      refine own_icmp_ge X5 hx (hb hby at_218) (pc' := 227) (by decide) (by decide) (fun c218_53 => ?_) (fun c218_53 => absurd c218_53 (by decide))
      show own_G p e below _ (T5.setTop (mkF m 227 #[.val (.int p0), .val (.int p1), .val (.int p2), .val (.int n1), .val (.int x0), .val (.int x1), .val (.int n2), .val (.int y0), .val (.int y1), .val (.int i1), .val (.int i2), .val (.int (3 : Int32)), .val (.ref s1), .val (.ref s2), .val (.ref a3), .val (.ref a3), .val (.int sb), .unset] []))
      refine own_step (b := T5.setTop (mkF m 229 #[.val (.int p0), .val (.int p1), .val (.int p2), .val (.int n1), .val (.int x0), .val (.int x1), .val (.int n2), .val (.int y0), .val (.int y1), .val (.int i1), .val (.int i2), .val (.int (3 : Int32)), .val (.ref s1), .val (.ref s2), .val (.ref a3), .val (.ref a3), .val (.int sb), .unset] [(.int (3 : Int32))])) (fun _ qk => XS.iload X5.here hx rfl (hb hby at_227) rfl qk) ?_
      refine own_step (b := T5.setTop (mkF m 230 #[.val (.int p0), .val (.int p1), .val (.int p2), .val (.int n1), .val (.int x0), .val (.int x1), .val (.int n2), .val (.int y0), .val (.int y1), .val (.int i1), .val (.int i2), .val (.int (3 : Int32)), .val (.ref s1), .val (.ref s2), .val (.ref a3), .val (.ref a3), .val (.int sb), .unset] [(.int (2 : Int32)), (.int (3 : Int32))])) (fun _ qk => XS.iconst X5.here hx rfl (hb hby at_229) qk) ?_
      refine own_icmp_ne X5 hx (hb hby at_230) (pc' := 255) (by decide) (by decide) (fun c230_54 => ?_) (fun c230_54 => absurd c230_54 (by decide))
      show own_G p e below _ (T5.setTop (mkF m 255 #[.val (.int p0), .val (.int p1), .val (.int p2), .val (.int n1), .val (.int x0), .val (.int x1), .val (.int n2), .val (.int y0), .val (.int y1), .val (.int i1), .val (.int i2), .val (.int (3 : Int32)), .val (.ref s1), .val (.ref s2), .val (.ref a3), .val (.ref a3), .val (.int sb), .unset] []))
      refine own_step (b := T5.setTop (mkF m 256 #[.val (.int p0), .val (.int p1), .val (.int p2), .val (.int n1), .val (.int x0), .val (.int x1), .val (.int n2), .val (.int y0), .val (.int y1), .val (.int i1), .val (.int i2), .val (.int (3 : Int32)), .val (.ref s1), .val (.ref s2), .val (.ref a3), .val (.ref a3), .val (.int sb), .unset] [(.int (1 : Int32))])) (fun _ qk => XS.iconst X5.here hx rfl (hb hby at_255) qk) ?_
      refine own_step (b := T5.setTop (mkF m 258 #[.val (.int p0), .val (.int p1), .val (.int p2), .val (.int n1), .val (.int x0), .val (.int x1), .val (.int n2), .val (.int y0), .val (.int y1), .val (.int i1), .val (.int i2), .val (.int (3 : Int32)), .val (.ref s1), .val (.ref s2), .val (.ref a3), .val (.ref a3), .val (.int sb), .val (.int (1 : Int32))] [])) (fun _ qk => XS.istore X5.here hx rfl (hb hby at_256) rfl (l' := #[.val (.int p0), .val (.int p1), .val (.int p2), .val (.int n1), .val (.int x0), .val (.int x1), .val (.int n2), .val (.int y0), .val (.int y1), .val (.int i1), .val (.int i2), .val (.int (3 : Int32)), .val (.ref s1), .val (.ref s2), .val (.ref a3), .val (.ref a3), .val (.int sb), .val (.int (1 : Int32))]) rfl qk) ?_
      refine own_step (b := T5.setTop (mkF m 260 #[.val (.int p0), .val (.int p1), .val (.int p2), .val (.int n1), .val (.int x0), .val (.int x1), .val (.int n2), .val (.int y0), .val (.int y1), .val (.int i1), .val (.int i2), .val (.int (3 : Int32)), .val (.ref s1), .val (.ref s2), .val (.ref a3), .val (.ref a3), .val (.int sb), .val (.int (1 : Int32))] [(.ref a3)])) (fun _ qk => XS.aload X5.here hx rfl (hb hby at_258) rfl rfl qk) ?_
      refine own_step (b := T5.setTop (mkF m 262 #[.val (.int p0), .val (.int p1), .val (.int p2), .val (.int n1), .val (.int x0), .val (.int x1), .val (.int n2), .val (.int y0), .val (.int y1), .val (.int i1), .val (.int i2), .val (.int (3 : Int32)), .val (.ref s1), .val (.ref s2), .val (.ref a3), .val (.ref a3), .val (.int sb), .val (.int (1 : Int32))] [(.ref a3), (.ref a3)])) (fun _ qk => XS.aload X5.here hx rfl (hb hby at_260) rfl rfl qk) ?_
      refine own_virtualP (a := a3) (W := 0) (argsL := [(.ref a3)]) (st := []) X5 hx hZ hown (own_w hw 56 rfl) (own_w hw 57 rfl) (own_w hw 59 rfl) rfl (own_w hw 58 rfl) (by decide) rfl Ex5 (rmEq l Z a0 hw [] a3 a3 s1 s1 (own_ph q0 q1 q2 i1) (own_ph q0 q1 q2 i1) (own_tx n1 x0 x1) (own_tx n1 x0 x1) T5.heap Ex5 Fb5 Fp5 Fb5 Fp5 S1c S1c OL5 G1 O2 P5) (own_w hw 60 rfl) (own_w hw 36 rfl) (by decide) (by decide) (by decide) (by decide) (by rw [hml]; rfl) (lenOf pd7 rfl) rfl (Nat.le_of_ble_eq_true rfl) (hb hby at_262) (fun T55 X55 e55 => ?_)
      show own_G p e below _ (T55.setTop (mkF m 265 #[.val (.int p0), .val (.int p1), .val (.int p2), .val (.int n1), .val (.int x0), .val (.int x1), .val (.int n2), .val (.int y0), .val (.int y1), .val (.int i1), .val (.int i2), .val (.int (3 : Int32)), .val (.ref s1), .val (.ref s2), .val (.ref a3), .val (.ref a3), .val (.int sb), .val (.int (1 : Int32))] [(.int (own_bi (decide (own_tx n1 x0 x1 = own_tx n1 x0 x1) && decide (own_ph q0 q1 q2 i1 = own_ph q0 q1 q2 i1))))]))
      refine own_step (b := T55.setTop (mkF m 267 #[.val (.int p0), .val (.int p1), .val (.int p2), .val (.int n1), .val (.int x0), .val (.int x1), .val (.int n2), .val (.int y0), .val (.int y1), .val (.int i1), .val (.int i2), .val (.int (3 : Int32)), .val (.ref s1), .val (.ref s2), .val (.ref a3), .val (.ref a3), .val (.int sb), .val (.int (1 : Int32))] [(.int (1 : Int32)), (.int (own_bi (decide (own_tx n1 x0 x1 = own_tx n1 x0 x1) && decide (own_ph q0 q1 q2 i1 = own_ph q0 q1 q2 i1))))])) (fun _ qk => XS.iload X55.here hx rfl (hb hby at_265) rfl qk) ?_
      have hm56 : (decide (own_tx n1 x0 x1 = own_tx n1 x0 x1) && decide (own_ph q0 q1 q2 i1 = own_ph q0 q1 q2 i1)) = true := by simp
      refine own_icmp_ne X55 hx (hb hby at_267) (pc' := 274) (by decide) (by decide) (fun cf56 => absurd (by rw [hm56]; rfl) cf56) (fun cf56 => ?_)
      show own_G p e below _ (T55.setTop (mkF m 270 #[.val (.int p0), .val (.int p1), .val (.int p2), .val (.int n1), .val (.int x0), .val (.int x1), .val (.int n2), .val (.int y0), .val (.int y1), .val (.int i1), .val (.int i2), .val (.int (3 : Int32)), .val (.ref s1), .val (.ref s2), .val (.ref a3), .val (.ref a3), .val (.int sb), .val (.int (1 : Int32))] []))
      refine own_step (b := T55.setTop (mkF m 271 #[.val (.int p0), .val (.int p1), .val (.int p2), .val (.int n1), .val (.int x0), .val (.int x1), .val (.int n2), .val (.int y0), .val (.int y1), .val (.int i1), .val (.int i2), .val (.int (3 : Int32)), .val (.ref s1), .val (.ref s2), .val (.ref a3), .val (.ref a3), .val (.int sb), .val (.int (1 : Int32))] [(.int (1 : Int32))])) (fun _ qk => XS.iconst X55.here hx rfl (hb hby at_270) qk) ?_
      refine own_step (b := T55.setTop (mkF m 275 #[.val (.int p0), .val (.int p1), .val (.int p2), .val (.int n1), .val (.int x0), .val (.int x1), .val (.int n2), .val (.int y0), .val (.int y1), .val (.int i1), .val (.int i2), .val (.int (3 : Int32)), .val (.ref s1), .val (.ref s2), .val (.ref a3), .val (.ref a3), .val (.int sb), .val (.int (1 : Int32))] [(.int (1 : Int32))])) (fun _ qk => XS.goto X55.here hx rfl (pc0 := 271) (pc' := 275) rfl (hb hby at_271) (by decide) (by decide) qk) ?_
      exact own_retXN X55 hx hS (by rw [show T55.heap = T5.heap from e55]; omega) hret (by simp) hlk (hb hby at_275) ⟨rfl, N5⟩ (by decide) (by decide)
    show own_G p e below _ (T5.setTop (mkF m 178 #[.val (.int p0), .val (.int p1), .val (.int p2), .val (.int n1), .val (.int x0), .val (.int x1), .val (.int n2), .val (.int y0), .val (.int y1), .val (.int i1), .val (.int i2), .val (.int (3 : Int32)), .val (.ref s1), .val (.ref s2), .val (.ref a3), .val (.ref a3), .unset, .unset] []))
    refine own_step (b := T5.setTop (mkF m 179 #[.val (.int p0), .val (.int p1), .val (.int p2), .val (.int n1), .val (.int x0), .val (.int x1), .val (.int n2), .val (.int y0), .val (.int y1), .val (.int i1), .val (.int i2), .val (.int (3 : Int32)), .val (.ref s1), .val (.ref s2), .val (.ref a3), .val (.ref a3), .unset, .unset] [(.int n1)])) (fun _ qk => XS.iloadN X5.here hx rfl (hb hby at_178) rfl qk) ?_
    refine own_step (b := T5.setTop (mkF m 181 #[.val (.int p0), .val (.int p1), .val (.int p2), .val (.int n1), .val (.int x0), .val (.int x1), .val (.int n2), .val (.int y0), .val (.int y1), .val (.int i1), .val (.int i2), .val (.int (3 : Int32)), .val (.ref s1), .val (.ref s2), .val (.ref a3), .val (.ref a3), .unset, .unset] [(.int n2), (.int n1)])) (fun _ qk => XS.iload X5.here hx rfl (hb hby at_179) rfl qk) ?_
    refine own_icmp_ne X5 hx (hb hby at_181) (pc' := 212) (by decide) (by decide) (fun c181_57 => ?_) (fun c181_57 => ?_)
    · show own_G p e below _ (T5.setTop (mkF m 212 #[.val (.int p0), .val (.int p1), .val (.int p2), .val (.int n1), .val (.int x0), .val (.int x1), .val (.int n2), .val (.int y0), .val (.int y1), .val (.int i1), .val (.int i2), .val (.int (3 : Int32)), .val (.ref s1), .val (.ref s2), .val (.ref a3), .val (.ref a3), .unset, .unset] []))
      refine own_step (b := T5.setTop (mkF m 213 #[.val (.int p0), .val (.int p1), .val (.int p2), .val (.int n1), .val (.int x0), .val (.int x1), .val (.int n2), .val (.int y0), .val (.int y1), .val (.int i1), .val (.int i2), .val (.int (3 : Int32)), .val (.ref s1), .val (.ref s2), .val (.ref a3), .val (.ref a3), .unset, .unset] [(.int (0 : Int32))])) (fun _ qk => XS.iconst X5.here hx rfl (hb hby at_212) qk) ?_
      exact J213 _
    · show own_G p e below _ (T5.setTop (mkF m 184 #[.val (.int p0), .val (.int p1), .val (.int p2), .val (.int n1), .val (.int x0), .val (.int x1), .val (.int n2), .val (.int y0), .val (.int y1), .val (.int i1), .val (.int i2), .val (.int (3 : Int32)), .val (.ref s1), .val (.ref s2), .val (.ref a3), .val (.ref a3), .unset, .unset] []))
      refine own_step (b := T5.setTop (mkF m 185 #[.val (.int p0), .val (.int p1), .val (.int p2), .val (.int n1), .val (.int x0), .val (.int x1), .val (.int n2), .val (.int y0), .val (.int y1), .val (.int i1), .val (.int i2), .val (.int (3 : Int32)), .val (.ref s1), .val (.ref s2), .val (.ref a3), .val (.ref a3), .unset, .unset] [(.int n1)])) (fun _ qk => XS.iloadN X5.here hx rfl (hb hby at_184) rfl qk) ?_
      refine own_step (b := T5.setTop (mkF m 186 #[.val (.int p0), .val (.int p1), .val (.int p2), .val (.int n1), .val (.int x0), .val (.int x1), .val (.int n2), .val (.int y0), .val (.int y1), .val (.int i1), .val (.int i2), .val (.int (3 : Int32)), .val (.ref s1), .val (.ref s2), .val (.ref a3), .val (.ref a3), .unset, .unset] [(.int (1 : Int32)), (.int n1)])) (fun _ qk => XS.iconst X5.here hx rfl (hb hby at_185) qk) ?_
      refine own_icmp_lt X5 hx (hb hby at_186) (pc' := 196) (by decide) (by decide) (fun c186_58 => ?_) (fun c186_58 => ?_)
      · show own_G p e below _ (T5.setTop (mkF m 196 #[.val (.int p0), .val (.int p1), .val (.int p2), .val (.int n1), .val (.int x0), .val (.int x1), .val (.int n2), .val (.int y0), .val (.int y1), .val (.int i1), .val (.int i2), .val (.int (3 : Int32)), .val (.ref s1), .val (.ref s2), .val (.ref a3), .val (.ref a3), .unset, .unset] []))
        refine own_step (b := T5.setTop (mkF m 197 #[.val (.int p0), .val (.int p1), .val (.int p2), .val (.int n1), .val (.int x0), .val (.int x1), .val (.int n2), .val (.int y0), .val (.int y1), .val (.int i1), .val (.int i2), .val (.int (3 : Int32)), .val (.ref s1), .val (.ref s2), .val (.ref a3), .val (.ref a3), .unset, .unset] [(.int n1)])) (fun _ qk => XS.iloadN X5.here hx rfl (hb hby at_196) rfl qk) ?_
        refine own_step (b := T5.setTop (mkF m 198 #[.val (.int p0), .val (.int p1), .val (.int p2), .val (.int n1), .val (.int x0), .val (.int x1), .val (.int n2), .val (.int y0), .val (.int y1), .val (.int i1), .val (.int i2), .val (.int (3 : Int32)), .val (.ref s1), .val (.ref s2), .val (.ref a3), .val (.ref a3), .unset, .unset] [(.int (2 : Int32)), (.int n1)])) (fun _ qk => XS.iconst X5.here hx rfl (hb hby at_197) qk) ?_
        refine own_icmp_lt X5 hx (hb hby at_198) (pc' := 208) (by decide) (by decide) (fun c198_59 => ?_) (fun c198_59 => ?_)
        · show own_G p e below _ (T5.setTop (mkF m 208 #[.val (.int p0), .val (.int p1), .val (.int p2), .val (.int n1), .val (.int x0), .val (.int x1), .val (.int n2), .val (.int y0), .val (.int y1), .val (.int i1), .val (.int i2), .val (.int (3 : Int32)), .val (.ref s1), .val (.ref s2), .val (.ref a3), .val (.ref a3), .unset, .unset] []))
          refine own_step (b := T5.setTop (mkF m 209 #[.val (.int p0), .val (.int p1), .val (.int p2), .val (.int n1), .val (.int x0), .val (.int x1), .val (.int n2), .val (.int y0), .val (.int y1), .val (.int i1), .val (.int i2), .val (.int (3 : Int32)), .val (.ref s1), .val (.ref s2), .val (.ref a3), .val (.ref a3), .unset, .unset] [(.int (1 : Int32))])) (fun _ qk => XS.iconst X5.here hx rfl (hb hby at_208) qk) ?_
          refine own_step (b := T5.setTop (mkF m 213 #[.val (.int p0), .val (.int p1), .val (.int p2), .val (.int n1), .val (.int x0), .val (.int x1), .val (.int n2), .val (.int y0), .val (.int y1), .val (.int i1), .val (.int i2), .val (.int (3 : Int32)), .val (.ref s1), .val (.ref s2), .val (.ref a3), .val (.ref a3), .unset, .unset] [(.int (1 : Int32))])) (fun _ qk => XS.goto X5.here hx rfl (pc0 := 209) (pc' := 213) rfl (hb hby at_209) (by decide) (by decide) qk) ?_
          exact J213 _
        · show own_G p e below _ (T5.setTop (mkF m 201 #[.val (.int p0), .val (.int p1), .val (.int p2), .val (.int n1), .val (.int x0), .val (.int x1), .val (.int n2), .val (.int y0), .val (.int y1), .val (.int i1), .val (.int i2), .val (.int (3 : Int32)), .val (.ref s1), .val (.ref s2), .val (.ref a3), .val (.ref a3), .unset, .unset] []))
          refine own_step (b := T5.setTop (mkF m 203 #[.val (.int p0), .val (.int p1), .val (.int p2), .val (.int n1), .val (.int x0), .val (.int x1), .val (.int n2), .val (.int y0), .val (.int y1), .val (.int i1), .val (.int i2), .val (.int (3 : Int32)), .val (.ref s1), .val (.ref s2), .val (.ref a3), .val (.ref a3), .unset, .unset] [(.int x1)])) (fun _ qk => XS.iload X5.here hx rfl (hb hby at_201) rfl qk) ?_
          refine own_step (b := T5.setTop (mkF m 205 #[.val (.int p0), .val (.int p1), .val (.int p2), .val (.int n1), .val (.int x0), .val (.int x1), .val (.int n2), .val (.int y0), .val (.int y1), .val (.int i1), .val (.int i2), .val (.int (3 : Int32)), .val (.ref s1), .val (.ref s2), .val (.ref a3), .val (.ref a3), .unset, .unset] [(.int y1), (.int x1)])) (fun _ qk => XS.iload X5.here hx rfl (hb hby at_203) rfl qk) ?_
          refine own_icmp_ne X5 hx (hb hby at_205) (pc' := 212) (by decide) (by decide) (fun c205_60 => ?_) (fun c205_60 => ?_)
          · show own_G p e below _ (T5.setTop (mkF m 212 #[.val (.int p0), .val (.int p1), .val (.int p2), .val (.int n1), .val (.int x0), .val (.int x1), .val (.int n2), .val (.int y0), .val (.int y1), .val (.int i1), .val (.int i2), .val (.int (3 : Int32)), .val (.ref s1), .val (.ref s2), .val (.ref a3), .val (.ref a3), .unset, .unset] []))
            refine own_step (b := T5.setTop (mkF m 213 #[.val (.int p0), .val (.int p1), .val (.int p2), .val (.int n1), .val (.int x0), .val (.int x1), .val (.int n2), .val (.int y0), .val (.int y1), .val (.int i1), .val (.int i2), .val (.int (3 : Int32)), .val (.ref s1), .val (.ref s2), .val (.ref a3), .val (.ref a3), .unset, .unset] [(.int (0 : Int32))])) (fun _ qk => XS.iconst X5.here hx rfl (hb hby at_212) qk) ?_
            exact J213 _
          · show own_G p e below _ (T5.setTop (mkF m 208 #[.val (.int p0), .val (.int p1), .val (.int p2), .val (.int n1), .val (.int x0), .val (.int x1), .val (.int n2), .val (.int y0), .val (.int y1), .val (.int i1), .val (.int i2), .val (.int (3 : Int32)), .val (.ref s1), .val (.ref s2), .val (.ref a3), .val (.ref a3), .unset, .unset] []))
            refine own_step (b := T5.setTop (mkF m 209 #[.val (.int p0), .val (.int p1), .val (.int p2), .val (.int n1), .val (.int x0), .val (.int x1), .val (.int n2), .val (.int y0), .val (.int y1), .val (.int i1), .val (.int i2), .val (.int (3 : Int32)), .val (.ref s1), .val (.ref s2), .val (.ref a3), .val (.ref a3), .unset, .unset] [(.int (1 : Int32))])) (fun _ qk => XS.iconst X5.here hx rfl (hb hby at_208) qk) ?_
            refine own_step (b := T5.setTop (mkF m 213 #[.val (.int p0), .val (.int p1), .val (.int p2), .val (.int n1), .val (.int x0), .val (.int x1), .val (.int n2), .val (.int y0), .val (.int y1), .val (.int i1), .val (.int i2), .val (.int (3 : Int32)), .val (.ref s1), .val (.ref s2), .val (.ref a3), .val (.ref a3), .unset, .unset] [(.int (1 : Int32))])) (fun _ qk => XS.goto X5.here hx rfl (pc0 := 209) (pc' := 213) rfl (hb hby at_209) (by decide) (by decide) qk) ?_
            exact J213 _
      · show own_G p e below _ (T5.setTop (mkF m 189 #[.val (.int p0), .val (.int p1), .val (.int p2), .val (.int n1), .val (.int x0), .val (.int x1), .val (.int n2), .val (.int y0), .val (.int y1), .val (.int i1), .val (.int i2), .val (.int (3 : Int32)), .val (.ref s1), .val (.ref s2), .val (.ref a3), .val (.ref a3), .unset, .unset] []))
        refine own_step (b := T5.setTop (mkF m 191 #[.val (.int p0), .val (.int p1), .val (.int p2), .val (.int n1), .val (.int x0), .val (.int x1), .val (.int n2), .val (.int y0), .val (.int y1), .val (.int i1), .val (.int i2), .val (.int (3 : Int32)), .val (.ref s1), .val (.ref s2), .val (.ref a3), .val (.ref a3), .unset, .unset] [(.int x0)])) (fun _ qk => XS.iload X5.here hx rfl (hb hby at_189) rfl qk) ?_
        refine own_step (b := T5.setTop (mkF m 193 #[.val (.int p0), .val (.int p1), .val (.int p2), .val (.int n1), .val (.int x0), .val (.int x1), .val (.int n2), .val (.int y0), .val (.int y1), .val (.int i1), .val (.int i2), .val (.int (3 : Int32)), .val (.ref s1), .val (.ref s2), .val (.ref a3), .val (.ref a3), .unset, .unset] [(.int y0), (.int x0)])) (fun _ qk => XS.iload X5.here hx rfl (hb hby at_191) rfl qk) ?_
        refine own_icmp_ne X5 hx (hb hby at_193) (pc' := 212) (by decide) (by decide) (fun c193_61 => ?_) (fun c193_61 => ?_)
        · show own_G p e below _ (T5.setTop (mkF m 212 #[.val (.int p0), .val (.int p1), .val (.int p2), .val (.int n1), .val (.int x0), .val (.int x1), .val (.int n2), .val (.int y0), .val (.int y1), .val (.int i1), .val (.int i2), .val (.int (3 : Int32)), .val (.ref s1), .val (.ref s2), .val (.ref a3), .val (.ref a3), .unset, .unset] []))
          refine own_step (b := T5.setTop (mkF m 213 #[.val (.int p0), .val (.int p1), .val (.int p2), .val (.int n1), .val (.int x0), .val (.int x1), .val (.int n2), .val (.int y0), .val (.int y1), .val (.int i1), .val (.int i2), .val (.int (3 : Int32)), .val (.ref s1), .val (.ref s2), .val (.ref a3), .val (.ref a3), .unset, .unset] [(.int (0 : Int32))])) (fun _ qk => XS.iconst X5.here hx rfl (hb hby at_212) qk) ?_
          exact J213 _
        · show own_G p e below _ (T5.setTop (mkF m 196 #[.val (.int p0), .val (.int p1), .val (.int p2), .val (.int n1), .val (.int x0), .val (.int x1), .val (.int n2), .val (.int y0), .val (.int y1), .val (.int i1), .val (.int i2), .val (.int (3 : Int32)), .val (.ref s1), .val (.ref s2), .val (.ref a3), .val (.ref a3), .unset, .unset] []))
          refine own_step (b := T5.setTop (mkF m 197 #[.val (.int p0), .val (.int p1), .val (.int p2), .val (.int n1), .val (.int x0), .val (.int x1), .val (.int n2), .val (.int y0), .val (.int y1), .val (.int i1), .val (.int i2), .val (.int (3 : Int32)), .val (.ref s1), .val (.ref s2), .val (.ref a3), .val (.ref a3), .unset, .unset] [(.int n1)])) (fun _ qk => XS.iloadN X5.here hx rfl (hb hby at_196) rfl qk) ?_
          refine own_step (b := T5.setTop (mkF m 198 #[.val (.int p0), .val (.int p1), .val (.int p2), .val (.int n1), .val (.int x0), .val (.int x1), .val (.int n2), .val (.int y0), .val (.int y1), .val (.int i1), .val (.int i2), .val (.int (3 : Int32)), .val (.ref s1), .val (.ref s2), .val (.ref a3), .val (.ref a3), .unset, .unset] [(.int (2 : Int32)), (.int n1)])) (fun _ qk => XS.iconst X5.here hx rfl (hb hby at_197) qk) ?_
          refine own_icmp_lt X5 hx (hb hby at_198) (pc' := 208) (by decide) (by decide) (fun c198_62 => ?_) (fun c198_62 => ?_)
          · show own_G p e below _ (T5.setTop (mkF m 208 #[.val (.int p0), .val (.int p1), .val (.int p2), .val (.int n1), .val (.int x0), .val (.int x1), .val (.int n2), .val (.int y0), .val (.int y1), .val (.int i1), .val (.int i2), .val (.int (3 : Int32)), .val (.ref s1), .val (.ref s2), .val (.ref a3), .val (.ref a3), .unset, .unset] []))
            refine own_step (b := T5.setTop (mkF m 209 #[.val (.int p0), .val (.int p1), .val (.int p2), .val (.int n1), .val (.int x0), .val (.int x1), .val (.int n2), .val (.int y0), .val (.int y1), .val (.int i1), .val (.int i2), .val (.int (3 : Int32)), .val (.ref s1), .val (.ref s2), .val (.ref a3), .val (.ref a3), .unset, .unset] [(.int (1 : Int32))])) (fun _ qk => XS.iconst X5.here hx rfl (hb hby at_208) qk) ?_
            refine own_step (b := T5.setTop (mkF m 213 #[.val (.int p0), .val (.int p1), .val (.int p2), .val (.int n1), .val (.int x0), .val (.int x1), .val (.int n2), .val (.int y0), .val (.int y1), .val (.int i1), .val (.int i2), .val (.int (3 : Int32)), .val (.ref s1), .val (.ref s2), .val (.ref a3), .val (.ref a3), .unset, .unset] [(.int (1 : Int32))])) (fun _ qk => XS.goto X5.here hx rfl (pc0 := 209) (pc' := 213) rfl (hb hby at_209) (by decide) (by decide) qk) ?_
            exact J213 _
          · show own_G p e below _ (T5.setTop (mkF m 201 #[.val (.int p0), .val (.int p1), .val (.int p2), .val (.int n1), .val (.int x0), .val (.int x1), .val (.int n2), .val (.int y0), .val (.int y1), .val (.int i1), .val (.int i2), .val (.int (3 : Int32)), .val (.ref s1), .val (.ref s2), .val (.ref a3), .val (.ref a3), .unset, .unset] []))
            refine own_step (b := T5.setTop (mkF m 203 #[.val (.int p0), .val (.int p1), .val (.int p2), .val (.int n1), .val (.int x0), .val (.int x1), .val (.int n2), .val (.int y0), .val (.int y1), .val (.int i1), .val (.int i2), .val (.int (3 : Int32)), .val (.ref s1), .val (.ref s2), .val (.ref a3), .val (.ref a3), .unset, .unset] [(.int x1)])) (fun _ qk => XS.iload X5.here hx rfl (hb hby at_201) rfl qk) ?_
            refine own_step (b := T5.setTop (mkF m 205 #[.val (.int p0), .val (.int p1), .val (.int p2), .val (.int n1), .val (.int x0), .val (.int x1), .val (.int n2), .val (.int y0), .val (.int y1), .val (.int i1), .val (.int i2), .val (.int (3 : Int32)), .val (.ref s1), .val (.ref s2), .val (.ref a3), .val (.ref a3), .unset, .unset] [(.int y1), (.int x1)])) (fun _ qk => XS.iload X5.here hx rfl (hb hby at_203) rfl qk) ?_
            refine own_icmp_ne X5 hx (hb hby at_205) (pc' := 212) (by decide) (by decide) (fun c205_63 => ?_) (fun c205_63 => ?_)
            · show own_G p e below _ (T5.setTop (mkF m 212 #[.val (.int p0), .val (.int p1), .val (.int p2), .val (.int n1), .val (.int x0), .val (.int x1), .val (.int n2), .val (.int y0), .val (.int y1), .val (.int i1), .val (.int i2), .val (.int (3 : Int32)), .val (.ref s1), .val (.ref s2), .val (.ref a3), .val (.ref a3), .unset, .unset] []))
              refine own_step (b := T5.setTop (mkF m 213 #[.val (.int p0), .val (.int p1), .val (.int p2), .val (.int n1), .val (.int x0), .val (.int x1), .val (.int n2), .val (.int y0), .val (.int y1), .val (.int i1), .val (.int i2), .val (.int (3 : Int32)), .val (.ref s1), .val (.ref s2), .val (.ref a3), .val (.ref a3), .unset, .unset] [(.int (0 : Int32))])) (fun _ qk => XS.iconst X5.here hx rfl (hb hby at_212) qk) ?_
              exact J213 _
            · show own_G p e below _ (T5.setTop (mkF m 208 #[.val (.int p0), .val (.int p1), .val (.int p2), .val (.int n1), .val (.int x0), .val (.int x1), .val (.int n2), .val (.int y0), .val (.int y1), .val (.int i1), .val (.int i2), .val (.int (3 : Int32)), .val (.ref s1), .val (.ref s2), .val (.ref a3), .val (.ref a3), .unset, .unset] []))
              refine own_step (b := T5.setTop (mkF m 209 #[.val (.int p0), .val (.int p1), .val (.int p2), .val (.int n1), .val (.int x0), .val (.int x1), .val (.int n2), .val (.int y0), .val (.int y1), .val (.int i1), .val (.int i2), .val (.int (3 : Int32)), .val (.ref s1), .val (.ref s2), .val (.ref a3), .val (.ref a3), .unset, .unset] [(.int (1 : Int32))])) (fun _ qk => XS.iconst X5.here hx rfl (hb hby at_208) qk) ?_
              refine own_step (b := T5.setTop (mkF m 213 #[.val (.int p0), .val (.int p1), .val (.int p2), .val (.int n1), .val (.int x0), .val (.int x1), .val (.int n2), .val (.int y0), .val (.int y1), .val (.int i1), .val (.int i2), .val (.int (3 : Int32)), .val (.ref s1), .val (.ref s2), .val (.ref a3), .val (.ref a3), .unset, .unset] [(.int (1 : Int32))])) (fun _ qk => XS.goto X5.here hx rfl (pc0 := 209) (pc' := 213) rfl (hb hby at_209) (by decide) (by decide) qk) ?_
              exact J213 _
theorem kn_int {u : Value} {z : Int32} (h : Kin u (.int z)) : ∃ c, u = .int c := by cases u <;> simp [Kin, Value.isRef] at h ⊢
theorem comes_1 {Post : Tables → Env → Array Value → State → Outcome → State → Prop} (hpost : ∀ tb e args s v u, (limb_1_1.after args s (.returned v) u = true ∧ limb_1_2.after args s (.returned v) u = true ∧ True) → ReturnedEndW s (.returned v) u (Jvm.fieldLocs frame_1_writes args s ++ Jvm.arrayLocs frame_1_arrays args s ++ Jvm.staticLocs frame_1_statics s) 32 1152 → Post tb e args s (.returned v) u) :
    ArmFor flags0 classFile x code maxLocals ret World_1 tables_1 room_1 Calls_1 rest_1 Pre_1 Post := by
  intro l hfl _ _ p e ha hc hk s m args below hf hA hF happ hP
  obtain ⟨hcalls, hrest, hpre⟩ := hP
  obtain ⟨-, -, -, hnamed, -, -, -, hat⟩ := (Spec.applies_iff hf).mp happ
  obtain ⟨hg, hn⟩ := and_e (Cond.before_iff.mp (show (Jvm.Cond.and given_1 narrow_1).before args s = true from hpre))
  obtain ⟨hcnt, q0⟩ := and_e hg
  obtain ⟨i0, q1⟩ := and_e q0
  obtain ⟨i1, q2⟩ := and_e q1
  have i2 := q2
  obtain ⟨w0, w1, w2, rfl⟩ : ∃ w0 w1 w2 : Value, args = #[w0, w1, w2] := by
    have hs : args.size = 3 := by simpa [Cond.value, given_1] using hcnt
    obtain ⟨L⟩ := args
    match L, hs with
    | [w0, w1, w2], _ => exact ⟨w0, w1, w2, rfl⟩
  have hw := fun d (hd : d ∈ tables_1) => atoms_spec (ws := Jvm.Cond.code x code maxLocals ret :: tables_1) hat d (List.mem_cons_of_mem _ hd)
  obtain ⟨hsets, hown0⟩ := atoms_of _ (rest_1_c_eq ▸ (show rest_1_c.before _ s = true from hrest))
  have hfit : Fit s := fun {y c} hc i hi => by
    obtain ⟨ha, rfl⟩ := Array.getElem?_eq_some_iff.mp hc
    have q := List.all_eq_true.mp ((Array.all_eq_true_iff_forall_mem.mp hF) _ (Array.getElem_mem ha)) i (List.mem_range.mpr hi)
    simpa [Array.getElem?_eq_getElem hi] using q
  obtain ⟨j0, e0⟩ := is_v i0
  obtain rfl : w0 = (.int j0) := Option.some.inj e0
  obtain ⟨j1, e1⟩ := is_v i1
  obtain rfl : w1 = (.int j1) := Option.some.inj e1
  obtain ⟨j2, e2⟩ := is_v i2
  obtain rfl : w2 = (.int j2) := Option.some.inj e2
  have n5 := not_v (Cond.before_iff.mp (hsets _ (List.mem_of_getElem? (i := 2) rfl)))
  obtain ⟨G1, eG1⟩ := is_v (Cond.before_iff.mp (hsets _ (List.mem_of_getElem? (i := 1) rfl)))
  have O2 : Sta s s.heap "java/lang/String" "COMPACT_STRINGS" "Z" (.int G1) := Sta.start eG1 (Or.inl (hsets _ (List.mem_of_getElem? (i := 0) rfl)))
  have P5 : ¬ (G1 = (0 : Int32)) := gotF (Cond.eq_ints eG1 (Term.int_eval (0))) n5
  have HC : Jvm.Lit.compactW.before _ s = true := hsets _ (List.mem_of_getElem? (i := 2) rfl)
  have CH : Jvm.Lit.constHeld s "java/lang/String" 7 := hcalls.1 _ (List.mem_of_getElem? (i := 0) rfl)
  obtain ⟨b0, hn⟩ := and_e hn
  obtain ⟨b1, hn⟩ := and_e hn
  obtain ⟨b2, hn⟩ := and_e hn
  obtain ⟨o2, hn⟩ := and_e hn
  obtain ⟨o1, o0⟩ := and_e hn
  obtain ⟨q0, eq0⟩ := exa_v b0
  have Q0 : Sta s s.heap "com/example/unganisha/unganisha/engine/CreationOrder$Phase" "CONSTRUCT" "Lcom/example/unganisha/unganisha/engine/CreationOrder$Phase;" (.ref q0) := Sta.start eq0 (Or.inr ⟨own_w hw 41 rfl, own_w hw 42 rfl⟩)
  obtain ⟨q1, eq1⟩ := exa_v b1
  have Q1 : Sta s s.heap "com/example/unganisha/unganisha/engine/CreationOrder$Phase" "FINISH" "Lcom/example/unganisha/unganisha/engine/CreationOrder$Phase;" (.ref q1) := Sta.start eq1 (Or.inr ⟨own_w hw 41 rfl, own_w hw 82 rfl⟩)
  obtain ⟨q2, eq2⟩ := exa_v b2
  have Q2 : Sta s s.heap "com/example/unganisha/unganisha/engine/CreationOrder$Phase" "BUILD" "Lcom/example/unganisha/unganisha/engine/CreationOrder$Phase;" (.ref q2) := Sta.start eq2 (Or.inr ⟨own_w hw 41 rfl, own_w hw 90 rfl⟩)
  obtain ⟨u0, v0, fu0, fv0, kn0, -⟩ := cmp_v (Or.inl o0)
  rw [fld_at eq0] at fu0
  have W0 := Fld.start fu0
  obtain rfl : (.int 0) = v0 := Option.some.inj fv0
  obtain ⟨c0, rfl⟩ := kn_int kn0
  have hc0 : c0 = 0 := gotT (Cond.eq_ints (show (Jvm.Term.field _ _ _ _).eval _ s none [] s = some (.int c0) by rw [fld_at eq0]; exact fu0) (Term.int_eval 0)) o0
  obtain ⟨u1, v1, fu1, fv1, kn1, -⟩ := cmp_v (Or.inl o1)
  rw [fld_at eq1] at fu1
  have W1 := Fld.start fu1
  obtain rfl : (.int 1) = v1 := Option.some.inj fv1
  obtain ⟨c1, rfl⟩ := kn_int kn1
  have hc1 : c1 = 1 := gotT (Cond.eq_ints (show (Jvm.Term.field _ _ _ _).eval _ s none [] s = some (.int c1) by rw [fld_at eq1]; exact fu1) (Term.int_eval 1)) o1
  obtain ⟨u2, v2, fu2, fv2, kn2, -⟩ := cmp_v (Or.inl o2)
  rw [fld_at eq2] at fu2
  have W2 := Fld.start fu2
  obtain rfl : (.int 2) = v2 := Option.some.inj fv2
  obtain ⟨c2, rfl⟩ := kn_int kn2
  have hc2 : c2 = 2 := gotT (Cond.eq_ints (show (Jvm.Term.field _ _ _ _).eval _ s none [] s = some (.int c2) by rw [fld_at eq2]; exact fu2) (Term.int_eval 2)) o2
  have h01 : q0 ≠ q1 := Fld.ne W0 W1 (by rw [hc0, hc1]; decide)
  have h02 : q0 ≠ q2 := Fld.ne W0 W2 (by rw [hc0, hc2]; decide)
  have h12 : q1 ≠ q2 := Fld.ne W1 W2 (by rw [hc1, hc2]; decide)
  obtain ⟨n, o, h1, h2, h3, _, L, rfl, ⟨rfl, N⟩, hq⟩ := rm0 l s _ hw tables_1 j0 j1 j2 s.heap G1 O2 P5 (Old.start s) CH HC q0 q1 q2 Q0 Q1 Q2 h01 h02 h12 p e ha hc hk s m _ below hf ((Spec.applies_iff_loose hf).mp happ).1 ⟨rfl, State.Warmed39.refl s, rfl, IB.start⟩ trivial
  refine ⟨n, _, h1, h2, h3, hpost _ _ _ _ _ _ ⟨Cond.after_iff.mpr rfl, Cond.after_iff.mpr (eq_i res_at (Term.int_eval (1)) rfl), trivial⟩ ⟨hq.1, hq.2.1, hq.2.2.1, (hq.2.2.2.sift fun y hy => Or.inr (N y hy)).mono (by decide) (by decide)⟩⟩
theorem main_1_1 : Claimed_1_1 := comes_1 fun _ _ _ _ _ _ h hF => ⟨h.1, hF⟩
theorem main_1_2 : Claimed_1_2 := comes_1 fun _ _ _ _ _ _ h hF => ⟨h.2.1, hF⟩
end Jvm.Pilot.@@N@@
namespace Jvm.Pilot.@@N@@
open Jvm Jvm.ClassFile Sem Op Lib Jvm.Free Jvm.Stand Jvm.Pilot.@@N@@.Jvm.D
/-! MADE BY PROGRAM (witnessworld.py) out of the Statement's table words and the real class files: 23 classes; the members and pool entries that the words name. The judged class is class 1, her method 3. -/
namespace start1
open Jvm.ClassFile
def u (s : String) : CpInfo := .utf8 (stringToUtf16 s)
/-- a pool by its gaps: so many unusable entries, then the entry; so many at the end -/
def gap : Nat → List CpInfo → List CpInfo
  | 0, r => r
  | n + 1, r => .unusable :: gap n r
def poolList (es : List (Nat × CpInfo)) (last : Nat) : List CpInfo := es.foldr (fun e r => gap e.1 (e.2 :: r)) (gap last [])
def pool (es : List (Nat × CpInfo)) (last : Nat) : Array CpInfo := ⟨poolList es last⟩
def fileOf (pool : Array CpInfo) (this : Nat) (attrs : Array Attribute := #[]) (ms : Array MethodInfo := #[]) (fl : Nat := 33) (sup : Nat := 0) (ifs : Array Nat := #[]) (fds : Array FieldInfo := #[]) : ClassFile where
  minorVersion := 0
  majorVersion := 65
  constantPool := pool
  accessFlags := fl
  thisClass := this
  superClass := sup
  interfaces := ifs
  fields := fds
  methods := ms
  attributes := attrs
def plain (name : String) (sup : Option ClassId) : Class where
  name := name
  kind := .ordinary
  loader := none
  accessFlags := 33
  super := sup
  interfaces := #[]
  cf := none
  fields := #[]
  methods := #[]
  instanceTypes := #[]
  staticTypes := #[]
  resolved := #[]
  callSites := []
  init := .initialized
  statics := none
  mirror := none

def pool0 : Array CpInfo := pool [(5, u "<init>"), (0, u "()V"), (1, .class_ 10), (1, u "java/lang/Object")] 113

def k0c0 : Code := { maxStack := 0, maxLocals := 1, code := object_method_1_code, exceptionTable := #[], attributes := #[] }
def k0m0 : Method := { name := "<init>", desc := "()V", sig := { parameters := [], returnType := none }, accessFlags := 1, code := some k0c0 }
/-- java/lang/Object -/
def k0 : Class := { plain "java/lang/Object" none with
  accessFlags := 33
  interfaces := #[]
  cf := some (fileOf pool0 8 #[] #[{ accessFlags := 1, nameIndex := 5, descriptorIndex := 6, attributes := #[] }] 33 0 #[] #[])
  fields := #[]
  methods := #[k0m0]
  instanceTypes := #[]
  staticTypes := #[]
  resolved := Array.replicate 124 none
  statics := none }

def pool1 : Array CpInfo := pool [(2, .class_ 4), (1, u "java/lang/Object"), (0, u "<init>"), (0, u "()V"), (0, .fieldref 8 9), (0, .class_ 10), (0, .nameAndType 11 12), (0, u "com/example/unganisha/unganisha/engine/CreationOrder$Phase"), (0, u "CONSTRUCT"), (0, u "Lcom/example/unganisha/unganisha/engine/CreationOrder$Phase;"), (0, .fieldref 8 14), (0, .nameAndType 15 12), (0, u "FINISH"), (0, .fieldref 8 17), (0, .nameAndType 18 12), (0, u "BUILD"), (0, .class_ 20), (0, u "java/lang/String"), (0, .methodref 19 22), (0, .nameAndType 5 23), (0, u "([C)V"), (0, .methodref 19 25), (0, .nameAndType 26 27), (0, u "valueOf"), (0, u "(C)Ljava/lang/String;"), (0, .methodref 29 30), (0, .class_ 31), (0, .nameAndType 32 33), (0, u "com/example/unganisha/unganisha/engine/StepEqualsPinLaw"), (0, u "text"), (0, u "(ICC)Ljava/lang/String;"), (0, .class_ 35), (0, u "com/example/unganisha/unganisha/engine/CreationOrder$Step"), (0, .methodref 29 37), (0, .nameAndType 38 39), (0, u "phase"), (0, u "(I)Lcom/example/unganisha/unganisha/engine/CreationOrder$Phase;"), (0, .methodref 34 41), (0, .nameAndType 5 42), (0, u "(Ljava/lang/String;Lcom/example/unganisha/unganisha/engine/CreationOrder$Phase;)V"), (0, .methodref 34 44), (0, .nameAndType 45 46), (0, u "equals"), (0, u "(Ljava/lang/Object;)Z"), (3, u "law"), (0, u "(III)Z")] 7

def k1m0 : Method := { name := "<init>", desc := "()V", sig := { parameters := [], returnType := none }, accessFlags := 1, code := none }
def k1c1 : Code := { maxStack := 2, maxLocals := 1, code := method_2_code, exceptionTable := #[], attributes := #[] }
def k1m1 : Method := { name := "phase", desc := "(I)Lcom/example/unganisha/unganisha/engine/CreationOrder$Phase;", sig := { parameters := [.int], returnType := some (.object "com/example/unganisha/unganisha/engine/CreationOrder$Phase") }, accessFlags := 10, code := some k1c1 }
def k1c2 : Code := { maxStack := 6, maxLocals := 3, code := method_3_code, exceptionTable := #[], attributes := #[] }
def k1m2 : Method := { name := "text", desc := "(ICC)Ljava/lang/String;", sig := { parameters := [.int, .char, .char], returnType := some (.object "java/lang/String") }, accessFlags := 10, code := some k1c2 }
def k1c3 : Code := { maxStack := 4, maxLocals := 18, code := code, exceptionTable := #[], attributes := #[] }
def k1m3 : Method := { name := "law", desc := "(III)Z", sig := { parameters := [.int, .int, .int], returnType := some .boolean }, accessFlags := 9, code := some k1c3 }
/-- com/example/unganisha/unganisha/engine/StepEqualsPinLaw -/
def k1 : Class := { plain "com/example/unganisha/unganisha/engine/StepEqualsPinLaw" (some 0) with
  accessFlags := 49
  interfaces := #[]
  cf := some (fileOf pool1 29 #[] #[{ accessFlags := 1, nameIndex := 5, descriptorIndex := 6, attributes := #[] }, { accessFlags := 10, nameIndex := 38, descriptorIndex := 39, attributes := #[] }, { accessFlags := 10, nameIndex := 32, descriptorIndex := 33, attributes := #[] }, { accessFlags := 9, nameIndex := 50, descriptorIndex := 51, attributes := #[] }] 49 2 #[] #[])
  fields := #[]
  methods := #[k1m0, k1m1, k1m2, k1m3]
  instanceTypes := #[]
  staticTypes := #[]
  resolved := Array.replicate 59 none
  statics := none }

def pool2 : Array CpInfo := pool [(1, .class_ 2), (0, u "java/io/Serializable"), (0, .class_ 4), (0, u "java/lang/Object")] 2

/-- java/io/Serializable -/
def k2 : Class := { plain "java/io/Serializable" (some 0) with
  accessFlags := 1537
  interfaces := #[]
  cf := some (fileOf pool2 1 #[] #[] 1537 3 #[] #[])
  fields := #[]
  methods := #[]
  instanceTypes := #[]
  staticTypes := #[]
  resolved := Array.replicate 7 none
  statics := none }

def pool3 : Array CpInfo := pool [(1, .class_ 2), (0, u "java/lang/Comparable"), (0, .class_ 4), (0, u "java/lang/Object")] 7

/-- java/lang/Comparable -/
def k3 : Class := { plain "java/lang/Comparable" (some 0) with
  accessFlags := 1537
  interfaces := #[]
  cf := some (fileOf pool3 1 #[] #[] 1537 3 #[] #[])
  fields := #[]
  methods := #[]
  instanceTypes := #[]
  staticTypes := #[]
  resolved := Array.replicate 12 none
  statics := none }

def pool4 : Array CpInfo := pool [(2, .class_ 4), (1, u "java/lang/CharSequence"), (42, .class_ 48), (0, u "java/lang/CharSequence$1CodePointIterator"), (10, .class_ 60), (0, u "java/lang/CharSequence$1CharIterator"), (5, .class_ 67), (0, u "java/lang/Object")] 63

/-- java/lang/CharSequence -/
def k4 : Class := { plain "java/lang/CharSequence" (some 0) with
  accessFlags := 1537
  interfaces := #[]
  cf := some (fileOf pool4 2 #[.nestMembers #[47, 59]] #[] 1537 66 #[] #[])
  fields := #[]
  methods := #[]
  instanceTypes := #[]
  staticTypes := #[]
  resolved := Array.replicate 131 none
  statics := none }

def pool5 : Array CpInfo := pool [(1, .class_ 2), (0, u "java/lang/constant/Constable"), (0, .class_ 4), (0, u "java/lang/Object")] 6

/-- java/lang/constant/Constable -/
def k5 : Class := { plain "java/lang/constant/Constable" (some 0) with
  accessFlags := 1537
  interfaces := #[]
  cf := some (fileOf pool5 1 #[] #[] 1537 3 #[] #[])
  fields := #[]
  methods := #[]
  instanceTypes := #[]
  staticTypes := #[]
  resolved := Array.replicate 11 none
  statics := none }

def pool6 : Array CpInfo := pool [(1, .class_ 2), (0, u "java/lang/constant/ConstantDesc"), (0, .class_ 4), (0, u "java/lang/Object")] 32

/-- java/lang/constant/ConstantDesc -/
def k6 : Class := { plain "java/lang/constant/ConstantDesc" (some 0) with
  accessFlags := 1537
  interfaces := #[]
  cf := some (fileOf pool6 1 #[] #[] 1537 3 #[] #[])
  fields := #[]
  methods := #[]
  instanceTypes := #[]
  staticTypes := #[]
  resolved := Array.replicate 37 none
  statics := none }

def pool7 : Array CpInfo := pool [(1, .methodref 2 3), (0, .class_ 4), (0, .nameAndType 5 6), (0, u "java/lang/Object"), (0, u "<init>"), (0, u "()V"), (0, .string 8), (0, u ""), (0, .fieldref 10 11), (0, .class_ 12), (0, .nameAndType 13 14), (0, u "java/lang/String"), (0, u "value"), (0, u "[B"), (0, .fieldref 10 16), (0, .nameAndType 17 18), (0, u "coder"), (0, u "B"), (2, u "hash"), (0, u "I"), (2, u "hashIsZero"), (0, u "Z"), (0, .methodref 10 28), (0, .nameAndType 5 29), (0, u "([CIILjava/lang/Void;)V"), (8, .fieldref 10 39), (0, .nameAndType 40 26), (0, u "COMPACT_STRINGS"), (1, .class_ 44), (1, u "java/lang/StringUTF16"), (0, u "compress"), (1, .methodref 42 48), (0, .nameAndType 49 50), (0, u "coderFromArrayLen"), (0, u "([BI)B"), (2, u "toBytes"), (53, .class_ 109), (1, u "java/lang/StringLatin1"), (67, .methodref 42 178), (0, .nameAndType 45 179), (0, u "([CII)[B"), (29, .methodref 10 210), (0, .nameAndType 5 211), (0, u "([BB)V"), (157, u "(C)Z"), (171, .methodref 107 542), (0, .nameAndType 543 544), (0, u "equals"), (0, u "([B[B)Z"), (28, u "(Ljava/lang/Object;)Z"), (1, .class_ 576), (0, u "java/lang/CharSequence"), (22, u "CASE_INSENSITIVE_ORDER"), (0, u "Ljava/util/Comparator;"), (181, u "valueOf"), (0, u "(C)Ljava/lang/String;"), (226, u "([C)V"), (4, .methodref 107 1016), (0, .nameAndType 1017 369), (0, u "canEncode"), (0, .methodref 107 1019), (0, .nameAndType 53 1020), (0, u "(C)[B"), (80, u "serialPersistentFields"), (0, u "[Ljava/io/ObjectStreamField;"), (0, .class_ 1104), (0, u "java/lang/String$CaseInsensitiveComparator"), (1, .class_ 1107), (0, u "java/io/Serializable"), (0, .class_ 1109), (0, u "java/lang/Comparable"), (0, .class_ 1111), (0, u "java/lang/constant/Constable"), (0, .class_ 1113), (0, u "java/lang/constant/ConstantDesc"), (2, u "serialVersionUID"), (0, u "J"), (3, u "REPL"), (0, u "C"), (2, u "LATIN1"), (1, u "UTF16")] 323

def k7m0 : Method := { name := "<init>", desc := "()V", sig := { parameters := [], returnType := none }, accessFlags := 1, code := none }
def k7c1 : Code := { maxStack := 5, maxLocals := 2, code := jdk_42_method_3_code, exceptionTable := #[], attributes := #[] }
def k7m1 : Method := { name := "<init>", desc := "([C)V", sig := { parameters := [(.array .char)], returnType := none }, accessFlags := 1, code := some k7c1 }
def k7c2 : Code := { maxStack := 2, maxLocals := 3, code := jdk_42_method_66_code, exceptionTable := #[], attributes := #[] }
def k7m2 : Method := { name := "equals", desc := "(Ljava/lang/Object;)Z", sig := { parameters := [(.object "java/lang/Object")], returnType := some .boolean }, accessFlags := 1, code := some k7c2 }
def k7c3 : Code := { maxStack := 4, maxLocals := 1, code := jdk_42_method_139_code, exceptionTable := #[], attributes := #[] }
def k7m3 : Method := { name := "valueOf", desc := "(C)Ljava/lang/String;", sig := { parameters := [.char], returnType := some (.object "java/lang/String") }, accessFlags := 9, code := some k7c3 }
def k7c4 : Code := { maxStack := 4, maxLocals := 6, code := jdk_42_method_149_code, exceptionTable := #[], attributes := #[] }
def k7m4 : Method := { name := "<init>", desc := "([CIILjava/lang/Void;)V", sig := { parameters := [(.array .char), .int, .int, (.object "java/lang/Void")], returnType := none }, accessFlags := 2, code := some k7c4 }
def k7c5 : Code := { maxStack := 2, maxLocals := 3, code := jdk_42_method_151_code, exceptionTable := #[], attributes := #[] }
def k7m5 : Method := { name := "<init>", desc := "([BB)V", sig := { parameters := [(.array .byte), .byte], returnType := none }, accessFlags := 0, code := some k7c5 }
/-- java/lang/String -/
def k7 : Class := { plain "java/lang/String" (some 0) with
  accessFlags := 49
  interfaces := #[2, 3, 4, 5, 6]
  cf := some (fileOf pool7 10 #[.nestMembers #[1103]] #[{ accessFlags := 1, nameIndex := 5, descriptorIndex := 6, attributes := #[] }, { accessFlags := 1, nameIndex := 5, descriptorIndex := 1010, attributes := #[] }, { accessFlags := 1, nameIndex := 543, descriptorIndex := 573, attributes := #[] }, { accessFlags := 9, nameIndex := 782, descriptorIndex := 783, attributes := #[] }, { accessFlags := 2, nameIndex := 5, descriptorIndex := 29, attributes := #[] }, { accessFlags := 0, nameIndex := 5, descriptorIndex := 211, attributes := #[] }] 49 2 #[1106, 1108, 575, 1110, 1112] #[{ accessFlags := 18, nameIndex := 13, descriptorIndex := 14, attributes := #[] }, { accessFlags := 18, nameIndex := 17, descriptorIndex := 18, attributes := #[] }, { accessFlags := 2, nameIndex := 21, descriptorIndex := 22, attributes := #[] }, { accessFlags := 2, nameIndex := 25, descriptorIndex := 26, attributes := #[] }, { accessFlags := 26, nameIndex := 1116, descriptorIndex := 1117, attributes := #[] }, { accessFlags := 24, nameIndex := 40, descriptorIndex := 26, attributes := #[] }, { accessFlags := 26, nameIndex := 1101, descriptorIndex := 1102, attributes := #[] }, { accessFlags := 26, nameIndex := 1121, descriptorIndex := 1122, attributes := #[] }, { accessFlags := 25, nameIndex := 599, descriptorIndex := 600, attributes := #[] }, { accessFlags := 24, nameIndex := 1125, descriptorIndex := 18, attributes := #[] }, { accessFlags := 24, nameIndex := 1127, descriptorIndex := 18, attributes := #[] }])
  fields := #[{ name := "value", type := (.array .byte), accessFlags := 18, slot := 0, constantValue := 0 }, { name := "coder", type := .byte, accessFlags := 18, slot := 1, constantValue := 0 }, { name := "hash", type := .int, accessFlags := 2, slot := 2, constantValue := 0 }, { name := "hashIsZero", type := .boolean, accessFlags := 2, slot := 3, constantValue := 0 }, { name := "serialVersionUID", type := .long, accessFlags := 26, slot := 0, constantValue := 0 }, { name := "COMPACT_STRINGS", type := .boolean, accessFlags := 24, slot := 1, constantValue := 0 }, { name := "serialPersistentFields", type := (.array (.object "java/io/ObjectStreamField")), accessFlags := 26, slot := 2, constantValue := 0 }, { name := "REPL", type := .char, accessFlags := 26, slot := 3, constantValue := 0 }, { name := "CASE_INSENSITIVE_ORDER", type := (.object "java/util/Comparator"), accessFlags := 25, slot := 4, constantValue := 0 }, { name := "LATIN1", type := .byte, accessFlags := 24, slot := 5, constantValue := 0 }, { name := "UTF16", type := .byte, accessFlags := 24, slot := 6, constantValue := 0 }]
  methods := #[k7m0, k7m1, k7m2, k7m3, k7m4, k7m5]
  instanceTypes := #[(.array .byte), .byte, .int, .boolean]
  staticTypes := #[.long, .boolean, (.array (.object "java/io/ObjectStreamField")), .char, (.object "java/util/Comparator"), .byte, .byte]
  resolved := Array.replicate 1451 none
  statics := some 0 }

def pool8 : Array CpInfo := pool [(6, .class_ 8), (1, u "java/lang/Object"), (0, u "<init>"), (0, u "()V"), (1, .class_ 14), (1, u "java/lang/StringUTF16"), (31, u "$assertionsDisabled"), (0, u "Z"), (13, u "HI_BYTE_SHIFT"), (0, u "I"), (2, u "LO_BYTE_SHIFT"), (49, .methodref 12 116), (0, .nameAndType 117 118), (0, u "compress"), (0, u "([CI[BII)I"), (3, u "([CII)[B"), (138, u "coderFromArrayLen"), (0, u "([BI)B"), (106, .class_ 371), (1, u "java/lang/StringUTF16$LinesSpliterator"), (58, u "MAX_LENGTH"), (196, .class_ 628), (0, u "java/lang/StringUTF16$CodePointsSpliterator"), (0, .class_ 630), (0, u "java/lang/StringUTF16$CharsSpliterator")] 4

def k8m0 : Method := { name := "<init>", desc := "()V", sig := { parameters := [], returnType := none }, accessFlags := 0, code := none }
def k8c1 : Code := { maxStack := 2, maxLocals := 2, code := jdk_52_method_15_code, exceptionTable := #[], attributes := #[] }
def k8m1 : Method := { name := "coderFromArrayLen", desc := "([BI)B", sig := { parameters := [(.array .byte), .int], returnType := some .byte }, accessFlags := 8, code := some k8c1 }
def k8c2 : Code := { maxStack := 5, maxLocals := 6, code := jdk_52_method_16_code, exceptionTable := #[], attributes := #[] }
def k8m2 : Method := { name := "compress", desc := "([CII)[B", sig := { parameters := [(.array .char), .int, .int], returnType := some (.array .byte) }, accessFlags := 9, code := some k8c2 }
def k8c3 : Code := { maxStack := 3, maxLocals := 7, code := jdk_52_method_21_code, exceptionTable := #[], attributes := #[] }
def k8m3 : Method := { name := "compress", desc := "([CI[BII)I", sig := { parameters := [(.array .char), .int, (.array .byte), .int, .int], returnType := some .int }, accessFlags := 9, code := some k8c3 }
/-- java/lang/StringUTF16 -/
def k8 : Class := { plain "java/lang/StringUTF16" (some 0) with
  accessFlags := 48
  interfaces := #[]
  cf := some (fileOf pool8 12 #[.nestMembers #[627, 629, 369]] #[{ accessFlags := 0, nameIndex := 9, descriptorIndex := 10, attributes := #[] }, { accessFlags := 8, nameIndex := 261, descriptorIndex := 262, attributes := #[] }, { accessFlags := 9, nameIndex := 117, descriptorIndex := 122, attributes := #[] }, { accessFlags := 9, nameIndex := 117, descriptorIndex := 118, attributes := #[] }] 48 6 #[] #[{ accessFlags := 26, nameIndex := 61, descriptorIndex := 62, attributes := #[] }, { accessFlags := 26, nameIndex := 65, descriptorIndex := 62, attributes := #[] }, { accessFlags := 24, nameIndex := 430, descriptorIndex := 62, attributes := #[] }, { accessFlags := 4120, nameIndex := 46, descriptorIndex := 47, attributes := #[] }])
  fields := #[{ name := "HI_BYTE_SHIFT", type := .int, accessFlags := 26, slot := 0, constantValue := 0 }, { name := "LO_BYTE_SHIFT", type := .int, accessFlags := 26, slot := 1, constantValue := 0 }, { name := "MAX_LENGTH", type := .int, accessFlags := 24, slot := 2, constantValue := 0 }, { name := "$assertionsDisabled", type := .boolean, accessFlags := 4120, slot := 3, constantValue := 0 }]
  methods := #[k8m0, k8m1, k8m2, k8m3]
  instanceTypes := #[]
  staticTypes := #[.int, .int, .int, .boolean]
  resolved := Array.replicate 635 none
  statics := none }

def pool9 : Array CpInfo := pool [(1, .methodref 2 3), (0, .class_ 4), (0, .nameAndType 5 6), (0, u "java/lang/Object"), (0, u "<init>"), (0, u "()V"), (0, .class_ 8), (0, u "java/lang/Record")] 13

def k9c0 : Code := { maxStack := 1, maxLocals := 1, code := jdk_30_method_1_code, exceptionTable := #[], attributes := #[] }
def k9m0 : Method := { name := "<init>", desc := "()V", sig := { parameters := [], returnType := none }, accessFlags := 4, code := some k9c0 }
/-- java/lang/Record -/
def k9 : Class := { plain "java/lang/Record" (some 0) with
  accessFlags := 1057
  interfaces := #[]
  cf := some (fileOf pool9 7 #[] #[{ accessFlags := 4, nameIndex := 5, descriptorIndex := 6, attributes := #[] }] 1057 2 #[] #[])
  fields := #[]
  methods := #[k9m0]
  instanceTypes := #[]
  staticTypes := #[]
  resolved := Array.replicate 22 none
  statics := none }

def pool10 : Array CpInfo := pool [(1, .methodref 2 3), (0, .class_ 4), (0, .nameAndType 5 6), (0, u "java/lang/Record"), (0, u "<init>"), (0, u "()V"), (0, .fieldref 8 9), (0, .class_ 10), (0, .nameAndType 11 12), (0, u "com/example/unganisha/unganisha/engine/CreationOrder$Step"), (0, u "bean"), (0, u "Ljava/lang/String;"), (0, .fieldref 8 14), (0, .nameAndType 15 16), (0, u "phase"), (0, u "Lcom/example/unganisha/unganisha/engine/CreationOrder$Phase;"), (0, .methodref 18 19), (0, .class_ 20), (0, .nameAndType 21 22), (0, u "java/lang/String"), (0, u "equals"), (0, u "(Ljava/lang/Object;)Z"), (13, u "(Ljava/lang/String;Lcom/example/unganisha/unganisha/engine/CreationOrder$Phase;)V"), (9, .class_ 47), (0, u "com/example/unganisha/unganisha/engine/CreationOrder")] 21

def k10c0 : Code := { maxStack := 2, maxLocals := 3, code := prog_82_method_1_code, exceptionTable := #[], attributes := #[] }
def k10m0 : Method := { name := "<init>", desc := "(Ljava/lang/String;Lcom/example/unganisha/unganisha/engine/CreationOrder$Phase;)V", sig := { parameters := [(.object "java/lang/String"), (.object "com/example/unganisha/unganisha/engine/CreationOrder$Phase")], returnType := none }, accessFlags := 0, code := some k10c0 }
def k10c1 : Code := { maxStack := 2, maxLocals := 3, code := prog_82_method_2_code, exceptionTable := #[], attributes := #[] }
def k10m1 : Method := { name := "equals", desc := "(Ljava/lang/Object;)Z", sig := { parameters := [(.object "java/lang/Object")], returnType := some .boolean }, accessFlags := 1, code := some k10c1 }
/-- com/example/unganisha/unganisha/engine/CreationOrder$Step -/
def k10 : Class := { plain "com/example/unganisha/unganisha/engine/CreationOrder$Step" (some 9) with
  accessFlags := 48
  interfaces := #[]
  cf := some (fileOf pool10 8 #[.nestHost 46] #[{ accessFlags := 0, nameIndex := 5, descriptorIndex := 36, attributes := #[] }, { accessFlags := 1, nameIndex := 21, descriptorIndex := 22, attributes := #[] }] 48 2 #[] #[{ accessFlags := 18, nameIndex := 11, descriptorIndex := 12, attributes := #[] }, { accessFlags := 18, nameIndex := 15, descriptorIndex := 16, attributes := #[] }])
  fields := #[{ name := "bean", type := (.object "java/lang/String"), accessFlags := 18, slot := 0, constantValue := 0 }, { name := "phase", type := (.object "com/example/unganisha/unganisha/engine/CreationOrder$Phase"), accessFlags := 18, slot := 1, constantValue := 0 }]
  methods := #[k10m0, k10m1]
  instanceTypes := #[(.object "java/lang/String"), (.object "com/example/unganisha/unganisha/engine/CreationOrder$Phase")]
  staticTypes := #[]
  resolved := Array.replicate 69 none
  statics := none }

def pool11 : Array CpInfo := pool [(2, .class_ 4), (1, u "java/lang/Enum"), (0, u "name"), (0, u "Ljava/lang/String;"), (2, u "ordinal"), (0, u "I"), (1, .class_ 14), (1, u "java/lang/Object"), (4, u "hash"), (86, .class_ 108), (1, u "java/lang/Enum$EnumDesc"), (2, .class_ 112), (0, u "java/lang/constant/Constable"), (0, .class_ 114), (0, u "java/lang/Comparable"), (0, .class_ 116), (0, u "java/io/Serializable")] 87

/-- java/lang/Enum -/
def k11 : Class := { plain "java/lang/Enum" (some 0) with
  accessFlags := 1057
  interfaces := #[5, 3, 2]
  cf := some (fileOf pool11 2 #[.nestMembers #[106]] #[] 1057 12 #[111, 113, 115] #[{ accessFlags := 18, nameIndex := 5, descriptorIndex := 6, attributes := #[] }, { accessFlags := 18, nameIndex := 9, descriptorIndex := 10, attributes := #[] }, { accessFlags := 2, nameIndex := 19, descriptorIndex := 10, attributes := #[] }])
  fields := #[{ name := "name", type := (.object "java/lang/String"), accessFlags := 18, slot := 0, constantValue := 0 }, { name := "ordinal", type := .int, accessFlags := 18, slot := 1, constantValue := 0 }, { name := "hash", type := .int, accessFlags := 2, slot := 2, constantValue := 0 }]
  methods := #[]
  instanceTypes := #[(.object "java/lang/String"), .int, .int]
  staticTypes := #[]
  resolved := Array.replicate 204 none
  statics := none }

def pool12 : Array CpInfo := pool [(1, .class_ 2), (0, u "com/example/unganisha/unganisha/engine/CreationOrder$Phase"), (2, u "CONSTRUCT"), (0, u "Lcom/example/unganisha/unganisha/engine/CreationOrder$Phase;"), (2, u "FINISH"), (2, u "BUILD"), (2, u "$VALUES"), (0, u "[Lcom/example/unganisha/unganisha/engine/CreationOrder$Phase;"), (6, .class_ 25), (1, u "java/lang/Enum"), (26, .class_ 53), (0, u "com/example/unganisha/unganisha/engine/CreationOrder")] 2

/-- com/example/unganisha/unganisha/engine/CreationOrder$Phase -/
def k12 : Class := { plain "com/example/unganisha/unganisha/engine/CreationOrder$Phase" (some 11) with
  accessFlags := 16432
  interfaces := #[]
  cf := some (fileOf pool12 1 #[.nestHost 52] #[] 16432 23 #[] #[{ accessFlags := 16409, nameIndex := 5, descriptorIndex := 6, attributes := #[] }, { accessFlags := 16409, nameIndex := 9, descriptorIndex := 6, attributes := #[] }, { accessFlags := 16409, nameIndex := 12, descriptorIndex := 6, attributes := #[] }, { accessFlags := 4122, nameIndex := 15, descriptorIndex := 16, attributes := #[] }])
  fields := #[{ name := "CONSTRUCT", type := (.object "com/example/unganisha/unganisha/engine/CreationOrder$Phase"), accessFlags := 16409, slot := 0, constantValue := 0 }, { name := "FINISH", type := (.object "com/example/unganisha/unganisha/engine/CreationOrder$Phase"), accessFlags := 16409, slot := 1, constantValue := 0 }, { name := "BUILD", type := (.object "com/example/unganisha/unganisha/engine/CreationOrder$Phase"), accessFlags := 16409, slot := 2, constantValue := 0 }, { name := "$VALUES", type := (.array (.object "com/example/unganisha/unganisha/engine/CreationOrder$Phase")), accessFlags := 4122, slot := 3, constantValue := 0 }]
  methods := #[]
  instanceTypes := #[(.object "java/lang/String"), .int, .int]
  staticTypes := #[(.object "com/example/unganisha/unganisha/engine/CreationOrder$Phase"), (.object "com/example/unganisha/unganisha/engine/CreationOrder$Phase"), (.object "com/example/unganisha/unganisha/engine/CreationOrder$Phase"), (.array (.object "com/example/unganisha/unganisha/engine/CreationOrder$Phase"))]
  resolved := Array.replicate 56 none
  statics := some 1 }

def pool13 : Array CpInfo := pool [(4, .class_ 6), (1, u "java/lang/Object"), (0, u "<init>"), (0, u "()V"), (5, .class_ 16), (1, u "java/lang/StringLatin1"), (73, u "canEncode"), (14, u "(C)Z"), (15, u "$assertionsDisabled"), (0, u "Z"), (98, .class_ 223), (1, u "java/lang/StringLatin1$LinesSpliterator"), (57, u "equals"), (0, u "([B[B)Z"), (97, u "toBytes"), (1, u "(C)[B"), (7, .class_ 391), (0, u "java/lang/StringLatin1$CharsSpliterator")] 3

def k13m0 : Method := { name := "<init>", desc := "()V", sig := { parameters := [], returnType := none }, accessFlags := 0, code := none }
def k13c1 : Code := { maxStack := 2, maxLocals := 1, code := jdk_43_method_3_code, exceptionTable := #[], attributes := #[] }
def k13m1 : Method := { name := "canEncode", desc := "(C)Z", sig := { parameters := [.char], returnType := some .boolean }, accessFlags := 9, code := some k13c1 }
def k13c2 : Code := { maxStack := 3, maxLocals := 3, code := jdk_43_method_13_code, exceptionTable := #[], attributes := #[] }
def k13m2 : Method := { name := "equals", desc := "([B[B)Z", sig := { parameters := [(.array .byte), (.array .byte)], returnType := some .boolean }, accessFlags := 9, code := some k13c2 }
def k13c3 : Code := { maxStack := 4, maxLocals := 1, code := jdk_43_method_46_code, exceptionTable := #[], attributes := #[] }
def k13m3 : Method := { name := "toBytes", desc := "(C)[B", sig := { parameters := [.char], returnType := some (.array .byte) }, accessFlags := 9, code := some k13c3 }
/-- java/lang/StringLatin1 -/
def k13 : Class := { plain "java/lang/StringLatin1" (some 0) with
  accessFlags := 48
  interfaces := #[]
  cf := some (fileOf pool13 14 #[.nestMembers #[390, 221]] #[{ accessFlags := 0, nameIndex := 7, descriptorIndex := 8, attributes := #[] }, { accessFlags := 9, nameIndex := 90, descriptorIndex := 105, attributes := #[] }, { accessFlags := 9, nameIndex := 281, descriptorIndex := 282, attributes := #[] }, { accessFlags := 9, nameIndex := 380, descriptorIndex := 382, attributes := #[] }] 48 4 #[] #[{ accessFlags := 4120, nameIndex := 121, descriptorIndex := 122, attributes := #[] }])
  fields := #[{ name := "$assertionsDisabled", type := .boolean, accessFlags := 4120, slot := 0, constantValue := 0 }]
  methods := #[k13m0, k13m1, k13m2, k13m3]
  instanceTypes := #[]
  staticTypes := #[.boolean]
  resolved := Array.replicate 395 none
  statics := none }

def pool14 : Array CpInfo := pool [(2, .class_ 4), (1, u "java/lang/Object"), (0, u "<init>"), (0, u "()V"), (17, .class_ 26), (1, u "jdk/internal/util/Preconditions"), (28, .class_ 56), (0, u "jdk/internal/util/Preconditions$4"), (57, .class_ 115), (0, u "jdk/internal/util/Preconditions$1"), (7, u "SIOOBE_FORMATTER"), (0, u "Ljava/util/function/BiFunction;"), (0, .class_ 126), (0, u "jdk/internal/util/Preconditions$2"), (3, u "AIOOBE_FORMATTER"), (0, .class_ 132), (0, u "jdk/internal/util/Preconditions$3"), (3, u "IOOBE_FORMATTER")] 57

def k14m0 : Method := { name := "<init>", desc := "()V", sig := { parameters := [], returnType := none }, accessFlags := 1, code := none }
/-- jdk/internal/util/Preconditions -/
def k14 : Class := { plain "jdk/internal/util/Preconditions" (some 0) with
  accessFlags := 33
  interfaces := #[]
  cf := some (fileOf pool14 24 #[.nestMembers #[55, 131, 125, 114]] #[{ accessFlags := 1, nameIndex := 5, descriptorIndex := 6, attributes := #[] }] 33 2 #[] #[{ accessFlags := 25, nameIndex := 123, descriptorIndex := 124, attributes := #[] }, { accessFlags := 25, nameIndex := 130, descriptorIndex := 124, attributes := #[] }, { accessFlags := 25, nameIndex := 136, descriptorIndex := 124, attributes := #[] }])
  fields := #[{ name := "SIOOBE_FORMATTER", type := (.object "java/util/function/BiFunction"), accessFlags := 25, slot := 0, constantValue := 0 }, { name := "AIOOBE_FORMATTER", type := (.object "java/util/function/BiFunction"), accessFlags := 25, slot := 1, constantValue := 0 }, { name := "IOOBE_FORMATTER", type := (.object "java/util/function/BiFunction"), accessFlags := 25, slot := 2, constantValue := 0 }]
  methods := #[k14m0]
  instanceTypes := #[]
  staticTypes := #[(.object "java/util/function/BiFunction"), (.object "java/util/function/BiFunction"), (.object "java/util/function/BiFunction")]
  resolved := Array.replicate 194 none
  statics := some 2 }

def pool15 : Array CpInfo := pool [(9, u "<init>"), (6, .class_ 18), (1, u "java/lang/Object"), (0, u "()V"), (1, .class_ 23), (1, u "jdk/internal/util/ArraysSupport"), (0, u "LOG2_ARRAY_LONG_INDEX_SCALE"), (0, u "I"), (2, u "U"), (0, u "Ljdk/internal/misc/Unsafe;"), (8, u "BIG_ENDIAN"), (0, u "Z"), (8, u "LOG2_BYTE_BIT_SIZE"), (4, u "LOG2_ARRAY_INT_INDEX_SCALE"), (54, u "JLA"), (0, u "Ljdk/internal/access/JavaLangAccess;"), (11, u "LOG2_ARRAY_BOOLEAN_INDEX_SCALE"), (9, u "LOG2_ARRAY_BYTE_INDEX_SCALE"), (5, u "LOG2_ARRAY_CHAR_INDEX_SCALE"), (5, u "LOG2_ARRAY_SHORT_INDEX_SCALE"), (18, u "LOG2_ARRAY_FLOAT_INDEX_SCALE"), (24, u "LOG2_ARRAY_DOUBLE_INDEX_SCALE"), (89, u "T_BOOLEAN"), (2, u "T_CHAR"), (1, u "T_FLOAT"), (1, u "T_DOUBLE"), (1, u "T_BYTE"), (1, u "T_SHORT"), (1, u "T_INT"), (1, u "T_LONG"), (1, u "SOFT_MAX_ARRAY_LENGTH")] 83

def k15m0 : Method := { name := "<init>", desc := "()V", sig := { parameters := [], returnType := none }, accessFlags := 2, code := none }
/-- jdk/internal/util/ArraysSupport -/
def k15 : Class := { plain "jdk/internal/util/ArraysSupport" (some 0) with
  accessFlags := 33
  interfaces := #[]
  cf := some (fileOf pool15 21 #[] #[{ accessFlags := 2, nameIndex := 9, descriptorIndex := 19, attributes := #[] }] 33 16 #[] #[{ accessFlags := 24, nameIndex := 28, descriptorIndex := 29, attributes := #[] }, { accessFlags := 26, nameIndex := 38, descriptorIndex := 39, attributes := #[] }, { accessFlags := 25, nameIndex := 121, descriptorIndex := 25, attributes := #[] }, { accessFlags := 25, nameIndex := 131, descriptorIndex := 25, attributes := #[] }, { accessFlags := 25, nameIndex := 137, descriptorIndex := 25, attributes := #[] }, { accessFlags := 25, nameIndex := 143, descriptorIndex := 25, attributes := #[] }, { accessFlags := 25, nameIndex := 53, descriptorIndex := 25, attributes := #[] }, { accessFlags := 25, nameIndex := 24, descriptorIndex := 25, attributes := #[] }, { accessFlags := 25, nameIndex := 162, descriptorIndex := 25, attributes := #[] }, { accessFlags := 25, nameIndex := 187, descriptorIndex := 25, attributes := #[] }, { accessFlags := 26, nameIndex := 48, descriptorIndex := 25, attributes := #[] }, { accessFlags := 25, nameIndex := 277, descriptorIndex := 25, attributes := #[] }, { accessFlags := 25, nameIndex := 280, descriptorIndex := 25, attributes := #[] }, { accessFlags := 25, nameIndex := 282, descriptorIndex := 25, attributes := #[] }, { accessFlags := 25, nameIndex := 284, descriptorIndex := 25, attributes := #[] }, { accessFlags := 25, nameIndex := 286, descriptorIndex := 25, attributes := #[] }, { accessFlags := 25, nameIndex := 288, descriptorIndex := 25, attributes := #[] }, { accessFlags := 25, nameIndex := 290, descriptorIndex := 25, attributes := #[] }, { accessFlags := 25, nameIndex := 292, descriptorIndex := 25, attributes := #[] }, { accessFlags := 26, nameIndex := 108, descriptorIndex := 109, attributes := #[] }, { accessFlags := 25, nameIndex := 294, descriptorIndex := 25, attributes := #[] }])
  fields := #[{ name := "U", type := (.object "jdk/internal/misc/Unsafe"), accessFlags := 24, slot := 0, constantValue := 0 }, { name := "BIG_ENDIAN", type := .boolean, accessFlags := 26, slot := 1, constantValue := 0 }, { name := "LOG2_ARRAY_BOOLEAN_INDEX_SCALE", type := .int, accessFlags := 25, slot := 2, constantValue := 0 }, { name := "LOG2_ARRAY_BYTE_INDEX_SCALE", type := .int, accessFlags := 25, slot := 3, constantValue := 0 }, { name := "LOG2_ARRAY_CHAR_INDEX_SCALE", type := .int, accessFlags := 25, slot := 4, constantValue := 0 }, { name := "LOG2_ARRAY_SHORT_INDEX_SCALE", type := .int, accessFlags := 25, slot := 5, constantValue := 0 }, { name := "LOG2_ARRAY_INT_INDEX_SCALE", type := .int, accessFlags := 25, slot := 6, constantValue := 0 }, { name := "LOG2_ARRAY_LONG_INDEX_SCALE", type := .int, accessFlags := 25, slot := 7, constantValue := 0 }, { name := "LOG2_ARRAY_FLOAT_INDEX_SCALE", type := .int, accessFlags := 25, slot := 8, constantValue := 0 }, { name := "LOG2_ARRAY_DOUBLE_INDEX_SCALE", type := .int, accessFlags := 25, slot := 9, constantValue := 0 }, { name := "LOG2_BYTE_BIT_SIZE", type := .int, accessFlags := 26, slot := 10, constantValue := 0 }, { name := "T_BOOLEAN", type := .int, accessFlags := 25, slot := 11, constantValue := 0 }, { name := "T_CHAR", type := .int, accessFlags := 25, slot := 12, constantValue := 0 }, { name := "T_FLOAT", type := .int, accessFlags := 25, slot := 13, constantValue := 0 }, { name := "T_DOUBLE", type := .int, accessFlags := 25, slot := 14, constantValue := 0 }, { name := "T_BYTE", type := .int, accessFlags := 25, slot := 15, constantValue := 0 }, { name := "T_SHORT", type := .int, accessFlags := 25, slot := 16, constantValue := 0 }, { name := "T_INT", type := .int, accessFlags := 25, slot := 17, constantValue := 0 }, { name := "T_LONG", type := .int, accessFlags := 25, slot := 18, constantValue := 0 }, { name := "JLA", type := (.object "jdk/internal/access/JavaLangAccess"), accessFlags := 26, slot := 19, constantValue := 0 }, { name := "SOFT_MAX_ARRAY_LENGTH", type := .int, accessFlags := 25, slot := 20, constantValue := 0 }]
  methods := #[k15m0]
  instanceTypes := #[]
  staticTypes := #[(.object "jdk/internal/misc/Unsafe"), .boolean, .int, .int, .int, .int, .int, .int, .int, .int, .int, .int, .int, .int, .int, .int, .int, .int, .int, (.object "jdk/internal/access/JavaLangAccess"), .int]
  resolved := Array.replicate 378 none
  statics := none }

def pool16 : Array CpInfo := pool [(1, u "java/lang/Cloneable"), (0, .class_ 1), (0, u "java/lang/Object"), (0, .class_ 3)] 3

/-- java/lang/Cloneable -/
def k16 : Class := { plain "java/lang/Cloneable" (some 0) with
  accessFlags := 1537
  interfaces := #[]
  cf := some (fileOf pool16 2 #[] #[] 1537 4 #[] #[])
  fields := #[]
  methods := #[]
  instanceTypes := #[]
  staticTypes := #[]
  resolved := Array.replicate 8 none
  statics := none }

/-- the primitive byte -/
def k17 : Class := { plain "byte" none with kind := .primitive 'B', accessFlags := 0x411 }
/-- [B -/
def k18 : Class := { plain "[B" (some 0) with kind := .array 17 .byte, interfaces := #[16, 2], accessFlags := 1041 }

/-- the primitive char -/
def k19 : Class := { plain "char" none with kind := .primitive 'C', accessFlags := 0x411 }
/-- [C -/
def k20 : Class := { plain "[C" (some 0) with kind := .array 19 .char, interfaces := #[16, 2], accessFlags := 1041 }

/-- the primitive int -/
def k21 : Class := { plain "int" none with kind := .primitive 'I', accessFlags := 0x411 }
/-- [I -/
def k22 : Class := { plain "[I" (some 0) with kind := .array 21 .int, interfaces := #[16, 2], accessFlags := 1041 }

def heap : Heap := #[{ cls := 7, slots := #[.long 0, .int 1, .null, .int 0, .null, .int 0, .int 0], vm := .statics 7 },
  { cls := 12, slots := #[.ref 3, .ref 4, .ref 5, .null], vm := .statics 12 },
  { cls := 14, slots := #[.null, .null, .null], vm := .statics 14 },
  { cls := 12, slots := #[.null, .int 0, .int 0], vm := .none },
  { cls := 12, slots := #[.null, .int 1, .int 0], vm := .none },
  { cls := 12, slots := #[.null, .int 2, .int 0], vm := .none }]
def classes : Array Class := #[k0, k1, k2, k3, k4, k5, k6, k7, k8, k9, k10, k11, k12, k13, k14, k15, k16, k17, k18, k19, k20, k21, k22]
def interned : List (Array UInt16 × Addr) := []
def slotsUsed : Nat := 23
def theMethod : MethodId := ⟨1, 3⟩
def args0 : Array Value := #[.int 5, .int 7, .int 9]
def aboutOver (below : List Frame) : State where
  vm := { classes := classes, interned := interned.toArray }
  heap := heap
  slotsUsed := slotsUsed
  threads := #[{ frames := .invoking theMethod args0 :: below }]
def below0 : List Frame := [.native { method := ⟨0, 0⟩, args := #[] }]
def about1 : State := aboutOver below0
def p0 : Program := .bare "" "" ""
def e0 : Env := launch0.env 0 0 0
theorem w_frames : about1.frames = Frame.invoking theMethod args0 :: below0 := rfl
set_option maxRecDepth 65536 in
theorem w_args : argsFit about1.vm theMethod args0 = true := by decide +kernel
set_option maxRecDepth 65536 in
theorem w_heap : heapFits about1 = true := by decide +kernel
set_option maxRecDepth 65536 in
theorem w_runnable : about1.curStatus? = some .runnable := by decide +kernel
set_option maxRecDepth 65536 in
theorem w_alone : about1.alone = true := by decide +kernel
set_option maxRecDepth 65536 in
theorem w_named : about1.methodNamed? x = some theMethod := by decide +kernel
set_option maxRecDepth 65536 in
theorem w_hears : about1.hears theMethod below0 = true := by decide +kernel
set_option maxRecDepth 65536 in
theorem w_ripe : about1.ripe theMethod args0 below0 = true := by decide +kernel
theorem w_running : about1.status = .running := rfl
set_option maxRecDepth 65536 in
theorem w_room : about1.hasRoom e0.platform room_1 = true :=
  launch0.hasRoom_least _ room_1 (by decide +kernel) (by decide +kernel) (by decide +kernel) (by decide +kernel) (by decide +kernel) (by decide +kernel)
theorem allAtoms_all (ts : List Jvm.Cond) (a : Array Jvm.Value) (st : Jvm.State) : (allAtoms ts).before a st = ts.all (fun c => c.before a st) := by
  induction ts with
  | nil => rfl
  | cons c t ih =>
    show (Jvm.Cond.and c (allAtoms t)).before a st = _
    rw [Jvm.Cond.before_and, ih, List.all_cons]
def words1 : List Jvm.Cond := Jvm.Cond.code x code maxLocals ret :: tables_1
/-- a 'code' word, met by the world's own term for the bytes: nothing is compared byte by byte -/
theorem code_word {y : MethodName} {bytes : ByteArray} {mx : Nat} {rt : Option FieldType} {a : Array Value} {s : State} {m : MethodId} {meth : Method} {c : Code} (h1 : s.methodNamed? y = some m) (h2 : s.vm.method? m = some meth) (h3 : meth.code = some c) (h4 : c.code = bytes)
    (h5 : (c.maxLocals == mx && c.exceptionTable.isEmpty && decide (c.maxStack ≤ mostOperands) && decide (meth.sig.returnType = rt) && !meth.locks && decide (parseMethodDescriptor y.desc = some meth.sig)) = true) : (Jvm.Cond.code y bytes mx rt).before a s = true := by
  simp only [Bool.and_eq_true, beq_iff_eq, Bool.not_eq_true', decide_eq_true_eq] at h5
  obtain ⟨⟨⟨⟨⟨g1, g2⟩, g3⟩, g4⟩, g5⟩, g6⟩ := h5
  simp [Cond.before, Cond.holds, Cond.value, h1, h2, h3, h4, g1, g2, g3, g4, g5, g6]
def isCode : Jvm.Cond → Bool
  | .code _ _ _ _ => true
  | _ => false
theorem all_split {L : List Jvm.Cond} {P : Jvm.Cond → Bool} (h1 : L.all (fun c => isCode c || P c) = true) (h2 : ∀ c ∈ L.filter isCode, P c = true) : L.all P = true := by
  refine List.all_eq_true.mpr fun c hc => ?_
  have h := List.all_eq_true.mp h1 c hc
  rcases Bool.eq_false_or_eq_true (isCode c) with hi | hi
  · exact h2 c (List.mem_filter.mpr ⟨hc, hi⟩)
  · simpa [hi] using h
set_option maxRecDepth 65536 in
theorem w_c0 : (Jvm.Cond.code x code maxLocals ret).before args0 about1 = true := code_word (m := ⟨1, 3⟩) (meth := k1m3) (c := k1c3) (by decide +kernel) rfl rfl rfl (by decide +kernel)
set_option maxRecDepth 65536 in
theorem w_c1 : (Jvm.Cond.code ({ cls := "com/example/unganisha/unganisha/engine/StepEqualsPinLaw", name := "text", desc := "(ICC)Ljava/lang/String;" } : Jvm.MethodName) method_3_code (3 : Nat) (Option.some (Jvm.ClassFile.FieldType.object "java/lang/String"))).before args0 about1 = true := code_word (m := ⟨1, 2⟩) (meth := k1m2) (c := k1c2) (by decide +kernel) rfl rfl rfl (by decide +kernel)
set_option maxRecDepth 65536 in
theorem w_c2 : (Jvm.Cond.code ({ cls := "java/lang/String", name := "<init>", desc := "([C)V" } : Jvm.MethodName) jdk_42_method_3_code (2 : Nat) (Option.none : Option Jvm.ClassFile.FieldType)).before args0 about1 = true := code_word (m := ⟨7, 1⟩) (meth := k7m1) (c := k7c1) (by decide +kernel) rfl rfl rfl (by decide +kernel)
set_option maxRecDepth 65536 in
theorem w_c3 : (Jvm.Cond.code ({ cls := "java/lang/String", name := "<init>", desc := "([CIILjava/lang/Void;)V" } : Jvm.MethodName) jdk_42_method_149_code (6 : Nat) (Option.none : Option Jvm.ClassFile.FieldType)).before args0 about1 = true := code_word (m := ⟨7, 4⟩) (meth := k7m4) (c := k7c4) (by decide +kernel) rfl rfl rfl (by decide +kernel)
set_option maxRecDepth 65536 in
theorem w_c4 : (Jvm.Cond.code ({ cls := "java/lang/Object", name := "<init>", desc := "()V" } : Jvm.MethodName) object_method_1_code (1 : Nat) (Option.none : Option Jvm.ClassFile.FieldType)).before args0 about1 = true := code_word (m := ⟨0, 0⟩) (meth := k0m0) (c := k0c0) (by decide +kernel) rfl rfl rfl (by decide +kernel)
set_option maxRecDepth 65536 in
theorem w_c5 : (Jvm.Cond.code ({ cls := "java/lang/StringUTF16", name := "compress", desc := "([CII)[B" } : Jvm.MethodName) jdk_52_method_16_code (6 : Nat) (Option.some (Jvm.ClassFile.FieldType.array Jvm.ClassFile.FieldType.byte))).before args0 about1 = true := code_word (m := ⟨8, 2⟩) (meth := k8m2) (c := k8c2) (by decide +kernel) rfl rfl rfl (by decide +kernel)
set_option maxRecDepth 65536 in
theorem w_c6 : (Jvm.Cond.code ({ cls := "java/lang/StringUTF16", name := "compress", desc := "([CI[BII)I" } : Jvm.MethodName) jdk_52_method_21_code (7 : Nat) (Option.some Jvm.ClassFile.FieldType.int)).before args0 about1 = true := code_word (m := ⟨8, 3⟩) (meth := k8m3) (c := k8c3) (by decide +kernel) rfl rfl rfl (by decide +kernel)
set_option maxRecDepth 65536 in
theorem w_c7 : (Jvm.Cond.code ({ cls := "java/lang/StringUTF16", name := "coderFromArrayLen", desc := "([BI)B" } : Jvm.MethodName) jdk_52_method_15_code (2 : Nat) (Option.some Jvm.ClassFile.FieldType.byte)).before args0 about1 = true := code_word (m := ⟨8, 1⟩) (meth := k8m1) (c := k8c1) (by decide +kernel) rfl rfl rfl (by decide +kernel)
set_option maxRecDepth 65536 in
theorem w_c8 : (Jvm.Cond.code ({ cls := "com/example/unganisha/unganisha/engine/StepEqualsPinLaw", name := "phase", desc := "(I)Lcom/example/unganisha/unganisha/engine/CreationOrder$Phase;" } : Jvm.MethodName) method_2_code (1 : Nat) (Option.some (Jvm.ClassFile.FieldType.object "com/example/unganisha/unganisha/engine/CreationOrder$Phase"))).before args0 about1 = true := code_word (m := ⟨1, 1⟩) (meth := k1m1) (c := k1c1) (by decide +kernel) rfl rfl rfl (by decide +kernel)
set_option maxRecDepth 65536 in
theorem w_c9 : (Jvm.Cond.code ({ cls := "com/example/unganisha/unganisha/engine/CreationOrder$Step", name := "<init>", desc := "(Ljava/lang/String;Lcom/example/unganisha/unganisha/engine/CreationOrder$Phase;)V" } : Jvm.MethodName) prog_82_method_1_code (3 : Nat) (Option.none : Option Jvm.ClassFile.FieldType)).before args0 about1 = true := code_word (m := ⟨10, 0⟩) (meth := k10m0) (c := k10c0) (by decide +kernel) rfl rfl rfl (by decide +kernel)
set_option maxRecDepth 65536 in
theorem w_c10 : (Jvm.Cond.code ({ cls := "java/lang/Record", name := "<init>", desc := "()V" } : Jvm.MethodName) jdk_30_method_1_code (1 : Nat) (Option.none : Option Jvm.ClassFile.FieldType)).before args0 about1 = true := code_word (m := ⟨9, 0⟩) (meth := k9m0) (c := k9c0) (by decide +kernel) rfl rfl rfl (by decide +kernel)
set_option maxRecDepth 65536 in
theorem w_c11 : (Jvm.Cond.code ({ cls := "com/example/unganisha/unganisha/engine/CreationOrder$Step", name := "equals", desc := "(Ljava/lang/Object;)Z" } : Jvm.MethodName) prog_82_method_2_code (3 : Nat) (Option.some Jvm.ClassFile.FieldType.boolean)).before args0 about1 = true := code_word (m := ⟨10, 1⟩) (meth := k10m1) (c := k10c1) (by decide +kernel) rfl rfl rfl (by decide +kernel)
set_option maxRecDepth 65536 in
theorem w_c12 : (Jvm.Cond.code ({ cls := "java/lang/String", name := "valueOf", desc := "(C)Ljava/lang/String;" } : Jvm.MethodName) jdk_42_method_139_code (1 : Nat) (Option.some (Jvm.ClassFile.FieldType.object "java/lang/String"))).before args0 about1 = true := code_word (m := ⟨7, 3⟩) (meth := k7m3) (c := k7c3) (by decide +kernel) rfl rfl rfl (by decide +kernel)
set_option maxRecDepth 65536 in
theorem w_c13 : (Jvm.Cond.code ({ cls := "java/lang/StringLatin1", name := "canEncode", desc := "(C)Z" } : Jvm.MethodName) jdk_43_method_3_code (1 : Nat) (Option.some Jvm.ClassFile.FieldType.boolean)).before args0 about1 = true := code_word (m := ⟨13, 1⟩) (meth := k13m1) (c := k13c1) (by decide +kernel) rfl rfl rfl (by decide +kernel)
set_option maxRecDepth 65536 in
theorem w_c14 : (Jvm.Cond.code ({ cls := "java/lang/StringLatin1", name := "toBytes", desc := "(C)[B" } : Jvm.MethodName) jdk_43_method_46_code (1 : Nat) (Option.some (Jvm.ClassFile.FieldType.array Jvm.ClassFile.FieldType.byte))).before args0 about1 = true := code_word (m := ⟨13, 3⟩) (meth := k13m3) (c := k13c3) (by decide +kernel) rfl rfl rfl (by decide +kernel)
set_option maxRecDepth 65536 in
theorem w_c15 : (Jvm.Cond.code ({ cls := "java/lang/String", name := "<init>", desc := "([BB)V" } : Jvm.MethodName) jdk_42_method_151_code (3 : Nat) (Option.none : Option Jvm.ClassFile.FieldType)).before args0 about1 = true := code_word (m := ⟨7, 5⟩) (meth := k7m5) (c := k7c5) (by decide +kernel) rfl rfl rfl (by decide +kernel)
set_option maxRecDepth 65536 in
theorem w_c16 : (Jvm.Cond.code ({ cls := "java/lang/String", name := "equals", desc := "(Ljava/lang/Object;)Z" } : Jvm.MethodName) jdk_42_method_66_code (3 : Nat) (Option.some Jvm.ClassFile.FieldType.boolean)).before args0 about1 = true := code_word (m := ⟨7, 2⟩) (meth := k7m2) (c := k7c2) (by decide +kernel) rfl rfl rfl (by decide +kernel)
set_option maxRecDepth 65536 in
theorem w_c17 : (Jvm.Cond.code ({ cls := "java/lang/StringLatin1", name := "equals", desc := "([B[B)Z" } : Jvm.MethodName) jdk_43_method_13_code (3 : Nat) (Option.some Jvm.ClassFile.FieldType.boolean)).before args0 about1 = true := code_word (m := ⟨13, 2⟩) (meth := k13m2) (c := k13c2) (by decide +kernel) rfl rfl rfl (by decide +kernel)
def codes1 : List Jvm.Cond := [Jvm.Cond.code x code maxLocals ret, Jvm.Cond.code ({ cls := "com/example/unganisha/unganisha/engine/StepEqualsPinLaw", name := "text", desc := "(ICC)Ljava/lang/String;" } : Jvm.MethodName) method_3_code (3 : Nat) (Option.some (Jvm.ClassFile.FieldType.object "java/lang/String")), Jvm.Cond.code ({ cls := "java/lang/String", name := "<init>", desc := "([C)V" } : Jvm.MethodName) jdk_42_method_3_code (2 : Nat) (Option.none : Option Jvm.ClassFile.FieldType), Jvm.Cond.code ({ cls := "java/lang/String", name := "<init>", desc := "([CIILjava/lang/Void;)V" } : Jvm.MethodName) jdk_42_method_149_code (6 : Nat) (Option.none : Option Jvm.ClassFile.FieldType), Jvm.Cond.code ({ cls := "java/lang/Object", name := "<init>", desc := "()V" } : Jvm.MethodName) object_method_1_code (1 : Nat) (Option.none : Option Jvm.ClassFile.FieldType), Jvm.Cond.code ({ cls := "java/lang/StringUTF16", name := "compress", desc := "([CII)[B" } : Jvm.MethodName) jdk_52_method_16_code (6 : Nat) (Option.some (Jvm.ClassFile.FieldType.array Jvm.ClassFile.FieldType.byte)), Jvm.Cond.code ({ cls := "java/lang/StringUTF16", name := "compress", desc := "([CI[BII)I" } : Jvm.MethodName) jdk_52_method_21_code (7 : Nat) (Option.some Jvm.ClassFile.FieldType.int), Jvm.Cond.code ({ cls := "java/lang/StringUTF16", name := "coderFromArrayLen", desc := "([BI)B" } : Jvm.MethodName) jdk_52_method_15_code (2 : Nat) (Option.some Jvm.ClassFile.FieldType.byte), Jvm.Cond.code ({ cls := "com/example/unganisha/unganisha/engine/StepEqualsPinLaw", name := "phase", desc := "(I)Lcom/example/unganisha/unganisha/engine/CreationOrder$Phase;" } : Jvm.MethodName) method_2_code (1 : Nat) (Option.some (Jvm.ClassFile.FieldType.object "com/example/unganisha/unganisha/engine/CreationOrder$Phase")), Jvm.Cond.code ({ cls := "com/example/unganisha/unganisha/engine/CreationOrder$Step", name := "<init>", desc := "(Ljava/lang/String;Lcom/example/unganisha/unganisha/engine/CreationOrder$Phase;)V" } : Jvm.MethodName) prog_82_method_1_code (3 : Nat) (Option.none : Option Jvm.ClassFile.FieldType), Jvm.Cond.code ({ cls := "java/lang/Record", name := "<init>", desc := "()V" } : Jvm.MethodName) jdk_30_method_1_code (1 : Nat) (Option.none : Option Jvm.ClassFile.FieldType), Jvm.Cond.code ({ cls := "com/example/unganisha/unganisha/engine/CreationOrder$Step", name := "equals", desc := "(Ljava/lang/Object;)Z" } : Jvm.MethodName) prog_82_method_2_code (3 : Nat) (Option.some Jvm.ClassFile.FieldType.boolean), Jvm.Cond.code ({ cls := "java/lang/String", name := "valueOf", desc := "(C)Ljava/lang/String;" } : Jvm.MethodName) jdk_42_method_139_code (1 : Nat) (Option.some (Jvm.ClassFile.FieldType.object "java/lang/String")), Jvm.Cond.code ({ cls := "java/lang/StringLatin1", name := "canEncode", desc := "(C)Z" } : Jvm.MethodName) jdk_43_method_3_code (1 : Nat) (Option.some Jvm.ClassFile.FieldType.boolean), Jvm.Cond.code ({ cls := "java/lang/StringLatin1", name := "toBytes", desc := "(C)[B" } : Jvm.MethodName) jdk_43_method_46_code (1 : Nat) (Option.some (Jvm.ClassFile.FieldType.array Jvm.ClassFile.FieldType.byte)), Jvm.Cond.code ({ cls := "java/lang/String", name := "<init>", desc := "([BB)V" } : Jvm.MethodName) jdk_42_method_151_code (3 : Nat) (Option.none : Option Jvm.ClassFile.FieldType), Jvm.Cond.code ({ cls := "java/lang/String", name := "equals", desc := "(Ljava/lang/Object;)Z" } : Jvm.MethodName) jdk_42_method_66_code (3 : Nat) (Option.some Jvm.ClassFile.FieldType.boolean), Jvm.Cond.code ({ cls := "java/lang/StringLatin1", name := "equals", desc := "([B[B)Z" } : Jvm.MethodName) jdk_43_method_13_code (3 : Nat) (Option.some Jvm.ClassFile.FieldType.boolean)]
set_option maxRecDepth 65536 in
theorem codes_eq : words1.filter isCode = codes1 := rfl
theorem w_codes : ∀ c ∈ words1.filter isCode, c.before args0 about1 = true := by
  rw [codes_eq]
  intro c hc
  simp only [codes1, List.mem_cons, List.not_mem_nil, or_false] at hc
  rcases hc with rfl | rfl | rfl | rfl | rfl | rfl | rfl | rfl | rfl | rfl | rfl | rfl | rfl | rfl | rfl | rfl | rfl | rfl
  · exact w_c0
  · exact w_c1
  · exact w_c2
  · exact w_c3
  · exact w_c4
  · exact w_c5
  · exact w_c6
  · exact w_c7
  · exact w_c8
  · exact w_c9
  · exact w_c10
  · exact w_c11
  · exact w_c12
  · exact w_c13
  · exact w_c14
  · exact w_c15
  · exact w_c16
  · exact w_c17
set_option maxRecDepth 65536 in
theorem w_t1 : (words1.take 24).all (fun c => isCode c || c.before args0 about1) = true := by decide +kernel
set_option maxRecDepth 65536 in
theorem w_t2 : ((words1.drop 24).take 24).all (fun c => isCode c || c.before args0 about1) = true := by decide +kernel
set_option maxRecDepth 65536 in
theorem w_t3 : (((words1.drop 24).drop 24).take 24).all (fun c => isCode c || c.before args0 about1) = true := by decide +kernel
set_option maxRecDepth 65536 in
theorem w_t4 : (((words1.drop 24).drop 24).drop 24).all (fun c => isCode c || c.before args0 about1) = true := by decide +kernel
theorem w_tables : (allAtoms (Jvm.Cond.code x code maxLocals ret :: tables_1)).before args0 about1 = true := by
  rw [allAtoms_all]
  show words1.all (fun c => c.before args0 about1) = true
  refine all_split ?_ w_codes
  rw [← List.take_append_drop 24 words1, List.all_append, w_t1, ← List.take_append_drop 24 (words1.drop 24), List.all_append, w_t2, ← List.take_append_drop 24 ((words1.drop 24).drop 24), List.all_append, w_t3, w_t4]
  rfl
set_option maxRecDepth 65536 in
theorem w_rest : rest_1_c.before args0 about1 = true := by decide +kernel
set_option maxRecDepth 65536 in
theorem w_case : (Jvm.Cond.and given_1 narrow_1).before args0 about1 = true := by decide +kernel
set_option maxRecDepth 65536 in
theorem w_consts : constsHeld consts_1 about1 := Jvm.Lit.constsHeldB_iff.mp (by decide +kernel)
theorem w_applies : (headSpec (Jvm.Cond.code x code maxLocals ret :: tables_1) room_1).applies x e0.platform about1 = true :=
  (Spec.applies_iff w_frames).mpr ⟨w_running, w_runnable, w_alone, w_named, w_hears, w_ripe, w_room, w_tables⟩
theorem atStart : AtStart classFile x code maxLocals ret World_1 tables_1 room_1 Calls_1 rest_1 Pre_1 launch0 p0 e0 about1 theMethod args0 below0 :=
  ⟨lists_1, trivial, launch0.admits_env _ _ _, launch0.least_env, fairChoices_fair.cas, fairChoices_fair.clock, w_frames, w_args, w_heap, w_applies, ⟨w_consts, trivial⟩, w_rest, w_case⟩
end start1
theorem witness_1 : WitnessClaimed_1 := ⟨start1.p0, start1.e0, start1.about1, start1.theMethod, start1.args0, start1.below0, start1.atStart⟩
end Jvm.Pilot.@@N@@

