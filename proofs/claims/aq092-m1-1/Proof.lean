import JvmDerived
import JvmDerived.Pilot.@@N@@Statement
import JvmDerived.Pilot.@@N@@Code
set_option linter.unusedVariables false
set_option linter.unusedSimpArgs false

/- laws to paste: Road.backV, Road.lenW, Road.chN, Road.empW, Road.codOf (cut by pick.py; bodies as the Statement names them) -/
namespace Jvm.Pilot.@@N@@
namespace StrChars
open Jvm Sem ClassFile Op Lib Jvm.Stand Jvm.Free.XT Jvm.Free.ALB Jvm.Free.JM Jvm.Free
open Jvm.Lib.Cold (StaticIs)
/-- a char array whose places are chars -/
def Ch (a : Addr) (A : Cell) (U : State) : Prop := Arr .char a A U ∧ Typed .char A
theorem Ch.mv {a : Addr} {A : Cell} {U U' : State} (h : Ch a A U) (hal : U.vm.Alike U'.vm) (hh : U'.heap = U.heap) : Ch a A U' := ⟨h.1.mv hal hh, h.2⟩
theorem Ch.keep {a : Addr} {A : Cell} {U U' : State} (h : Ch a A U) (hal : U.vm.Alike U'.vm) (hk : U'.heap[a]? = some A) : Ch a A U' := ⟨h.1.keep hal hk, h.2⟩
/-- what place i of a char[]'s cell holds -/
def cv (A : Cell) (i : Nat) : Int32 := match A.slots[i]? with | some (.int x) => x | _ => 0
theorem Ch.get {a : Addr} {A : Cell} {U : State} (h : Ch a A U) {i : Nat} (hi : i < A.slots.size) : A.slots[i]? = some (.int (cv A i)) := by
  have e := Array.getElem?_eq_getElem hi
  have f := h.2 i _ e
  unfold cv; rw [e]
  generalize A.slots[i] = v at f
  cases v <;> simp [fits] at f ⊢
/-- the byte that i2b leaves of a char -/
def lo8 (x : Int32) : Int32 := x.toInt8.toInt32
theorem fits_lo8 (y : Int32) : fits .byte (.int (lo8 y)) = true := by
  have h1 := y.toInt8.le_toInt
  have h2 := y.toInt8.toInt_lt
  simp only [lo8, fits, Bool.and_eq_true, decide_eq_true_eq, Int32.le_iff_toInt_le, Int8.toInt_toInt32, show (-128 : Int32).toInt = -128 from by decide, show (127 : Int32).toInt = 127 from by decide]
  omega
/-- A' is A but that each place j of lo .. hi - 1 holds f j -/
def Laid (A A' : Cell) (lo hi : Nat) (f : Nat → Value) : Prop := A'.cls = A.cls ∧ A'.vm = A.vm ∧ A'.slots.size = A.slots.size ∧ ∀ i, A'.slots[i]? = if lo ≤ i ∧ i < hi then some (f i) else A.slots[i]?
theorem Laid.zero (A : Cell) (lo : Nat) (f : Nat → Value) : Laid A A lo (lo + 0) f := ⟨rfl, rfl, rfl, fun i => by rw [if_neg (by omega)]⟩
theorem Laid.step {A Ak : Cell} {lo k : Nat} {f : Nat → Value} {v : Value} (h : Laid A Ak lo k f) (hlo : lo ≤ k) (hk : k < Ak.slots.size) (hv : v = f k) : Laid A (Ak.setSlot k v) lo (k + 1) f := by
  refine ⟨h.1, h.2.1, by simpa [Cell.setSlot] using h.2.2.1, fun i => ?_⟩
  by_cases e : k = i
  · subst e; rw [Cell.slots_setSlot_self v hk, if_pos (by omega), hv]
  · rw [Cell.slots_setSlot_ne v e, h.2.2.2 i]
    by_cases q : lo ≤ i ∧ i < k
    · rw [if_pos q, if_pos (by omega)]
    · rw [if_neg q, if_neg (by omega)]
def U16 : String := "java/lang/StringUTF16"
namespace Cmp5
def yN : MethodName := ⟨"java/lang/StringUTF16", "compress", "([CI[BII)I"⟩
abbrev yB : ByteArray := jdk_52_method_21_code
theorem d0 : decode yB 0 = .ok (.iconst 0, 1) := by decide +kernel
theorem d1 : decode yB 1 = .ok (.istore 5, 2) := by decide +kernel
theorem d3 : decode yB 3 = .ok (.iload 5, 2) := by decide +kernel
theorem d5 : decode yB 5 = .ok (.iload 4, 2) := by decide +kernel
theorem d7 : decode yB 7 = .ok (.if_icmp (.ge) 37, 3) := by decide +kernel
theorem d10 : decode yB 10 = .ok (.aload_n 0, 1) := by decide +kernel
theorem d11 : decode yB 11 = .ok (.iload_n 1, 1) := by decide +kernel
theorem d12 : decode yB 12 = .ok (.caload, 1) := by decide +kernel
theorem d13 : decode yB 13 = .ok (.istore 6, 2) := by decide +kernel
theorem d15 : decode yB 15 = .ok (.iload 6, 2) := by decide +kernel
theorem d17 : decode yB 17 = .ok (.sipush 255, 3) := by decide +kernel
theorem d20 : decode yB 20 = .ok (.if_icmp (.le) 6, 3) := by decide +kernel
theorem d26 : decode yB 26 = .ok (.aload_n 2, 1) := by decide +kernel
theorem d27 : decode yB 27 = .ok (.iload_n 3, 1) := by decide +kernel
theorem d28 : decode yB 28 = .ok (.iload 6, 2) := by decide +kernel
theorem d30 : decode yB 30 = .ok (.i2b, 1) := by decide +kernel
theorem d31 : decode yB 31 = .ok (.bastore, 1) := by decide +kernel
theorem d32 : decode yB 32 = .ok (.iinc 1 1, 3) := by decide +kernel
theorem d35 : decode yB 35 = .ok (.iinc 3 1, 3) := by decide +kernel
theorem d38 : decode yB 38 = .ok (.iinc 5 1, 3) := by decide +kernel
theorem d41 : decode yB 41 = .ok (.goto (-38), 3) := by decide +kernel
theorem d44 : decode yB 44 = .ok (.iload 4, 2) := by decide +kernel
theorem d46 : decode yB 46 = .ok (.ireturn, 1) := by decide +kernel
def site : List Cond := []
def tab : Cond := tabOf yN yB 7 (some .int) site
def P (b : Addr) (A : Cell) (d : Addr) (B : Cell) (o q len : Nat) (args : Array Value) (s : State) : Prop := args = #[.ref b, .int (Int32.ofNat o), .ref d, .int (Int32.ofNat q), .int (Int32.ofNat len)] ∧ Ch b A s ∧ Arr .byte d B s ∧ b ≠ d ∧ o + len ≤ A.slots.size ∧ q + len ≤ B.slots.size ∧ ∀ i, i < len → ¬ 255 < cv A (o + i)
def E (b : Addr) (A : Cell) (d : Addr) (B : Cell) (o q len : Nat) (r : Option Value) (s u : State) : Prop := r = some (.int (Int32.ofNat len)) ∧ ∃ B', Put d B' s u ∧ Laid B B' q (q + len) (fun j => Value.int (lo8 (cv A (o + (j - q)))))
/-- no char of the range above 255: len; the places written hold each char's low byte -/
theorem law (l : Launch) (b : Addr) (A : Cell) (d : Addr) (B : Cell) (o q len : Nat) : Law l yN 5 5 0 0 yB 7 (some .int) site (P b A d B o q len) (E b A d B o q len) (copyLocs d q len) 0 0 := by
  refine Law.of_walk (plainFor_of_name (by decide +kernel)) (by decide +kernel) (by decide +kernel) (by decide) (fun _ _ h => by rw [h.1]; rfl) (fun _ U U' hal hh h => ⟨h.1, h.2.1.mv hal hh, h.2.2.1.mv hal hh, h.2.2.2⟩) (fun r U U' V V' h1 hal h2 h => ⟨h.1, h.2.elim fun B' q => ⟨B', q.1.mv h1 h2, q.2⟩⟩) ?_
  intro p e s m args below meth c s₁ X0 hexec hbytes hml hret hlk hnm hown hh0 W hP
  obtain ⟨rfl, hA, hB, hne, l1, l2, hp⟩ := hP
  have c1 : Steps p.tables e below (s₁.setTop (entryFrame m #[.ref b, .int (Int32.ofNat o), .ref d, .int (Int32.ofNat q), .int (Int32.ofNat len)] 7)) (s₁.setTop (mkF m 0 #[.val (.ref b), .val (.int (Int32.ofNat o)), .val (.ref d), .val (.int (Int32.ofNat q)), .val (.int (Int32.ofNat len)), .unset, .unset] [])) := entry rfl
  have hA0 := hA.1.mv X0.warmed.alike hh0
  have hB0 := hB.mv X0.warmed.alike hh0
  have a31 := hA.1.2.2.2
  have c2 : Steps p.tables e below (s₁.setTop (entryFrame m #[.ref b, .int (Int32.ofNat o), .ref d, .int (Int32.ofNat q), .int (Int32.ofNat len)] 7)) (s₁.setTop (mkF m 3 #[.val (.ref b), .val (.int (Int32.ofNat o)), .val (.ref d), .val (.int (Int32.ofNat q)), .val (.int (Int32.ofNat len)), .val (.int 0), .unset] [])) := c1.trans (by
    refine iconstV X0.here hexec rfl 0 (hb hbytes d0) (by decide) ?_
    refine XS.istore X0.here hexec rfl (hb hbytes d1) rfl rfl ?_
    exact Steps.refl _)
  have loop : ∀ (r i : Nat), i + r = len → ∀ (z : Slot), (z = .unset ∨ ∃ w, z = .val w ∧ w.category = 1) → ∀ (Tl : State) (Bk : Cell), Stand p l e { frames := 0, locals := 0, cells := 0, slots := 0 } s m #[.ref b, .int (Int32.ofNat o), .ref d, .int (Int32.ofNat q), .int (Int32.ofNat len)] below meth c Tl ([] ++ copyLocs d q i) 0 0 → Put d Bk s₁ Tl → Laid B Bk q (q + i) (fun j => Value.int (lo8 (cv A (o + (j - q))))) →
      Steps p.tables e below (s₁.setTop (entryFrame m #[.ref b, .int (Int32.ofNat o), .ref d, .int (Int32.ofNat q), .int (Int32.ofNat len)] 7)) (Tl.setTop (mkF m 3 #[.val (.ref b), .val (.int (Int32.ofNat (o + i))), .val (.ref d), .val (.int (Int32.ofNat (q + i))), .val (.int (Int32.ofNat len)), .val (.int (Int32.ofNat i)), z] [])) → ∃ (T' : State) (B' : Cell) (z' : Slot), Stand p l e { frames := 0, locals := 0, cells := 0, slots := 0 } s m #[.ref b, .int (Int32.ofNat o), .ref d, .int (Int32.ofNat q), .int (Int32.ofNat len)] below meth c T' ([] ++ copyLocs d q len) 0 0 ∧ Put d B' s₁ T' ∧ Laid B B' q (q + len) (fun j => Value.int (lo8 (cv A (o + (j - q))))) ∧
      Steps p.tables e below (s₁.setTop (entryFrame m #[.ref b, .int (Int32.ofNat o), .ref d, .int (Int32.ofNat q), .int (Int32.ofNat len)] 7)) (T'.setTop (mkF m 3 #[.val (.ref b), .val (.int (Int32.ofNat (o + len))), .val (.ref d), .val (.int (Int32.ofNat (q + len))), .val (.int (Int32.ofNat len)), .val (.int (Int32.ofNat len)), z'] [])) := by
    intro r
    induction r with
    | zero =>
      intro i hi z hz Tl Bk Xl pl fl cl
      have hil : i = len := by omega
      rw [hil] at Xl fl cl
      exact ⟨Tl, Bk, z, Xl, pl, fl, cl⟩
    | succ r ih =>
      intro i hi z hz Tl Bk Xl pl fl cl
      have all := X0.warmed.alike.symm.trans Xl.warmed.alike
      have hAl := hA0.keep all (pl.other hne hA0.1)
      have hBk := hB0.like all pl.1 fl.1 fl.2.1 fl.2.2.1
      have hlt : q + i < Bk.slots.size := by rw [fl.2.2.1]; omega
      have c3 : Steps p.tables e below (s₁.setTop (entryFrame m #[.ref b, .int (Int32.ofNat o), .ref d, .int (Int32.ofNat q), .int (Int32.ofNat len)] 7)) (Tl.setTop (mkF m 12 #[.val (.ref b), .val (.int (Int32.ofNat (o + i))), .val (.ref d), .val (.int (Int32.ofNat (q + i))), .val (.int (Int32.ofNat len)), .val (.int (Int32.ofNat i)), z] [.int (Int32.ofNat (o + i)), .ref b])) := cl.trans (by
        refine XS.iload Xl.here hexec rfl (hb hbytes d3) rfl ?_
        refine XS.iload Xl.here hexec rfl (hb hbytes d5) rfl ?_
        refine XS.icmpNo Xl.here hexec rfl (hb hbytes d7) rfl (ii_ge_f (lt32 (by omega) (by omega))) ?_
        refine XS.aloadN Xl.here hexec rfl (hb hbytes d10) rfl rfl ?_
        refine XS.iloadN Xl.here hexec rfl (hb hbytes d11) rfl ?_
        exact Steps.refl _)
      have c4 : Steps p.tables e below (s₁.setTop (entryFrame m #[.ref b, .int (Int32.ofNat o), .ref d, .int (Int32.ofNat q), .int (Int32.ofNat len)] 7)) (Tl.setTop (mkF m 13 #[.val (.ref b), .val (.int (Int32.ofNat (o + i))), .val (.ref d), .val (.int (Int32.ofNat (q + i))), .val (.int (Int32.ofNat len)), .val (.int (Int32.ofNat i)), z] [.int (cv A (o + i))])) := c3.trans (by
        refine Xl.aget hexec hAl rfl (hA.get (i := o + i) (by omega)) rfl rfl (hb hbytes d12) ?_
        exact Steps.refl _)
      have c5 : Steps p.tables e below (s₁.setTop (entryFrame m #[.ref b, .int (Int32.ofNat o), .ref d, .int (Int32.ofNat q), .int (Int32.ofNat len)] 7)) (Tl.setTop (mkF m 15 #[.val (.ref b), .val (.int (Int32.ofNat (o + i))), .val (.ref d), .val (.int (Int32.ofNat (q + i))), .val (.int (Int32.ofNat len)), .val (.int (Int32.ofNat i)), .val (.int (cv A (o + i)))] [])) := c4.trans (by
        refine XS.istoreS Xl.here hexec rfl (hb hbytes d13) rfl rfl hz ?_
        exact Steps.refl _)
      have c6 : Steps p.tables e below (s₁.setTop (entryFrame m #[.ref b, .int (Int32.ofNat o), .ref d, .int (Int32.ofNat q), .int (Int32.ofNat len)] 7)) (Tl.setTop (mkF m 31 #[.val (.ref b), .val (.int (Int32.ofNat (o + i))), .val (.ref d), .val (.int (Int32.ofNat (q + i))), .val (.int (Int32.ofNat len)), .val (.int (Int32.ofNat i)), .val (.int (cv A (o + i)))] [.int (lo8 (cv A (o + i))), .int (Int32.ofNat (q + i)), .ref d])) := c5.trans (by
        refine XS.iload Xl.here hexec rfl (hb hbytes d15) rfl ?_
        refine sipushV Xl.here hexec rfl 255 (hb hbytes d17) (by decide) ?_
        refine XS.icmpYes Xl.here hexec rfl (pc0 := 20) rfl (hb hbytes d20) rfl (ii_le_t (hp i (by omega))) (by decide) rfl ?_
        refine XS.aloadN Xl.here hexec rfl (hb hbytes d26) rfl rfl ?_
        refine XS.iloadN Xl.here hexec rfl (hb hbytes d27) rfl ?_
        refine XS.iload Xl.here hexec rfl (hb hbytes d28) rfl ?_
        refine i2b Xl.here hexec rfl (hb hbytes d30) rfl ?_
        exact Steps.refl _)
      obtain ⟨T7, X7, p7, st7⟩ := Xl.aput hexec hBk rfl hlt rfl (fits_lo8 (cv A (o + i))) (g := (mkF m 31 #[.val (.ref b), .val (.int (Int32.ofNat (o + i))), .val (.ref d), .val (.int (Int32.ofNat (q + i))), .val (.int (Int32.ofNat len)), .val (.int (Int32.ofNat i)), .val (.int (cv A (o + i)))] [.int (lo8 (cv A (o + i))), .int (Int32.ofNat (q + i)), .ref d])) rfl (rest := []) rfl (hb hbytes d31)
      have c8 : Steps p.tables e below (s₁.setTop (entryFrame m #[.ref b, .int (Int32.ofNat o), .ref d, .int (Int32.ofNat q), .int (Int32.ofNat len)] 7)) (T7.setTop (mkF m 32 #[.val (.ref b), .val (.int (Int32.ofNat (o + i))), .val (.ref d), .val (.int (Int32.ofNat (q + i))), .val (.int (Int32.ofNat len)), .val (.int (Int32.ofNat i)), .val (.int (cv A (o + i)))] [])) := c6.trans (st7 _ (Steps.refl _))
      have c9 : Steps p.tables e below (s₁.setTop (entryFrame m #[.ref b, .int (Int32.ofNat o), .ref d, .int (Int32.ofNat q), .int (Int32.ofNat len)] 7)) (T7.setTop (mkF m 3 #[.val (.ref b), .val (.int (Int32.ofNat (o + i) + 1)), .val (.ref d), .val (.int (Int32.ofNat (q + i) + 1)), .val (.int (Int32.ofNat len)), .val (.int (Int32.ofNat i + 1)), .val (.int (cv A (o + i)))] [])) := c8.trans (by
        refine iincV X7.here hexec rfl 1 (hb hbytes d32) (by decide) rfl rfl ?_
        refine iincV X7.here hexec rfl 1 (hb hbytes d35) (by decide) rfl rfl ?_
        refine iincV X7.here hexec rfl 1 (hb hbytes d38) (by decide) rfl rfl ?_
        refine XS.goto X7.here hexec rfl (pc0 := 41) rfl (hb hbytes d41) (by decide) rfl ?_
        exact Steps.refl _)
      have c10 : Steps p.tables e below (s₁.setTop (entryFrame m #[.ref b, .int (Int32.ofNat o), .ref d, .int (Int32.ofNat q), .int (Int32.ofNat len)] 7)) (T7.setTop (mkF m 3 #[.val (.ref b), .val (.int (Int32.ofNat (o + (i + 1)))), .val (.ref d), .val (.int (Int32.ofNat (q + (i + 1)))), .val (.int (Int32.ofNat len)), .val (.int (Int32.ofNat (i + 1))), .val (.int (cv A (o + i)))] [])) := by
        have := c9
        rw [succ32, succ32, succ32] at this
        exact this
      exact ih (i + 1) (by omega) _ (Or.inr ⟨_, rfl, rfl⟩) T7 _ (by rw [copyLocs_step, ← List.append_assoc]; exact X7) (pl.trans p7) (fl.step (by omega) hlt (by simp)) c10
  obtain ⟨T9, B9, z9, X9, p9, f9, g9⟩ := loop len 0 (by omega) .unset (Or.inl rfl) s₁ B (by simpa [copyLocs] using X0) ⟨hB0.1, fun _ _ => rfl, rfl⟩ (Laid.zero _ _ _) c2
  have c11 : Steps p.tables e below (s₁.setTop (entryFrame m #[.ref b, .int (Int32.ofNat o), .ref d, .int (Int32.ofNat q), .int (Int32.ofNat len)] 7)) (T9.setTop (mkF m 46 #[.val (.ref b), .val (.int (Int32.ofNat (o + len))), .val (.ref d), .val (.int (Int32.ofNat (q + len))), .val (.int (Int32.ofNat len)), .val (.int (Int32.ofNat len)), z9] [.int (Int32.ofNat len)])) := g9.trans (by
    refine XS.iload X9.here hexec rfl (hb hbytes d3) rfl ?_
    refine XS.iload X9.here hexec rfl (hb hbytes d5) rfl ?_
    refine XS.icmpYes X9.here hexec rfl (pc0 := 7) rfl (hb hbytes d7) rfl (ii_ge_t (nlt32 (by omega) (Nat.le_refl _))) (by decide) rfl ?_
    refine XS.iload X9.here hexec rfl (hb hbytes d44) rfl ?_
    exact Steps.refl _)
  exact ⟨T9, some (.int (Int32.ofNat len)), _, _, _, X9, by simp, rfl, rfl, (fun h => by cases h), ⟨rfl, B9, p9.from hh0, f9⟩, fun fs hl => c11.trans (X9.ireturnOut hexec hret rfl (Or.inl rfl) (hb hbytes d46) hl)⟩
end Cmp5
namespace Cmp3
def yN : MethodName := ⟨"java/lang/StringUTF16", "compress", "([CII)[B"⟩
abbrev yB : ByteArray := jdk_52_method_16_code
theorem d0 : decode yB 0 = .ok (.iload_n 2, 1) := by decide +kernel
theorem d1 : decode yB 1 = .ok (.newarray .byte, 2) := by decide +kernel
theorem d3 : decode yB 3 = .ok (.astore_n 3, 1) := by decide +kernel
theorem d4 : decode yB 4 = .ok (.aload_n 0, 1) := by decide +kernel
theorem d5 : decode yB 5 = .ok (.iload_n 1, 1) := by decide +kernel
theorem d6 : decode yB 6 = .ok (.aload_n 3, 1) := by decide +kernel
theorem d7 : decode yB 7 = .ok (.iconst 0, 1) := by decide +kernel
theorem d8 : decode yB 8 = .ok (.iload_n 2, 1) := by decide +kernel
theorem d9 : decode yB 9 = .ok (.invokestatic 115, 3) := by decide +kernel
theorem d12 : decode yB 12 = .ok (.istore 4, 2) := by decide +kernel
theorem d14 : decode yB 14 = .ok (.iload 4, 2) := by decide +kernel
theorem d16 : decode yB 16 = .ok (.iload_n 2, 1) := by decide +kernel
theorem d17 : decode yB 17 = .ok (.if_icmp (.eq) 40, 3) := by decide +kernel
theorem d57 : decode yB 57 = .ok (.aload_n 3, 1) := by decide +kernel
theorem d58 : decode yB 58 = .ok (.areturn, 1) := by decide +kernel
def site : List Cond := [.arrayClass .byte, Cmp5.tab] ++ staticW U16 115 Cmp5.yN
def tab : Cond := tabOf yN yB 6 (some (.array .byte)) site
def P (b : Addr) (A : Cell) (o len : Nat) (args : Array Value) (s : State) : Prop := args = #[.ref b, .int (Int32.ofNat o), .int (Int32.ofNat len)] ∧ Ch b A s ∧ o + len ≤ A.slots.size ∧ len ≤ 536870912 ∧ ∀ i, i < len → ¬ 255 < cv A (o + i)
def E (b : Addr) (A : Cell) (o len : Nat) (r : Option Value) (s u : State) : Prop := NewArr .byte "[B" len (fun j => .int (lo8 (cv A (o + j)))) r s u ∧ u.heap.size = s.heap.size + 1
/-- no char of the range above 255: a new byte[] of their low bytes -/
theorem law (l : Launch) (b : Addr) (A : Cell) (o len : Nat) : Law l yN 3 3 1 18 yB 6 (some (.array .byte)) site (P b A o len) (E b A o len) [] 1 len := by
  refine Law.of_walk (plainFor_of_name (by decide +kernel)) (by decide +kernel) (by decide +kernel) (by decide) (fun _ _ h => by rw [h.1]; rfl) (fun _ U U' hal hh h => ⟨h.1, h.2.1.mv hal hh, h.2.2⟩) (fun r U U' V V' h1 hal h2 h => ⟨NewArr.mv r U U' V V' h1 hal h2 h.1, by rw [h1, h2]; exact h.2⟩) ?_
  intro p e s m args below meth c s₁ X0 hexec hbytes hml hret hlk hnm hown hh0 W hP
  obtain ⟨rfl, hA, l1, l2, hp⟩ := hP
  have a31 := hA.1.2.2.2
  have c1 : Steps p.tables e below (s₁.setTop (entryFrame m #[.ref b, .int (Int32.ofNat o), .int (Int32.ofNat len)] 6)) (s₁.setTop (mkF m 0 #[.val (.ref b), .val (.int (Int32.ofNat o)), .val (.int (Int32.ofNat len)), .unset, .unset, .unset] [])) := entry rfl
  have c2 : Steps p.tables e below (s₁.setTop (entryFrame m #[.ref b, .int (Int32.ofNat o), .int (Int32.ofNat len)] 6)) (s₁.setTop (mkF m 1 #[.val (.ref b), .val (.int (Int32.ofNat o)), .val (.int (Int32.ofNat len)), .unset, .unset, .unset] [.int (Int32.ofNat len)])) := c1.trans (by
    refine XS.iloadN X0.here hexec rfl (hb hbytes d0) rfl ?_
    exact Steps.refl _)
  obtain ⟨T3, B3, X3, ba3, bs3, bv3, bh3, bf3, st3⟩ := X0.anew hexec (atype := .byte) (wk W (.arrayClass .byte)) rfl (by show len * 1 ≤ _; omega) (by omega) (g := (mkF m 1 #[.val (.ref b), .val (.int (Int32.ofNat o)), .val (.int (Int32.ofNat len)), .unset, .unset, .unset] [.int (Int32.ofNat len)])) rfl (hb hbytes d1) (rest := []) rfl (Nat.le_refl _) (by show 0 + len ≤ len; omega)
  rw [hh0] at ba3 st3
  have kp3 : XT.Kept s T3 := (XT.Kept.of_eq hh0).push bh3
  have hA3 := hA.keep X3.warmed.alike (kp3 _ _ hA.1.1)
  have hne : b ≠ s.heap.size := hA.1.ne
  have c4 : Steps p.tables e below (s₁.setTop (entryFrame m #[.ref b, .int (Int32.ofNat o), .int (Int32.ofNat len)] 6)) (T3.setTop (mkF m 3 #[.val (.ref b), .val (.int (Int32.ofNat o)), .val (.int (Int32.ofNat len)), .unset, .unset, .unset] [.ref s.heap.size])) := c2.trans (st3 _ (Steps.refl _))
  have c5 : Steps p.tables e below (s₁.setTop (entryFrame m #[.ref b, .int (Int32.ofNat o), .int (Int32.ofNat len)] 6)) (T3.setTop (mkF m 9 #[.val (.ref b), .val (.int (Int32.ofNat o)), .val (.int (Int32.ofNat len)), .val (.ref s.heap.size), .unset, .unset] [.int (Int32.ofNat len), .int 0, .ref s.heap.size, .int (Int32.ofNat o), .ref b])) := c4.trans (by
    refine XS.astoreN X3.here hexec rfl (hb hbytes d3) rfl rfl rfl ?_
    refine XS.aloadN X3.here hexec rfl (hb hbytes d4) rfl rfl ?_
    refine XS.iloadN X3.here hexec rfl (hb hbytes d5) rfl ?_
    refine XS.aloadN X3.here hexec rfl (hb hbytes d6) rfl rfl ?_
    refine iconstV X3.here hexec rfl 0 (hb hbytes d7) (by decide) ?_
    refine XS.iloadN X3.here hexec rfl (hb hbytes d8) rfl ?_
    exact Steps.refl _)
  obtain ⟨v6, T6, X6, E6, g6⟩ := X3.callS hexec (Cmp5.law l b A s.heap.size B3 o 0 len) hown (wks W (staticW U16 115 Cmp5.yN)) (wk W Cmp5.tab) (W := 0) (Nat.le_of_ble_eq_true rfl) (Nat.le_of_ble_eq_true rfl) (Nat.le_refl _) (by show 0 + len + 0 ≤ len; omega) (g := (mkF m 9 #[.val (.ref b), .val (.int (Int32.ofNat o)), .val (.int (Int32.ofNat len)), .val (.ref s.heap.size), .unset, .unset] [.int (Int32.ofNat len), .int (Int32.ofNat 0), .ref s.heap.size, .int (Int32.ofNat o), .ref b])) rfl (by rw [hml]; rfl) c5 (argsL := [.ref b, .int (Int32.ofNat o), .ref s.heap.size, .int (Int32.ofNat 0), .int (Int32.ofNat len)]) (rest := []) rfl rfl (by show 2 * 0 + 0 ≤ _; decide) (hb hbytes d9) (⟨rfl, hA3, ba3, hne, l1, by rw [bs3]; simp, hp⟩)
  obtain ⟨rfl, B6, p6, f6⟩ := E6
  have c7 : Steps p.tables e below (s₁.setTop (entryFrame m #[.ref b, .int (Int32.ofNat o), .int (Int32.ofNat len)] 6)) (T6.setTop (mkF m 12 #[.val (.ref b), .val (.int (Int32.ofNat o)), .val (.int (Int32.ofNat len)), .val (.ref s.heap.size), .unset, .unset] [.int (Int32.ofNat len)])) := g6
  have c8 : Steps p.tables e below (s₁.setTop (entryFrame m #[.ref b, .int (Int32.ofNat o), .int (Int32.ofNat len)] 6)) (T6.setTop (mkF m 58 #[.val (.ref b), .val (.int (Int32.ofNat o)), .val (.int (Int32.ofNat len)), .val (.ref s.heap.size), .val (.int (Int32.ofNat len)), .unset] [.ref s.heap.size])) := c7.trans (by
    refine XS.istore X6.here hexec rfl (hb hbytes d12) rfl rfl ?_
    refine XS.iload X6.here hexec rfl (hb hbytes d14) rfl ?_
    refine XS.iloadN X6.here hexec rfl (hb hbytes d16) rfl ?_
    refine XS.icmpYes X6.here hexec rfl (pc0 := 17) rfl (hb hbytes d17) rfl (ii_eq_t rfl) (by decide) rfl ?_
    refine XS.aloadN X6.here hexec rfl (hb hbytes d57) rfl rfl ?_
    exact Steps.refl _)
  have X8 := X6.wide (L' := []) (cells' := 1) (slots' := len) (fun x hx hlt => by
    simp only [List.nil_append, copyLocs, List.mem_map, List.mem_range] at hx
    obtain ⟨i, -, rfl⟩ := hx
    exact absurd hlt (Nat.lt_irrefl _)) (Nat.le_refl _) (by omega)
  exact ⟨T6, some (.ref s.heap.size), _, _, _, X8, rfl, rfl, rfl, (fun h => by cases h), ⟨⟨rfl, B6, ba3.like (X3.warmed.alike.symm.trans X6.warmed.alike) p6.1 f6.1 f6.2.1 f6.2.2.1, f6.2.1.trans bv3, by rw [X6.warmed.alike.findClass, f6.1]; exact bf3, by rw [f6.2.2.1, bs3]; simp, fun j hj => by rw [f6.2.2.2 j, if_pos (by omega)]; rfl, kp3.put p6 (Nat.le_refl _)⟩, by rw [p6.2.2, bh3, hh0]; simp⟩, fun fs hl => c8.trans (X8.areturnOut hexec rfl hret rfl (hb hbytes d58) hl)⟩
end Cmp3
namespace CodL
def yN : MethodName := ⟨"java/lang/StringUTF16", "coderFromArrayLen", "([BI)B"⟩
abbrev yB : ByteArray := jdk_52_method_15_code
theorem d0 : decode yB 0 = .ok (.iload_n 1, 1) := by decide +kernel
theorem d1 : decode yB 1 = .ok (.aload_n 0, 1) := by decide +kernel
theorem d2 : decode yB 2 = .ok (.arraylength, 1) := by decide +kernel
theorem d3 : decode yB 3 = .ok (.isub, 1) := by decide +kernel
theorem d4 : decode yB 4 = .ok (.bipush 31, 2) := by decide +kernel
theorem d6 : decode yB 6 = .ok (.iushr, 1) := by decide +kernel
theorem d7 : decode yB 7 = .ok (.i2b, 1) := by decide +kernel
theorem d8 : decode yB 8 = .ok (.ireturn, 1) := by decide +kernel
def site : List Cond := []
def tab : Cond := tabOf yN yB 2 (some .byte) site
def P (d : Addr) (B : Cell) (args : Array Value) (s : State) : Prop := args = #[.ref d, .int (Int32.ofNat B.slots.size)] ∧ Arr .byte d B s
def E (r : Option Value) (s u : State) : Prop := XT.PureE (some (.int 0)) r s u
/-- an array as long as the number of chars: LATIN1 -/
theorem law (l : Launch) (d : Addr) (B : Cell) : Law l yN 2 2 0 0 yB 2 (some .byte) site (P d B) E [] 0 0 := by
  refine Law.of_walk (plainFor_of_name (by decide +kernel)) (by decide +kernel) (by decide +kernel) (by decide) (fun _ _ h => by rw [h.1]; rfl) (fun _ U U' hal hh h => ⟨h.1, h.2.mv hal hh⟩) (fun r U U' V V' h1 hal h2 h => XT.PureE.mv r U U' V V' h1 hal h2 h) ?_
  intro p e s m args below meth c s₁ X0 hexec hbytes hml hret hlk hnm hown hh0 W hP
  obtain ⟨rfl, hB⟩ := hP
  have hB0 := hB.mv X0.warmed.alike hh0
  have c1 : Steps p.tables e below (s₁.setTop (entryFrame m #[.ref d, .int (Int32.ofNat B.slots.size)] 2)) (s₁.setTop (mkF m 0 #[.val (.ref d), .val (.int (Int32.ofNat B.slots.size))] [])) := entry rfl
  have c2 : Steps p.tables e below (s₁.setTop (entryFrame m #[.ref d, .int (Int32.ofNat B.slots.size)] 2)) (s₁.setTop (mkF m 2 #[.val (.ref d), .val (.int (Int32.ofNat B.slots.size))] [.ref d, .int (Int32.ofNat B.slots.size)])) := c1.trans (by
    refine XS.iloadN X0.here hexec rfl (hb hbytes d0) rfl ?_
    refine XS.aloadN X0.here hexec rfl (hb hbytes d1) rfl rfl ?_
    exact Steps.refl _)
  have c3 : Steps p.tables e below (s₁.setTop (entryFrame m #[.ref d, .int (Int32.ofNat B.slots.size)] 2)) (s₁.setTop (mkF m 8 #[.val (.ref d), .val (.int (Int32.ofNat B.slots.size))] [.int (lo8 (ushr (Int32.ofNat B.slots.size - Int32.ofNat B.slots.size) 31))])) := c2.trans (by
    refine X0.alen hexec hB0 rfl rfl (hb hbytes d2) ?_
    refine XS.isub X0.here hexec rfl (hb hbytes d3) rfl ?_
    refine bipushV X0.here hexec rfl 31 (hb hbytes d4) (by decide) ?_
    refine iushr X0.here hexec rfl (hb hbytes d6) rfl ?_
    refine i2b X0.here hexec rfl (hb hbytes d7) rfl ?_
    exact Steps.refl _)
  have e0 : lo8 (ushr (Int32.ofNat B.slots.size - Int32.ofNat B.slots.size) 31) = 0 := by rw [Int32.sub_self]; decide
  rw [e0] at c3
  exact ⟨s₁, some (.int 0), _, _, _, X0, rfl, rfl, rfl, (fun h => by cases h), ⟨rfl, hh0⟩, fun fs hl => c3.trans (X0.ireturnOut hexec hret rfl (Or.inr (Or.inr (Or.inl rfl))) (hb hbytes d8) hl)⟩
end CodL
/-- the String at a is Latin-1 over a new byte[] (the heap's one new cell): the low bytes of the len chars of A from o on; every cell but a is kept -/
def Got (a : Addr) (D : Cell) (fV fC : Field) (A : Cell) (o len : Nat) (r : Option Value) (s u : State) : Prop := r = none ∧ ∃ D' V : Cell, Blank "java/lang/String" a D' u ∧ Same D D' [fV.slot, fC.slot] ∧ D'.slots[fV.slot]? = some (.ref s.heap.size) ∧ D'.slots[fC.slot]? = some (.int 0) ∧ Arr .byte s.heap.size V u ∧ V.vm = .none ∧ u.vm.findClass "[B" = some V.cls ∧ V.slots.size = len ∧ (∀ j, j < len → V.slots[j]? = some (.int (lo8 (cv A (o + j))))) ∧ (∀ (y : Addr) (c : Cell), y ≠ a → s.heap[y]? = some c → u.heap[y]? = some c) ∧ u.heap.size = s.heap.size + 1
theorem Got.mv {a : Addr} {D A : Cell} {fV fC : Field} {o len : Nat} : ∀ r (U U' V V' : State), U'.heap = U.heap → V.vm.Alike V'.vm → V'.heap = V.heap → Got a D fV fC A o len r U V → Got a D fV fC A o len r U' V' :=
  fun r U U' V V' h1 hal h2 ⟨e0, D', X, a1, a2, a3, a4, a5, a6, a7, a8, a9, a10, a11⟩ => ⟨e0, D', X, a1.mv hal h2, a2, by rw [h1]; exact a3, a4, by rw [h1]; exact a5.mv hal h2, a6, by rw [hal.findClass]; exact a7, a8, a9, by rw [h1, h2]; exact a10, by rw [h1, h2]; exact a11⟩
namespace New4
def yN : MethodName := ⟨"java/lang/String", "<init>", "([CIILjava/lang/Void;)V"⟩
abbrev yB : ByteArray := jdk_42_method_149_code
theorem d0 : decode yB 0 = .ok (.aload_n 0, 1) := by decide +kernel
theorem d1 : decode yB 1 = .ok (.invokespecial 1, 3) := by decide +kernel
theorem d4 : decode yB 4 = .ok (.iload_n 3, 1) := by decide +kernel
theorem d5 : decode yB 5 = .ok (.ifCond (.ne) 22, 3) := by decide +kernel
theorem d27 : decode yB 27 = .ok (.getstatic 38, 3) := by decide +kernel
theorem d30 : decode yB 30 = .ok (.ifCond (.eq) 28, 3) := by decide +kernel
theorem d33 : decode yB 33 = .ok (.aload_n 1, 1) := by decide +kernel
theorem d34 : decode yB 34 = .ok (.iload_n 2, 1) := by decide +kernel
theorem d35 : decode yB 35 = .ok (.iload_n 3, 1) := by decide +kernel
theorem d36 : decode yB 36 = .ok (.invokestatic 177, 3) := by decide +kernel
theorem d39 : decode yB 39 = .ok (.astore 5, 2) := by decide +kernel
theorem d41 : decode yB 41 = .ok (.aload_n 0, 1) := by decide +kernel
theorem d42 : decode yB 42 = .ok (.aload 5, 2) := by decide +kernel
theorem d44 : decode yB 44 = .ok (.iload_n 3, 1) := by decide +kernel
theorem d45 : decode yB 45 = .ok (.invokestatic 47, 3) := by decide +kernel
theorem d48 : decode yB 48 = .ok (.putfield 15, 3) := by decide +kernel
theorem d51 : decode yB 51 = .ok (.aload_n 0, 1) := by decide +kernel
theorem d52 : decode yB 52 = .ok (.aload 5, 2) := by decide +kernel
theorem d54 : decode yB 54 = .ok (.putfield 9, 3) := by decide +kernel
theorem d57 : decode yB 57 = .ok (.return_, 1) := by decide +kernel
def site : List Cond := [.fieldLink "java/lang/String" 38 "java/lang/String" "COMPACT_STRINGS" "Z", Cmp3.tab, CodL.tab, .laysFinal "java/lang/String" "java/lang/String" "value" "[B", .fieldLink "java/lang/String" 9 "java/lang/String" "value" "[B", .laysFinal "java/lang/String" "java/lang/String" "coder" "B", .fieldLink "java/lang/String" 15 "java/lang/String" "coder" "B"] ++ objW "java/lang/String" 1 ++ staticW "java/lang/String" 177 Cmp3.yN ++ staticW "java/lang/String" 47 CodL.yN
def tab : Cond := tabOf yN yB 6 none site
def P (a : Addr) (D : Cell) (fV fC : Field) (b : Addr) (A : Cell) (z : Int32) (o len : Nat) (args : Array Value) (s : State) : Prop := args = #[.ref a, .ref b, .int (Int32.ofNat o), .int (Int32.ofNat len), .null] ∧ Blank "java/lang/String" a D s ∧ Found "java/lang/String" "value" "[B" fV s ∧ Found "java/lang/String" "coder" "B" fC s ∧ Ch b A s ∧ StaticIs s "java/lang/String" "COMPACT_STRINGS" "Z" (.int z) ∧ ¬ z = 0 ∧ 0 < len ∧ o + len ≤ A.slots.size ∧ len ≤ 536870912 ∧ ∀ i, i < len → ¬ 255 < cv A (o + i)
def E (a : Addr) (D : Cell) (fV fC : Field) (A : Cell) (o len : Nat) (r : Option Value) (s u : State) : Prop := Got a D fV fC A o len r s u
/-- len > 0, no char of the range above 255: a Latin-1 String of their low bytes -/
theorem law (l : Launch) (a : Addr) (D : Cell) (fV fC : Field) (b : Addr) (A : Cell) (z : Int32) (o len : Nat) : Law l yN 5 4 2 35 yB 6 none site (P a D fV fC b A z o len) (E a D fV fC A o len) [⟨a, fC.slot⟩, ⟨a, fV.slot⟩] 1 len := by
  refine Law.of_walk (plainFor_of_name (by decide +kernel)) (by decide +kernel) (by decide +kernel) (by decide) (fun _ _ h => by rw [h.1]; rfl) (fun _ U U' hal hh h => ⟨h.1, h.2.1.mv hal hh, h.2.2.1.al hal, h.2.2.2.1.al hal, h.2.2.2.2.1.mv hal hh, h.2.2.2.2.2.1.there hal hh, h.2.2.2.2.2.2⟩) (fun r U U' V V' h1 hal h2 h => Got.mv r U U' V V' h1 hal h2 h) ?_
  intro p e s m args below meth c s₁ X0 hexec hbytes hml hret hlk hnm hown hh0 W hP
  obtain ⟨rfl, hB, f1, f2, hA, s1, hz, l0, l1, l2, hp⟩ := hP
  have a31 := hA.1.2.2.2
  have c1 : Steps p.tables e below (s₁.setTop (entryFrame m #[.ref a, .ref b, .int (Int32.ofNat o), .int (Int32.ofNat len), .null] 6)) (s₁.setTop (mkF m 0 #[.val (.ref a), .val (.ref b), .val (.int (Int32.ofNat o)), .val (.int (Int32.ofNat len)), .val .null, .unset] [])) := entry rfl
  have c2 : Steps p.tables e below (s₁.setTop (entryFrame m #[.ref a, .ref b, .int (Int32.ofNat o), .int (Int32.ofNat len), .null] 6)) (s₁.setTop (mkF m 1 #[.val (.ref a), .val (.ref b), .val (.int (Int32.ofNat o)), .val (.int (Int32.ofNat len)), .val .null, .unset] [.ref a])) := c1.trans (by
    refine XS.aloadN X0.here hexec rfl (hb hbytes d0) rfl rfl ?_
    exact Steps.refl _)
  obtain ⟨T3, X3, q3, st3⟩ := X0.oinit hexec hown (wks W (objW "java/lang/String" 1)) (g := (mkF m 1 #[.val (.ref a), .val (.ref b), .val (.int (Int32.ofNat o)), .val (.int (Int32.ofNat len)), .val .null, .unset] [.ref a])) rfl (by rw [hml]; rfl) (rest := []) rfl (hb hbytes d1) (W := 0) (by show 2 * 0 + 0 ≤ _; decide) (Nat.le_of_ble_eq_true rfl) (Nat.le_of_ble_eq_true rfl)
  have hh3 := q3.trans hh0
  have c4 : Steps p.tables e below (s₁.setTop (entryFrame m #[.ref a, .ref b, .int (Int32.ofNat o), .int (Int32.ofNat len), .null] 6)) (T3.setTop (mkF m 27 #[.val (.ref a), .val (.ref b), .val (.int (Int32.ofNat o)), .val (.int (Int32.ofNat len)), .val .null, .unset] [])) := (c2.trans (st3 _ (Steps.refl _))).trans (by
    refine XS.iloadN X3.here hexec rfl (hb hbytes d4) rfl ?_
    refine XS.ifYes X3.here hexec rfl (pc0 := 5) rfl (hb hbytes d5) rfl (i0_ne_t (nz32 (by omega) l0)) (by decide) rfl ?_
    exact Steps.refl _)
  obtain ⟨T5, X5, q5, st5⟩ := X3.sget hexec hown (wk W (.fieldLink "java/lang/String" 38 "java/lang/String" "COMPACT_STRINGS" "Z")) s1 (fun _ _ h => by rw [hh3]; exact h) (g := (mkF m 27 #[.val (.ref a), .val (.ref b), .val (.int (Int32.ofNat o)), .val (.int (Int32.ofNat len)), .val .null, .unset] [])) rfl (hb hbytes d27)
  have hh5 := q5.trans hh3
  have c6 : Steps p.tables e below (s₁.setTop (entryFrame m #[.ref a, .ref b, .int (Int32.ofNat o), .int (Int32.ofNat len), .null] 6)) (T5.setTop (mkF m 30 #[.val (.ref a), .val (.ref b), .val (.int (Int32.ofNat o)), .val (.int (Int32.ofNat len)), .val .null, .unset] [.int z])) := c4.trans (st5 _ (Steps.refl _))
  have c7 : Steps p.tables e below (s₁.setTop (entryFrame m #[.ref a, .ref b, .int (Int32.ofNat o), .int (Int32.ofNat len), .null] 6)) (T5.setTop (mkF m 36 #[.val (.ref a), .val (.ref b), .val (.int (Int32.ofNat o)), .val (.int (Int32.ofNat len)), .val .null, .unset] [.int (Int32.ofNat len), .int (Int32.ofNat o), .ref b])) := c6.trans (by
    refine XS.ifNo X5.here hexec rfl (hb hbytes d30) rfl (i0_eq_f hz) ?_
    refine XS.aloadN X5.here hexec rfl (hb hbytes d33) rfl rfl ?_
    refine XS.iloadN X5.here hexec rfl (hb hbytes d34) rfl ?_
    refine XS.iloadN X5.here hexec rfl (hb hbytes d35) rfl ?_
    exact Steps.refl _)
  obtain ⟨v8, T8, X8, E8, g8⟩ := X5.callS hexec (Cmp3.law l b A o len) hown (wks W (staticW "java/lang/String" 177 Cmp3.yN)) (wk W Cmp3.tab) (W := 0) (Nat.le_of_ble_eq_true rfl) (Nat.le_of_ble_eq_true rfl) (Nat.le_refl _) (by show 0 + len ≤ len; omega) (g := (mkF m 36 #[.val (.ref a), .val (.ref b), .val (.int (Int32.ofNat o)), .val (.int (Int32.ofNat len)), .val .null, .unset] [.int (Int32.ofNat len), .int (Int32.ofNat o), .ref b])) rfl (by rw [hml]; rfl) c7 (argsL := [.ref b, .int (Int32.ofNat o), .int (Int32.ofNat len)]) (rest := []) rfl rfl (by show 2 * 0 + 0 ≤ _; decide) (hb hbytes d36) (⟨rfl, hA.mv X5.warmed.alike hh5, l1, l2, hp⟩)
  obtain ⟨e8, z8⟩ := E8
  obtain ⟨rfl, N, n1, n2, n3, n4, n5, n6⟩ := NewArr.mv _ T5 s _ _ hh5.symm (Vm.Alike.refl _) rfl e8
  rw [hh5] at z8
  have hB1 := hB.keep X8.warmed.alike (n6 _ _ hB.1)
  have hne : s.heap.size ≠ a := (Nat.ne_of_lt (Array.getElem?_eq_some_iff.mp hB.1).1).symm
  have c9 : Steps p.tables e below (s₁.setTop (entryFrame m #[.ref a, .ref b, .int (Int32.ofNat o), .int (Int32.ofNat len), .null] 6)) (T8.setTop (mkF m 39 #[.val (.ref a), .val (.ref b), .val (.int (Int32.ofNat o)), .val (.int (Int32.ofNat len)), .val .null, .unset] [.ref s.heap.size])) := g8
  have c10 : Steps p.tables e below (s₁.setTop (entryFrame m #[.ref a, .ref b, .int (Int32.ofNat o), .int (Int32.ofNat len), .null] 6)) (T8.setTop (mkF m 45 #[.val (.ref a), .val (.ref b), .val (.int (Int32.ofNat o)), .val (.int (Int32.ofNat len)), .val .null, .val (.ref s.heap.size)] [.int (Int32.ofNat N.slots.size), .ref s.heap.size, .ref a])) := by
    have hc : Steps p.tables e below (s₁.setTop (entryFrame m #[.ref a, .ref b, .int (Int32.ofNat o), .int (Int32.ofNat len), .null] 6)) (T8.setTop (mkF m 45 #[.val (.ref a), .val (.ref b), .val (.int (Int32.ofNat o)), .val (.int (Int32.ofNat len)), .val .null, .val (.ref s.heap.size)] [.int (Int32.ofNat len), .ref s.heap.size, .ref a])) := c9.trans (by
      refine XS.astore X8.here hexec rfl (hb hbytes d39) rfl rfl rfl ?_
      refine XS.aloadN X8.here hexec rfl (hb hbytes d41) rfl rfl ?_
      refine XS.aload X8.here hexec rfl (hb hbytes d42) rfl rfl ?_
      refine XS.iloadN X8.here hexec rfl (hb hbytes d44) rfl ?_
      exact Steps.refl _)
    rw [n4]; exact hc
  obtain ⟨v11, T11, X11, E11, g11⟩ := X8.callS hexec (CodL.law l s.heap.size N) hown (wks W (staticW "java/lang/String" 47 CodL.yN)) (wk W CodL.tab) (W := 1) (Nat.le_of_ble_eq_true rfl) (Nat.le_of_ble_eq_true rfl) (Nat.le_refl _) (by show 0 + len + 0 ≤ len; omega) (g := (mkF m 45 #[.val (.ref a), .val (.ref b), .val (.int (Int32.ofNat o)), .val (.int (Int32.ofNat len)), .val .null, .val (.ref s.heap.size)] [.int (Int32.ofNat N.slots.size), .ref s.heap.size, .ref a])) rfl (by rw [hml]; rfl) c10 (argsL := [.ref s.heap.size, .int (Int32.ofNat N.slots.size)]) (rest := [.ref a]) rfl rfl (by show 2 * 0 + (1 + 0) ≤ _; decide) (hb hbytes d45) (⟨rfl, n1⟩)
  obtain ⟨rfl, q11⟩ := E11
  have hB11 := hB1.mv (X8.warmed.alike.symm.trans X11.warmed.alike) q11
  have c12 : Steps p.tables e below (s₁.setTop (entryFrame m #[.ref a, .ref b, .int (Int32.ofNat o), .int (Int32.ofNat len), .null] 6)) (T11.setTop (mkF m 48 #[.val (.ref a), .val (.ref b), .val (.int (Int32.ofNat o)), .val (.int (Int32.ofNat len)), .val .null, .val (.ref s.heap.size)] [.int 0, .ref a])) := g11
  obtain ⟨T13, X13, p13, bl13, sl13, st13⟩ := X11.finit hexec hown (wk W (.fieldLink "java/lang/String" 15 "java/lang/String" "coder" "B")) (Or.inr ⟨_, (wk W (.laysFinal "java/lang/String" "java/lang/String" "coder" "B"))⟩) (Or.inl ⟨rfl, hnm⟩) f2 (Or.inl rfl) hB11 (t := .byte) (by decide +kernel) rfl (g := (mkF m 48 #[.val (.ref a), .val (.ref b), .val (.int (Int32.ofNat o)), .val (.int (Int32.ofNat len)), .val .null, .val (.ref s.heap.size)] [.int 0, .ref a])) rfl (rest := []) rfl (hb hbytes d48)
  have c14 : Steps p.tables e below (s₁.setTop (entryFrame m #[.ref a, .ref b, .int (Int32.ofNat o), .int (Int32.ofNat len), .null] 6)) (T13.setTop (mkF m 54 #[.val (.ref a), .val (.ref b), .val (.int (Int32.ofNat o)), .val (.int (Int32.ofNat len)), .val .null, .val (.ref s.heap.size)] [.ref s.heap.size, .ref a])) := (c12.trans (st13 _ (Steps.refl _))).trans (by
    refine XS.aloadN X13.here hexec rfl (hb hbytes d51) rfl rfl ?_
    refine XS.aload X13.here hexec rfl (hb hbytes d52) rfl rfl ?_
    exact Steps.refl _)
  obtain ⟨T15, X15, p15, bl15, sl15, st15⟩ := X13.finit hexec hown (wk W (.fieldLink "java/lang/String" 9 "java/lang/String" "value" "[B")) (Or.inr ⟨_, (wk W (.laysFinal "java/lang/String" "java/lang/String" "value" "[B"))⟩) (Or.inl ⟨rfl, hnm⟩) f1 (Or.inl rfl) bl13 (t := (.array .byte)) (by decide +kernel) rfl (g := (mkF m 54 #[.val (.ref a), .val (.ref b), .val (.int (Int32.ofNat o)), .val (.int (Int32.ofNat len)), .val .null, .val (.ref s.heap.size)] [.ref s.heap.size, .ref a])) rfl (rest := []) rfl (hb hbytes d54)
  have c16 : Steps p.tables e below (s₁.setTop (entryFrame m #[.ref a, .ref b, .int (Int32.ofNat o), .int (Int32.ofNat len), .null] 6)) (T15.setTop (mkF m 57 #[.val (.ref a), .val (.ref b), .val (.int (Int32.ofNat o)), .val (.int (Int32.ofNat len)), .val .null, .val (.ref s.heap.size)] [])) := c14.trans (st15 _ (Steps.refl _))
  have ap := apart (Or.inr ⟨_, (wk W (.laysFinal "java/lang/String" "java/lang/String" "value" "[B"))⟩) (Or.inr ⟨_, (wk W (.laysFinal "java/lang/String" "java/lang/String" "coder" "B"))⟩) f1 f2 (t₁ := .array .byte) (t₂ := .byte) (by decide +kernel) (by decide +kernel) (by decide)
  have al := X8.warmed.alike.symm.trans X15.warmed.alike
  have n7 : T11.heap[s.heap.size]? = some N := by rw [q11]; exact n1.1
  exact ⟨T15, none, _, _, _, X15, by simp, rfl, by omega, (fun _ => rfl), ⟨rfl, _, N, bl15, ((Same.refl D _).set _ (by simp)).set _ (by simp), sl15, (Cell.slots_setSlot_ne _ ap).trans sl13, n1.keep al (p15.other hne (p13.other hne n7)), n2, by rw [al.findClass]; exact n3, n4, n5, fun y c h1 h2 => p15.other h1 (p13.other h1 (by rw [q11]; exact n6 y c h2)), by rw [p15.2.2, p13.2.2, q11]; exact z8⟩, fun fs hl => c16.trans (X15.returnOut hexec hret (hb hbytes d57) hl)⟩
end New4
namespace New1
def yN : MethodName := ⟨"java/lang/String", "<init>", "([C)V"⟩
abbrev yB : ByteArray := jdk_42_method_3_code
theorem d0 : decode yB 0 = .ok (.aload_n 0, 1) := by decide +kernel
theorem d1 : decode yB 1 = .ok (.aload_n 1, 1) := by decide +kernel
theorem d2 : decode yB 2 = .ok (.iconst 0, 1) := by decide +kernel
theorem d3 : decode yB 3 = .ok (.aload_n 1, 1) := by decide +kernel
theorem d4 : decode yB 4 = .ok (.arraylength, 1) := by decide +kernel
theorem d5 : decode yB 5 = .ok (.aconst_null, 1) := by decide +kernel
theorem d6 : decode yB 6 = .ok (.invokespecial 27, 3) := by decide +kernel
theorem d9 : decode yB 9 = .ok (.return_, 1) := by decide +kernel
def site : List Cond := [New4.tab] ++ initW "java/lang/String" 27 New4.yN
def tab : Cond := tabOf yN yB 2 none site
def P (a : Addr) (D : Cell) (fV fC : Field) (b : Addr) (A : Cell) (z : Int32) (args : Array Value) (s : State) : Prop := args = #[.ref a, .ref b] ∧ Blank "java/lang/String" a D s ∧ Found "java/lang/String" "value" "[B" fV s ∧ Found "java/lang/String" "coder" "B" fC s ∧ Ch b A s ∧ StaticIs s "java/lang/String" "COMPACT_STRINGS" "Z" (.int z) ∧ ¬ z = 0 ∧ 0 < A.slots.size ∧ A.slots.size ≤ 536870912 ∧ ∀ i, i < A.slots.size → ¬ 255 < cv A i
def E (a : Addr) (D : Cell) (fV fC : Field) (A : Cell) (r : Option Value) (s u : State) : Prop := Got a D fV fC A 0 A.slots.size r s u
/-- new String(chars), not empty, no char above 255: a Latin-1 String of their low bytes -/
theorem law (l : Launch) (a : Addr) (D : Cell) (fV fC : Field) (b : Addr) (A : Cell) (z : Int32) : Law l yN 2 1 3 52 yB 2 none site (P a D fV fC b A z) (E a D fV fC A) [⟨a, fC.slot⟩, ⟨a, fV.slot⟩] 1 A.slots.size := by
  refine Law.of_walk (plainFor_of_name (by decide +kernel)) (by decide +kernel) (by decide +kernel) (by decide) (fun _ _ h => by rw [h.1]; rfl) (fun _ U U' hal hh h => ⟨h.1, h.2.1.mv hal hh, h.2.2.1.al hal, h.2.2.2.1.al hal, h.2.2.2.2.1.mv hal hh, h.2.2.2.2.2.1.there hal hh, h.2.2.2.2.2.2⟩) (fun r U U' V V' h1 hal h2 h => Got.mv r U U' V V' h1 hal h2 h) ?_
  intro p e s m args below meth c s₁ X0 hexec hbytes hml hret hlk hnm hown hh0 W hP
  obtain ⟨rfl, hB, f1, f2, hA, s1, hz, l0, l2, hp⟩ := hP
  have c1 : Steps p.tables e below (s₁.setTop (entryFrame m #[.ref a, .ref b] 2)) (s₁.setTop (mkF m 0 #[.val (.ref a), .val (.ref b)] [])) := entry rfl
  have c2 : Steps p.tables e below (s₁.setTop (entryFrame m #[.ref a, .ref b] 2)) (s₁.setTop (mkF m 6 #[.val (.ref a), .val (.ref b)] [.null, .int (Int32.ofNat A.slots.size), .int 0, .ref b, .ref a])) := c1.trans (by
    refine XS.aloadN X0.here hexec rfl (hb hbytes d0) rfl rfl ?_
    refine XS.aloadN X0.here hexec rfl (hb hbytes d1) rfl rfl ?_
    refine iconstV X0.here hexec rfl 0 (hb hbytes d2) (by decide) ?_
    refine XS.aloadN X0.here hexec rfl (hb hbytes d3) rfl rfl ?_
    refine X0.alen hexec (hA.1.mv X0.warmed.alike hh0) rfl rfl (hb hbytes d4) ?_
    refine XS.aconstNull X0.here hexec rfl (hb hbytes d5) ?_
    exact Steps.refl _)
  obtain ⟨v3, T3, X3, E3, g3⟩ := X0.callN hexec (New4.law l a D fV fC b A z 0 A.slots.size) rfl hown (wks W (initW "java/lang/String" 27 New4.yN)) (W New4.tab (by simp only [site, List.mem_cons, List.mem_append, true_or, or_true])) (W := 0) (Nat.le_of_ble_eq_true rfl) (Nat.le_of_ble_eq_true rfl) (Nat.le_refl _) (by show 0 + A.slots.size ≤ A.slots.size; omega) (g := (mkF m 6 #[.val (.ref a), .val (.ref b)] [.null, .int (Int32.ofNat A.slots.size), .int (Int32.ofNat 0), .ref b, .ref a])) rfl (by rw [hml]; rfl) c2 (argsL := [.ref b, .int (Int32.ofNat 0), .int (Int32.ofNat A.slots.size), .null]) (rest := []) rfl rfl (by show 2 * 0 + 0 ≤ _; decide) (hb hbytes d6) (⟨rfl, hB.mv X0.warmed.alike hh0, f1.al X0.warmed.alike, f2.al X0.warmed.alike, hA.mv X0.warmed.alike hh0, s1.there X0.warmed.alike hh0, hz, l0, by omega, l2, fun i hi => by rw [Nat.zero_add]; exact hp i hi⟩)
  have e0 := Got.mv _ s₁ s _ _ hh0.symm (Vm.Alike.refl _) rfl E3
  obtain rfl := e0.1
  have c4 : Steps p.tables e below (s₁.setTop (entryFrame m #[.ref a, .ref b] 2)) (T3.setTop (mkF m 9 #[.val (.ref a), .val (.ref b)] [])) := g3
  exact ⟨T3, none, _, _, _, X3, by simp, rfl, by omega, (fun _ => rfl), e0, fun fs hl => c4.trans (X3.returnOut hexec hret (hb hbytes d9) hl)⟩
theorem pays {l : Launch} {R : Room} {p : Program} {e : Env} {below : List Frame} {s : State} {sargs : Array Value} {len W : Nat} (a : Addr) (D : Cell) (fV fC : Field) (b : Addr) (A : Cell) (z : Int32) (htab : tab.before sargs s = true) (hfr : 4 ≤ R.frames) (hlo : W + 65 ≤ R.locals) :
    Back l R p e below s sargs yN len W (fun A₁ a₁ => A₁.cells + 1 ≤ R.cells ∧ A₁.slots + A.slots.size ≤ R.slots ∧ P a D fV fC b A z a₁ A₁.U) (fun A₁ _ v₁ B₁ => E a D fV fC A v₁ A₁.U B₁.U ∧ B₁.locs = A₁.locs ++ [⟨a, fC.slot⟩, ⟨a, fV.slot⟩] ∧ B₁.cells = A₁.cells + 1 ∧ B₁.slots = A₁.slots + A.slots.size) :=
  (law l a D fV fC b A z).pays htab hfr (by omega)
end New1
/-- the byte, read back as charAt reads it, is the char -/
theorem lo8_mask {x : Int32} (h0 : ¬ x < 0) (h1 : ¬ 255 < x) : lo8 x &&& 255 = x := by
  have t : ∀ k : Fin 256, lo8 (Int32.ofNat k.val) &&& 255 = Int32.ofNat k.val := by decide +kernel
  rw [Int32.lt_iff_toInt_lt] at h0 h1
  have e0 : (0 : Int32).toInt = 0 := rfl
  have e1 : (255 : Int32).toInt = 255 := rfl
  obtain ⟨k, hk⟩ : ∃ k : Nat, x.toInt = k := ⟨x.toInt.toNat, by omega⟩
  have hx : x = Int32.ofNat k := Int32.toInt_inj.mp (by rw [hk, Int32.toInt_ofNat_small (by omega)])
  rw [hx]
  exact t ⟨k, by omega⟩
end StrChars
namespace StrChars.Road
open Jvm Sem ClassFile Op Lib Jvm.Stand Jvm.Free Jvm.Free.XT
open Jvm.Lib.Cold (StaticIs)
abbrev ST : String := "java/lang/String"
/-- every table word that New1's law asks, flat -/
abbrev words : List Jvm.Cond := [.code New1.yN New1.yB 2 none, .initialized ST, .methodLink ST 27 New4.yN, .instanceMethod New4.yN,
  .code New4.yN New4.yB 6 none, .fieldLink ST 38 ST "COMPACT_STRINGS" "Z", .laysFinal ST ST "value" "[B", .fieldLink ST 9 ST "value" "[B", .laysFinal ST ST "coder" "B", .fieldLink ST 15 ST "coder" "B",
  .methodLink ST 1 Lib.objectInit, .instanceMethod Lib.objectInit, .code Lib.objectInit ⟨#[0xb1]⟩ 1 none, .methodLink ST 177 Cmp3.yN, .static Cmp3.yN, .methodLink ST 47 CodL.yN, .static CodL.yN,
  .code Cmp3.yN Cmp3.yB 6 (some (.array .byte)), .initialized U16, .arrayClass .byte, .methodLink U16 115 Cmp5.yN, .static Cmp5.yN, .code Cmp5.yN Cmp5.yB 7 (some .int), .code CodL.yN CodL.yB 2 (some .byte)]
theorem tab_of {a : Array Value} {s : State} (h : ∀ w ∈ words, w.before a s = true) : New1.tab.before a s = true := by
  have h5 : Cmp5.tab.before a s = true := unparts (wk h (.code Cmp5.yN Cmp5.yB 7 (some .int))) (wks h (.initialized Cmp5.yN.cls :: Cmp5.site))
  have hc : CodL.tab.before a s = true := unparts (wk h (.code CodL.yN CodL.yB 2 (some .byte))) (wks h (.initialized CodL.yN.cls :: CodL.site))
  have q5 : ∀ w ∈ Cmp5.tab :: words, w.before a s = true := fun w hw => (List.mem_cons.mp hw).elim (fun e => e ▸ h5) (h w)
  have h3 : Cmp3.tab.before a s = true := unparts (wk q5 (.code Cmp3.yN Cmp3.yB 6 (some (.array .byte)))) (wks q5 (.initialized Cmp3.yN.cls :: Cmp3.site))
  have q3 : ∀ w ∈ Cmp3.tab :: CodL.tab :: words, w.before a s = true := fun w hw => (List.mem_cons.mp hw).elim (fun e => e ▸ h3) fun hw => (List.mem_cons.mp hw).elim (fun e => e ▸ hc) (h w)
  have h4 : New4.tab.before a s = true := unparts (wk q3 (.code New4.yN New4.yB 6 none)) (wks q3 (.initialized New4.yN.cls :: New4.site))
  have q4 : ∀ w ∈ New4.tab :: words, w.before a s = true := fun w hw => (List.mem_cons.mp hw).elim (fun e => e ▸ h4) (h w)
  exact unparts (wk q4 (.code New1.yN New1.yB 2 none)) (wks q4 (.initialized New1.yN.cls :: New1.site))
/-- the words ride from the start Z to the walk's own state -/
theorem moved {Z s : State} {a0 args : Array Value} (hZ : Z.Warmed39 s.vm) (hw : ∀ d ∈ words, d.before a0 Z = true) : ∀ d ∈ words, d.before args s = true := fun d hd => by
  have q := hw d hd
  have t : ∀ d ∈ words, d = .arrayClass .byte ∨ (d.onTables && d.keepsFace) = true := by decide +kernel
  rcases t d hd with rfl | t
  · exact RoadKit.mvA hZ q
  · exact RoadKit.mv hZ q t
/-- WHAT COMES BACK, over the tables of the start Z: h the heap at the call, h' behind it -/
def Q (Z : State) (x : Addr) (A : Cell) (h : Heap) (v : Option Value) (h' : Heap) (L : List Loc) : Prop := v = none ∧ (∀ y ∈ L, y.base = x) ∧ RoadKit.Keep h h' [x] ∧ h'.size = h.size + 1 ∧ RoadKit.Exa Z h' x ST ∧ RoadKit.Fld Z h' x ST "value" "[B" (.ref h.size) ∧ RoadKit.Fld Z h' x ST "coder" "B" (.int 0) ∧
  (∃ V : Cell, RoadKit.Arr Z h' h.size V .byte ∧ V.vm = .none ∧ Z.vm.findClass "[B" = some V.cls ∧ V.slots.size = A.slots.size ∧ ∀ j, j < A.slots.size → V.slots[j]? = some (.int (lo8 (cv A j)))) ∧
  ∀ (O n d : String) (w : Value), RoadKit.Fld Z h x O n d w → RoadKit.slotOf Z O n d ≠ RoadKit.slotOf Z ST "value" "[B" → RoadKit.slotOf Z O n d ≠ RoadKit.slotOf Z ST "coder" "B" → RoadKit.Fld Z h' x O n d w
/-- **new String(chars) AT A CALL, IN THE ROAD'S FORM**: for specialBack behind newO: x the fresh String, b the char[] with the cell A -/
theorem back {p : Program} {l : Launch} {e : Env} {R : Room} {s : State} {args : Array Value} {below : List Frame} {len W : Nat} {Z : State} {a0 : Array Value} {h : Heap} (hZ : Z.Warmed39 s.vm) (hw : ∀ d ∈ words, d.before a0 Z = true) {kI : Nat} (wi : (Jvm.Cond.instantiable ST kI).before a0 Z = true)
    {x b : Addr} {A : Cell} {z : Int32} {v0 c0 : Value} (E : RoadKit.Exa Z h x ST) (V : RoadKit.Fld Z h x ST "value" "[B" v0) (C : RoadKit.Fld Z h x ST "coder" "B" c0) (K : RoadKit.Arr Z h b A .char) (hty : Typed .char A) (S : RoadKit.Sta Z h ST "COMPACT_STRINGS" "Z" (.int z)) (hz : ¬ z = 0)
    (l0 : 0 < A.slots.size) (l2 : A.slots.size ≤ 536870912) (hp : ∀ i, i < A.slots.size → ¬ 255 < cv A i) (hfr : 4 ≤ R.frames) (hlo : W + 65 ≤ R.locals) :
    Back l R p e below s args New1.yN len W (fun P a => a = #[.ref x, .ref b] ∧ P.U.heap = h ∧ P.cells + 1 ≤ R.cells ∧ P.slots + A.slots.size ≤ R.slots)
      (fun P _ v B => ∃ L, Q Z x A h v B.U.heap L ∧ B.locs = P.locs ++ L ∧ B.cells = P.cells + 1 ∧ B.slots = P.slots + A.slots.size) := by
  intro m meth c P g ig mk a X hg hsize hdg hW hn hp'
  obtain ⟨rfl, rfl, r1, r2⟩ := hp'
  have al : Z.vm.Alike P.U.vm := hZ.alike.trans X.warmed.alike
  obtain ⟨D, cfV, kV, iV, fV, hD, gV, stV, knV, obV, asV, slV⟩ := id V
  obtain ⟨D', cfC, kC, iC, fC, hD', gC, stC, -, -, asC, slC⟩ := id C
  cases hD.symm.trans hD'
  obtain ⟨D2, kD, e1, e2, e3, e4, e5⟩ := id E
  cases hD.symm.trans e1
  obtain ⟨c2, k2, i1, i2, i3, -⟩ := Cond.instantiable_spec wi
  cases e2.symm.trans i1
  cases e3.symm.trans i2
  obtain ⟨kU, u1, u2⟩ := al.2.2 _ _ e3
  have hB : Blank ST x D P.U := ⟨hD, ⟨knV, fun q hq => by rw [hq] at obV; cases obV⟩, by rw [al.findClass]; exact e2, kU, u1, by rw [u2]; exact i3, by rw [u2]; exact e5 i3⟩
  have F1 : Found ST "value" "[B" fV P.U := ⟨SBG.found_only al ⟨cfV, kV, iV, gV⟩, stV⟩
  have F2 : Found ST "coder" "B" fC P.U := ⟨SBG.found_only al ⟨cfC, kC, iC, gC⟩, stC⟩
  have hA : Ch b A P.U := ⟨⟨K.1, State.isArrayOf_alike al K.2.1, K.2.2, by omega⟩, hty⟩
  have hS : StaticIs P.U ST "COMPACT_STRINGS" "Z" (.int z) := by
    obtain ⟨cfS, iS, kS, fS, st, cS, t1, t2, t3, t4, t5, t6, t7⟩ := S
    exact StaticIs.there (s := { Z with heap := P.U.heap }) ⟨cfS, iS, kS, fS, st, cS, t1, t2, t3, t4, t5, (fun q => by rw [q] at t6; cases t6), t7⟩ al rfl
  obtain ⟨v, B, X', ⟨⟨hv, E', V', q1, q2, q3, q4, q5, q6, q7, q8, q9, q10, q11⟩, hl, hc, hs⟩, st⟩ := New1.pays x D fV fC b A z (tab_of (moved hZ hw)) hfr hlo m meth c P g ig mk _ X hg hsize hdg hW hn ⟨r1, r2, rfl, hB, F1, F2, hA, hS, hz, l0, l2, hp⟩
  have al' : Z.vm.Alike B.U.vm := hZ.alike.trans X'.warmed.alike
  have hsz : E'.slots.size = D.slots.size := by
    obtain ⟨-, -, -, kB, w1, w2, w3⟩ := q1
    obtain ⟨kB', y1, y2⟩ := al'.2.2 _ _ e3
    rw [q2.2.1] at w1
    cases w1.symm.trans y1
    rw [w3, e5 i3, y2]
  refine ⟨v, B, X', ⟨_, ⟨hv, ?_, ⟨by omega, fun y cy hy hn' => q10 y cy (by simpa using hn') hy, fun y cy hy => ?_⟩, q11, ⟨E', _, q1.1, by rw [q2.2.1]; exact e2, by rw [q2.2.1]; exact e3, by rw [q2.1]; exact obV, fun _ => by rw [hsz]; exact e5 i3⟩,
    ⟨E', cfV, kV, iV, fV, q1.1, gV, stV, by rw [q2.1]; exact knV, by rw [q2.1]; exact obV, by rw [q2.2.1]; exact asV, q3⟩, ⟨E', cfC, kC, iC, fC, q1.1, gC, stC, by rw [q2.1]; exact knV, by rw [q2.1]; exact obV, by rw [q2.2.1]; exact asC, q4⟩,
    ⟨V', ⟨q5.1, State.isArrayOf_alike al'.symm q5.2.1, q5.2.2.1⟩, q6, by rw [← al'.findClass]; exact q7, q8, fun j hj => by have := q9 j hj; rwa [Nat.zero_add] at this⟩, fun O n d w F n1 n2 => ?_⟩, hl, hc, hs⟩, st⟩
  · intro y hy
    simp only [List.mem_cons, List.not_mem_nil, or_false] at hy
    rcases hy with rfl | rfl <;> rfl
  · by_cases q : y = x
    · subst q
      cases hD.symm.trans hy
      exact ⟨E', q1.1, q2.2.1, q2.1, hsz⟩
    · exact ⟨cy, q10 y cy q hy, rfl, rfl, rfl⟩
  · obtain ⟨D3, cf, k, i, f, g1, g2, g3, g4, g5, g6, g7⟩ := F
    cases hD.symm.trans g1
    simp only [RoadKit.slotOf, g2, gV, gC, Option.map_some, Option.getD_some] at n1 n2
    exact ⟨E', cf, k, i, f, q1.1, g2, g3, by rw [q2.1]; exact g4, by rw [q2.1]; exact g5, by rw [q2.2.1]; exact g6, by rw [q2.2.2 f.slot (by simp [n1, n2])]; exact g7⟩
end StrChars.Road
namespace StrChars.Road
open Jvm Sem ClassFile Op Lib Jvm.Stand Jvm.Free Jvm.Free.XT
/-- WHAT COMES BACK, the byte[] as a list of values -/
def QA (Z : State) (x : Addr) (zn : Int32) (cs : List Int32) (h : Heap) (v : Option Value) (h' : Heap) (L : List Loc) : Prop := v = none ∧ (∀ y ∈ L, y.base = x) ∧ RoadKit.Keep h h' [x] ∧ h'.size = h.size + 1 ∧ RoadKit.Exa Z h' x ST ∧ RoadKit.Fld Z h' x ST "value" "[B" (.ref h.size) ∧ RoadKit.Fld Z h' x ST "coder" "B" (.int 0) ∧
  (∃ kb, Z.vm.findClass "[B" = some kb ∧ RoadKit.Arv Z h' h.size kb .byte zn (cs.map fun c => .int (lo8 c)) (.int 0)) ∧
  ∀ (O n d : String) (w : Value), RoadKit.Fld Z h x O n d w → RoadKit.slotOf Z O n d ≠ RoadKit.slotOf Z ST "value" "[B" → RoadKit.slotOf Z O n d ≠ RoadKit.slotOf Z ST "coder" "B" → RoadKit.Fld Z h' x O n d w
/-- **new String(chars) AT A CALL, THE ARRAYS AS LISTS**: the char[] at b holds cs, not empty, no char above 255 -/
theorem backArv {p : Program} {l : Launch} {e : Env} {R : Room} {s : State} {args : Array Value} {below : List Frame} {len W : Nat} {Z : State} {a0 : Array Value} {h : Heap} (hZ : Z.Warmed39 s.vm) (hw : ∀ d ∈ words, d.before a0 Z = true) {kI : Nat} (wi : (Jvm.Cond.instantiable ST kI).before a0 Z = true)
    {x b : Addr} {k : ClassId} {zn z : Int32} {cs : List Int32} {dv v0 c0 : Value} (E : RoadKit.Exa Z h x ST) (V : RoadKit.Fld Z h x ST "value" "[B" v0) (C : RoadKit.Fld Z h x ST "coder" "B" c0) (K : RoadKit.Arv Z h b k .char zn (cs.map Value.int) dv) (S : RoadKit.Sta Z h ST "COMPACT_STRINGS" "Z" (.int z)) (hz : ¬ z = 0)
    (hlen : zn.toNatClampNeg = cs.length) (h0 : 0 < cs.length) (hbig : cs.length ≤ 536870912) (hall : ∀ c ∈ cs, ¬ 255 < c) (hfr : 4 ≤ R.frames) (hlo : W + 65 ≤ R.locals) :
    Back l R p e below s args New1.yN len W (fun P a => a = #[.ref x, .ref b] ∧ P.U.heap = h ∧ P.cells + 1 ≤ R.cells ∧ P.slots + cs.length ≤ R.slots)
      (fun P _ v B => ∃ L, QA Z x zn cs h v B.U.heap L ∧ B.locs = P.locs ++ L ∧ B.cells = P.cells + 1 ∧ B.slots = P.slots + cs.length) := by
  obtain ⟨A, K1, K2, K3, K4, K5, K6⟩ := K
  have e : A.slots.size = cs.length := K3.trans hlen
  have hat : ∀ (i : Nat) (hi : i < cs.length), A.slots[i]? = some (.int cs[i]) := fun i hi => by rw [K5 i (by omega)]; simp [List.getD_eq_getElem?_getD, hi]
  have hcv : ∀ (i : Nat) (hi : i < cs.length), cv A i = cs[i] := fun i hi => by unfold cv; rw [hat i hi]
  have hty : Typed .char A := fun i v hv => by
    have hi : i < A.slots.size := (Array.getElem?_eq_some_iff.mp hv).1
    have q := K5 i hi
    rw [hv] at q
    rw [Option.some.inj q]
    exact K6 i hi
  refine Back.mono (back hZ hw wi E V C K1 hty S hz (by omega) (by omega) (fun i hi => by rw [hcv i (by omega)]; exact hall _ (List.getElem_mem _)) hfr hlo) (fun P a hp => ⟨hp.1, hp.2.1, hp.2.2.1, by rw [e]; exact hp.2.2.2⟩) (fun P a v B hp hq => ?_)
  obtain ⟨L, ⟨q1, q2, q3, q4, q5, q6, q7, ⟨V', v1, v2, v3, v4, v5⟩, q9⟩, hl, hc, hs⟩ := hq
  refine ⟨L, ⟨q1, q2, q3, q4, q5, q6, q7, ⟨V'.cls, v3, V', v1, rfl, by rw [v4, e, hlen], K4, fun i hi => ?_, fun i hi => ?_⟩, q9⟩, hl, hc, by rw [hs, e]⟩
  · have hi' : i < cs.length := by omega
    rw [v5 i (by omega), hcv i hi']; simp [List.getD_eq_getElem?_getD, hi']
  · have hi' : i < cs.length := by omega
    simp only [List.getD_eq_getElem?_getD, List.getElem?_map, List.getElem?_eq_getElem hi', Option.map_some, Option.getD_some]
    exact fits_lo8 _
end StrChars.Road
namespace StrChars.Road
open Jvm Sem ClassFile Op Lib Jvm.Stand Jvm.Free Jvm.Free.XT
/-- WHAT COMES BACK, in the writer's own shape -/
def QV (Z : State) (x : Addr) (N : Int32) (bs : List Int32) (h : Heap) (n0 : Nat) (v : Option Value) (h' : Heap) (L : List Loc) : Prop := v = none ∧ RoadKit.Fr n0 L ∧ RoadKit.Keep h h' [x] ∧ RoadKit.Exa Z h' x ST ∧ RoadKit.Fld Z h' x ST "coder" "B" (.int 0) ∧
  ∃ (t : Addr) (kb : ClassId), n0 ≤ t ∧ h.size ≤ t ∧ ¬ t = x ∧ RoadKit.Fld Z h' x ST "value" "[B" (.ref t) ∧ RoadKit.Arv Z h' t kb .byte N (bs.map Value.int) (.int 0)
/-- **new String(chars) AT A CALL, FOR THE WRITER**: a char[] of n known ints, each 0 to 255 -/
theorem backV {p : Program} {l : Launch} {e : Env} {R : Room} {s : State} {args : Array Value} {below : List Frame} {len W : Nat} {Z : State} {a0 : Array Value} {h : Heap} (hZ : Z.Warmed39 s.vm) (hw : ∀ d ∈ words, d.before a0 Z = true) {kI : Nat} (wi : (Jvm.Cond.instantiable ST kI).before a0 Z = true)
    {x b : Addr} {kC : ClassId} {cs bs : List Int32} {d v0 c0 : Value} {z N : Int32} {n n0 : Nat} (hx0 : n0 ≤ x) (hh0 : n0 ≤ h.size) (E : RoadKit.Exa Z h x ST) (V : RoadKit.Fld Z h x ST "value" "[B" v0) (C : RoadKit.Fld Z h x ST "coder" "B" c0) (K : RoadKit.Arv Z h b kC .char N (cs.map Value.int) d) (S : RoadKit.Sta Z h ST "COMPACT_STRINGS" "Z" (.int z)) (hz : ¬ z = 0)
    (hn : cs.length = n) (hN : N = Int32.ofNat n) (l0 : 0 < n) (l2 : n ≤ 4000) (hp : ∀ c ∈ cs, ¬ c < 0 ∧ ¬ (255 : Int32) < c) (hb : bs = cs.map (fun c => c.toInt8.toInt32)) (hfr : 4 ≤ R.frames) (hlo : W + 65 ≤ R.locals) :
    Back l R p e below s args (⟨"java/lang/String", "<init>", "([C)V"⟩ : MethodName) len W (fun P a => a = #[.ref x, .ref b] ∧ P.U.heap = h ∧ P.cells + 1 ≤ R.cells ∧ P.slots + n ≤ R.slots)
      (fun P _ v B => ∃ L, QV Z x N bs h n0 v B.U.heap L ∧ B.locs = P.locs ++ L ∧ B.cells = P.cells + 1 ∧ B.slots = P.slots + n) := by
  subst hn hN hb
  refine Back.mono (backArv hZ hw wi E V C K S hz (n32 (by omega)) l0 (by omega) (fun c hc => (hp c hc).2) hfr hlo) (fun P a hp => hp) (fun P a v B hp hq => ?_)
  obtain ⟨L, ⟨q1, q2, q3, q4, q5, q6, q7, ⟨kb, v1, v2⟩, q9⟩, hl, hc, hs⟩ := hq
  exact ⟨L, ⟨q1, fun y hy => by rw [q2 y hy]; exact hx0, q3, q5, q7, h.size, kb, hh0, Nat.le_refl _, Nat.ne_of_gt E.lt, q6, by rw [List.map_map]; exact v2⟩, hl, hc, hs⟩
end StrChars.Road
namespace StrChars
open Jvm Sem ClassFile Op Lib Jvm.Stand Jvm.Free.XT Jvm.Free.ALB Jvm.Free.JM Jvm.Free
open Jvm.Lib.Cold (StaticIs)
def hi8 (x : Int32) : Int32 := lo8 (x >>> ((8 : Int32) &&& 31))
/-- what StringUTF16.getChar makes of two bytes -/
def pairCh (u v : Int32) : Int32 := (((u &&& 255) <<< ((0 : Int32) &&& 31)) ||| ((v &&& 255) <<< ((8 : Int32) &&& 31))).toUInt32.toUInt16.toUInt32.toInt32
theorem shr0 (c : Int32) : c >>> ((0 : Int32) &&& 31) = c := by
  have e : ((0 : Int32) &&& 31) = 0 := by decide
  rw [e]
  apply Int32.toBitVec_inj.mp
  rw [Int32.toBitVec_shiftRight]
  have e1 : ((0 : Int32).toBitVec.smod 32) = 0#32 := by decide
  rw [e1, BitVec.sshiftRight_eq']
  exact BitVec.sshiftRight_zero
theorem lo8_and (x : Int32) : (lo8 x &&& 255).toBitVec.toNat = x.toBitVec.toNat % 256 := by
  have h : (lo8 x).toBitVec = (x.toBitVec.signExtend 8).signExtend 32 := by rw [lo8, Int8.toBitVec_toInt32, Int32.toBitVec_toInt8]
  rw [Int32.toBitVec_and, BitVec.toNat_and, h]
  have e : ((x.toBitVec.signExtend 8).signExtend 32).toNat % 256 = x.toBitVec.toNat % 256 := by
    rw [BitVec.toNat_signExtend]
    have hlt := x.toBitVec.isLt
    simp only [BitVec.toNat_setWidth, BitVec.toNat_signExtend]
    split <;> split <;> omega
  rw [← e]
  exact Nat.and_two_pow_sub_one_eq_mod _ 8
theorem pair_says {c : Int32} (h0 : ¬ c < 0) (h1 : ¬ 65535 < c) : pairCh (lo8 c) (hi8 c) = c := by
  rw [Int32.lt_iff_toInt_lt] at h0 h1
  have e0 : (0 : Int32).toInt = 0 := rfl
  have e1 : (65535 : Int32).toInt = 65535 := rfl
  have hc : c.toInt = c.toBitVec.toNat := by
    have := c.toBitVec.isLt
    have e : c.toInt = c.toBitVec.toInt := rfl
    rw [e] at h0 h1
    rw [e]
    rw [BitVec.toInt_eq_toNat_cond] at h0 h1 ⊢
    split at h0 <;> split <;> omega
  have hn : c.toBitVec.toNat < 65536 := by omega
  have a1 := lo8_and c
  have a2 : (hi8 c &&& 255).toBitVec.toNat = c.toBitVec.toNat / 256 := by
    rw [hi8, lo8_and]
    have e : ((8 : Int32) &&& 31) = 8 := by decide
    rw [e, Int32.toBitVec_shiftRight]
    have e2 : ((8 : Int32).toBitVec.smod 32) = 8#32 := by decide
    rw [e2, BitVec.sshiftRight_eq', BitVec.toNat_sshiftRight_of_msb_false (by rw [BitVec.msb_eq_false_iff_two_mul_lt]; omega)]
    show c.toBitVec.toNat >>> 8 % 256 = _
    rw [Nat.shiftRight_eq_div_pow]
    omega
  unfold pairCh
  apply Int32.toBitVec_inj.mp
  apply BitVec.eq_of_toNat_eq
  have f0 : ((0 : Int32) &&& 31) = 0 := by decide
  have f8 : ((8 : Int32) &&& 31) = 8 := by decide
  rw [f0, f8]
  have g : (((lo8 c &&& 255) <<< (0 : Int32)) ||| ((hi8 c &&& 255) <<< (8 : Int32))).toBitVec.toNat = c.toBitVec.toNat := by
    rw [Int32.toBitVec_or, Int32.toBitVec_shiftLeft, Int32.toBitVec_shiftLeft]
    have s0 : ((0 : Int32).toBitVec.smod 32) = 0#32 := by decide
    have s8 : ((8 : Int32).toBitVec.smod 32) = 8#32 := by decide
    rw [s0, s8, BitVec.toNat_or]
    simp only [BitVec.shiftLeft_eq', BitVec.toNat_shiftLeft, a1, a2]
    show (c.toBitVec.toNat % 256) <<< 0 % 2 ^ 32 ||| (c.toBitVec.toNat / 256) <<< 8 % 2 ^ 32 = _
    rw [Nat.shiftLeft_zero, Nat.mod_eq_of_lt (show c.toBitVec.toNat % 256 < 2 ^ 32 by omega), Nat.mod_eq_of_lt (show (c.toBitVec.toNat / 256) <<< 8 < 2 ^ 32 by rw [Nat.shiftLeft_eq]; omega), Nat.or_comm, ← Nat.shiftLeft_add_eq_or_of_lt (by omega), Nat.shiftLeft_eq]
    omega
  show BitVec.toNat (((((lo8 c &&& 255) <<< (0 : Int32)) ||| ((hi8 c &&& 255) <<< (8 : Int32))).toBitVec.setWidth 16).setWidth 32) = _
  rw [BitVec.toNat_setWidth, BitVec.toNat_setWidth, g]
  omega
end StrChars
namespace StrChars
open Jvm Sem ClassFile Op Lib Jvm.Stand Jvm.Free.XT Jvm.Free.ALB Jvm.Free.JM Jvm.Free
open Jvm.Lib.Cold (StaticIs)
theorem shr1 {n : Nat} (h : 2 * n < 2 ^ 31) : Int32.ofNat (2 * n) >>> ((1 : Int32) &&& 31) = Int32.ofNat n := by
  have e : ((1 : Int32) &&& 31) = 1 := by decide
  rw [e]
  apply Int32.toBitVec_inj.mp
  rw [Int32.toBitVec_shiftRight]
  have e1 : ((1 : Int32).toBitVec.smod 32) = 1#32 := by decide
  have hm : (BitVec.ofNat 32 (2 * n)).toNat = 2 * n := by rw [BitVec.toNat_ofNat, Nat.mod_eq_of_lt (by omega)]
  rw [e1, BitVec.sshiftRight_eq']
  apply BitVec.eq_of_toNat_eq
  show ((BitVec.ofNat 32 (2 * n)).sshiftRight 1).toNat = (BitVec.ofNat 32 n).toNat
  rw [BitVec.toNat_sshiftRight_of_msb_false (by rw [BitVec.msb_eq_false_iff_two_mul_lt, hm]; omega), hm, BitVec.toNat_ofNat, Nat.shiftRight_eq_div_pow]
  omega
/-- charAt's cast of a byte read back -/
def chr8 (u : Int32) : Int32 := (u &&& 255).toUInt32.toUInt16.toUInt32.toInt32
theorem chr8_lo8 {c : Int32} (h0 : ¬ c < 0) (h1 : ¬ 255 < c) : chr8 (lo8 c) = c := by
  have t : ∀ k : Fin 256, (Int32.ofNat k.val).toUInt32.toUInt16.toUInt32.toInt32 = Int32.ofNat k.val := by decide +kernel
  unfold chr8
  rw [lo8_mask h0 h1]
  rw [Int32.lt_iff_toInt_lt] at h0 h1
  have e0 : (0 : Int32).toInt = 0 := rfl
  have e1 : (255 : Int32).toInt = 255 := rfl
  obtain ⟨k, hk⟩ : ∃ k : Nat, c.toInt = k := ⟨c.toInt.toNat, by omega⟩
  have hx : c = Int32.ofNat k := Int32.toInt_inj.mp (by rw [hk, Int32.toInt_ofNat_small (by omega)])
  rw [hx]
  exact t ⟨k, by omega⟩
theorem narrow_ch {c : Int32} (h0 : ¬ c < 0) (h1 : ¬ 65535 < c) : narrow .char (.int c) = .int c := by
  have q : narrow .char (.int (pairCh (lo8 c) (hi8 c))) = .int (pairCh (lo8 c) (hi8 c)) := narrow_c _
  rwa [pair_says h0 h1] at q
/-- the array's cell V codes the n chars f 0 .. f (n - 1) by the coder cd, as the JDK does: coder 1 just where some char is above 255 -/
def Cod (cd : Int32) (n : Nat) (f : Nat → Int32) (V : Cell) : Prop := (cd = 0 ∧ V.slots.size = n ∧ ∀ j, j < n → V.slots[j]? = some (.int (lo8 (f j))) ∧ ¬ 255 < f j) ∨ (cd = 1 ∧ V.slots.size = 2 * n ∧ (∀ j, j < n → V.slots[2 * j]? = some (.int (lo8 (f j))) ∧ V.slots[2 * j + 1]? = some (.int (hi8 (f j)))) ∧ ∃ j, j < n ∧ 255 < f j)
theorem Cod.cd {cd : Int32} {n : Nat} {f : Nat → Int32} {V : Cell} (h : Cod cd n f V) : cd = 0 ∨ cd = 1 := h.imp (fun q => q.1) fun q => q.1
theorem Cod.len {cd : Int32} {n : Nat} {f : Nat → Int32} {V : Cell} (h : Cod cd n f V) (hs : V.slots.size < 2 ^ 31) : Int32.ofNat V.slots.size >>> (cd &&& 31) = Int32.ofNat n := by
  rcases h with ⟨rfl, h, -⟩ | ⟨rfl, h, -⟩
  · rw [shr0, h]
  · rw [h, shr1 (by omega)]
/-- **x is a String of the n chars f 0 .. f (n - 1)**, Latin-1 or UTF-16; its array at t has the cell V -/
def Txt (x t : Addr) (V : Cell) (cd : Int32) (n : Nat) (f : Nat → Int32) (U : State) : Prop := Exact "java/lang/String" x U ∧ Has x "java/lang/String" "value" "[B" (.ref t) U ∧ Has x "java/lang/String" "coder" "B" (.int cd) U ∧ XT.Arr .byte t V U ∧ Cod cd n f V ∧ ∀ j, j < n → ¬ f j < 0 ∧ ¬ 65535 < f j
theorem Txt.mv {x t : Addr} {V : Cell} {cd : Int32} {n : Nat} {f : Nat → Int32} {U U' : State} (h : Txt x t V cd n f U) (hal : U.vm.Alike U'.vm) (hh : U'.heap = U.heap) : Txt x t V cd n f U' := ⟨h.1.mv hal hh, h.2.1.mv hal hh, h.2.2.1.mv hal hh, h.2.2.2.1.mv hal hh, h.2.2.2.2⟩
namespace Cdr
def yN : MethodName := ⟨"java/lang/String", "coder", "()B"⟩
abbrev yB : ByteArray := jdk_42_method_152_code
theorem d0 : decode yB 0 = .ok (.getstatic 38, 3) := by decide +kernel
theorem d3 : decode yB 3 = .ok (.ifCond (.eq) 10, 3) := by decide +kernel
theorem d6 : decode yB 6 = .ok (.aload_n 0, 1) := by decide +kernel
theorem d7 : decode yB 7 = .ok (.getfield 15, 3) := by decide +kernel
theorem d10 : decode yB 10 = .ok (.goto 4, 3) := by decide +kernel
theorem d14 : decode yB 14 = .ok (.ireturn, 1) := by decide +kernel
def site : List Cond := [.fieldLink "java/lang/String" 38 "java/lang/String" "COMPACT_STRINGS" "Z", .fieldLink "java/lang/String" 15 "java/lang/String" "coder" "B"]
def tab : Cond := tabOf yN yB 1 (some .byte) site
def P (x : Addr) (cd z : Int32) (args : Array Value) (s : State) : Prop := args = #[.ref x] ∧ Has x "java/lang/String" "coder" "B" (.int cd) s ∧ (cd = 0 ∨ cd = 1) ∧ StaticIs s "java/lang/String" "COMPACT_STRINGS" "Z" (.int z) ∧ ¬ z = 0
def E (cd : Int32) (r : Option Value) (s u : State) : Prop := XT.PureE (some (.int cd)) r s u
theorem law (l : Launch) (x : Addr) (cd z : Int32) : Law l yN 1 0 0 0 yB 1 (some .byte) site (P x cd z) (E cd) [] 0 0 := by
  refine Law.of_walk (plainFor_of_name (by decide +kernel)) (by decide +kernel) (by decide +kernel) (by decide) (fun _ _ h => by rw [h.1]; rfl) (fun _ U U' hal hh h => ⟨h.1, h.2.1.mv hal hh, h.2.2.1, h.2.2.2.1.there hal hh, h.2.2.2.2⟩) (fun r U U' V V' h1 hal h2 h => XT.PureE.mv r U U' V V' h1 hal h2 h) ?_
  intro p e s m args below meth c s₁ X0 hexec hbytes hml hret hlk hnm hown hh0 W hP
  obtain ⟨rfl, hx, hc, s1, hz⟩ := hP
  have c1 : Steps p.tables e below (s₁.setTop (entryFrame m #[.ref x] 1)) (s₁.setTop (mkF m 0 #[.val (.ref x)] [])) := entry rfl
  obtain ⟨T2, X2, q2, st2⟩ := X0.sget hexec hown (wk W (.fieldLink "java/lang/String" 38 "java/lang/String" "COMPACT_STRINGS" "Z")) s1 (fun _ _ h => by rw [hh0]; exact h) (g := (mkF m 0 #[.val (.ref x)] [])) rfl (hb hbytes d0)
  have hh2 := q2.trans hh0
  have c3 : Steps p.tables e below (s₁.setTop (entryFrame m #[.ref x] 1)) (T2.setTop (mkF m 7 #[.val (.ref x)] [.ref x])) := (c1.trans (st2 _ (Steps.refl _))).trans (by
    refine XS.ifNo X2.here hexec rfl (hb hbytes d3) rfl (i0_eq_f hz) ?_
    refine XS.aloadN X2.here hexec rfl (hb hbytes d6) rfl rfl ?_
    exact Steps.refl _)
  obtain ⟨T4, X4, q4, st4⟩ := X2.hget hexec hown (wk W (.fieldLink "java/lang/String" 15 "java/lang/String" "coder" "B")) (hx.mv X2.warmed.alike hh2) (g := (mkF m 7 #[.val (.ref x)] [.ref x])) rfl (rest := []) rfl (hb hbytes d7)
  have c5 : Steps p.tables e below (s₁.setTop (entryFrame m #[.ref x] 1)) (T4.setTop (mkF m 14 #[.val (.ref x)] [.int cd])) := (c3.trans (st4 _ (Steps.refl _))).trans (by
    refine XS.goto X4.here hexec rfl (pc0 := 10) rfl (hb hbytes d10) (by decide) rfl ?_
    exact Steps.refl _)
  exact ⟨T4, some (.int cd), _, _, _, X4, rfl, rfl, rfl, (fun h => by cases h), ⟨rfl, q4.trans hh2⟩, fun fs hl => c5.trans (X4.ireturnOut hexec hret (by rcases hc with rfl | rfl <;> rfl) (Or.inr (Or.inr (Or.inl rfl))) (hb hbytes d14) hl)⟩
end Cdr
namespace Len
def yN : MethodName := ⟨"java/lang/String", "length", "()I"⟩
abbrev yB : ByteArray := jdk_42_method_54_code
theorem d0 : decode yB 0 = .ok (.aload_n 0, 1) := by decide +kernel
theorem d1 : decode yB 1 = .ok (.getfield 9, 3) := by decide +kernel
theorem d4 : decode yB 4 = .ok (.arraylength, 1) := by decide +kernel
theorem d5 : decode yB 5 = .ok (.aload_n 0, 1) := by decide +kernel
theorem d6 : decode yB 6 = .ok (.invokevirtual 335, 3) := by decide +kernel
theorem d9 : decode yB 9 = .ok (.ishr, 1) := by decide +kernel
theorem d10 : decode yB 10 = .ok (.ireturn, 1) := by decide +kernel
def site : List Cond := [.fieldLink "java/lang/String" 9 "java/lang/String" "value" "[B", Cdr.tab] ++ virtW "java/lang/String" 335 "java/lang/String" Cdr.yN Cdr.yN
def tab : Cond := tabOf yN yB 1 (some .int) site
def P (x t : Addr) (V : Cell) (cd : Int32) (n : Nat) (f : Nat → Int32) (z : Int32) (args : Array Value) (s : State) : Prop := args = #[.ref x] ∧ Txt x t V cd n f s ∧ StaticIs s "java/lang/String" "COMPACT_STRINGS" "Z" (.int z) ∧ ¬ z = 0
def E (n : Nat) (r : Option Value) (s u : State) : Prop := XT.PureE (some (.int (Int32.ofNat n))) r s u
/-- length() of a String of n chars, in either coding -/
theorem law (l : Launch) (x t : Addr) (V : Cell) (cd : Int32) (n : Nat) (f : Nat → Int32) (z : Int32) : Law l yN 1 0 1 13 yB 1 (some .int) site (P x t V cd n f z) (E n) [] 0 0 := by
  refine Law.of_walk (plainFor_of_name (by decide +kernel)) (by decide +kernel) (by decide +kernel) (by decide) (fun _ _ h => by rw [h.1]; rfl) (fun _ U U' hal hh h => ⟨h.1, h.2.1.mv hal hh, h.2.2.1.there hal hh, h.2.2.2⟩) (fun r U U' V V' h1 hal h2 h => XT.PureE.mv r U U' V V' h1 hal h2 h) ?_
  intro p e s m args below meth c s₁ X0 hexec hbytes hml hret hlk hnm hown hh0 W hP
  obtain ⟨rfl, hx, s1, hz⟩ := hP
  have v31 := hx.2.2.2.1.2.2.2
  have c1 : Steps p.tables e below (s₁.setTop (entryFrame m #[.ref x] 1)) (s₁.setTop (mkF m 1 #[.val (.ref x)] [.ref x])) := Steps.trans (entry rfl) (by
    show Steps p.tables e below (s₁.setTop (mkF m 0 #[.val (.ref x)] [])) _
    refine XS.aloadN X0.here hexec rfl (hb hbytes d0) rfl rfl ?_
    exact Steps.refl _)
  obtain ⟨T2, X2, q2, st2⟩ := X0.hget hexec hown (wk W (.fieldLink "java/lang/String" 9 "java/lang/String" "value" "[B")) (hx.mv X0.warmed.alike hh0).2.1 (g := (mkF m 1 #[.val (.ref x)] [.ref x])) rfl (rest := []) rfl (hb hbytes d1)
  have hh2 := q2.trans hh0
  have hx2 := hx.mv X2.warmed.alike hh2
  have c3 : Steps p.tables e below (s₁.setTop (entryFrame m #[.ref x] 1)) (T2.setTop (mkF m 6 #[.val (.ref x)] [.ref x, .int (Int32.ofNat V.slots.size)])) := (c1.trans (st2 _ (Steps.refl _))).trans (by
    refine X2.alen hexec hx2.2.2.2.1 rfl rfl (hb hbytes d4) ?_
    refine XS.aloadN X2.here hexec rfl (hb hbytes d5) rfl rfl ?_
    exact Steps.refl _)
  obtain ⟨v4, T4, X4, E4, g4⟩ := X2.callV hexec (Cdr.law l x cd z) hown (wks W (virtW "java/lang/String" 335 "java/lang/String" Cdr.yN Cdr.yN)) rfl (by decide) (wk W Cdr.tab) (W := 1) (Nat.le_of_ble_eq_true rfl) (Nat.le_of_ble_eq_true rfl) (Nat.le_refl _) (Nat.le_refl _) (hx2.1.fc X2.warmed.alike) hx2.1.is (g := (mkF m 6 #[.val (.ref x)] [.ref x, .int (Int32.ofNat V.slots.size)])) rfl (by rw [hml]; rfl) c3 (argsL := []) (rest := [.int (Int32.ofNat V.slots.size)]) rfl rfl (by show 2 * 0 + (1 + 0) ≤ _; decide) (hb hbytes d6) (⟨rfl, hx2.2.2.1, hx.2.2.2.2.1.cd, s1.there X2.warmed.alike hh2, hz⟩)
  obtain ⟨rfl, q4⟩ := E4
  have c5 : Steps p.tables e below (s₁.setTop (entryFrame m #[.ref x] 1)) (T4.setTop (mkF m 10 #[.val (.ref x)] [.int (Int32.ofNat V.slots.size >>> (cd &&& 31))])) := Steps.trans g4 (by
    refine ishr X4.here hexec rfl (hb hbytes d9) rfl ?_
    exact Steps.refl _)
  rw [hx.2.2.2.2.1.len v31] at c5
  exact ⟨T4, some (.int (Int32.ofNat n)), _, _, _, X4, rfl, rfl, rfl, (fun h => by cases h), ⟨rfl, q4.trans hh2⟩, fun fs hl => c5.trans (X4.ireturnOut hexec hret rfl (Or.inl rfl) (hb hbytes d10) hl)⟩
theorem pays {l : Launch} {R : Room} {p : Program} {e : Env} {below : List Frame} {s : State} {sargs : Array Value} {len W : Nat} (x t : Addr) (V : Cell) (cd : Int32) (n : Nat) (f : Nat → Int32) (z : Int32) (htab : tab.before sargs s = true) (hfr : 2 ≤ R.frames) (hlo : W + 25 ≤ R.locals) :
    Back l R p e below s sargs yN len W (fun A₁ a₁ => A₁.cells + 0 ≤ R.cells ∧ A₁.slots + 0 ≤ R.slots ∧ P x t V cd n f z a₁ A₁.U) (fun A₁ _ v₁ B₁ => E n v₁ A₁.U B₁.U ∧ B₁.locs = A₁.locs ++ [] ∧ B₁.cells = A₁.cells + 0 ∧ B₁.slots = A₁.slots + 0) :=
  (law l x t V cd n f z).pays htab hfr (by omega)
end Len
namespace IsL
def yN : MethodName := ⟨"java/lang/String", "isLatin1", "()Z"⟩
abbrev yB : ByteArray := jdk_42_method_154_code
theorem d0 : decode yB 0 = .ok (.getstatic 38, 3) := by decide +kernel
theorem d3 : decode yB 3 = .ok (.ifCond (.eq) 14, 3) := by decide +kernel
theorem d6 : decode yB 6 = .ok (.aload_n 0, 1) := by decide +kernel
theorem d7 : decode yB 7 = .ok (.getfield 15, 3) := by decide +kernel
theorem d10 : decode yB 10 = .ok (.ifCond (.ne) 7, 3) := by decide +kernel
theorem d13 : decode yB 13 = .ok (.iconst 1, 1) := by decide +kernel
theorem d14 : decode yB 14 = .ok (.goto 4, 3) := by decide +kernel
theorem d17 : decode yB 17 = .ok (.iconst 0, 1) := by decide +kernel
theorem d18 : decode yB 18 = .ok (.ireturn, 1) := by decide +kernel
def site : List Cond := [.fieldLink "java/lang/String" 38 "java/lang/String" "COMPACT_STRINGS" "Z", .fieldLink "java/lang/String" 15 "java/lang/String" "coder" "B"]
def tab : Cond := tabOf yN yB 1 (some .boolean) site
def P (x : Addr) (cd z : Int32) (args : Array Value) (s : State) : Prop := args = #[.ref x] ∧ Has x "java/lang/String" "coder" "B" (.int cd) s ∧ (cd = 0 ∨ cd = 1) ∧ StaticIs s "java/lang/String" "COMPACT_STRINGS" "Z" (.int z) ∧ ¬ z = 0
def E (cd : Int32) (r : Option Value) (s u : State) : Prop := XT.PureE (some (.int (1 - cd))) r s u
theorem law (l : Launch) (x : Addr) (cd z : Int32) : Law l yN 1 0 0 0 yB 1 (some .boolean) site (P x cd z) (E cd) [] 0 0 := by
  refine Law.of_walk (plainFor_of_name (by decide +kernel)) (by decide +kernel) (by decide +kernel) (by decide) (fun _ _ h => by rw [h.1]; rfl) (fun _ U U' hal hh h => ⟨h.1, h.2.1.mv hal hh, h.2.2.1, h.2.2.2.1.there hal hh, h.2.2.2.2⟩) (fun r U U' V V' h1 hal h2 h => XT.PureE.mv r U U' V V' h1 hal h2 h) ?_
  intro p e s m args below meth c s₁ X0 hexec hbytes hml hret hlk hnm hown hh0 W hP
  obtain ⟨rfl, hx, hc, s1, hz⟩ := hP
  have c1 : Steps p.tables e below (s₁.setTop (entryFrame m #[.ref x] 1)) (s₁.setTop (mkF m 0 #[.val (.ref x)] [])) := entry rfl
  obtain ⟨T2, X2, q2, st2⟩ := X0.sget hexec hown (wk W (.fieldLink "java/lang/String" 38 "java/lang/String" "COMPACT_STRINGS" "Z")) s1 (fun _ _ h => by rw [hh0]; exact h) (g := (mkF m 0 #[.val (.ref x)] [])) rfl (hb hbytes d0)
  have hh2 := q2.trans hh0
  have c3 : Steps p.tables e below (s₁.setTop (entryFrame m #[.ref x] 1)) (T2.setTop (mkF m 7 #[.val (.ref x)] [.ref x])) := (c1.trans (st2 _ (Steps.refl _))).trans (by
    refine XS.ifNo X2.here hexec rfl (hb hbytes d3) rfl (i0_eq_f hz) ?_
    refine XS.aloadN X2.here hexec rfl (hb hbytes d6) rfl rfl ?_
    exact Steps.refl _)
  obtain ⟨T4, X4, q4, st4⟩ := X2.hget hexec hown (wk W (.fieldLink "java/lang/String" 15 "java/lang/String" "coder" "B")) (hx.mv X2.warmed.alike hh2) (g := (mkF m 7 #[.val (.ref x)] [.ref x])) rfl (rest := []) rfl (hb hbytes d7)
  have c5 : Steps p.tables e below (s₁.setTop (entryFrame m #[.ref x] 1)) (T4.setTop (mkF m 10 #[.val (.ref x)] [.int cd])) := c3.trans (st4 _ (Steps.refl _))
  have c6 : Steps p.tables e below (s₁.setTop (entryFrame m #[.ref x] 1)) (T4.setTop (mkF m 18 #[.val (.ref x)] [.int (1 - cd)])) := by
    rcases hc with rfl | rfl
    · exact c5.trans (by
        refine XS.ifNo X4.here hexec rfl (hb hbytes d10) rfl (i0_ne_f rfl) ?_
        refine iconstV X4.here hexec rfl 1 (hb hbytes d13) (by decide) ?_
        refine XS.goto X4.here hexec rfl (pc0 := 14) rfl (hb hbytes d14) (by decide) rfl ?_
        exact Steps.refl _)
    · exact c5.trans (by
        refine XS.ifYes X4.here hexec rfl (pc0 := 10) rfl (hb hbytes d10) rfl (i0_ne_t (by decide)) (by decide) rfl ?_
        refine iconstV X4.here hexec rfl 0 (hb hbytes d17) (by decide) ?_
        exact Steps.refl _)
  exact ⟨T4, some (.int (1 - cd)), _, _, _, X4, rfl, rfl, rfl, (fun h => by cases h), ⟨rfl, q4.trans hh2⟩, fun fs hl => c6.trans (X4.ireturnOut hexec hret (by rcases hc with rfl | rfl <;> rfl) (Or.inr (Or.inl rfl)) (hb hbytes d18) hl)⟩
end IsL
namespace LChA
def yN : MethodName := ⟨"java/lang/StringLatin1", "charAt", "([BI)C"⟩
abbrev yB : ByteArray := jdk_43_method_2_code
theorem d0 : decode yB 0 = .ok (.iload_n 1, 1) := by decide +kernel
theorem d1 : decode yB 1 = .ok (.aload_n 0, 1) := by decide +kernel
theorem d2 : decode yB 2 = .ok (.arraylength, 1) := by decide +kernel
theorem d3 : decode yB 3 = .ok (.invokestatic 9, 3) := by decide +kernel
theorem d6 : decode yB 6 = .ok (.aload_n 0, 1) := by decide +kernel
theorem d7 : decode yB 7 = .ok (.iload_n 1, 1) := by decide +kernel
theorem d8 : decode yB 8 = .ok (.baload, 1) := by decide +kernel
theorem d9 : decode yB 9 = .ok (.sipush 255, 3) := by decide +kernel
theorem d12 : decode yB 12 = .ok (.iand, 1) := by decide +kernel
theorem d13 : decode yB 13 = .ok (.i2c, 1) := by decide +kernel
theorem d14 : decode yB 14 = .ok (.ireturn, 1) := by decide +kernel
def site : List Cond := [JO.Str_checkIndex.tab] ++ staticW "java/lang/StringLatin1" 9 JO.Str_checkIndex.yN
def tab : Cond := tabOf yN yB 2 (some .char) site
def P (t : Addr) (V : Cell) (i : Nat) (u : Int32) (fm : Value) (args : Array Value) (s : State) : Prop := args = #[.ref t, .int (Int32.ofNat i)] ∧ XT.Arr .byte t V s ∧ V.slots[i]? = some (.int u) ∧ (StaticIs s "jdk/internal/util/Preconditions" "SIOOBE_FORMATTER" "Ljava/util/function/BiFunction;" fm ∧ fm.isRef = true)
def E (u : Int32) (r : Option Value) (s w : State) : Prop := XT.PureE (some (.int (chr8 u))) r s w
theorem law (l : Launch) (t : Addr) (V : Cell) (i : Nat) (u : Int32) (fm : Value) : Law l yN 2 2 2 27 yB 2 (some .char) site (P t V i u fm) (E u) [] 0 0 := by
  refine Law.of_walk (plainFor_of_name (by decide +kernel)) (by decide +kernel) (by decide +kernel) (by decide) (fun _ _ h => by rw [h.1]; rfl) (fun _ U U' hal hh h => ⟨h.1, h.2.1.mv hal hh, h.2.2.1, h.2.2.2.1.there hal hh, h.2.2.2.2⟩) (fun r U U' V V' h1 hal h2 h => XT.PureE.mv r U U' V V' h1 hal h2 h) ?_
  intro p e s m args below meth c s₁ X0 hexec hbytes hml hret hlk hnm hown hh0 W hP
  obtain ⟨rfl, hV, hu, s1, rf⟩ := hP
  have v31 := hV.2.2.2
  have hi : i < V.slots.size := (Array.getElem?_eq_some_iff.mp hu).1
  have c1 : Steps p.tables e below (s₁.setTop (entryFrame m #[.ref t, .int (Int32.ofNat i)] 2)) (s₁.setTop (mkF m 0 #[.val (.ref t), .val (.int (Int32.ofNat i))] [])) := entry rfl
  have c2 : Steps p.tables e below (s₁.setTop (entryFrame m #[.ref t, .int (Int32.ofNat i)] 2)) (s₁.setTop (mkF m 3 #[.val (.ref t), .val (.int (Int32.ofNat i))] [.int (Int32.ofNat V.slots.size), .int (Int32.ofNat i)])) := c1.trans (by
    refine XS.iloadN X0.here hexec rfl (hb hbytes d0) rfl ?_
    refine XS.aloadN X0.here hexec rfl (hb hbytes d1) rfl rfl ?_
    refine X0.alen hexec (hV.mv X0.warmed.alike hh0) rfl rfl (hb hbytes d2) ?_
    exact Steps.refl _)
  obtain ⟨v3, T3, X3, E3, g3⟩ := X0.callS hexec (JO.Str_checkIndex.law l (Int32.ofNat i) (Int32.ofNat V.slots.size) fm) hown (wks W (staticW "java/lang/StringLatin1" 9 JO.Str_checkIndex.yN)) (wk W JO.Str_checkIndex.tab) (W := 0) (Nat.le_of_ble_eq_true rfl) (Nat.le_of_ble_eq_true rfl) (Nat.le_refl _) (Nat.le_refl _) (g := (mkF m 3 #[.val (.ref t), .val (.int (Int32.ofNat i))] [.int (Int32.ofNat V.slots.size), .int (Int32.ofNat i)])) rfl (by rw [hml]; rfl) c2 (argsL := [.int (Int32.ofNat i), .int (Int32.ofNat V.slots.size)]) (rest := []) rfl rfl (by show 2 * 0 + 0 ≤ _; decide) (hb hbytes d3) (⟨rfl, rf, s1.there X0.warmed.alike hh0, Int32.ofNat_not_neg (by omega), lt32 v31 hi⟩)
  obtain ⟨rfl, q3⟩ := E3
  have hh3 := q3.trans hh0
  have c4 : Steps p.tables e below (s₁.setTop (entryFrame m #[.ref t, .int (Int32.ofNat i)] 2)) (T3.setTop (mkF m 14 #[.val (.ref t), .val (.int (Int32.ofNat i))] [.int (chr8 u)])) := Steps.trans g3 (by
    refine XS.aloadN X3.here hexec rfl (hb hbytes d6) rfl rfl ?_
    refine XS.iloadN X3.here hexec rfl (hb hbytes d7) rfl ?_
    refine X3.aget hexec (hV.mv X3.warmed.alike hh3) rfl hu rfl rfl (hb hbytes d8) ?_
    refine sipushV X3.here hexec rfl 255 (hb hbytes d9) (by decide) ?_
    refine XS.iand X3.here hexec rfl (hb hbytes d12) rfl ?_
    refine i2c X3.here hexec rfl (hb hbytes d13) rfl ?_
    exact Steps.refl _)
  exact ⟨T3, some (.int (chr8 u)), _, _, _, X3, rfl, rfl, rfl, (fun h => by cases h), ⟨rfl, hh3⟩, fun fs hl => c4.trans (X3.ireturnOut hexec hret (narrow_c _) (Or.inr (Or.inr (Or.inr (Or.inl rfl)))) (hb hbytes d14) hl)⟩
end LChA
end StrChars
namespace StrChars.Road
open Jvm Sem ClassFile Op Lib Jvm.Stand Jvm.Free Jvm.Free.XT
open Jvm.Lib.Cold (StaticIs)
theorem consq {a : Array Value} {s : State} {c : Jvm.Cond} {L : List Jvm.Cond} (h0 : c.before a s = true) (h : ∀ w ∈ L, w.before a s = true) : ∀ w ∈ c :: L, w.before a s = true := fun w hw => (List.mem_cons.mp hw).elim (fun e => e ▸ h0) (h w)
/-- the words of String.length(), either coding -/
abbrev wordsLen : List Jvm.Cond := [.code Len.yN Len.yB 1 (some .int), .initialized ST, .fieldLink ST 9 ST "value" "[B", .fieldLink ST 38 ST "COMPACT_STRINGS" "Z", .fieldLink ST 15 ST "coder" "B", .code Cdr.yN Cdr.yB 1 (some .byte), .methodLink ST 335 Cdr.yN, .declares Cdr.yN, .selects ST Cdr.yN Cdr.yN, .instanceMethod Cdr.yN]
theorem tabLen_of {a : Array Value} {s : State} (h : ∀ w ∈ wordsLen, w.before a s = true) : Len.tab.before a s = true := by
  have hc : Cdr.tab.before a s = true := unparts (wk h (.code Cdr.yN Cdr.yB 1 (some .byte))) (wks h (.initialized Cdr.yN.cls :: Cdr.site))
  have q := consq hc h
  exact unparts (wk q (.code Len.yN Len.yB 1 (some .int))) (wks q (.initialized Len.yN.cls :: Len.site))
theorem movedLen {Z s : State} {a0 args : Array Value} (hZ : Z.Warmed39 s.vm) (hw : ∀ d ∈ wordsLen, d.before a0 Z = true) : ∀ d ∈ wordsLen, d.before args s = true := fun d hd => by
  have q := hw d hd
  have t : ∀ d ∈ wordsLen, d = .arrayClass .byte ∨ (d.onTables && d.keepsFace) = true := by decide +kernel
  rcases t d hd with rfl | t
  · exact RoadKit.mvA hZ q
  · exact RoadKit.mv hZ q t
/-- the bytes of the chars cs, low before high -/
def wideBytes : List Int32 → List Value
  | [] => []
  | c :: cs => .int (lo8 c) :: .int (hi8 c) :: wideBytes cs
theorem wide_lo (d : Value) : ∀ (cs : List Int32) (j : Nat), j < cs.length → (wideBytes cs).getD (2 * j) d = .int (lo8 (cs.getD j 0))
  | [], j, h => absurd h (Nat.not_lt_zero j)
  | c :: cs, 0, _ => rfl
  | c :: cs, j + 1, h => by
    have q := wide_lo d cs j (by simpa using h)
    rw [show 2 * (j + 1) = 2 * j + 1 + 1 from by omega]
    simpa [wideBytes] using q
theorem wide_hi (d : Value) : ∀ (cs : List Int32) (j : Nat), j < cs.length → (wideBytes cs).getD (2 * j + 1) d = .int (hi8 (cs.getD j 0))
  | [], j, h => absurd h (Nat.not_lt_zero j)
  | c :: cs, 0, _ => rfl
  | c :: cs, j + 1, h => by
    have q := wide_hi d cs j (by simpa using h)
    rw [show 2 * (j + 1) + 1 = 2 * j + 1 + 1 + 1 from by omega]
    simpa [wideBytes] using q
theorem low_at (d : Value) (cs : List Int32) (j : Nat) (h : j < cs.length) : (cs.map fun c => Value.int (lo8 c)).getD j d = .int (lo8 (cs.getD j 0)) := by
  simp [List.getD_eq_getElem?_getD, h]
/-- an array of N2 bytes vs codes the chars cs by the coder cd -/
def CodA (cs : List Int32) (cd N2 : Int32) (vs : List Value) : Prop := (cd = 0 ∧ N2 = Int32.ofNat cs.length ∧ vs = (cs.map fun c => Value.int (lo8 c)) ∧ ∀ c ∈ cs, ¬ 255 < c) ∨ (cd = 1 ∧ N2 = Int32.ofNat (2 * cs.length) ∧ vs = wideBytes cs ∧ ∃ c ∈ cs, 255 < c)
theorem CodA.cod {cs : List Int32} {cd N2 : Int32} {vs : List Value} {V : Cell} (h : CodA cs cd N2 vs) (hn : 2 * cs.length < 2 ^ 31) (hs : V.slots.size = N2.toNatClampNeg) (hv : RoadKit.Has V vs (.int 0)) : Cod cd cs.length (fun j => cs.getD j 0) V := by
  rcases h with ⟨rfl, rfl, rfl, h⟩ | ⟨rfl, rfl, rfl, c, hc, hw⟩
  · rw [n32 (by omega)] at hs
    exact Or.inl ⟨rfl, hs, fun j hj => ⟨by rw [hv j (by omega), low_at _ _ _ hj], by
      have e : cs.getD j 0 = cs[j] := by simp [List.getD_eq_getElem?_getD, hj]
      show ¬ 255 < cs.getD j 0
      rw [e]; exact h _ (List.getElem_mem _)⟩⟩
  · rw [n32 (by omega)] at hs
    obtain ⟨j, hj, rfl⟩ := List.getElem_of_mem hc
    exact Or.inr ⟨rfl, hs, fun j hj => ⟨by rw [hv _ (by omega), wide_lo _ _ _ hj], by rw [hv _ (by omega), wide_hi _ _ _ hj]⟩, j, hj, by
      have e : cs.getD j 0 = cs[j] := by simp [List.getD_eq_getElem?_getD, hj]
      show 255 < cs.getD j 0
      rw [e]; exact hw⟩
/-- an object of exactly java/lang/String, its two fields found: as the laws ask it -/
theorem strObj {Z U : State} {a0 : Array Value} {kI : Nat} (wi : (Jvm.Cond.instantiable ST kI).before a0 Z = true) (al : Z.vm.Alike U.vm) {x : Addr} {v0 c0 : Value} (E : RoadKit.Exa Z U.heap x ST) (V : RoadKit.Fld Z U.heap x ST "value" "[B" v0) (C : RoadKit.Fld Z U.heap x ST "coder" "B" c0) :
    ∃ (D : Cell) (fV fC : Field), Blank ST x D U ∧ Found ST "value" "[B" fV U ∧ Found ST "coder" "B" fC U ∧ D.slots[fV.slot]? = some v0 ∧ D.slots[fC.slot]? = some c0 ∧ RoadKit.slotOf Z ST "value" "[B" = fV.slot ∧ RoadKit.slotOf Z ST "coder" "B" = fC.slot := by
  obtain ⟨D, cfV, kV, iV, fV, hD, gV, stV, knV, obV, asV, slV⟩ := V
  obtain ⟨D', cfC, kC, iC, fC, hD', gC, stC, -, -, asC, slC⟩ := C
  cases hD.symm.trans hD'
  obtain ⟨D2, kD, e1, e2, e3, e4, e5⟩ := E
  cases hD.symm.trans e1
  obtain ⟨c2, k2, i1, i2, i3, -⟩ := Cond.instantiable_spec wi
  cases e2.symm.trans i1
  cases e3.symm.trans i2
  obtain ⟨kU, u1, u2⟩ := al.2.2 _ _ e3
  exact ⟨D, fV, fC, ⟨hD, ⟨knV, fun q hq => by rw [hq] at obV; cases obV⟩, by rw [al.findClass]; exact e2, kU, u1, by rw [u2]; exact i3, by rw [u2]; exact e5 i3⟩, ⟨SBG.found_only al ⟨cfV, kV, iV, gV⟩, stV⟩, ⟨SBG.found_only al ⟨cfC, kC, iC, gC⟩, stC⟩, slV, slC, by simp [RoadKit.slotOf, gV], by simp [RoadKit.slotOf, gC]⟩
theorem sta_is {Z U : State} (al : Z.vm.Alike U.vm) {C n d : String} {v : Value} (S : RoadKit.Sta Z U.heap C n d v) : StaticIs U C n d v := by
  obtain ⟨cfS, iS, kS, fS, st, cS, t1, t2, t3, t4, t5, t6, t7⟩ := S
  exact StaticIs.there (s := { Z with heap := U.heap }) ⟨cfS, iS, kS, fS, st, cS, t1, t2, t3, t4, t5, (fun q => by rw [q] at t6; cases t6), t7⟩ al rfl
/-- **length() OF SUCH A STRING** -/
theorem lenW {p : Program} {l : Launch} {e : Env} {R : Room} {s : State} {args : Array Value} {below : List Frame} {len W : Nat} {Z : State} {a0 : Array Value} {h : Heap} (hZ : Z.Warmed39 s.vm) (hw : ∀ d ∈ wordsLen, d.before a0 Z = true) {kI : Nat} (wi : (Jvm.Cond.instantiable ST kI).before a0 Z = true)
    {x t : Addr} {kb : ClassId} {cs : List Int32} {cd N2 z : Int32} {vs : List Value} (E : RoadKit.Exa Z h x ST) (V : RoadKit.Fld Z h x ST "value" "[B" (.ref t)) (C : RoadKit.Fld Z h x ST "coder" "B" (.int cd)) (K : RoadKit.Arv Z h t kb .byte N2 vs (.int 0)) (hc : CodA cs cd N2 vs) (hb : ∀ c ∈ cs, ¬ c < 0 ∧ ¬ (65535 : Int32) < c)
    (S : RoadKit.Sta Z h ST "COMPACT_STRINGS" "Z" (.int z)) (hz : ¬ z = 0) (l2 : cs.length ≤ 4000) (hfr : 2 ≤ R.frames) (hlo : W + 25 ≤ R.locals) :
    Back l R p e below s args (⟨"java/lang/String", "length", "()I"⟩ : MethodName) len W (fun P a => a = #[.ref x] ∧ P.U.heap = h ∧ P.cells + 0 ≤ R.cells ∧ P.slots + 0 ≤ R.slots)
      (fun P _ v B => ∃ L, (v = some (.int (Int32.ofNat cs.length)) ∧ L = [] ∧ B.U.heap = h) ∧ B.locs = P.locs ++ L ∧ B.cells = P.cells + 0 ∧ B.slots = P.slots + 0) := by
  obtain ⟨A, K1, K2, K3, K4, K5, K6⟩ := K
  have hcod := hc.cod (by omega) K3 K5
  intro m meth c P g ig mk a X hg hsize hdg hW hn hp'
  obtain ⟨rfl, rfl, r1, r2⟩ := hp'
  have al : Z.vm.Alike P.U.vm := hZ.alike.trans X.warmed.alike
  obtain ⟨D, fV, fC, hB, F1, F2, g1, g2, -, -⟩ := strObj wi al E V C
  have hx : Txt x t A cd cs.length (fun j => cs.getD j 0) P.U := ⟨⟨_, hB.2.2.1, D, hB.1, rfl, by cases q : D.vm <;> first | rfl | exact absurd q (hB.2.1.2 _)⟩, Has.of hB F1 g1, Has.of hB F2 g2, ⟨K1.1, State.isArrayOf_alike al K1.2.1, K1.2.2, by rcases hcod with ⟨-, q, -⟩ | ⟨-, q, -⟩ <;> omega⟩, hcod, fun j hj => by
    have e : cs.getD j 0 = cs[j] := by simp [List.getD_eq_getElem?_getD, hj]
    show ¬ cs.getD j 0 < 0 ∧ ¬ 65535 < cs.getD j 0
    rw [e]; exact hb _ (List.getElem_mem _)⟩
  obtain ⟨v, B, X', ⟨⟨hv, hh⟩, hl, hk, hs⟩, st⟩ := Len.pays x t A cd cs.length (fun j => cs.getD j 0) z (tabLen_of (movedLen hZ hw)) hfr hlo m meth c P g ig mk _ X hg hsize hdg hW hn ⟨r1, r2, rfl, hx, sta_is al S, hz⟩
  exact ⟨v, B, X', ⟨[], ⟨hv, rfl, hh⟩, hl, hk, hs⟩, st⟩
end StrChars.Road
namespace StrChars
open Jvm Sem ClassFile Op Lib Jvm.Stand Jvm.Free.XT Jvm.Free.ALB Jvm.Free.JM Jvm.Free
open Jvm.Lib.Cold (StaticIs)
namespace Emp
def yN : MethodName := ⟨"java/lang/String", "isEmpty", "()Z"⟩
abbrev yB : ByteArray := jdk_42_method_55_code
theorem d0 : decode yB 0 = .ok (.aload_n 0, 1) := by decide +kernel
theorem d1 : decode yB 1 = .ok (.getfield 9, 3) := by decide +kernel
theorem d4 : decode yB 4 = .ok (.arraylength, 1) := by decide +kernel
theorem d5 : decode yB 5 = .ok (.ifCond (.ne) 7, 3) := by decide +kernel
theorem d8 : decode yB 8 = .ok (.iconst 1, 1) := by decide +kernel
theorem d9 : decode yB 9 = .ok (.goto 4, 3) := by decide +kernel
theorem d12 : decode yB 12 = .ok (.iconst 0, 1) := by decide +kernel
theorem d13 : decode yB 13 = .ok (.ireturn, 1) := by decide +kernel
def site : List Cond := [.fieldLink "java/lang/String" 9 "java/lang/String" "value" "[B"]
def tab : Cond := tabOf yN yB 1 (some .boolean) site
def P (x t : Addr) (V : Cell) (cd : Int32) (n : Nat) (f : Nat → Int32) (args : Array Value) (s : State) : Prop := args = #[.ref x] ∧ Txt x t V cd n f s
def E (n : Nat) (r : Option Value) (s u : State) : Prop := XT.PureE (some (.int (if n = 0 then 1 else 0))) r s u
/-- isEmpty() of a String of n chars -/
theorem law (l : Launch) (x t : Addr) (V : Cell) (cd : Int32) (n : Nat) (f : Nat → Int32) : Law l yN 1 0 0 0 yB 1 (some .boolean) site (P x t V cd n f) (E n) [] 0 0 := by
  refine Law.of_walk (plainFor_of_name (by decide +kernel)) (by decide +kernel) (by decide +kernel) (by decide) (fun _ _ h => by rw [h.1]; rfl) (fun _ U U' hal hh h => ⟨h.1, h.2.mv hal hh⟩) (fun r U U' V V' h1 hal h2 h => XT.PureE.mv r U U' V V' h1 hal h2 h) ?_
  intro p e s m args below meth c s₁ X0 hexec hbytes hml hret hlk hnm hown hh0 W hP
  obtain ⟨rfl, hx⟩ := hP
  have v31 := hx.2.2.2.1.2.2.2
  have c1 : Steps p.tables e below (s₁.setTop (entryFrame m #[.ref x] 1)) (s₁.setTop (mkF m 1 #[.val (.ref x)] [.ref x])) := Steps.trans (entry rfl) (by
    show Steps p.tables e below (s₁.setTop (mkF m 0 #[.val (.ref x)] [])) _
    refine XS.aloadN X0.here hexec rfl (hb hbytes d0) rfl rfl ?_
    exact Steps.refl _)
  obtain ⟨T2, X2, q2, st2⟩ := X0.hget hexec hown (wk W (.fieldLink "java/lang/String" 9 "java/lang/String" "value" "[B")) (hx.mv X0.warmed.alike hh0).2.1 (g := (mkF m 1 #[.val (.ref x)] [.ref x])) rfl (rest := []) rfl (hb hbytes d1)
  have hh2 := q2.trans hh0
  have hx2 := hx.mv X2.warmed.alike hh2
  have c3 : Steps p.tables e below (s₁.setTop (entryFrame m #[.ref x] 1)) (T2.setTop (mkF m 5 #[.val (.ref x)] [.int (Int32.ofNat V.slots.size)])) := (c1.trans (st2 _ (Steps.refl _))).trans (by
    refine X2.alen hexec hx2.2.2.2.1 rfl rfl (hb hbytes d4) ?_
    exact Steps.refl _)
  have hz : V.slots.size = 0 ↔ n = 0 := by
    rcases hx.2.2.2.2.1 with ⟨-, q, -⟩ | ⟨-, q, -⟩ <;> omega
  by_cases h0 : n = 0
  · have c4 : Steps p.tables e below (s₁.setTop (entryFrame m #[.ref x] 1)) (T2.setTop (mkF m 13 #[.val (.ref x)] [.int 1])) := c3.trans (by
      refine XS.ifNo X2.here hexec rfl (hb hbytes d5) rfl (i0_ne_f (by rw [hz.mpr h0]; rfl)) ?_
      refine iconstV X2.here hexec rfl 1 (hb hbytes d8) (by decide) ?_
      refine XS.goto X2.here hexec rfl (pc0 := 9) rfl (hb hbytes d9) (by decide) rfl ?_
      exact Steps.refl _)
    exact ⟨T2, some (.int 1), _, _, _, X2, rfl, rfl, rfl, (fun h => by cases h), ⟨by rw [if_pos h0], hh2⟩, fun fs hl => c4.trans (X2.ireturnOut hexec hret rfl (Or.inr (Or.inl rfl)) (hb hbytes d13) hl)⟩
  · have c4 : Steps p.tables e below (s₁.setTop (entryFrame m #[.ref x] 1)) (T2.setTop (mkF m 13 #[.val (.ref x)] [.int 0])) := c3.trans (by
      refine XS.ifYes X2.here hexec rfl (pc0 := 5) rfl (hb hbytes d5) rfl (i0_ne_t (nz32 v31 (by omega))) (by decide) rfl ?_
      refine iconstV X2.here hexec rfl 0 (hb hbytes d12) (by decide) ?_
      exact Steps.refl _)
    exact ⟨T2, some (.int 0), _, _, _, X2, rfl, rfl, rfl, (fun h => by cases h), ⟨by rw [if_neg h0], hh2⟩, fun fs hl => c4.trans (X2.ireturnOut hexec hret rfl (Or.inr (Or.inl rfl)) (hb hbytes d13) hl)⟩
theorem pays {l : Launch} {R : Room} {p : Program} {e : Env} {below : List Frame} {s : State} {sargs : Array Value} {len W : Nat} (x t : Addr) (V : Cell) (cd : Int32) (n : Nat) (f : Nat → Int32) (htab : tab.before sargs s = true) (hfr : 1 ≤ R.frames) (hlo : W + 12 ≤ R.locals) :
    Back l R p e below s sargs yN len W (fun A₁ a₁ => A₁.cells + 0 ≤ R.cells ∧ A₁.slots + 0 ≤ R.slots ∧ P x t V cd n f a₁ A₁.U) (fun A₁ _ v₁ B₁ => E n v₁ A₁.U B₁.U ∧ B₁.locs = A₁.locs ++ [] ∧ B₁.cells = A₁.cells + 0 ∧ B₁.slots = A₁.slots + 0) :=
  (law l x t V cd n f).pays htab hfr (by omega)
end Emp
end StrChars
namespace StrChars.Road
open Jvm Sem ClassFile Op Lib Jvm.Stand Jvm.Free Jvm.Free.XT
open Jvm.Lib.Cold (StaticIs)
/-- the words of String.isEmpty() -/
abbrev wordsEmp : List Jvm.Cond := [.code Emp.yN Emp.yB 1 (some .boolean), .initialized ST, .fieldLink ST 9 ST "value" "[B"]
theorem tabEmp_of {a : Array Value} {s : State} (h : ∀ w ∈ wordsEmp, w.before a s = true) : Emp.tab.before a s = true := unparts (wk h (.code Emp.yN Emp.yB 1 (some .boolean))) (wks h (.initialized Emp.yN.cls :: Emp.site))
theorem movedEmp {Z s : State} {a0 args : Array Value} (hZ : Z.Warmed39 s.vm) (hw : ∀ d ∈ wordsEmp, d.before a0 Z = true) : ∀ d ∈ wordsEmp, d.before args s = true := fun d hd => by
  have t : ∀ d ∈ wordsEmp, (d.onTables && d.keepsFace) = true := by decide +kernel
  exact RoadKit.mv hZ (hw d hd) (t d hd)
/-- the road's facts of a String, as the laws ask it -/
theorem txt_of {Z U : State} {a0 : Array Value} {kI : Nat} (wi : (Jvm.Cond.instantiable ST kI).before a0 Z = true) (al : Z.vm.Alike U.vm) {x t : Addr} {kb : ClassId} {cs : List Int32} {cd N2 : Int32} {vs : List Value} (E : RoadKit.Exa Z U.heap x ST) (V : RoadKit.Fld Z U.heap x ST "value" "[B" (.ref t)) (C : RoadKit.Fld Z U.heap x ST "coder" "B" (.int cd)) (K : RoadKit.Arv Z U.heap t kb .byte N2 vs (.int 0)) (hc : CodA cs cd N2 vs) (hb : ∀ c ∈ cs, ¬ c < 0 ∧ ¬ (65535 : Int32) < c) (l2 : cs.length ≤ 4000) :
    ∃ A, Txt x t A cd cs.length (fun j => cs.getD j 0) U := by
  obtain ⟨A, K1, K2, K3, K4, K5, K6⟩ := K
  have hcod := hc.cod (by omega) K3 K5
  obtain ⟨D, fV, fC, hB, F1, F2, g1, g2, -, -⟩ := strObj wi al E V C
  exact ⟨A, ⟨_, hB.2.2.1, D, hB.1, rfl, by cases q : D.vm <;> first | rfl | exact absurd q (hB.2.1.2 _)⟩, Has.of hB F1 g1, Has.of hB F2 g2, ⟨K1.1, State.isArrayOf_alike al K1.2.1, K1.2.2, by rcases hcod with ⟨-, q, -⟩ | ⟨-, q, -⟩ <;> omega⟩, hcod, fun j hj => by
    have e : cs.getD j 0 = cs[j] := by simp [List.getD_eq_getElem?_getD, hj]
    show ¬ cs.getD j 0 < 0 ∧ ¬ 65535 < cs.getD j 0
    rw [e]; exact hb _ (List.getElem_mem _)⟩
/-- **isEmpty() OF SUCH A STRING** -/
theorem empW {p : Program} {l : Launch} {e : Env} {R : Room} {s : State} {args : Array Value} {below : List Frame} {len W : Nat} {Z : State} {a0 : Array Value} {h : Heap} (hZ : Z.Warmed39 s.vm) (hw : ∀ d ∈ wordsEmp, d.before a0 Z = true) {kI : Nat} (wi : (Jvm.Cond.instantiable ST kI).before a0 Z = true)
    {x t : Addr} {kb : ClassId} {cs : List Int32} {cd N2 : Int32} {vs : List Value} (E : RoadKit.Exa Z h x ST) (V : RoadKit.Fld Z h x ST "value" "[B" (.ref t)) (C : RoadKit.Fld Z h x ST "coder" "B" (.int cd)) (K : RoadKit.Arv Z h t kb .byte N2 vs (.int 0)) (hc : CodA cs cd N2 vs) (hb : ∀ c ∈ cs, ¬ c < 0 ∧ ¬ (65535 : Int32) < c) (l2 : cs.length ≤ 4000) (hfr : 1 ≤ R.frames) (hlo : W + 12 ≤ R.locals) :
    Back l R p e below s args (⟨"java/lang/String", "isEmpty", "()Z"⟩ : MethodName) len W (fun P a => a = #[.ref x] ∧ P.U.heap = h ∧ P.cells + 0 ≤ R.cells ∧ P.slots + 0 ≤ R.slots)
      (fun P _ v B => ∃ L, (v = some (.int (if cs.length = 0 then 1 else 0)) ∧ L = [] ∧ B.U.heap = h) ∧ B.locs = P.locs ++ L ∧ B.cells = P.cells + 0 ∧ B.slots = P.slots + 0) := by
  intro m meth c P g ig mk a X hg hsize hdg hW hn hp'
  obtain ⟨rfl, rfl, r1, r2⟩ := hp'
  have al : Z.vm.Alike P.U.vm := hZ.alike.trans X.warmed.alike
  obtain ⟨A, hx⟩ := txt_of wi al E V C K hc hb l2
  obtain ⟨v, B, X', ⟨⟨hv, hh⟩, hl, hk, hs⟩, st⟩ := Emp.pays x t A cd cs.length (fun j => cs.getD j 0) (tabEmp_of (movedEmp hZ hw)) hfr hlo m meth c P g ig mk _ X hg hsize hdg hW hn ⟨r1, r2, rfl, hx⟩
  exact ⟨v, B, X', ⟨[], ⟨hv, rfl, hh⟩, hl, hk, hs⟩, st⟩
end StrChars.Road
namespace StrChars
open Jvm Sem ClassFile Op Lib Jvm.Stand Jvm.Free.XT Jvm.Free.ALB Jvm.Free.JM Jvm.Free
open Jvm.Lib.Cold (StaticIs)
namespace ChN
def yN : MethodName := ⟨"java/lang/String", "charAt", "(I)C"⟩
abbrev yB : ByteArray := jdk_42_method_56_code
theorem d0 : decode yB 0 = .ok (.aload_n 0, 1) := by decide +kernel
theorem d1 : decode yB 1 = .ok (.invokevirtual 492, 3) := by decide +kernel
theorem d4 : decode yB 4 = .ok (.ifCond (.eq) 12, 3) := by decide +kernel
theorem d7 : decode yB 7 = .ok (.aload_n 0, 1) := by decide +kernel
theorem d8 : decode yB 8 = .ok (.getfield 9, 3) := by decide +kernel
theorem d11 : decode yB 11 = .ok (.iload_n 1, 1) := by decide +kernel
theorem d12 : decode yB 12 = .ok (.invokestatic 495, 3) := by decide +kernel
theorem d15 : decode yB 15 = .ok (.ireturn, 1) := by decide +kernel
def site : List Cond := [.fieldLink "java/lang/String" 9 "java/lang/String" "value" "[B", IsL.tab, LChA.tab] ++ virtW "java/lang/String" 492 "java/lang/String" IsL.yN IsL.yN ++ staticW "java/lang/String" 495 LChA.yN
def tab : Cond := tabOf yN yB 2 (some .char) site
def P (x t : Addr) (V : Cell) (n : Nat) (f : Nat → Int32) (z : Int32) (fm : Value) (i : Nat) (args : Array Value) (s : State) : Prop := args = #[.ref x, .int (Int32.ofNat i)] ∧ Txt x t V 0 n f s ∧ i < n ∧ StaticIs s "java/lang/String" "COMPACT_STRINGS" "Z" (.int z) ∧ ¬ z = 0 ∧ StaticIs s "jdk/internal/util/Preconditions" "SIOOBE_FORMATTER" "Ljava/util/function/BiFunction;" fm ∧ fm.isRef = true
def E (f : Nat → Int32) (i : Nat) (r : Option Value) (s u : State) : Prop := XT.PureE (some (.int (f i))) r s u
/-- charAt(i) of a Latin-1 String of n chars, i < n: f i -/
theorem law (l : Launch) (x t : Addr) (V : Cell) (n : Nat) (f : Nat → Int32) (z : Int32) (fm : Value) (i : Nat) : Law l yN 2 1 3 40 yB 2 (some .char) site (P x t V n f z fm i) (E f i) [] 0 0 := by
  refine Law.of_walk (plainFor_of_name (by decide +kernel)) (by decide +kernel) (by decide +kernel) (by decide) (fun _ _ h => by rw [h.1]; rfl) (fun _ U U' hal hh h => ⟨h.1, h.2.1.mv hal hh, h.2.2.1, h.2.2.2.1.there hal hh, h.2.2.2.2.1, h.2.2.2.2.2.1.there hal hh, h.2.2.2.2.2.2⟩) (fun r U U' V V' h1 hal h2 h => XT.PureE.mv r U U' V V' h1 hal h2 h) ?_
  intro p e s m args below meth c s₁ X0 hexec hbytes hml hret hlk hnm hown hh0 W hP
  obtain ⟨rfl, hx, hi, s1, hz, s3, rf⟩ := hP
  have v31 := hx.2.2.2.1.2.2.2
  have hr := hx.2.2.2.2.2 i hi
  have hx0 := hx.mv X0.warmed.alike hh0
  have c1 : Steps p.tables e below (s₁.setTop (entryFrame m #[.ref x, .int (Int32.ofNat i)] 2)) (s₁.setTop (mkF m 1 #[.val (.ref x), .val (.int (Int32.ofNat i))] [.ref x])) := Steps.trans (entry rfl) (by
    show Steps p.tables e below (s₁.setTop (mkF m 0 #[.val (.ref x), .val (.int (Int32.ofNat i))] [])) _
    refine XS.aloadN X0.here hexec rfl (hb hbytes d0) rfl rfl ?_
    exact Steps.refl _)
  obtain ⟨v2, T2, X2, E2, g2⟩ := X0.callV hexec (IsL.law l x 0 z) hown (wks W (virtW "java/lang/String" 492 "java/lang/String" IsL.yN IsL.yN)) rfl (by decide) (wk W IsL.tab) (W := 0) (Nat.le_of_ble_eq_true rfl) (Nat.le_of_ble_eq_true rfl) (Nat.le_refl _) (Nat.le_refl _) (hx0.1.fc X0.warmed.alike) hx0.1.is (g := (mkF m 1 #[.val (.ref x), .val (.int (Int32.ofNat i))] [.ref x])) rfl (by rw [hml]; rfl) c1 (argsL := []) (rest := []) rfl rfl (by show 2 * 0 + 0 ≤ _; decide) (hb hbytes d1) (⟨rfl, hx0.2.2.1, hx.2.2.2.2.1.cd, s1.there X0.warmed.alike hh0, hz⟩)
  obtain ⟨rfl, q2⟩ := E2
  have hh2 := q2.trans hh0
  have hx2 := hx.mv X2.warmed.alike hh2
  obtain ⟨-, k1, k2⟩ | ⟨k0, -⟩ := hx.2.2.2.2.1
  · have c3 : Steps p.tables e below (s₁.setTop (entryFrame m #[.ref x, .int (Int32.ofNat i)] 2)) (T2.setTop (mkF m 8 #[.val (.ref x), .val (.int (Int32.ofNat i))] [.ref x])) := Steps.trans g2 (by
      refine XS.ifNo X2.here hexec rfl (hb hbytes d4) rfl (i0_eq_f (by decide)) ?_
      refine XS.aloadN X2.here hexec rfl (hb hbytes d7) rfl rfl ?_
      exact Steps.refl _)
    obtain ⟨T4, X4, q4, st4⟩ := X2.hget hexec hown (wk W (.fieldLink "java/lang/String" 9 "java/lang/String" "value" "[B")) hx2.2.1 (g := (mkF m 8 #[.val (.ref x), .val (.int (Int32.ofNat i))] [.ref x])) rfl (rest := []) rfl (hb hbytes d8)
    have hh4 := q4.trans hh2
    have c5 : Steps p.tables e below (s₁.setTop (entryFrame m #[.ref x, .int (Int32.ofNat i)] 2)) (T4.setTop (mkF m 12 #[.val (.ref x), .val (.int (Int32.ofNat i))] [.int (Int32.ofNat i), .ref t])) := (c3.trans (st4 _ (Steps.refl _))).trans (by
      refine XS.iloadN X4.here hexec rfl (hb hbytes d11) rfl ?_
      exact Steps.refl _)
    obtain ⟨v6, T6, X6, E6, g6⟩ := X4.callS hexec (LChA.law l t V i (lo8 (f i)) fm) hown (wks W (staticW "java/lang/String" 495 LChA.yN)) (wk W LChA.tab) (W := 0) (Nat.le_of_ble_eq_true rfl) (Nat.le_of_ble_eq_true rfl) (Nat.le_refl _) (Nat.le_refl _) (g := (mkF m 12 #[.val (.ref x), .val (.int (Int32.ofNat i))] [.int (Int32.ofNat i), .ref t])) rfl (by rw [hml]; rfl) c5 (argsL := [.ref t, .int (Int32.ofNat i)]) (rest := []) rfl rfl (by show 2 * 0 + 0 ≤ _; decide) (hb hbytes d12) (⟨rfl, hx.2.2.2.1.mv X4.warmed.alike hh4, (k2 i hi).1, s3.there X4.warmed.alike hh4, rf⟩)
    obtain ⟨rfl, q6⟩ := E6
    rw [chr8_lo8 hr.1 (k2 i hi).2] at g6
    exact ⟨T6, some (.int (f i)), _, _, _, X6, rfl, rfl, rfl, (fun h => by cases h), ⟨rfl, q6.trans hh4⟩, fun fs hl => Steps.trans g6 (X6.ireturnOut hexec hret (narrow_ch hr.1 hr.2) (Or.inr (Or.inr (Or.inr (Or.inl rfl)))) (hb hbytes d15) hl)⟩
  · exact absurd k0 (by decide)
theorem pays {l : Launch} {R : Room} {p : Program} {e : Env} {below : List Frame} {s : State} {sargs : Array Value} {len W : Nat} (x t : Addr) (V : Cell) (n : Nat) (f : Nat → Int32) (z : Int32) (fm : Value) (i : Nat) (htab : tab.before sargs s = true) (hfr : 4 ≤ R.frames) (hlo : W + 53 ≤ R.locals) :
    Back l R p e below s sargs yN len W (fun A₁ a₁ => A₁.cells + 0 ≤ R.cells ∧ A₁.slots + 0 ≤ R.slots ∧ P x t V n f z fm i a₁ A₁.U) (fun A₁ _ v₁ B₁ => E f i v₁ A₁.U B₁.U ∧ B₁.locs = A₁.locs ++ [] ∧ B₁.cells = A₁.cells + 0 ∧ B₁.slots = A₁.slots + 0) :=
  (law l x t V n f z fm i).pays htab hfr (by omega)
end ChN
end StrChars
namespace StrChars.Road
open Jvm Sem ClassFile Op Lib Jvm.Stand Jvm.Free Jvm.Free.XT
open Jvm.Lib.Cold (StaticIs)
/-- the words of String.charAt(int), the Latin-1 road alone -/
abbrev wordsChN : List Jvm.Cond := [.code ChN.yN ChN.yB 2 (some .char), .initialized ST, .fieldLink ST 9 ST "value" "[B", .fieldLink ST 38 ST "COMPACT_STRINGS" "Z", .fieldLink ST 15 ST "coder" "B", .code IsL.yN IsL.yB 1 (some .boolean), .methodLink ST 492 IsL.yN, .declares IsL.yN, .selects ST IsL.yN IsL.yN, .instanceMethod IsL.yN,
  .methodLink ST 495 LChA.yN, .static LChA.yN, .code LChA.yN LChA.yB 2 (some .char), .initialized "java/lang/StringLatin1", .methodLink "java/lang/StringLatin1" 9 JO.Str_checkIndex.yN, .static JO.Str_checkIndex.yN, .code JO.Str_checkIndex.yN JO.Str_checkIndex.yB 2 none,
  .fieldLink ST 1053 "jdk/internal/util/Preconditions" "SIOOBE_FORMATTER" "Ljava/util/function/BiFunction;", .methodLink ST 1059 JC.PreCheck.yN, .static JC.PreCheck.yN, .code JC.PreCheck.yN JC.PreCheck.yB 3 (some .int), .initialized "jdk/internal/util/Preconditions"]
theorem tabChN_of {a : Array Value} {s : State} (h : ∀ w ∈ wordsChN, w.before a s = true) : ChN.tab.before a s = true := by
  have hp : JC.PreCheck.tab.before a s = true := unparts (wk h (.code JC.PreCheck.yN JC.PreCheck.yB 3 (some .int))) (wks h (.initialized JC.PreCheck.yN.cls :: JC.PreCheck.site))
  have qk := consq hp h
  have hk : JO.Str_checkIndex.tab.before a s = true := unparts (wk qk (.code JO.Str_checkIndex.yN JO.Str_checkIndex.yB 2 none)) (wks qk (.initialized JO.Str_checkIndex.yN.cls :: JO.Str_checkIndex.site))
  have ql := consq hk h
  have hl : LChA.tab.before a s = true := unparts (wk ql (.code LChA.yN LChA.yB 2 (some .char))) (wks ql (.initialized LChA.yN.cls :: LChA.site))
  have hi : IsL.tab.before a s = true := unparts (wk h (.code IsL.yN IsL.yB 1 (some .boolean))) (wks h (.initialized IsL.yN.cls :: IsL.site))
  have q := consq hi (consq hl h)
  exact unparts (wk q (.code ChN.yN ChN.yB 2 (some .char))) (wks q (.initialized ChN.yN.cls :: ChN.site))
theorem movedChN {Z s : State} {a0 args : Array Value} (hZ : Z.Warmed39 s.vm) (hw : ∀ d ∈ wordsChN, d.before a0 Z = true) : ∀ d ∈ wordsChN, d.before args s = true := fun d hd => by
  have t : ∀ d ∈ wordsChN, (d.onTables && d.keepsFace) = true := by decide +kernel
  exact RoadKit.mv hZ (hw d hd) (t d hd)
/-- **charAt(i) OF A LATIN-1 STRING**, i < n: the char -/
theorem chN {p : Program} {l : Launch} {e : Env} {R : Room} {s : State} {args : Array Value} {below : List Frame} {len W : Nat} {Z : State} {a0 : Array Value} {h : Heap} (hZ : Z.Warmed39 s.vm) (hw : ∀ d ∈ wordsChN, d.before a0 Z = true) {kI : Nat} (wi : (Jvm.Cond.instantiable ST kI).before a0 Z = true)
    {x t : Addr} {kb : ClassId} {cs : List Int32} {N2 z : Int32} {vs : List Value} {fm : Value} {i : Nat} {j : Int32} (E : RoadKit.Exa Z h x ST) (V : RoadKit.Fld Z h x ST "value" "[B" (.ref t)) (C : RoadKit.Fld Z h x ST "coder" "B" (.int 0)) (K : RoadKit.Arv Z h t kb .byte N2 vs (.int 0)) (hc : CodA cs 0 N2 vs) (hb : ∀ c ∈ cs, ¬ c < 0 ∧ ¬ (65535 : Int32) < c)
    (S : RoadKit.Sta Z h ST "COMPACT_STRINGS" "Z" (.int z)) (hz : ¬ z = 0) (F : RoadKit.Sta Z h "jdk/internal/util/Preconditions" "SIOOBE_FORMATTER" "Ljava/util/function/BiFunction;" fm) (rf : fm.isRef = true) (l2 : cs.length ≤ 4000) (hi : i < cs.length) (hj : j = Int32.ofNat i) (hfr : 4 ≤ R.frames) (hlo : W + 53 ≤ R.locals) :
    Back l R p e below s args (⟨"java/lang/String", "charAt", "(I)C"⟩ : MethodName) len W (fun P a => a = #[.ref x, .int j] ∧ P.U.heap = h ∧ P.cells + 0 ≤ R.cells ∧ P.slots + 0 ≤ R.slots)
      (fun P _ v B => ∃ L, (v = some (.int (cs.getD i 0)) ∧ L = [] ∧ B.U.heap = h) ∧ B.locs = P.locs ++ L ∧ B.cells = P.cells + 0 ∧ B.slots = P.slots + 0) := by
  subst hj
  intro m meth c P g ig mk a X hg hsize hdg hW hn hp'
  obtain ⟨rfl, rfl, r1, r2⟩ := hp'
  have al : Z.vm.Alike P.U.vm := hZ.alike.trans X.warmed.alike
  obtain ⟨A, hx⟩ := txt_of wi al E V C K hc hb l2
  obtain ⟨v, B, X', ⟨⟨hv, hh⟩, hl, hk, hs⟩, st⟩ := ChN.pays x t A cs.length (fun j => cs.getD j 0) z fm i (tabChN_of (movedChN hZ hw)) hfr hlo m meth c P g ig mk _ X hg hsize hdg hW hn ⟨r1, r2, rfl, hx, hi, sta_is al S, hz, sta_is al F, rf⟩
  exact ⟨v, B, X', ⟨[], ⟨hv, rfl, hh⟩, hl, hk, hs⟩, st⟩
/-- what backV says of its String, as the contracts of this text ask it: cs's low bytes, coder 0 -/
theorem codOf {cs : List Int32} {n : Nat} (hn : cs.length = n) (hb : ∀ c ∈ cs, ¬ 255 < c) : CodA cs 0 (Int32.ofNat n) ((cs.map lo8).map Value.int) := Or.inl ⟨rfl, by rw [hn], by simp [List.map_map, Function.comp_def], hb⟩
end StrChars.Road
end Jvm.Pilot.@@N@@

namespace Jvm.Pilot.@@N@@
open Jvm Jvm.ClassFile Sem Op Lib Jvm.Free Jvm.Stand Jvm.LawKit Jvm.RoadKit Bundle Jvm.Pilot.@@N@@.Jvm.D

/-! A small layer of this proof's own: a goal 'the run from here ends well' (own_G), in continuation style, and one rule a step over the library's laws. -/
section OwnKit
variable {p : Program} {l : Launch} {e : Env} {R : Room} {s : State} {m : MethodId} {args : Array Value} {below : List Frame} {meth : Method} {c : Code} {T : State} {locs : List Loc} {cells slots : Nat} {Z : State} {a0 : Array Value} {h : Heap} {F : Outcome → State → Prop} {pc pc' : Nat} {Ls : Array Slot} {st stk : List Value}
/-- from st the run ends, and F holds of its end -/
def own_G (p : Program) (e : Env) (below : List Frame) (F : Outcome → State → Prop) (st : State) : Prop := ∃ U o, Steps p.tables e below st U ∧ U.status = .running ∧ Ended U below o ∧ F o U
theorem own_step {a b : State} (hs : ∀ t, Steps p.tables e below b t → Steps p.tables e below a t) (g : own_G p e below F b) : own_G p e below F a := by
  obtain ⟨U, o, h1, h2⟩ := g; exact ⟨U, o, hs _ h1, h2⟩
theorem own_go {a b : State} (hs : Steps p.tables e below a b) (g : own_G p e below F b) : own_G p e below F a := own_step (fun _ k => hs.trans k) g
/-- it returned v, with Q of v, the heap and the places written -/
def own_F (s : State) (Q : Option Value → Heap → List Loc → Prop) (k n : Nat) (o : Outcome) (U : State) : Prop := ∃ v L, o = .returned v ∧ Q v U.heap L ∧ FrameEnd s o U L k n
abbrev own_Met (l : Launch) (Z : State) (y : MethodName) (bytes : ByteArray) (maxL : Nat) (ret : Option FieldType) (ws : List Jvm.Cond) (rm : Room) (as : Array Value) (h : Heap) (Q : Option Value → Heap → List Loc → Prop) : Prop :=
  MetFree l y (head1 (Jvm.Cond.code y bytes maxL ret :: ws) rm) (fun a U => a = as ∧ Z.Warmed39 U.vm ∧ U.heap = h) (fun _ _ _ _ _ => True) (fun _ U o U' => ∃ v L, o = .returned v ∧ Q v U'.heap L ∧ FrameEnd U o U' L rm.cells rm.slots)
/-- a body that returns r, writes nothing and makes nothing -/
def own_P (r : Option Value) (h0 : Heap) (v : Option Value) (h : Heap) (L : List Loc) : Prop := v = r ∧ L = [] ∧ h = h0
theorem own_enter {y : MethodName} {bytes : ByteArray} {maxL : Nat} {ret : Option FieldType} {ws : List Jvm.Cond} {rm : Room} {as : Array Value} {Q : Option Value → Heap → List Loc → Prop} (hp : plainFor y = true) {fr : Array Slot} (hfr : ∀ m, entryFrame m as maxL = mkF m 0 fr [])
    (body : ∀ (p : Program) (e : Env) (s : State) (m : MethodId) (below : List Frame) (meth : Method) (c : Code) (T : State), p.tables.exec = Jvm.exec → c.code = bytes → c.maxLocals = maxL → Z.Warmed39 s.vm → s.vm.findClass y.cls = some m.cls → meth.name = y.name → meth.sig.returnType = ret → meth.locks = false →
      Stand p l e rm s m as below meth c T [] 0 0 → T.heap = h → own_G p e below (own_F s Q rm.cells rm.slots) (T.setTop (mkF m 0 fr []))) : own_Met l Z y bytes maxL ret ws rm as h Q := by
  refine MetFree.of_bodySF hp hisR ?_
  intro p e s m args below meth c s₁ Bd hml0 hP hK
  obtain ⟨rfl, hZ, hh⟩ := hP
  have q := body p e s m below meth c s₁ Bd.exec Bd.bytes hml0 hZ (findClass_of_methodNamed Bd.named) (name_of_methodNamed Bd.named Bd.method).1 Bd.returns (BodyLoose.notSynchronized Bd) (Stand.of_body Bd) (by rw [← hh, Bd.state]; rfl)
  rw [hfr m]; exact q
theorem own_w {a0 : Array Value} {Z : State} {ts : List Jvm.Cond} (hw : ∀ d ∈ ts, d.before a0 Z = true) (i : Nat) {d : Jvm.Cond} (h : ts[i]? = some d) : d.before a0 Z = true := hw d (List.mem_of_getElem? h)
/-! returns -/
theorem own_ret {Q : Option Value → Heap → List Loc → Prop} {k n : Nat} {v : Option Value} {fr : JFrame} (X : Stand p l e R s m args below meth c T locs cells slots) (hv : meth.sig.returnType = none → v = none) (hlk : meth.locks = false)
    (hst : ∀ fs, (∀ (f : JFrame) (acts : List Action), f.method = m → f.locked = none → f.entered = [] → (doReturn e (T.setTop f) acts v).1 = T.setFrames fs) → Steps p.tables e below (T.setTop fr) (T.setFrames fs)) (hQ : Q v T.heap locs) (hc : cells ≤ k) (hn : slots ≤ n) : own_G p e below (own_F s Q k n) (T.setTop fr) := by
  obtain ⟨fs, hr, hrun, hended, hW, hsame⟩ := X.leave (v := v) hv hlk
  exact ⟨_, _, hst fs hr, hrun, hended, v, locs, rfl, hQ, ⟨_, rfl⟩, hW, hsame.mono hc hn⟩
theorem own_stepI (X : Stand p l e R s m args below meth c T locs cells slots) (hx : p.tables.exec = Jvm.exec) {z : Int32} (hret : meth.sig.returnType = some .int) (hd : decode c.code pc = .ok (.ireturn, 1)) {fs : List Frame}
    (hl : ∀ (f : JFrame) (acts : List Action), f.method = m → f.locked = none → f.entered = [] → (doReturn e (T.setTop f) acts (some (.int z))).1 = T.setFrames fs) : Steps p.tables e below (T.setTop (mkF m pc Ls (.int z :: st))) (T.setFrames fs) :=
  retOut X hx (w := .int z) (t := .int) (i := .ireturn) hret rfl (Or.inl ⟨rfl, Or.inl rfl, z, rfl⟩) hd hl
theorem own_retI {Q : Option Value → Heap → List Loc → Prop} {k n : Nat} {z : Int32} (X : Stand p l e R s m args below meth c T locs cells slots) (hx : p.tables.exec = Jvm.exec) (hret : meth.sig.returnType = some .int) (hlk : meth.locks = false) (hd : decode c.code pc = .ok (.ireturn, 1))
    (hQ : Q (some (.int z)) T.heap locs) (hc : cells ≤ k) (hn : slots ≤ n) : own_G p e below (own_F s Q k n) (T.setTop (mkF m pc Ls (.int z :: st))) :=
  own_ret X (fun q => by rw [hret] at q; cases q) hlk (fun _ hr => own_stepI X hx hret hd hr) hQ hc hn
theorem own_retN {Q : Option Value → Heap → List Loc → Prop} {k n : Nat} {z : Int32} {t : FieldType} (X : Stand p l e R s m args below meth c T locs cells slots) (hx : p.tables.exec = Jvm.exec) (hret : meth.sig.returnType = some t) (ht : t = .boolean ∨ t = .byte ∨ t = .char ∨ t = .short) (hlk : meth.locks = false) (hd : decode c.code pc = .ok (.ireturn, 1))
    (hQ : Q (some (.int (nar t z))) T.heap locs) (hc : cells ≤ k) (hn : slots ≤ n) : own_G p e below (own_F s Q k n) (T.setTop (mkF m pc Ls (.int z :: st))) :=
  own_ret X (fun q => by rw [hret] at q; cases q) hlk (fun _ hr => retN X hx hret ht hd hr) hQ hc hn
theorem own_retR {Q : Option Value → Heap → List Loc → Prop} {k n : Nat} {w : Value} {t : FieldType} (X : Stand p l e R s m args below meth c T locs cells slots) (hx : p.tables.exec = Jvm.exec) (hret : meth.sig.returnType = some t) (ht : t.isReference = true) (hnw : narrow t w = w) (hwr : w.isRef = true) (hlk : meth.locks = false) (hd : decode c.code pc = .ok (.areturn, 1))
    (hQ : Q (some w) T.heap locs) (hc : cells ≤ k) (hn : slots ≤ n) : own_G p e below (own_F s Q k n) (T.setTop (mkF m pc Ls (w :: st))) :=
  own_ret X (fun q => by rw [hret] at q; cases q) hlk (fun _ hr => retOut X hx (t := t) (i := .areturn) hret hnw (Or.inr (Or.inr (Or.inr (Or.inr ⟨rfl, ht, hwr⟩)))) hd hr) hQ hc hn
theorem own_retV {Q : Option Value → Heap → List Loc → Prop} {k n : Nat} (X : Stand p l e R s m args below meth c T locs cells slots) (hx : p.tables.exec = Jvm.exec) (hret : meth.sig.returnType = none) (hlk : meth.locks = false) (hd : decode c.code pc = .ok (.return_, 1))
    (hQ : Q none T.heap locs) (hc : cells ≤ k) (hn : slots ≤ n) : own_G p e below (own_F s Q k n) (T.setTop (mkF m pc Ls [])) :=
  own_ret X (fun _ => rfl) hlk (fun _ hr => X.returnOut hx hret hd hr) hQ hc hn
/-! branches -/
theorem own_icmp {P : Prop} {cd : ClassFile.Cond} {x y : Int32} {o : Int} (X : Stand p l e R s m args below meth c T locs cells slots) (hx : p.tables.exec = Jvm.exec) (hd : decode c.code pc = .ok (.if_icmp cd o, 3)) (ho : 0 ≤ (pc : Int) + o) (hp : ((pc : Int) + o).toNat = pc')
    (h1 : P → if_icmp.holds cd x y = true) (h2 : ¬ P → if_icmp.holds cd x y = false) (yes : P → own_G p e below F (T.setTop (mkF m pc' Ls st))) (no : ¬ P → own_G p e below F (T.setTop (mkF m (pc + 3) Ls st))) : own_G p e below F (T.setTop (mkF m pc Ls (.int y :: .int x :: st))) := by
  by_cases q : P
  · exact own_step (fun t k => XS.icmpYes X.here hx rfl (pc0 := pc) (pc' := pc') rfl hd rfl (h1 q) ho hp k) (yes q)
  · exact own_step (fun t k => XS.icmpNo X.here hx rfl hd rfl (h2 q) k) (no q)
theorem own_ifc {P : Prop} {cd : ClassFile.Cond} {x : Int32} {o : Int} (X : Stand p l e R s m args below meth c T locs cells slots) (hx : p.tables.exec = Jvm.exec) (hd : decode c.code pc = .ok (.ifCond cd o, 3)) (ho : 0 ≤ (pc : Int) + o) (hp : ((pc : Int) + o).toNat = pc')
    (h1 : P → ifCond.holds cd x = true) (h2 : ¬ P → ifCond.holds cd x = false) (yes : P → own_G p e below F (T.setTop (mkF m pc' Ls st))) (no : ¬ P → own_G p e below F (T.setTop (mkF m (pc + 3) Ls st))) : own_G p e below F (T.setTop (mkF m pc Ls (.int x :: st))) := by
  by_cases q : P
  · exact own_step (fun t k => XS.ifYes X.here hx rfl (pc0 := pc) (pc' := pc') rfl hd rfl (h1 q) ho hp k) (yes q)
  · exact own_step (fun t k => XS.ifNo X.here hx rfl hd rfl (h2 q) k) (no q)
theorem own_icmp_eq {x y : Int32} {o : Int} (X : Stand p l e R s m args below meth c T locs cells slots) (hx : p.tables.exec = Jvm.exec) (hd : decode c.code pc = .ok (.if_icmp .eq o, 3)) (ho : 0 ≤ (pc : Int) + o) (hp : ((pc : Int) + o).toNat = pc')
    (yes : x = y → own_G p e below F (T.setTop (mkF m pc' Ls st))) (no : ¬ x = y → own_G p e below F (T.setTop (mkF m (pc + 3) Ls st))) : own_G p e below F (T.setTop (mkF m pc Ls (.int y :: .int x :: st))) :=
  own_icmp (P := x = y) X hx hd ho hp (fun q => by have q' := q; simp [if_icmp.holds, Int32.not_lt, Int32.not_le] at q' ⊢; exact q') (fun q => by have q' := q; simp [if_icmp.holds, Int32.not_lt, Int32.not_le] at q' ⊢; exact q') yes (fun q => no (by first | exact q | exact Classical.not_not.mp q))
theorem own_if_eq {x : Int32} {o : Int} (X : Stand p l e R s m args below meth c T locs cells slots) (hx : p.tables.exec = Jvm.exec) (hd : decode c.code pc = .ok (.ifCond .eq o, 3)) (ho : 0 ≤ (pc : Int) + o) (hp : ((pc : Int) + o).toNat = pc')
    (yes : x = 0 → own_G p e below F (T.setTop (mkF m pc' Ls st))) (no : ¬ x = 0 → own_G p e below F (T.setTop (mkF m (pc + 3) Ls st))) : own_G p e below F (T.setTop (mkF m pc Ls (.int x :: st))) :=
  own_ifc (P := x = 0) X hx hd ho hp (fun q => by have q' := q; simp [ifCond.holds, Int32.not_lt, Int32.not_le] at q' ⊢; exact q') (fun q => by have q' := q; simp [ifCond.holds, Int32.not_lt, Int32.not_le] at q' ⊢; exact q') yes (fun q => no (by first | exact q | exact Classical.not_not.mp q))
theorem own_icmp_ne {x y : Int32} {o : Int} (X : Stand p l e R s m args below meth c T locs cells slots) (hx : p.tables.exec = Jvm.exec) (hd : decode c.code pc = .ok (.if_icmp .ne o, 3)) (ho : 0 ≤ (pc : Int) + o) (hp : ((pc : Int) + o).toNat = pc')
    (yes : ¬ x = y → own_G p e below F (T.setTop (mkF m pc' Ls st))) (no : x = y → own_G p e below F (T.setTop (mkF m (pc + 3) Ls st))) : own_G p e below F (T.setTop (mkF m pc Ls (.int y :: .int x :: st))) :=
  own_icmp (P := ¬ x = y) X hx hd ho hp (fun q => by have q' := q; simp [if_icmp.holds, Int32.not_lt, Int32.not_le] at q' ⊢; exact q') (fun q => by have q' := q; simp [if_icmp.holds, Int32.not_lt, Int32.not_le] at q' ⊢; exact q') yes (fun q => no (by first | exact q | exact Classical.not_not.mp q))
theorem own_if_ne {x : Int32} {o : Int} (X : Stand p l e R s m args below meth c T locs cells slots) (hx : p.tables.exec = Jvm.exec) (hd : decode c.code pc = .ok (.ifCond .ne o, 3)) (ho : 0 ≤ (pc : Int) + o) (hp : ((pc : Int) + o).toNat = pc')
    (yes : ¬ x = 0 → own_G p e below F (T.setTop (mkF m pc' Ls st))) (no : x = 0 → own_G p e below F (T.setTop (mkF m (pc + 3) Ls st))) : own_G p e below F (T.setTop (mkF m pc Ls (.int x :: st))) :=
  own_ifc (P := ¬ x = 0) X hx hd ho hp (fun q => by have q' := q; simp [ifCond.holds, Int32.not_lt, Int32.not_le] at q' ⊢; exact q') (fun q => by have q' := q; simp [ifCond.holds, Int32.not_lt, Int32.not_le] at q' ⊢; exact q') yes (fun q => no (by first | exact q | exact Classical.not_not.mp q))
theorem own_icmp_lt {x y : Int32} {o : Int} (X : Stand p l e R s m args below meth c T locs cells slots) (hx : p.tables.exec = Jvm.exec) (hd : decode c.code pc = .ok (.if_icmp .lt o, 3)) (ho : 0 ≤ (pc : Int) + o) (hp : ((pc : Int) + o).toNat = pc')
    (yes : x < y → own_G p e below F (T.setTop (mkF m pc' Ls st))) (no : ¬ x < y → own_G p e below F (T.setTop (mkF m (pc + 3) Ls st))) : own_G p e below F (T.setTop (mkF m pc Ls (.int y :: .int x :: st))) :=
  own_icmp (P := x < y) X hx hd ho hp (fun q => by have q' := q; simp [if_icmp.holds, Int32.not_lt, Int32.not_le] at q' ⊢; exact q') (fun q => by have q' := q; simp [if_icmp.holds, Int32.not_lt, Int32.not_le] at q' ⊢; exact q') yes (fun q => no (by first | exact q | exact Classical.not_not.mp q))
theorem own_if_lt {x : Int32} {o : Int} (X : Stand p l e R s m args below meth c T locs cells slots) (hx : p.tables.exec = Jvm.exec) (hd : decode c.code pc = .ok (.ifCond .lt o, 3)) (ho : 0 ≤ (pc : Int) + o) (hp : ((pc : Int) + o).toNat = pc')
    (yes : x < 0 → own_G p e below F (T.setTop (mkF m pc' Ls st))) (no : ¬ x < 0 → own_G p e below F (T.setTop (mkF m (pc + 3) Ls st))) : own_G p e below F (T.setTop (mkF m pc Ls (.int x :: st))) :=
  own_ifc (P := x < 0) X hx hd ho hp (fun q => by have q' := q; simp [ifCond.holds, Int32.not_lt, Int32.not_le] at q' ⊢; exact q') (fun q => by have q' := q; simp [ifCond.holds, Int32.not_lt, Int32.not_le] at q' ⊢; exact q') yes (fun q => no (by first | exact q | exact Classical.not_not.mp q))
theorem own_icmp_ge {x y : Int32} {o : Int} (X : Stand p l e R s m args below meth c T locs cells slots) (hx : p.tables.exec = Jvm.exec) (hd : decode c.code pc = .ok (.if_icmp .ge o, 3)) (ho : 0 ≤ (pc : Int) + o) (hp : ((pc : Int) + o).toNat = pc')
    (yes : ¬ x < y → own_G p e below F (T.setTop (mkF m pc' Ls st))) (no : x < y → own_G p e below F (T.setTop (mkF m (pc + 3) Ls st))) : own_G p e below F (T.setTop (mkF m pc Ls (.int y :: .int x :: st))) :=
  own_icmp (P := ¬ x < y) X hx hd ho hp (fun q => by have q' := q; simp [if_icmp.holds, Int32.not_lt, Int32.not_le] at q' ⊢; exact q') (fun q => by have q' := q; simp [if_icmp.holds, Int32.not_lt, Int32.not_le] at q' ⊢; exact q') yes (fun q => no (by first | exact q | exact Classical.not_not.mp q))
theorem own_if_ge {x : Int32} {o : Int} (X : Stand p l e R s m args below meth c T locs cells slots) (hx : p.tables.exec = Jvm.exec) (hd : decode c.code pc = .ok (.ifCond .ge o, 3)) (ho : 0 ≤ (pc : Int) + o) (hp : ((pc : Int) + o).toNat = pc')
    (yes : ¬ x < 0 → own_G p e below F (T.setTop (mkF m pc' Ls st))) (no : x < 0 → own_G p e below F (T.setTop (mkF m (pc + 3) Ls st))) : own_G p e below F (T.setTop (mkF m pc Ls (.int x :: st))) :=
  own_ifc (P := ¬ x < 0) X hx hd ho hp (fun q => by have q' := q; simp [ifCond.holds, Int32.not_lt, Int32.not_le] at q' ⊢; exact q') (fun q => by have q' := q; simp [ifCond.holds, Int32.not_lt, Int32.not_le] at q' ⊢; exact q') yes (fun q => no (by first | exact q | exact Classical.not_not.mp q))
theorem own_icmp_gt {x y : Int32} {o : Int} (X : Stand p l e R s m args below meth c T locs cells slots) (hx : p.tables.exec = Jvm.exec) (hd : decode c.code pc = .ok (.if_icmp .gt o, 3)) (ho : 0 ≤ (pc : Int) + o) (hp : ((pc : Int) + o).toNat = pc')
    (yes : y < x → own_G p e below F (T.setTop (mkF m pc' Ls st))) (no : ¬ y < x → own_G p e below F (T.setTop (mkF m (pc + 3) Ls st))) : own_G p e below F (T.setTop (mkF m pc Ls (.int y :: .int x :: st))) :=
  own_icmp (P := y < x) X hx hd ho hp (fun q => by have q' := q; simp [if_icmp.holds, Int32.not_lt, Int32.not_le] at q' ⊢; exact q') (fun q => by have q' := q; simp [if_icmp.holds, Int32.not_lt, Int32.not_le] at q' ⊢; exact q') yes (fun q => no (by first | exact q | exact Classical.not_not.mp q))
theorem own_if_gt {x : Int32} {o : Int} (X : Stand p l e R s m args below meth c T locs cells slots) (hx : p.tables.exec = Jvm.exec) (hd : decode c.code pc = .ok (.ifCond .gt o, 3)) (ho : 0 ≤ (pc : Int) + o) (hp : ((pc : Int) + o).toNat = pc')
    (yes : 0 < x → own_G p e below F (T.setTop (mkF m pc' Ls st))) (no : ¬ 0 < x → own_G p e below F (T.setTop (mkF m (pc + 3) Ls st))) : own_G p e below F (T.setTop (mkF m pc Ls (.int x :: st))) :=
  own_ifc (P := 0 < x) X hx hd ho hp (fun q => by have q' := q; simp [ifCond.holds, Int32.not_lt, Int32.not_le] at q' ⊢; exact q') (fun q => by have q' := q; simp [ifCond.holds, Int32.not_lt, Int32.not_le] at q' ⊢; exact q') yes (fun q => no (by first | exact q | exact Classical.not_not.mp q))
theorem own_icmp_le {x y : Int32} {o : Int} (X : Stand p l e R s m args below meth c T locs cells slots) (hx : p.tables.exec = Jvm.exec) (hd : decode c.code pc = .ok (.if_icmp .le o, 3)) (ho : 0 ≤ (pc : Int) + o) (hp : ((pc : Int) + o).toNat = pc')
    (yes : ¬ y < x → own_G p e below F (T.setTop (mkF m pc' Ls st))) (no : y < x → own_G p e below F (T.setTop (mkF m (pc + 3) Ls st))) : own_G p e below F (T.setTop (mkF m pc Ls (.int y :: .int x :: st))) :=
  own_icmp (P := ¬ y < x) X hx hd ho hp (fun q => by have q' := q; simp [if_icmp.holds, Int32.not_lt, Int32.not_le] at q' ⊢; exact q') (fun q => by have q' := q; simp [if_icmp.holds, Int32.not_lt, Int32.not_le] at q' ⊢; exact q') yes (fun q => no (by first | exact q | exact Classical.not_not.mp q))
theorem own_if_le {x : Int32} {o : Int} (X : Stand p l e R s m args below meth c T locs cells slots) (hx : p.tables.exec = Jvm.exec) (hd : decode c.code pc = .ok (.ifCond .le o, 3)) (ho : 0 ≤ (pc : Int) + o) (hp : ((pc : Int) + o).toNat = pc')
    (yes : ¬ 0 < x → own_G p e below F (T.setTop (mkF m pc' Ls st))) (no : 0 < x → own_G p e below F (T.setTop (mkF m (pc + 3) Ls st))) : own_G p e below F (T.setTop (mkF m pc Ls (.int x :: st))) :=
  own_ifc (P := ¬ 0 < x) X hx hd ho hp (fun q => by have q' := q; simp [ifCond.holds, Int32.not_lt, Int32.not_le] at q' ⊢; exact q') (fun q => by have q' := q; simp [ifCond.holds, Int32.not_lt, Int32.not_le] at q' ⊢; exact q') yes (fun q => no (by first | exact q | exact Classical.not_not.mp q))
theorem own_nonnull_ref {b : Addr} {o : Int} (X : Stand p l e R s m args below meth c T locs cells slots) (hx : p.tables.exec = Jvm.exec) (hd : decode c.code pc = .ok (.ifnonnull o, 3)) (ho : 0 ≤ (pc : Int) + o) (hp : ((pc : Int) + o).toNat = pc')
    (yes : own_G p e below F (T.setTop (mkF m pc' Ls st))) : own_G p e below F (T.setTop (mkF m pc Ls (.ref b :: st))) := own_step (fun t k => XT.ifnonnullYes X.here hx rfl (pc0 := pc) (pc' := pc') rfl hd rfl ho hp k) yes
theorem own_nonnull_null {o : Int} (X : Stand p l e R s m args below meth c T locs cells slots) (hx : p.tables.exec = Jvm.exec) (hd : decode c.code pc = .ok (.ifnonnull o, 3))
    (no : own_G p e below F (T.setTop (mkF m (pc + 3) Ls st))) : own_G p e below F (T.setTop (mkF m pc Ls (.null :: st))) := own_step (fun t k => XT.ifnonnullNo X.here hx rfl hd rfl k) no
/-! the heap -/
theorem own_getF (X : Stand p l e R s m args below meth c T locs cells slots) (hx : p.tables.exec = Jvm.exec) (hZ : Z.Warmed39 s.vm) {own O n d : String} {index : Nat} (hown : s.vm.findClass own = some m.cls) (w : (Jvm.Cond.fieldLink own index O n d).before a0 Z = true) (eT : T.heap = h) {a : Addr} {v : Value} (Fd : Fld Z h a O n d v) (hd : decode c.code pc = .ok (.getfield index, 3))
    (k : ∀ T', Stand p l e R s m args below meth c T' locs cells slots → T'.heap = h → own_G p e below F (T'.setTop (mkF m (pc + 3) Ls (v :: st)))) : own_G p e below F (T.setTop (mkF m pc Ls (.ref a :: st))) := by
  obtain ⟨T', X', e', st'⟩ := getF X hx hZ hown (host := "") (Or.inl w) Via.refl eT Fd (g := mkF m pc Ls (.ref a :: st)) rfl rfl hd
  exact own_step st' (k T' X' e')
theorem own_getS (X : Stand p l e R s m args below meth c T locs cells slots) (hx : p.tables.exec = Jvm.exec) (hZ : Z.Warmed39 s.vm) {own O n d : String} {index : Nat} (hown : s.vm.findClass own = some m.cls) (w : (Jvm.Cond.fieldLink own index O n d).before a0 Z = true) (eT : T.heap = h) {v : Value} (Fd : Sta Z h O n d v) (hd : decode c.code pc = .ok (.getstatic index, 3))
    (k : ∀ T', Stand p l e R s m args below meth c T' locs cells slots → T'.heap = h → own_G p e below F (T'.setTop (mkF m (pc + 3) Ls (v :: st)))) : own_G p e below F (T.setTop (mkF m pc Ls st)) := by
  obtain ⟨T', X', e', st'⟩ := getS X hx hZ (host := "") hown w Via.refl eT Fd (g := mkF m pc Ls st) rfl hd
  exact own_step st' (k T' X' e')
theorem own_putF (X : Stand p l e R s m args below meth c T locs cells slots) (hx : p.tables.exec = Jvm.exec) (hZ : Z.Warmed39 s.vm) {own O n d C : String} {index kk : Nat} {ty : FieldType} (hown : s.vm.findClass own = some m.cls) (w : (Jvm.Cond.fieldLink own index O n d).before a0 Z = true) (eT : T.heap = h) {a : Addr} {v old : Value} (Fd : Fld Z h a O n d old) (E : Exa Z h a C)
    (L : (Jvm.Cond.lays C O n d).before a0 Z = true ∨ ((Jvm.Cond.laysFinal C O n d).before a0 Z = true ∧ own = O ∧ meth.name = "<init>")) (wi : (Jvm.Cond.instantiable C kk).before a0 Z = true) (hty : parseFieldDescriptor d = some ty) (hn : narrow ty v = v) (hf : fits ty v = true) (N : Fr Z.heap.size locs) (ha : Z.heap.size ≤ a) (hd : decode c.code pc = .ok (.putfield index, 3))
    (k : ∀ T' h', Stand p l e R s m args below meth c T' (locs ++ [⟨a, Jvm.RoadKit.slotOf Z O n d⟩]) cells slots → T'.heap = h' → Fr Z.heap.size (locs ++ [⟨a, Jvm.RoadKit.slotOf Z O n d⟩]) → Wr h h' a (Jvm.RoadKit.slotOf Z O n d) v → h'.size = h.size → Fld Z h' a O n d v → Exa Z h' a C → own_G p e below F (T'.setTop (mkF m (pc + 3) Ls st))) : own_G p e below F (T.setTop (mkF m pc Ls (v :: .ref a :: st))) := by
  obtain ⟨T', h', X', e', W', st'⟩ := putF X hx hZ hown (host := "") (Or.inl w) Via.refl eT Fd E L wi hty hn hf (g := mkF m pc Ls (v :: .ref a :: st)) rfl rfl hd
  exact own_step st' (k T' h' X' e' (Fr.snoc X' N ha) W' W'.size (Fd.same W') (E.wr W'))
theorem own_newO (X : Stand p l e R s m args below meth c T locs cells slots) (hx : p.tables.exec = Jvm.exec) (hZ : Z.Warmed39 s.vm) {own C : String} {index n : Nat} (hown : s.vm.findClass own = some m.cls) (w : (Jvm.Cond.classLink own index C).before a0 Z = true) (wi : (Jvm.Cond.instantiable C n).before a0 Z = true) (wz : (Jvm.Cond.initialized C).before a0 Z = true) (eT : T.heap = h)
    (hd : decode c.code pc = .ok (.new index, 3)) (hc : cells + 1 ≤ R.cells) (hl : slots + n ≤ R.slots)
    (k : ∀ T' h' a, Stand p l e R s m args below meth c T' locs (cells + 1) (slots + n) → T'.heap = h' → a = h.size → a < h'.size → Ext h h' → Exa Z h' a C → (∀ {O nm d : String} {ty : FieldType}, Laid Z a0 C O nm d → parseFieldDescriptor d = some ty → Fld Z h' a O nm d (defaultValue ty)) →
      own_G p e below F (T'.setTop (mkF m (pc + 3) Ls (.ref a :: st)))) : own_G p e below F (T.setTop (mkF m pc Ls st)) := by
  obtain ⟨T', h', X', e', E', A', D', -, st'⟩ := newO X hx hZ hown w wi wz eT (g := mkF m pc Ls st) rfl hd hc hl
  exact own_step st' (k T' h' h.size X' e' rfl A'.lt E' A' D')
/-- newarray, its places said one by one -/
theorem own_newP (X : Stand p l e R s m args below meth c T locs cells slots) (hx : p.tables.exec = Jvm.exec) (hZ : Z.Warmed39 s.vm) {aty : ArrayType} (w : (Jvm.Cond.arrayClass (newarray.typeOf aty)).before a0 Z = true) (eT : T.heap = h) (hd : decode c.code pc = .ok (.newarray aty, 2)) {n : Int32} (hn : ¬ n < 0) (cap : Nat) (hcap : n.toNatClampNeg ≤ cap) (hb : cap * 8 ≤ 536870912) (hc : cells + 1 ≤ R.cells) (hl : slots + cap ≤ R.slots)
    (k : ∀ T' h' a kA, Stand p l e R s m args below meth c T' locs (cells + 1) (slots + cap) → T'.heap = h' → a = h.size → a < h'.size → Ext h h' → Arv Z h' a kA (newarray.typeOf aty) n (List.replicate n.toNatClampNeg (defaultValue (newarray.typeOf aty))) (defaultValue (newarray.typeOf aty)) →
      own_G p e below F (T'.setTop (mkF m (pc + 2) Ls (.ref a :: st)))) : own_G p e below F (T.setTop (mkF m pc Ls (.int n :: st))) := by
  obtain ⟨T', h', cA, X', e', E', A', st'⟩ := newP X hx hZ w eT (g := mkF m pc Ls (.int n :: st)) rfl hd rfl hn (cap := cap) hcap hb hc hl
  exact own_step st' (k T' h' h.size cA X' e' rfl A'.lt E' ((Arv.new A' hn).pad (by have q := pad_rep [] (defaultValue (newarray.typeOf aty)) n.toNatClampNeg; simpa using q)))
theorem own_inb {n : Int32} {i : Nat} {j : Int32} (hj0 : ¬ j < 0) (hj : j.toNatClampNeg = i) (hi : i < n.toNatClampNeg) : ¬ j < 0 ∧ j < n := by
  refine ⟨hj0, ?_⟩
  rw [Int32.lt_iff_toInt_lt]
  simp only [Int32.toNatClampNeg] at hj hi
  rw [Int32.lt_iff_toInt_lt] at hj0
  simp only [Int32.reduceToInt] at hj0
  omega
theorem own_stC (X : Stand p l e R s m args below meth c T locs cells slots) (hx : p.tables.exec = Jvm.exec) (hZ : Z.Warmed39 s.vm) (eT : T.heap = h) {a : Addr} {kA : ClassId} {n : Int32} {vs : List Value} {dv : Value} (V : Arv Z h a kA .char n vs dv) {j x : Int32} (i : Nat) (hj0 : ¬ j < 0) (hj : j.toNatClampNeg = i) (hi : i < n.toNatClampNeg) (hi' : i < vs.length) (N : Fr Z.heap.size locs) (ha : Z.heap.size ≤ a) (hd : decode c.code pc = .ok (.castore, 1))
    (k : ∀ T' h', Stand p l e R s m args below meth c T' (locs ++ [⟨a, j.toNatClampNeg⟩]) cells slots → T'.heap = h' → Fr Z.heap.size (locs ++ [⟨a, j.toNatClampNeg⟩]) → Wr h h' a j.toNatClampNeg (.int (nar .char x)) → h'.size = h.size → Arv Z h' a kA .char n (vs.set i (.int (nar .char x))) dv → own_G p e below F (T'.setTop (mkF m (pc + 1) Ls st))) :
    own_G p e below F (T.setTop (mkF m pc Ls (.int x :: .int j :: .ref a :: st))) := by
  obtain ⟨cl, A, q1, S, q3, H, G⟩ := V
  obtain ⟨T', h', X', e', W', st'⟩ := stC X hx hZ eT A (j := j) (inb_of S (own_inb hj0 hj hi)) (g := mkF m pc Ls (.int x :: .int j :: .ref a :: st)) rfl rfl hd
  exact own_step st' (k T' h' X' e' (Fr.snoc X' N ha) W' W'.size (Arv.set A q1 S q3 H G (fits_nar_char _) W' i hj hi'))
theorem own_stI (X : Stand p l e R s m args below meth c T locs cells slots) (hx : p.tables.exec = Jvm.exec) (hZ : Z.Warmed39 s.vm) (eT : T.heap = h) {a : Addr} {kA : ClassId} {n : Int32} {vs : List Value} {dv : Value} (V : Arv Z h a kA .int n vs dv) {j x : Int32} (i : Nat) (hj0 : ¬ j < 0) (hj : j.toNatClampNeg = i) (hi : i < n.toNatClampNeg) (hi' : i < vs.length) (N : Fr Z.heap.size locs) (ha : Z.heap.size ≤ a) (hd : decode c.code pc = .ok (.iastore, 1))
    (k : ∀ T' h', Stand p l e R s m args below meth c T' (locs ++ [⟨a, j.toNatClampNeg⟩]) cells slots → T'.heap = h' → Fr Z.heap.size (locs ++ [⟨a, j.toNatClampNeg⟩]) → Wr h h' a j.toNatClampNeg (.int x) → h'.size = h.size → Arv Z h' a kA .int n (vs.set i (.int x)) dv → own_G p e below F (T'.setTop (mkF m (pc + 1) Ls st))) :
    own_G p e below F (T.setTop (mkF m pc Ls (.int x :: .int j :: .ref a :: st))) := by
  obtain ⟨cl, A, q1, S, q3, H, G⟩ := V
  obtain ⟨T', h', X', e', W', st'⟩ := stI X hx hZ eT A (j := j) (inb_of S (own_inb hj0 hj hi)) (g := mkF m pc Ls (.int x :: .int j :: .ref a :: st)) rfl rfl hd
  exact own_step st' (k T' h' X' e' (Fr.snoc X' N ha) W' W'.size (Arv.set A q1 S q3 H G rfl W' i hj hi'))
theorem own_stB (X : Stand p l e R s m args below meth c T locs cells slots) (hx : p.tables.exec = Jvm.exec) (hZ : Z.Warmed39 s.vm) (eT : T.heap = h) {a : Addr} {kA : ClassId} {n : Int32} {vs : List Value} {dv : Value} (V : Arv Z h a kA .byte n vs dv) {j x : Int32} (i : Nat) (hj0 : ¬ j < 0) (hj : j.toNatClampNeg = i) (hi : i < n.toNatClampNeg) (hi' : i < vs.length) (N : Fr Z.heap.size locs) (ha : Z.heap.size ≤ a) (hd : decode c.code pc = .ok (.bastore, 1))
    (k : ∀ T' h', Stand p l e R s m args below meth c T' (locs ++ [⟨a, j.toNatClampNeg⟩]) cells slots → T'.heap = h' → Fr Z.heap.size (locs ++ [⟨a, j.toNatClampNeg⟩]) → Wr h h' a j.toNatClampNeg (.int (nar .byte x)) → h'.size = h.size → Arv Z h' a kA .byte n (vs.set i (.int (nar .byte x))) dv → own_G p e below F (T'.setTop (mkF m (pc + 1) Ls st))) :
    own_G p e below F (T.setTop (mkF m pc Ls (.int x :: .int j :: .ref a :: st))) := by
  obtain ⟨cl, A, q1, S, q3, H, G⟩ := V
  obtain ⟨T', h', X', e', W', st'⟩ := stB X hx hZ eT A (j := j) (inb_of S (own_inb hj0 hj hi)) (g := mkF m pc Ls (.int x :: .int j :: .ref a :: st)) rfl rfl hd
  exact own_step st' (k T' h' X' e' (Fr.snoc X' N ha) W' W'.size (Arv.set A q1 S q3 H G (fits_nar_byte _) W' i hj hi'))
theorem own_ldC (X : Stand p l e R s m args below meth c T locs cells slots) (hx : p.tables.exec = Jvm.exec) (hZ : Z.Warmed39 s.vm) (eT : T.heap = h) {a : Addr} {kA : ClassId} {n : Int32} {vs : List Value} {dv v : Value} (V : Arv Z h a kA .char n vs dv) {j : Int32} (i : Nat) (hj0 : ¬ j < 0) (hj : j.toNatClampNeg = i) (hi : i < n.toNatClampNeg) (hv : vs.getD i dv = v) (hd : decode c.code pc = .ok (.caload, 1))
    (k : own_G p e below F (T.setTop (mkF m (pc + 1) Ls (v :: st)))) : own_G p e below F (T.setTop (mkF m pc Ls (.int j :: .ref a :: st))) := by
  obtain ⟨cl, A, q1, S, q3, H, G⟩ := V
  have hin := inb_of S (own_inb hj0 hj hi)
  exact own_step (X.caload hx (by rw [eT]; exact A.1) (State.isArrayOf_alike hZ.alike A.2.1) A.2.2 hin (Has.at H hin (by rw [hj]; exact hv)) (g := mkF m pc Ls (.int j :: .ref a :: st)) rfl rfl hd) k
theorem own_ldI (X : Stand p l e R s m args below meth c T locs cells slots) (hx : p.tables.exec = Jvm.exec) (hZ : Z.Warmed39 s.vm) (eT : T.heap = h) {a : Addr} {kA : ClassId} {n : Int32} {vs : List Value} {dv v : Value} (V : Arv Z h a kA .int n vs dv) {j : Int32} (i : Nat) (hj0 : ¬ j < 0) (hj : j.toNatClampNeg = i) (hi : i < n.toNatClampNeg) (hv : vs.getD i dv = v) (hd : decode c.code pc = .ok (.iaload, 1))
    (k : own_G p e below F (T.setTop (mkF m (pc + 1) Ls (v :: st)))) : own_G p e below F (T.setTop (mkF m pc Ls (.int j :: .ref a :: st))) := by
  obtain ⟨cl, A, q1, S, q3, H, G⟩ := V
  have hin := inb_of S (own_inb hj0 hj hi)
  exact own_step (X.iaload hx (by rw [eT]; exact A.1) (State.isArrayOf_alike hZ.alike A.2.1) A.2.2 hin (Has.at H hin (by rw [hj]; exact hv)) (g := mkF m pc Ls (.int j :: .ref a :: st)) rfl rfl hd) k
theorem own_ldB (X : Stand p l e R s m args below meth c T locs cells slots) (hx : p.tables.exec = Jvm.exec) (hZ : Z.Warmed39 s.vm) (eT : T.heap = h) {a : Addr} {kA : ClassId} {n : Int32} {vs : List Value} {dv v : Value} (V : Arv Z h a kA .byte n vs dv) {j : Int32} (i : Nat) (hj0 : ¬ j < 0) (hj : j.toNatClampNeg = i) (hi : i < n.toNatClampNeg) (hv : vs.getD i dv = v) (hd : decode c.code pc = .ok (.baload, 1))
    (k : own_G p e below F (T.setTop (mkF m (pc + 1) Ls (v :: st)))) : own_G p e below F (T.setTop (mkF m pc Ls (.int j :: .ref a :: st))) := by
  obtain ⟨cl, A, q1, S, q3, H, G⟩ := V
  have hin := inb_of S (own_inb hj0 hj hi)
  exact own_step (X.baloadBytes hx (by rw [eT]; exact A.1) (State.isArrayOf_alike hZ.alike A.2.1) A.2.2 hin (Has.at H hin (by rw [hj]; exact hv)) (g := mkF m pc Ls (.int j :: .ref a :: st)) rfl rfl hd) k
theorem own_len (X : Stand p l e R s m args below meth c T locs cells slots) (hx : p.tables.exec = Jvm.exec) (hZ : Z.Warmed39 s.vm) (eT : T.heap = h) {a : Addr} {kA : ClassId} {ty : FieldType} {n : Int32} {vs : List Value} {dv : Value} (V : Arv Z h a kA ty n vs dv) (hd : decode c.code pc = .ok (.arraylength, 1))
    (k : own_G p e below F (T.setTop (mkF m (pc + 1) Ls (.int n :: st)))) : own_G p e below F (T.setTop (mkF m pc Ls (.ref a :: st))) := by
  obtain ⟨cl, A, q1, S, q3, H, G⟩ := V
  exact own_step (fun t q => X.arraylength hx (by rw [eT]; exact A.1) (State.isArrayOf_alike hZ.alike A.2.1) (g := mkF m pc Ls (.ref a :: st)) rfl rfl hd t (by rw [len_of S q3]; exact q)) k
/-! calls; a callee's law in the shape that backOf gives -/
abbrev own_B (l : Launch) (R : Room) (p : Program) (e : Env) (below : List Frame) (s : State) (args : Array Value) (y : MethodName) (W : Nat) (as : Array Value) (h : Heap) (kc kn : Nat) (Q : Option Value → Heap → List Loc → Prop) : Prop :=
  Back l R p e below s args y 3 W (fun A a => a = as ∧ A.U.heap = h ∧ A.cells + kc ≤ R.cells ∧ A.slots + kn ≤ R.slots) (fun A _ v B => ∃ L, Q v B.U.heap L ∧ B.locs = A.locs ++ L ∧ B.cells = A.cells + kc ∧ B.slots = A.slots + kn)
theorem own_static {Q : Option Value → Heap → List Loc → Prop} {kc kn W : Nat} {argsL : List Value} (X : Stand p l e R s m args below meth c T locs cells slots) (hx : p.tables.exec = Jvm.exec) (hZ : Z.Warmed39 s.vm) {own : String} {index : Nat} {y : MethodName} {bytes : ByteArray} {maxL : Nat} {ret : Option FieldType} (hown : s.vm.findClass own = some m.cls)
    (w1 : (Jvm.Cond.methodLink own index y).before a0 Z = true) (w2 : (Jvm.Cond.static y).before a0 Z = true) (w3 : (Jvm.Cond.initialized y.cls).before a0 Z = true) (w4 : (Jvm.Cond.code y bytes maxL ret).before a0 Z = true) (hy : y.cls ≠ "java/lang/invoke/MethodHandle" ∧ y.cls ≠ "java/lang/invoke/VarHandle") (eT : T.heap = h)
    (hK : own_B l R p e below s args y W argsL.toArray h kc kn Q) (hc : cells + kc ≤ R.cells) (hs : slots + kn ≤ R.slots) (hsz : Ls.size = c.maxLocals) (hlen : ∀ sig, parseMethodDescriptor y.desc = some sig → argsL.length = sig.parameters.length) (hstk : stk = argsL.reverse ++ st) (hW : (st.map fun v => v.category).sum ≤ W)
    (hd : decode c.code pc = .ok (.invokestatic index, 3)) (k : ∀ v T' L, Stand p l e R s m args below meth c T' (locs ++ L) (cells + kc) (slots + kn) → Q v T'.heap L → own_G p e below F (T'.setTop (mkF m (pc + 3) Ls (v.toList ++ st)))) : own_G p e below F (T.setTop (mkF m pc Ls stk)) := by
  obtain ⟨v, _, ⟨T', L', k', n'⟩, -, X', ⟨L, hQ, l1, y1, z1⟩, st'⟩ := Jvm.LawKit.callS X hx hown (mvT hZ w1) (mvT hZ w2) (mvT hZ w3) (mvT hZ w4) hy hK (g := mkF m pc Ls stk) rfl hsz (argsL := argsL) (rest := st) hlen hstk (by show 2 * 0 + _ ≤ _; omega) hd (fun _ _ => ⟨rfl, eT, hc, hs⟩)
  dsimp only [Pt.U, Pt.locs, Pt.cells, Pt.slots] at X' l1 y1 z1 st' hQ
  subst l1 y1 z1
  exact own_step st' (k v T' L X' hQ)
theorem own_special {Q : Option Value → Heap → List Loc → Prop} {kc kn W : Nat} {argsL : List Value} {a : Addr} (X : Stand p l e R s m args below meth c T locs cells slots) (hx : p.tables.exec = Jvm.exec) (hZ : Z.Warmed39 s.vm) {own : String} {index : Nat} {y : MethodName} {bytes : ByteArray} {maxL : Nat} (hown : s.vm.findClass own = some m.cls) (hy1 : y.name = "<init>")
    (w1 : (Jvm.Cond.methodLink own index y).before a0 Z = true) (w2 : (Jvm.Cond.instanceMethod y).before a0 Z = true) (w4 : (Jvm.Cond.code y bytes maxL none).before a0 Z = true) (hy : y.cls ≠ "java/lang/invoke/MethodHandle" ∧ y.cls ≠ "java/lang/invoke/VarHandle") (eT : T.heap = h)
    (hK : own_B l R p e below s args y W (.ref a :: argsL).toArray h kc kn Q) (hc : cells + kc ≤ R.cells) (hs : slots + kn ≤ R.slots) (hsz : Ls.size = c.maxLocals) (hlen : ∀ sig, parseMethodDescriptor y.desc = some sig → argsL.length = sig.parameters.length) (hstk : stk = argsL.reverse ++ .ref a :: st) (hW : (st.map fun v => v.category).sum ≤ W)
    (hd : decode c.code pc = .ok (.invokespecial index, 3)) (k : ∀ v T' L, Stand p l e R s m args below meth c T' (locs ++ L) (cells + kc) (slots + kn) → Q v T'.heap L → own_G p e below F (T'.setTop (mkF m (pc + 3) Ls (v.toList ++ st)))) : own_G p e below F (T.setTop (mkF m pc Ls stk)) := by
  obtain ⟨v, _, ⟨T', L', k', n'⟩, -, X', ⟨L, hQ, l1, y1, z1⟩, st'⟩ := X.specialBack hx hy1 hown (mvT hZ w1) (mvT hZ w2) (mvT hZ w4) hy hK (g := mkF m pc Ls stk) rfl hsz (Steps.refl _) (a := a) (argsL := argsL) (rest := st) hlen hstk (by show 2 * 0 + _ ≤ _; omega) hd (fun _ _ => ⟨rfl, eT, hc, hs⟩)
  dsimp only [Pt.U, Pt.locs, Pt.cells, Pt.slots] at X' l1 y1 z1 st' hQ
  subst l1 y1 z1
  exact own_go st' (k v T' L X' hQ)
theorem own_virtual {Q : Option Value → Heap → List Loc → Prop} {kc kn W : Nat} {argsL : List Value} {a : Addr} {C : String} (X : Stand p l e R s m args below meth c T locs cells slots) (hx : p.tables.exec = Jvm.exec) (hZ : Z.Warmed39 s.vm) {own : String} {index : Nat} {y : MethodName} (hown : s.vm.findClass own = some m.cls)
    (w1 : (Jvm.Cond.methodLink own index y).before a0 Z = true) (w2 : (Jvm.Cond.declares y).before a0 Z = true) (w3 : (Jvm.Cond.selects C y y).before a0 Z = true) (hCy : C = y.cls) (w4 : (Jvm.Cond.instanceMethod y).before a0 Z = true) (hy : y.cls ≠ "java/lang/invoke/MethodHandle" ∧ y.cls ≠ "java/lang/invoke/VarHandle") (eT : T.heap = h) (E : Exa Z h a C)
    (hK : own_B l R p e below s args y W (.ref a :: argsL).toArray h kc kn Q) (hc : cells + kc ≤ R.cells) (hs : slots + kn ≤ R.slots) (hsz : Ls.size = c.maxLocals) (hlen : ∀ sig, parseMethodDescriptor y.desc = some sig → argsL.length = sig.parameters.length) (hstk : stk = argsL.reverse ++ .ref a :: st) (hW : (st.map fun v => v.category).sum ≤ W)
    (hd : decode c.code pc = .ok (.invokevirtual index, 3)) (k : ∀ v T' L, Stand p l e R s m args below meth c T' (locs ++ L) (cells + kc) (slots + kn) → Q v T'.heap L → own_G p e below F (T'.setTop (mkF m (pc + 3) Ls (v.toList ++ st)))) : own_G p e below F (T.setTop (mkF m pc Ls stk)) := by
  subst hCy
  obtain ⟨cB, kB, q1, q2, q3⟩ := isOf hZ eT E
  obtain ⟨v, _, ⟨T', L', k', n'⟩, -, X', ⟨L, hQ, l1, y1, z1⟩, st'⟩ := X.virtualBack hx hown (mvT hZ w1) (mvT hZ w2) (notFace_of_selects (args := #[]) (mvT hZ w3)) (mvT hZ w3) (mvT hZ w4) hy hK q1 q3 (g := mkF m pc Ls stk) rfl hsz (Steps.refl _) (argsL := argsL) (rest := st) hlen hstk (by show 2 * 0 + _ ≤ _; omega) hd (fun _ _ => ⟨rfl, eT, hc, hs⟩)
  dsimp only [Pt.U, Pt.locs, Pt.cells, Pt.slots] at X' l1 y1 z1 st' hQ
  subst l1 y1 z1
  exact own_go st' (k v T' L X' hQ)
theorem own_back {y : MethodName} {bytes : ByteArray} {maxL : Nat} {ret : Option FieldType} {rm : Room} {W : Nat} {as' : Array Value} {Q : Option Value → Heap → List Loc → Prop} (hM : own_Met l Z y bytes maxL ret [] rm as' h Q) (hZ : Z.Warmed39 s.vm) (wc : (Jvm.Cond.code y bytes maxL ret).before a0 Z = true) (wz : (Jvm.Cond.initialized y.cls).before a0 Z = true) (hf : rm.frames + 1 ≤ R.frames) (hl : W + (maxL + 11) + rm.locals ≤ R.locals) :
    own_B l R p e below s args y W as' h rm.cells rm.slots Q := backOf hM hZ wc wz hf hl
/-- a static call of a body that changes nothing -/
theorem own_staticP {r : Option Value} {fr lo W : Nat} {argsL : List Value} (X : Stand p l e R s m args below meth c T locs cells slots) (hx : p.tables.exec = Jvm.exec) (hZ : Z.Warmed39 s.vm) {own : String} {index : Nat} {y : MethodName} {bytes : ByteArray} {maxL : Nat} {ret : Option FieldType} (hown : s.vm.findClass own = some m.cls)
    (w1 : (Jvm.Cond.methodLink own index y).before a0 Z = true) (w2 : (Jvm.Cond.static y).before a0 Z = true) (w3 : (Jvm.Cond.initialized y.cls).before a0 Z = true) (w4 : (Jvm.Cond.code y bytes maxL ret).before a0 Z = true) (hy : y.cls ≠ "java/lang/invoke/MethodHandle" ∧ y.cls ≠ "java/lang/invoke/VarHandle") (eT : T.heap = h)
    (hM : own_Met l Z y bytes maxL ret [] ⟨fr, 0, 0, lo⟩ argsL.toArray h (own_P r h)) (hf : fr + 1 ≤ R.frames) (hl : W + (maxL + 11) + lo ≤ R.locals) (hc : cells ≤ R.cells) (hs : slots ≤ R.slots) (hsz : Ls.size = c.maxLocals) (hlen : ∀ sig, parseMethodDescriptor y.desc = some sig → argsL.length = sig.parameters.length) (hstk : stk = argsL.reverse ++ st) (hW : (st.map fun v => v.category).sum ≤ W)
    (hd : decode c.code pc = .ok (.invokestatic index, 3)) (k : ∀ T', Stand p l e R s m args below meth c T' locs cells slots → T'.heap = h → own_G p e below F (T'.setTop (mkF m (pc + 3) Ls (r.toList ++ st)))) : own_G p e below F (T.setTop (mkF m pc Ls stk)) :=
  own_static X hx hZ hown w1 w2 w3 w4 hy eT (own_back hM hZ w4 w3 hf hl) hc hs hsz hlen hstk hW hd fun v T' L X' hQ => by
    obtain ⟨rfl, rfl, hh⟩ := hQ
    rw [List.append_nil] at X'
    exact k T' X' hh
theorem own_virtualP {r : Option Value} {fr lo W : Nat} {argsL : List Value} {a : Addr} {C : String} (X : Stand p l e R s m args below meth c T locs cells slots) (hx : p.tables.exec = Jvm.exec) (hZ : Z.Warmed39 s.vm) {own : String} {index : Nat} {y : MethodName} {bytes : ByteArray} {maxL : Nat} {ret : Option FieldType} (hown : s.vm.findClass own = some m.cls)
    (w1 : (Jvm.Cond.methodLink own index y).before a0 Z = true) (w2 : (Jvm.Cond.declares y).before a0 Z = true) (w3 : (Jvm.Cond.selects C y y).before a0 Z = true) (hCy : C = y.cls) (w4 : (Jvm.Cond.instanceMethod y).before a0 Z = true) (hy : y.cls ≠ "java/lang/invoke/MethodHandle" ∧ y.cls ≠ "java/lang/invoke/VarHandle") (eT : T.heap = h) (E : Exa Z h a C)
    (hM : own_Met l Z y bytes maxL ret [] ⟨fr, 0, 0, lo⟩ (.ref a :: argsL).toArray h (own_P r h)) (wc : (Jvm.Cond.code y bytes maxL ret).before a0 Z = true) (wz : (Jvm.Cond.initialized y.cls).before a0 Z = true) (hf : fr + 1 ≤ R.frames) (hl : W + (maxL + 11) + lo ≤ R.locals) (hc : cells ≤ R.cells) (hs : slots ≤ R.slots) (hsz : Ls.size = c.maxLocals) (hlen : ∀ sig, parseMethodDescriptor y.desc = some sig → argsL.length = sig.parameters.length) (hstk : stk = argsL.reverse ++ .ref a :: st) (hW : (st.map fun v => v.category).sum ≤ W)
    (hd : decode c.code pc = .ok (.invokevirtual index, 3)) (k : ∀ T', Stand p l e R s m args below meth c T' locs cells slots → T'.heap = h → own_G p e below F (T'.setTop (mkF m (pc + 3) Ls (r.toList ++ st)))) : own_G p e below F (T.setTop (mkF m pc Ls stk)) :=
  own_virtual X hx hZ hown w1 w2 w3 hCy w4 hy eT E (own_back hM hZ wc wz hf hl) hc hs hsz hlen hstk hW hd fun v T' L X' hQ => by
    obtain ⟨rfl, rfl, hh⟩ := hQ
    rw [List.append_nil] at X'
    exact k T' X' hh
theorem own_initO (X : Stand p l e R s m args below meth c T locs cells slots) (hx : p.tables.exec = Jvm.exec) (hZ : Z.Warmed39 s.vm) {own : String} {index W : Nat} {a : Addr} (hown : s.vm.findClass own = some m.cls) (w1 : (Jvm.Cond.methodLink own index Lib.objectInit).before a0 Z = true) (w2 : (Jvm.Cond.instanceMethod Lib.objectInit).before a0 Z = true) (w3 : (Jvm.Cond.code Lib.objectInit ⟨#[0xb1]⟩ 1 none).before a0 Z = true) (eT : T.heap = h)
    (hsz : Ls.size = c.maxLocals) (hd : decode c.code pc = .ok (.invokespecial index, 3)) (hf : 1 ≤ R.frames) (hW : (st.map fun v => v.category).sum ≤ W) (hl : W + 12 ≤ R.locals)
    (k : ∀ T', Stand p l e R s m args below meth c T' locs cells slots → T'.heap = h → own_G p e below F (T'.setTop (mkF m (pc + 3) Ls st))) : own_G p e below F (T.setTop (mkF m pc Ls (.ref a :: st))) := by
  obtain ⟨T', X', e', st'⟩ := initO X hx hZ hown w1 w2 w3 eT (g := mkF m pc Ls (.ref a :: st)) rfl hsz rfl hd hf (W := W) (by show 2 * 0 + _ ≤ _; omega) hl
  exact own_step st' (k T' X' e')
theorem own_specialP {r : Option Value} {fr lo W : Nat} {argsL : List Value} {a : Addr} (X : Stand p l e R s m args below meth c T locs cells slots) (hx : p.tables.exec = Jvm.exec) (hZ : Z.Warmed39 s.vm) {own : String} {index : Nat} {y : MethodName} {bytes : ByteArray} {maxL : Nat} (hown : s.vm.findClass own = some m.cls) (hy1 : y.name = "<init>")
    (w1 : (Jvm.Cond.methodLink own index y).before a0 Z = true) (w2 : (Jvm.Cond.instanceMethod y).before a0 Z = true) (w4 : (Jvm.Cond.code y bytes maxL none).before a0 Z = true) (hy : y.cls ≠ "java/lang/invoke/MethodHandle" ∧ y.cls ≠ "java/lang/invoke/VarHandle") (eT : T.heap = h)
    (hM : own_Met l Z y bytes maxL none [] ⟨fr, 0, 0, lo⟩ (.ref a :: argsL).toArray h (own_P r h)) (wz : (Jvm.Cond.initialized y.cls).before a0 Z = true) (hf : fr + 1 ≤ R.frames) (hl : W + (maxL + 11) + lo ≤ R.locals) (hc : cells ≤ R.cells) (hs : slots ≤ R.slots) (hsz : Ls.size = c.maxLocals) (hlen : ∀ sig, parseMethodDescriptor y.desc = some sig → argsL.length = sig.parameters.length) (hstk : stk = argsL.reverse ++ .ref a :: st) (hW : (st.map fun v => v.category).sum ≤ W)
    (hd : decode c.code pc = .ok (.invokespecial index, 3)) (k : ∀ T', Stand p l e R s m args below meth c T' locs cells slots → T'.heap = h → own_G p e below F (T'.setTop (mkF m (pc + 3) Ls (r.toList ++ st)))) : own_G p e below F (T.setTop (mkF m pc Ls stk)) :=
  own_special X hx hZ hown hy1 w1 w2 w4 hy eT (own_back hM hZ w4 wz hf hl) hc hs hsz hlen hstk hW hd fun v T' L X' hQ => by
    obtain ⟨rfl, rfl, hh⟩ := hQ
    rw [List.append_nil] at X'
    exact k T' X' hh
theorem own_cat {v : Value} (q : v.isRef = true) : v.category = 1 := by cases v <;> first | rfl | simp [Value.isRef] at q
theorem own_narR {v : Value} {C : String} (q : v.isRef = true) : narrow (.object C) v = v := by cases v <;> first | rfl | simp [Value.isRef] at q
theorem own_fitR {v : Value} {C : String} (q : v.isRef = true) : fits (.object C) v = true := by cases v <;> first | rfl | simp [Value.isRef] at q
theorem own_ne {a b : Addr} (h : @LT.lt Nat instLTNat a b ∨ @LT.lt Nat instLTNat b a) : a ≠ b := fun q => by subst q; rcases h with h | h <;> exact Nat.lt_irrefl _ h
theorem own_ext {h0 h : Heap} (K : Keep h0 h []) : Ext h0 h := ⟨K.1, fun a c q => K.2.1 a c q nin0⟩
end OwnKit

/-! the wide mode: a walk that may intern; it stands over 's.setVm vm0' -/
section OwnWide
variable {p : Program} {l : Launch} {e : Env} {R : Room} {s : State} {m : MethodId} {args : Array Value} {below : List Frame} {meth : Method} {c : Code} {T : State} {locs : List Loc} {cells slots : Nat} {Z : State} {a0 : Array Value} {h : Heap} {F : Outcome → State → Prop} {pc pc' : Nat} {Ls : Array Slot} {st stk : List Value} {vm0 : Vm} {k0 : Nat}
def own_FW (s : State) (Q : Option Value → Heap → List Loc → Prop) (k n : Nat) (o : Outcome) (U : State) : Prop := ∃ v L, o = .returned v ∧ Q v U.heap L ∧ ReturnedEndW s o U L k n
abbrev own_MetW (l : Launch) (Z : State) (y : MethodName) (bytes : ByteArray) (maxL : Nat) (ret : Option FieldType) (ws : List Jvm.Cond) (rm : Room) (as : Array Value) (h : Heap) (Q : Option Value → Heap → List Loc → Prop) : Prop :=
  MetFree l y (head1 (Jvm.Cond.code y bytes maxL ret :: ws) rm) (fun a U => a = as ∧ Z.Warmed39 U.vm ∧ U.heap = h) (fun _ _ _ _ _ => True) (fun _ U o U' => ∃ v L, o = .returned v ∧ Q v U'.heap L ∧ ReturnedEndW U o U' L rm.cells rm.slots)
theorem own_enterW {y : MethodName} {bytes : ByteArray} {maxL : Nat} {ret : Option FieldType} {ws : List Jvm.Cond} {rm : Room} {as : Array Value} {Q : Option Value → Heap → List Loc → Prop} (hp : plainFor y = true) {fr : Array Slot} (hfr : ∀ m, entryFrame m as maxL = mkF m 0 fr [])
    (body : ∀ (p : Program) (e : Env) (s : State) (m : MethodId) (below : List Frame) (meth : Method) (c : Code) (T : State) (vm0 : Vm) (k0 : Nat), p.tables.exec = Jvm.exec → c.code = bytes → c.maxLocals = maxL → Z.Warmed39 (s.setVm vm0).vm → (s.setVm vm0).vm.findClass y.cls = some m.cls → meth.name = y.name → meth.sig.returnType = ret → meth.locks = false →
      Stand p l e rm (s.setVm vm0) m as below meth c T [] 0 0 → T.heap = h → s.heap = h → s.Since vm0 k0 → k0 ≤ h.size → own_G p e below (own_FW s Q rm.cells rm.slots) (T.setTop (mkF m 0 fr []))) : own_MetW l Z y bytes maxL ret ws rm as h Q := by
  refine MetFree.of_bodySF hp hisR ?_
  intro p e s m args below meth c s₁ Bd hml0 hP hK
  obtain ⟨rfl, hZ, hh⟩ := hP
  have X0 : Stand p l e rm s m args below meth c s₁ [] 0 0 := Stand.of_body Bd
  have q := body p e s m below meth c s₁ s.vm h.size Bd.exec Bd.bytes hml0 hZ (findClass_of_methodNamed Bd.named) (name_of_methodNamed Bd.named Bd.method).1 Bd.returns (BodyLoose.notSynchronized Bd) X0 (by rw [← hh, Bd.state]; rfl) hh ((State.WarmedH.refl s).since _) (Nat.le_refl _)
  rw [hfr m]; exact q
theorem own_retW {Q : Option Value → Heap → List Loc → Prop} {k n : Nat} {v : Option Value} {fr : JFrame} (X : Stand p l e R (s.setVm vm0) m args below meth c T locs cells slots) (hS : s.Since vm0 k0) (hk : k0 ≤ T.heap.size) (hv : meth.sig.returnType = none → v = none) (hlk : meth.locks = false)
    (hst : ∀ fs, (∀ (f : JFrame) (acts : List Action), f.method = m → f.locked = none → f.entered = [] → (doReturn e (T.setTop f) acts v).1 = T.setFrames fs) → Steps p.tables e below (T.setTop fr) (T.setFrames fs)) (hQ : Q v T.heap locs) (hc : cells ≤ k) (hn : slots ≤ n) : own_G p e below (own_FW s Q k n) (T.setTop fr) := by
  obtain ⟨fs, hr, hrun, hended, hE⟩ := X.leaveW hS hk hv hlk
  exact ⟨_, _, hst fs hr, hrun, hended, v, locs, rfl, hQ, hE.1, hE.2.1, hE.2.2.1, hE.2.2.2.mono hc hn⟩
theorem own_retWI {Q : Option Value → Heap → List Loc → Prop} {k n : Nat} {z : Int32} (X : Stand p l e R (s.setVm vm0) m args below meth c T locs cells slots) (hx : p.tables.exec = Jvm.exec) (hS : s.Since vm0 k0) (hk : k0 ≤ T.heap.size) (hret : meth.sig.returnType = some .int) (hlk : meth.locks = false) (hd : decode c.code pc = .ok (.ireturn, 1))
    (hQ : Q (some (.int z)) T.heap locs) (hc : cells ≤ k) (hn : slots ≤ n) : own_G p e below (own_FW s Q k n) (T.setTop (mkF m pc Ls (.int z :: st))) :=
  own_retW X hS hk (fun q => by rw [hret] at q; cases q) hlk (fun _ hr => own_stepI X hx hret hd hr) hQ hc hn
theorem own_retWN {Q : Option Value → Heap → List Loc → Prop} {k n : Nat} {z : Int32} {t : FieldType} (X : Stand p l e R (s.setVm vm0) m args below meth c T locs cells slots) (hx : p.tables.exec = Jvm.exec) (hS : s.Since vm0 k0) (hk : k0 ≤ T.heap.size) (hret : meth.sig.returnType = some t) (ht : t = .boolean ∨ t = .byte ∨ t = .char ∨ t = .short) (hlk : meth.locks = false) (hd : decode c.code pc = .ok (.ireturn, 1))
    (hQ : Q (some (.int (nar t z))) T.heap locs) (hc : cells ≤ k) (hn : slots ≤ n) : own_G p e below (own_FW s Q k n) (T.setTop (mkF m pc Ls (.int z :: st))) :=
  own_retW X hS hk (fun q => by rw [hret] at q; cases q) hlk (fun _ hr => retN X hx hret ht hd hr) hQ hc hn
theorem own_retWR {Q : Option Value → Heap → List Loc → Prop} {k n : Nat} {w : Value} {t : FieldType} (X : Stand p l e R (s.setVm vm0) m args below meth c T locs cells slots) (hx : p.tables.exec = Jvm.exec) (hS : s.Since vm0 k0) (hk : k0 ≤ T.heap.size) (hret : meth.sig.returnType = some t) (ht : t.isReference = true) (hnw : narrow t w = w) (hwr : w.isRef = true) (hlk : meth.locks = false) (hd : decode c.code pc = .ok (.areturn, 1))
    (hQ : Q (some w) T.heap locs) (hc : cells ≤ k) (hn : slots ≤ n) : own_G p e below (own_FW s Q k n) (T.setTop (mkF m pc Ls (w :: st))) :=
  own_retW X hS hk (fun q => by rw [hret] at q; cases q) hlk (fun _ hr => retOut X hx (t := t) (i := .areturn) hret hnw (Or.inr (Or.inr (Or.inr (Or.inr ⟨rfl, ht, hwr⟩)))) hd hr) hQ hc hn
theorem own_retWV {Q : Option Value → Heap → List Loc → Prop} {k n : Nat} (X : Stand p l e R (s.setVm vm0) m args below meth c T locs cells slots) (hx : p.tables.exec = Jvm.exec) (hS : s.Since vm0 k0) (hk : k0 ≤ T.heap.size) (hret : meth.sig.returnType = none) (hlk : meth.locks = false) (hd : decode c.code pc = .ok (.return_, 1))
    (hQ : Q none T.heap locs) (hc : cells ≤ k) (hn : slots ≤ n) : own_G p e below (own_FW s Q k n) (T.setTop (mkF m pc Ls [])) :=
  own_retW X hS hk (fun _ => rfl) hlk (fun _ hr => X.returnOut hx hret hd hr) hQ hc hn
/-- ldc of a String constant, its text not read -/
theorem own_ldcS (X : Stand p l e R (s.setVm vm0) m args below meth c T locs cells slots) (hx : p.tables.exec = Jvm.exec) (hZ : Z.Warmed39 (s.setVm vm0).vm) {own text : String} {index : Nat} (hown : (s.setVm vm0).vm.findClass own = some m.cls) (w : (Jvm.Cond.stringLink own index text).before a0 Z = true) (wS : ∀ a ∈ Bundle.stringAtoms, a.before a0 Z = true)
    (eT : T.heap = h) (hS : s.Since vm0 k0) (hk : k0 ≤ h.size) (hd : decode c.code pc = .ok (.ldc index, 2)) (n : Nat) (hn : 4 * text.toList.length ≤ n) (hbig : n ≤ 536870912) (hc : cells + 2 ≤ R.cells) (hl : slots + (n + 4) ≤ R.slots)
    (k : ∀ (a : Addr) (T' : State) (h' : Heap) (vm1 : Vm) (k1 : Nat), Stand p l e R (s.setVm vm1) m args below meth c T' locs (cells + 2) (slots + (n + 4)) → T'.heap = h' → Ext h h' → h.size ≤ h'.size → s.Since vm1 k1 → k1 ≤ h'.size → Z.Warmed39 (s.setVm vm1).vm → (s.setVm vm1).vm.findClass own = some m.cls →
      own_G p e below F (T'.setTop (mkF m (pc + 2) Ls (.ref a :: st)))) : own_G p e below F (T.setTop (mkF m pc Ls st)) := by
  obtain ⟨a, T', h', k1, X', e', E', hS', hk', hZ', ho', st'⟩ := ldcS X hx hZ hown w wS eT hS hk (g := mkF m pc Ls st) rfl hd hn hbig hc hl
  exact own_step st' (k a T' h' T'.vm k1 X' e' E' E'.1 hS' hk' hZ' ho')
/-- a static call of a callee that may intern -/
theorem own_staticW {Q : Option Value → Heap → List Loc → Prop} {rm : Room} {W : Nat} {argsL : List Value} (X : Stand p l e R (s.setVm vm0) m args below meth c T locs cells slots) (hx : p.tables.exec = Jvm.exec) (hZ : Z.Warmed39 (s.setVm vm0).vm) {own : String} {index : Nat} {y : MethodName} {bytes : ByteArray} {maxL : Nat} {ret : Option FieldType} (hown : (s.setVm vm0).vm.findClass own = some m.cls)
    (w1 : (Jvm.Cond.methodLink own index y).before a0 Z = true) (w2 : (Jvm.Cond.static y).before a0 Z = true) (w3 : (Jvm.Cond.initialized y.cls).before a0 Z = true) (w4 : (Jvm.Cond.code y bytes maxL ret).before a0 Z = true) (hy : y.cls ≠ "java/lang/invoke/MethodHandle" ∧ y.cls ≠ "java/lang/invoke/VarHandle") (eT : T.heap = h) (hS : s.Since vm0 k0) (hk : k0 ≤ h.size)
    (hM : own_MetW l Z y bytes maxL ret [] rm argsL.toArray h Q) (hf : rm.frames + 1 ≤ R.frames) (hl : W + (maxL + 11) + rm.locals ≤ R.locals) (hc : cells + rm.cells ≤ R.cells) (hs : slots + rm.slots ≤ R.slots) (hsz : Ls.size = c.maxLocals) (hlen : ∀ sig, parseMethodDescriptor y.desc = some sig → argsL.length = sig.parameters.length) (hstk : stk = argsL.reverse ++ st) (hW : (st.map fun v => v.category).sum ≤ W)
    (hd : decode c.code pc = .ok (.invokestatic index, 3)) (k : ∀ (v : Option Value) (T' : State) (L : List Loc) (vm1 : Vm) (k1 : Nat), Stand p l e R (s.setVm vm1) m args below meth c T' (locs ++ L) (cells + rm.cells) (slots + rm.slots) → h.size ≤ T'.heap.size → s.Since vm1 k1 → k1 ≤ T'.heap.size → Z.Warmed39 (s.setVm vm1).vm → (s.setVm vm1).vm.findClass own = some m.cls → Q v T'.heap L →
      own_G p e below F (T'.setTop (mkF m (pc + 3) Ls (v.toList ++ st)))) : own_G p e below F (T.setTop (mkF m pc Ls stk)) := by
  obtain ⟨v, _, ⟨T', L', k', n'⟩, -, X', hS', hg', ⟨L, hQ, l1, y1, z1⟩, st'⟩ := callSS X hx hown (mvT hZ w1) (mvT hZ w2) (mvT hZ w3) (mvT hZ w4) hy (backOfS (W := W) hM hZ w4 w3 hf hl) (g := mkF m pc Ls stk) rfl hsz (argsL := argsL) (rest := st) hlen hstk (by show 2 * 0 + _ ≤ _; omega) hd (fun _ _ => ⟨rfl, eT, hc, hs⟩)
  dsimp only [Pt.U, Pt.locs, Pt.cells, Pt.slots] at X' l1 y1 z1 st' hQ hS' hg'
  subst l1 y1 z1
  rw [eT] at hg'
  obtain ⟨r1, r2, r3, r4⟩ := rebS hS hk X' hS' hg' hZ hown
  exact own_go st' (k v T' L T'.vm T'.heap.size r1 hg' r2 (Nat.le_refl _) r3 r4 hQ)
end OwnWide

theorem own_and255 (x : Int32) : ¬ nar .char ((x &&& (255 : Int32)).toUInt32.toUInt16.toUInt32.toInt32) < 0 ∧ ¬ (255 : Int32) < nar .char ((x &&& (255 : Int32)).toUInt32.toUInt16.toUInt32.toInt32) := by
  have t : ∀ k : Fin 256, ¬ nar .char ((Int32.ofNat k.val).toUInt32.toUInt16.toUInt32.toInt32) < 0 ∧ ¬ (255 : Int32) < nar .char ((Int32.ofNat k.val).toUInt32.toUInt16.toUInt32.toInt32) := by decide +kernel
  have h : (x &&& 255).toBitVec.toNat < 256 := by
    simp only [Int32.toBitVec_and, BitVec.toNat_and]
    exact Nat.lt_succ_of_le Nat.and_le_right
  have e : (x &&& 255) = Int32.ofNat (x &&& 255).toBitVec.toNat := by
    apply Int32.toBitVec_inj.mp
    show _ = BitVec.ofNat 32 _
    rw [BitVec.ofNat_toNat]; simp
  rw [e]
  exact t ⟨_, h⟩
theorem d1_0 : decode method_2_code 0 = .ok (.iload_n 0, 1) := by decide +kernel
theorem d1_1 : decode method_2_code 1 = .ok (.ldc 7, 2) := by decide +kernel
theorem d1_3 : decode method_2_code 3 = .ok (.iand, 1) := by decide +kernel
theorem d1_4 : decode method_2_code 4 = .ok (.bipush 65, 2) := by decide +kernel
theorem d1_6 : decode method_2_code 6 = .ok (.irem, 1) := by decide +kernel
theorem d1_7 : decode method_2_code 7 = .ok (.istore_n 1, 1) := by decide +kernel
theorem d1_8 : decode method_2_code 8 = .ok (.iload_n 1, 1) := by decide +kernel
theorem d1_9 : decode method_2_code 9 = .ok (.bipush 26, 2) := by decide +kernel
theorem d1_11 : decode method_2_code 11 = .ok (.if_icmp .ge 9, 3) := by decide +kernel
theorem d1_14 : decode method_2_code 14 = .ok (.bipush 65, 2) := by decide +kernel
theorem d1_16 : decode method_2_code 16 = .ok (.iload_n 1, 1) := by decide +kernel
theorem d1_17 : decode method_2_code 17 = .ok (.iadd, 1) := by decide +kernel
theorem d1_18 : decode method_2_code 18 = .ok (.i2c, 1) := by decide +kernel
theorem d1_19 : decode method_2_code 19 = .ok (.ireturn, 1) := by decide +kernel
theorem d1_20 : decode method_2_code 20 = .ok (.iload_n 1, 1) := by decide +kernel
theorem d1_21 : decode method_2_code 21 = .ok (.bipush 52, 2) := by decide +kernel
theorem d1_23 : decode method_2_code 23 = .ok (.if_icmp .ge 12, 3) := by decide +kernel
theorem d1_26 : decode method_2_code 26 = .ok (.bipush 97, 2) := by decide +kernel
theorem d1_28 : decode method_2_code 28 = .ok (.iload_n 1, 1) := by decide +kernel
theorem d1_29 : decode method_2_code 29 = .ok (.bipush 26, 2) := by decide +kernel
theorem d1_31 : decode method_2_code 31 = .ok (.isub, 1) := by decide +kernel
theorem d1_32 : decode method_2_code 32 = .ok (.iadd, 1) := by decide +kernel
theorem d1_33 : decode method_2_code 33 = .ok (.i2c, 1) := by decide +kernel
theorem d1_34 : decode method_2_code 34 = .ok (.ireturn, 1) := by decide +kernel
theorem d1_35 : decode method_2_code 35 = .ok (.iload_n 1, 1) := by decide +kernel
theorem d1_36 : decode method_2_code 36 = .ok (.bipush 62, 2) := by decide +kernel
theorem d1_38 : decode method_2_code 38 = .ok (.if_icmp .ge 12, 3) := by decide +kernel
theorem d1_41 : decode method_2_code 41 = .ok (.bipush 48, 2) := by decide +kernel
theorem d1_43 : decode method_2_code 43 = .ok (.iload_n 1, 1) := by decide +kernel
theorem d1_44 : decode method_2_code 44 = .ok (.bipush 52, 2) := by decide +kernel
theorem d1_46 : decode method_2_code 46 = .ok (.isub, 1) := by decide +kernel
theorem d1_47 : decode method_2_code 47 = .ok (.iadd, 1) := by decide +kernel
theorem d1_48 : decode method_2_code 48 = .ok (.i2c, 1) := by decide +kernel
theorem d1_49 : decode method_2_code 49 = .ok (.ireturn, 1) := by decide +kernel
theorem d1_50 : decode method_2_code 50 = .ok (.iload_n 1, 1) := by decide +kernel
theorem d1_51 : decode method_2_code 51 = .ok (.bipush 62, 2) := by decide +kernel
theorem d1_53 : decode method_2_code 53 = .ok (.if_icmp .ne 6, 3) := by decide +kernel
theorem d1_56 : decode method_2_code 56 = .ok (.bipush 46, 2) := by decide +kernel
theorem d1_58 : decode method_2_code 58 = .ok (.ireturn, 1) := by decide +kernel
theorem d1_59 : decode method_2_code 59 = .ok (.iload_n 1, 1) := by decide +kernel
theorem d1_60 : decode method_2_code 60 = .ok (.bipush 63, 2) := by decide +kernel
theorem d1_62 : decode method_2_code 62 = .ok (.if_icmp .ne 6, 3) := by decide +kernel
theorem d1_65 : decode method_2_code 65 = .ok (.bipush 95, 2) := by decide +kernel
theorem d1_67 : decode method_2_code 67 = .ok (.ireturn, 1) := by decide +kernel
theorem d1_68 : decode method_2_code 68 = .ok (.bipush 45, 2) := by decide +kernel
theorem d1_70 : decode method_2_code 70 = .ok (.ireturn, 1) := by decide +kernel
theorem d10_0 : decode prog_3_method_2_code 0 = .ok (.aload_n 0, 1) := by decide +kernel
theorem d10_1 : decode prog_3_method_2_code 1 = .ok (.ldc 7, 2) := by decide +kernel
theorem d10_3 : decode prog_3_method_2_code 3 = .ok (.invokestatic 9, 3) := by decide +kernel
theorem d10_6 : decode prog_3_method_2_code 6 = .ok (.pop, 1) := by decide +kernel
theorem d10_7 : decode prog_3_method_2_code 7 = .ok (.aload_n 0, 1) := by decide +kernel
theorem d10_8 : decode prog_3_method_2_code 8 = .ok (.invokevirtual 15, 3) := by decide +kernel
theorem d10_11 : decode prog_3_method_2_code 11 = .ok (.ifCond .ne 12, 3) := by decide +kernel
theorem d10_14 : decode prog_3_method_2_code 14 = .ok (.aload_n 0, 1) := by decide +kernel
theorem d10_15 : decode prog_3_method_2_code 15 = .ok (.invokevirtual 21, 3) := by decide +kernel
theorem d10_18 : decode prog_3_method_2_code 18 = .ok (.bipush 64, 2) := by decide +kernel
theorem d10_20 : decode prog_3_method_2_code 20 = .ok (.if_icmp .le 20, 3) := by decide +kernel
theorem d10_40 : decode prog_3_method_2_code 40 = .ok (.iconst 0, 1) := by decide +kernel
theorem d10_41 : decode prog_3_method_2_code 41 = .ok (.istore_n 1, 1) := by decide +kernel
theorem d10_42 : decode prog_3_method_2_code 42 = .ok (.iload_n 1, 1) := by decide +kernel
theorem d10_43 : decode prog_3_method_2_code 43 = .ok (.aload_n 0, 1) := by decide +kernel
theorem d10_44 : decode prog_3_method_2_code 44 = .ok (.invokevirtual 21, 3) := by decide +kernel
theorem d10_47 : decode prog_3_method_2_code 47 = .ok (.if_icmp .ge 58, 3) := by decide +kernel
theorem d10_50 : decode prog_3_method_2_code 50 = .ok (.aload_n 0, 1) := by decide +kernel
theorem d10_51 : decode prog_3_method_2_code 51 = .ok (.iload_n 1, 1) := by decide +kernel
theorem d10_52 : decode prog_3_method_2_code 52 = .ok (.invokevirtual 36, 3) := by decide +kernel
theorem d10_55 : decode prog_3_method_2_code 55 = .ok (.invokestatic 40, 3) := by decide +kernel
theorem d10_58 : decode prog_3_method_2_code 58 = .ok (.ifCond .ne 41, 3) := by decide +kernel
theorem d10_99 : decode prog_3_method_2_code 99 = .ok (.iinc 1 1, 3) := by decide +kernel
theorem d10_102 : decode prog_3_method_2_code 102 = .ok (.goto (-60), 3) := by decide +kernel
theorem d10_105 : decode prog_3_method_2_code 105 = .ok (.aload_n 0, 1) := by decide +kernel
theorem d10_106 : decode prog_3_method_2_code 106 = .ok (.areturn, 1) := by decide +kernel
theorem d11_0 : decode jdk_31_method_11_code 0 = .ok (.aload_n 0, 1) := by decide +kernel
theorem d11_1 : decode jdk_31_method_11_code 1 = .ok (.ifnonnull 12, 3) := by decide +kernel
theorem d11_13 : decode jdk_31_method_11_code 13 = .ok (.aload_n 0, 1) := by decide +kernel
theorem d11_14 : decode jdk_31_method_11_code 14 = .ok (.areturn, 1) := by decide +kernel
theorem d18_0 : decode prog_3_method_3_code 0 = .ok (.iload_n 0, 1) := by decide +kernel
theorem d18_1 : decode prog_3_method_3_code 1 = .ok (.bipush 65, 2) := by decide +kernel
theorem d18_3 : decode prog_3_method_3_code 3 = .ok (.if_icmp .lt 9, 3) := by decide +kernel
theorem d18_6 : decode prog_3_method_3_code 6 = .ok (.iload_n 0, 1) := by decide +kernel
theorem d18_7 : decode prog_3_method_3_code 7 = .ok (.bipush 90, 2) := by decide +kernel
theorem d18_9 : decode prog_3_method_3_code 9 = .ok (.if_icmp .le 45, 3) := by decide +kernel
theorem d18_12 : decode prog_3_method_3_code 12 = .ok (.iload_n 0, 1) := by decide +kernel
theorem d18_13 : decode prog_3_method_3_code 13 = .ok (.bipush 97, 2) := by decide +kernel
theorem d18_15 : decode prog_3_method_3_code 15 = .ok (.if_icmp .lt 9, 3) := by decide +kernel
theorem d18_18 : decode prog_3_method_3_code 18 = .ok (.iload_n 0, 1) := by decide +kernel
theorem d18_19 : decode prog_3_method_3_code 19 = .ok (.bipush 122, 2) := by decide +kernel
theorem d18_21 : decode prog_3_method_3_code 21 = .ok (.if_icmp .le 33, 3) := by decide +kernel
theorem d18_24 : decode prog_3_method_3_code 24 = .ok (.iload_n 0, 1) := by decide +kernel
theorem d18_25 : decode prog_3_method_3_code 25 = .ok (.bipush 48, 2) := by decide +kernel
theorem d18_27 : decode prog_3_method_3_code 27 = .ok (.if_icmp .lt 9, 3) := by decide +kernel
theorem d18_30 : decode prog_3_method_3_code 30 = .ok (.iload_n 0, 1) := by decide +kernel
theorem d18_31 : decode prog_3_method_3_code 31 = .ok (.bipush 57, 2) := by decide +kernel
theorem d18_33 : decode prog_3_method_3_code 33 = .ok (.if_icmp .le 21, 3) := by decide +kernel
theorem d18_36 : decode prog_3_method_3_code 36 = .ok (.iload_n 0, 1) := by decide +kernel
theorem d18_37 : decode prog_3_method_3_code 37 = .ok (.bipush 46, 2) := by decide +kernel
theorem d18_39 : decode prog_3_method_3_code 39 = .ok (.if_icmp .eq 15, 3) := by decide +kernel
theorem d18_42 : decode prog_3_method_3_code 42 = .ok (.iload_n 0, 1) := by decide +kernel
theorem d18_43 : decode prog_3_method_3_code 43 = .ok (.bipush 95, 2) := by decide +kernel
theorem d18_45 : decode prog_3_method_3_code 45 = .ok (.if_icmp .eq 9, 3) := by decide +kernel
theorem d18_48 : decode prog_3_method_3_code 48 = .ok (.iload_n 0, 1) := by decide +kernel
theorem d18_49 : decode prog_3_method_3_code 49 = .ok (.bipush 45, 2) := by decide +kernel
theorem d18_51 : decode prog_3_method_3_code 51 = .ok (.if_icmp .ne 7, 3) := by decide +kernel
theorem d18_54 : decode prog_3_method_3_code 54 = .ok (.iconst 1, 1) := by decide +kernel
theorem d18_55 : decode prog_3_method_3_code 55 = .ok (.goto 4, 3) := by decide +kernel
theorem d18_58 : decode prog_3_method_3_code 58 = .ok (.iconst 0, 1) := by decide +kernel
theorem d18_59 : decode prog_3_method_3_code 59 = .ok (.ireturn, 1) := by decide +kernel
theorem pd0 : parseMethodDescriptor "(Ljava/lang/Object;Ljava/lang/String;)Ljava/lang/Object;" = some ⟨[(.object "java/lang/Object"), (.object "java/lang/String")], some (.object "java/lang/Object")⟩ := by decide +kernel
theorem pd1 : parseMethodDescriptor "()Z" = some ⟨[], some .boolean⟩ := by decide +kernel
theorem pd2 : parseMethodDescriptor "()I" = some ⟨[], some .int⟩ := by decide +kernel
theorem pd3 : parseMethodDescriptor "(I)C" = some ⟨[.int], some .char⟩ := by decide +kernel
theorem pd4 : parseMethodDescriptor "(C)Z" = some ⟨[.char], some .boolean⟩ := by decide +kernel
theorem pd5 : parseMethodDescriptor "(Ljava/lang/String;)Ljava/lang/String;" = some ⟨[(.object "java/lang/String")], some (.object "java/lang/String")⟩ := by decide +kernel
theorem pd6 : parseMethodDescriptor "([C)V" = some ⟨[(.array .char)], none⟩ := by decide +kernel
theorem pn0 : plainName "com/example/rigid_tally/rigidtally/CounterNamesRequireValidPinLaw" = true := by first | (simp [plainName, overriddenIn]; done) | decide +kernel
theorem pn1 : plainName "com/example/rigid_tally/rigidtally/CounterNames" = true := by first | (simp [plainName, overriddenIn]; done) | decide +kernel
theorem pn2 : plainName "java/util/Objects" = true := by first | (simp [plainName, overriddenIn]; done) | decide +kernel
theorem own_a0 {P : Int32 → Prop} : ∀ x ∈ ([] : List Int32), P x := fun _ q => nomatch q
theorem own_aS {P : Int32 → Prop} {y : Int32} {L : List Int32} (q : P y) (r : ∀ x ∈ L, P x) : ∀ x ∈ y :: L, P x := fun x z => (List.mem_cons.mp z).elim (fun u => u ▸ q) (r x)
def own_ok (c : Int32) : Bool := (decide (¬ c < 65) && decide (¬ 90 < c)) || ((decide (¬ c < 97) && decide (¬ 122 < c)) || ((decide (¬ c < 48) && decide (¬ 57 < c)) || (decide (c = 46) || (decide (c = 95) || decide (c = 45)))))
abbrev own_al (c : Int32) : Prop := (¬ c < 0 ∧ ¬ (255 : Int32) < c) ∧ own_ok c = true
theorem own_alA : ∀ k : Fin 65, Int32.ofNat k.val < 26 → own_al (nar .char (((65 : Int32) + Int32.ofNat k.val).toUInt32.toUInt16.toUInt32.toInt32)) := by decide +kernel
theorem own_ala : ∀ k : Fin 65, ¬ Int32.ofNat k.val < 26 → Int32.ofNat k.val < 52 → own_al (nar .char (((97 : Int32) + (Int32.ofNat k.val - (26 : Int32))).toUInt32.toUInt16.toUInt32.toInt32)) := by decide +kernel
theorem own_al0 : ∀ k : Fin 65, ¬ Int32.ofNat k.val < 52 → Int32.ofNat k.val < 62 → own_al (nar .char (((48 : Int32) + (Int32.ofNat k.val - (52 : Int32))).toUInt32.toUInt16.toUInt32.toInt32)) := by decide +kernel
theorem own_mod65 (x : Int32) : ∃ k : Fin 65, ((x &&& (2147483647 : Int32)) % (65 : Int32)) = Int32.ofNat k.val := by
  have hn : 0 ≤ (x &&& (2147483647 : Int32)).toInt := by
    have e : (x &&& (2147483647 : Int32)).toInt = (x &&& (2147483647 : Int32)).toBitVec.toInt := rfl
    rw [e, BitVec.toInt_eq_toNat_of_lt]
    · omega
    · simp only [Int32.toBitVec_and, BitVec.toNat_and]
      have q : x.toBitVec.toNat &&& (2147483647 : Int32).toBitVec.toNat ≤ (2147483647 : Int32).toBitVec.toNat := Nat.and_le_right
      have q2 : (2147483647 : Int32).toBitVec.toNat = 2147483647 := rfl
      omega
  have hm : ((x &&& (2147483647 : Int32)) % (65 : Int32)).toInt = (x &&& (2147483647 : Int32)).toInt.tmod 65 := by rw [Int32.toInt_mod]; rfl
  have h5 : ((x &&& (2147483647 : Int32)) % (65 : Int32)).toInt = (x &&& (2147483647 : Int32)).toInt % 65 := by rw [hm, Int.tmod_eq_emod_of_nonneg hn]
  refine ⟨⟨((x &&& (2147483647 : Int32)) % (65 : Int32)).toInt.toNat, by omega⟩, ?_⟩
  apply Int32.toInt_inj.mp
  rw [Int32.toInt_ofNat_small (by show ((x &&& (2147483647 : Int32)) % (65 : Int32)).toInt.toNat < 2 ^ 31; omega)]
  show _ = ((((x &&& (2147483647 : Int32)) % (65 : Int32)).toInt.toNat : Nat) : Int)
  omega
theorem own_narC {c : Int32} (h0 : ¬ c < 0) (h1 : ¬ (255 : Int32) < c) : nar .char c = c := by
  have t : ∀ k : Fin 256, nar .char (Int32.ofNat k.val) = Int32.ofNat k.val := by decide +kernel
  rw [Int32.lt_iff_toInt_lt] at h0 h1
  have e1 : (255 : Int32).toInt = 255 := rfl
  have e0 : (0 : Int32).toInt = 0 := rfl
  have e : c = Int32.ofNat c.toInt.toNat := by
    apply Int32.toInt_inj.mp
    rw [Int32.toInt_ofNat_small (by omega)]; omega
  rw [e]; exact t ⟨c.toInt.toNat, by omega⟩
theorem own_ofNat_lt {i n : Nat} (hi : i < 2 ^ 31) (hn : n < 2 ^ 31) : Int32.ofNat i < Int32.ofNat n ↔ i < n := by
  rw [Int32.lt_iff_toInt_lt, Int32.toInt_ofNat_small hi, Int32.toInt_ofNat_small hn]; omega
theorem own_ofNat_succ (i : Nat) : Int32.ofNat i + (1 : Int32) = Int32.ofNat (i + 1) := by rw [Int32.ofNat_add]; rfl
theorem ef_al (m : MethodId) (x : Int32) : entryFrame m #[(.int x)] 2 = mkF m 0 #[.val (.int x), .unset] [] := by first | (simp [entryFrame, mkF, argsToLocals, Value.category, maxLocals]; done) | rfl
set_option maxRecDepth 65536 in
set_option maxHeartbeats 40000000 in
theorem rmAl (l : Launch) (Z : State) (a0 : Array Value) (hw : ∀ d ∈ tables_1, d.before a0 Z = true) (ws : List Jvm.Cond) (x : Int32) (h0 : Heap) :
    own_Met l Z (⟨"com/example/rigid_tally/rigidtally/CounterNamesRequireValidPinLaw", "allowed", "(I)C"⟩ : MethodName) method_2_code 2 (some .char) ws ⟨0, 0, 0, 0⟩ #[(.int x)] h0 (fun v h L => ∃ c : Int32, v = some (.int c) ∧ own_al c ∧ L = [] ∧ h = h0) := by
  refine own_enter (plainFor_of_name pn0) (fun m => ef_al m x) ?_
  intro p e s m below meth c T0 hx hby hml hZ hown hnm hret hlk X0 e0
  show own_G p e below _ (T0.setTop (mkF m 0 #[.val (.int x), .unset] []))
  refine own_step (b := T0.setTop (mkF m 1 #[.val (.int x), .unset] [(.int x)])) (fun t k => XS.iloadN X0.here hx rfl (hb hby d1_0) rfl k) ?_
  refine own_step (b := T0.setTop (mkF m 3 #[.val (.int x), .unset] [(.int (2147483647 : Int32)), (.int x)])) (X0.ldcInt hx hown (mvT hZ (own_w hw 4 rfl)) (g := (mkF m 1 #[.val (.int x), .unset] [(.int x)])) rfl (hb hby d1_1)) ?_
  refine own_step (b := T0.setTop (mkF m 4 #[.val (.int x), .unset] [(.int (x &&& (2147483647 : Int32)))])) (fun t k => XS.iand X0.here hx rfl (hb hby d1_3) rfl k) ?_
  refine own_step (b := T0.setTop (mkF m 6 #[.val (.int x), .unset] [(.int (65 : Int32)), (.int (x &&& (2147483647 : Int32)))])) (fun t k => XS.bipush X0.here hx rfl (hb hby d1_4) k) ?_
  refine own_step (b := T0.setTop (mkF m 7 #[.val (.int x), .unset] [(.int ((x &&& (2147483647 : Int32)) % (65 : Int32)))])) (fun t k => iremM X0 hx rfl (hb hby d1_6) rfl (by decide) k) ?_
  obtain ⟨kf, hkf⟩ := own_mod65 x
  rw [hkf]
  show own_G p e below _ (T0.setTop (mkF m 7 #[.val (.int x), .unset] [(.int (Int32.ofNat kf.val))]))
  refine own_step (b := T0.setTop (mkF m 8 #[.val (.int x), .val (.int (Int32.ofNat kf.val))] [])) (fun t k => XS.istoreN X0.here hx rfl (hb hby d1_7) rfl (l' := #[.val (.int x), .val (.int (Int32.ofNat kf.val))]) rfl k) ?_
  refine own_step (b := T0.setTop (mkF m 9 #[.val (.int x), .val (.int (Int32.ofNat kf.val))] [(.int (Int32.ofNat kf.val))])) (fun t k => XS.iloadN X0.here hx rfl (hb hby d1_8) rfl k) ?_
  refine own_step (b := T0.setTop (mkF m 11 #[.val (.int x), .val (.int (Int32.ofNat kf.val))] [(.int (26 : Int32)), (.int (Int32.ofNat kf.val))])) (fun t k => XS.bipush X0.here hx rfl (hb hby d1_9) k) ?_
  refine own_icmp_ge X0 hx (hb hby d1_11) (pc' := 20) (by decide) (by decide) (fun c11_1 => ?_) (fun c11_1 => ?_)
  · show own_G p e below _ (T0.setTop (mkF m 20 #[.val (.int x), .val (.int (Int32.ofNat kf.val))] []))
    refine own_step (b := T0.setTop (mkF m 21 #[.val (.int x), .val (.int (Int32.ofNat kf.val))] [(.int (Int32.ofNat kf.val))])) (fun t k => XS.iloadN X0.here hx rfl (hb hby d1_20) rfl k) ?_
    refine own_step (b := T0.setTop (mkF m 23 #[.val (.int x), .val (.int (Int32.ofNat kf.val))] [(.int (52 : Int32)), (.int (Int32.ofNat kf.val))])) (fun t k => XS.bipush X0.here hx rfl (hb hby d1_21) k) ?_
    refine own_icmp_ge X0 hx (hb hby d1_23) (pc' := 35) (by decide) (by decide) (fun c23_2 => ?_) (fun c23_2 => ?_)
    · show own_G p e below _ (T0.setTop (mkF m 35 #[.val (.int x), .val (.int (Int32.ofNat kf.val))] []))
      refine own_step (b := T0.setTop (mkF m 36 #[.val (.int x), .val (.int (Int32.ofNat kf.val))] [(.int (Int32.ofNat kf.val))])) (fun t k => XS.iloadN X0.here hx rfl (hb hby d1_35) rfl k) ?_
      refine own_step (b := T0.setTop (mkF m 38 #[.val (.int x), .val (.int (Int32.ofNat kf.val))] [(.int (62 : Int32)), (.int (Int32.ofNat kf.val))])) (fun t k => XS.bipush X0.here hx rfl (hb hby d1_36) k) ?_
      refine own_icmp_ge X0 hx (hb hby d1_38) (pc' := 50) (by decide) (by decide) (fun c38_3 => ?_) (fun c38_3 => ?_)
      · show own_G p e below _ (T0.setTop (mkF m 50 #[.val (.int x), .val (.int (Int32.ofNat kf.val))] []))
        refine own_step (b := T0.setTop (mkF m 51 #[.val (.int x), .val (.int (Int32.ofNat kf.val))] [(.int (Int32.ofNat kf.val))])) (fun t k => XS.iloadN X0.here hx rfl (hb hby d1_50) rfl k) ?_
        refine own_step (b := T0.setTop (mkF m 53 #[.val (.int x), .val (.int (Int32.ofNat kf.val))] [(.int (62 : Int32)), (.int (Int32.ofNat kf.val))])) (fun t k => XS.bipush X0.here hx rfl (hb hby d1_51) k) ?_
        refine own_icmp_ne X0 hx (hb hby d1_53) (pc' := 59) (by decide) (by decide) (fun c53_4 => ?_) (fun c53_4 => ?_)
        · show own_G p e below _ (T0.setTop (mkF m 59 #[.val (.int x), .val (.int (Int32.ofNat kf.val))] []))
          refine own_step (b := T0.setTop (mkF m 60 #[.val (.int x), .val (.int (Int32.ofNat kf.val))] [(.int (Int32.ofNat kf.val))])) (fun t k => XS.iloadN X0.here hx rfl (hb hby d1_59) rfl k) ?_
          refine own_step (b := T0.setTop (mkF m 62 #[.val (.int x), .val (.int (Int32.ofNat kf.val))] [(.int (63 : Int32)), (.int (Int32.ofNat kf.val))])) (fun t k => XS.bipush X0.here hx rfl (hb hby d1_60) k) ?_
          refine own_icmp_ne X0 hx (hb hby d1_62) (pc' := 68) (by decide) (by decide) (fun c62_5 => ?_) (fun c62_5 => ?_)
          · show own_G p e below _ (T0.setTop (mkF m 68 #[.val (.int x), .val (.int (Int32.ofNat kf.val))] []))
            refine own_step (b := T0.setTop (mkF m 70 #[.val (.int x), .val (.int (Int32.ofNat kf.val))] [(.int (45 : Int32))])) (fun t k => XS.bipush X0.here hx rfl (hb hby d1_68) k) ?_
            exact own_retN X0 hx hret (by simp) hlk (hb hby d1_70) ⟨_, rfl, by decide, rfl, e0⟩ (by decide) (by decide)
          · show own_G p e below _ (T0.setTop (mkF m 65 #[.val (.int x), .val (.int (Int32.ofNat kf.val))] []))
            refine own_step (b := T0.setTop (mkF m 67 #[.val (.int x), .val (.int (Int32.ofNat kf.val))] [(.int (95 : Int32))])) (fun t k => XS.bipush X0.here hx rfl (hb hby d1_65) k) ?_
            exact own_retN X0 hx hret (by simp) hlk (hb hby d1_67) ⟨_, rfl, by decide, rfl, e0⟩ (by decide) (by decide)
        · show own_G p e below _ (T0.setTop (mkF m 56 #[.val (.int x), .val (.int (Int32.ofNat kf.val))] []))
          refine own_step (b := T0.setTop (mkF m 58 #[.val (.int x), .val (.int (Int32.ofNat kf.val))] [(.int (46 : Int32))])) (fun t k => XS.bipush X0.here hx rfl (hb hby d1_56) k) ?_
          exact own_retN X0 hx hret (by simp) hlk (hb hby d1_58) ⟨_, rfl, by decide, rfl, e0⟩ (by decide) (by decide)
      · show own_G p e below _ (T0.setTop (mkF m 41 #[.val (.int x), .val (.int (Int32.ofNat kf.val))] []))
        refine own_step (b := T0.setTop (mkF m 43 #[.val (.int x), .val (.int (Int32.ofNat kf.val))] [(.int (48 : Int32))])) (fun t k => XS.bipush X0.here hx rfl (hb hby d1_41) k) ?_
        refine own_step (b := T0.setTop (mkF m 44 #[.val (.int x), .val (.int (Int32.ofNat kf.val))] [(.int (Int32.ofNat kf.val)), (.int (48 : Int32))])) (fun t k => XS.iloadN X0.here hx rfl (hb hby d1_43) rfl k) ?_
        refine own_step (b := T0.setTop (mkF m 46 #[.val (.int x), .val (.int (Int32.ofNat kf.val))] [(.int (52 : Int32)), (.int (Int32.ofNat kf.val)), (.int (48 : Int32))])) (fun t k => XS.bipush X0.here hx rfl (hb hby d1_44) k) ?_
        refine own_step (b := T0.setTop (mkF m 47 #[.val (.int x), .val (.int (Int32.ofNat kf.val))] [(.int ((Int32.ofNat kf.val) - (52 : Int32))), (.int (48 : Int32))])) (fun t k => XS.isub X0.here hx rfl (hb hby d1_46) rfl k) ?_
        refine own_step (b := T0.setTop (mkF m 48 #[.val (.int x), .val (.int (Int32.ofNat kf.val))] [(.int ((48 : Int32) + ((Int32.ofNat kf.val) - (52 : Int32))))])) (fun t k => XS.iadd X0.here hx rfl (hb hby d1_47) rfl k) ?_
        refine own_step (b := T0.setTop (mkF m 49 #[.val (.int x), .val (.int (Int32.ofNat kf.val))] [(.int (((48 : Int32) + ((Int32.ofNat kf.val) - (52 : Int32))).toUInt32.toUInt16.toUInt32.toInt32))])) (fun t k => XT.i2c X0.here hx rfl (hb hby d1_48) rfl k) ?_
        exact own_retN X0 hx hret (by simp) hlk (hb hby d1_49) ⟨_, rfl, own_al0 kf c23_2 c38_3, rfl, e0⟩ (by decide) (by decide)
    · show own_G p e below _ (T0.setTop (mkF m 26 #[.val (.int x), .val (.int (Int32.ofNat kf.val))] []))
      refine own_step (b := T0.setTop (mkF m 28 #[.val (.int x), .val (.int (Int32.ofNat kf.val))] [(.int (97 : Int32))])) (fun t k => XS.bipush X0.here hx rfl (hb hby d1_26) k) ?_
      refine own_step (b := T0.setTop (mkF m 29 #[.val (.int x), .val (.int (Int32.ofNat kf.val))] [(.int (Int32.ofNat kf.val)), (.int (97 : Int32))])) (fun t k => XS.iloadN X0.here hx rfl (hb hby d1_28) rfl k) ?_
      refine own_step (b := T0.setTop (mkF m 31 #[.val (.int x), .val (.int (Int32.ofNat kf.val))] [(.int (26 : Int32)), (.int (Int32.ofNat kf.val)), (.int (97 : Int32))])) (fun t k => XS.bipush X0.here hx rfl (hb hby d1_29) k) ?_
      refine own_step (b := T0.setTop (mkF m 32 #[.val (.int x), .val (.int (Int32.ofNat kf.val))] [(.int ((Int32.ofNat kf.val) - (26 : Int32))), (.int (97 : Int32))])) (fun t k => XS.isub X0.here hx rfl (hb hby d1_31) rfl k) ?_
      refine own_step (b := T0.setTop (mkF m 33 #[.val (.int x), .val (.int (Int32.ofNat kf.val))] [(.int ((97 : Int32) + ((Int32.ofNat kf.val) - (26 : Int32))))])) (fun t k => XS.iadd X0.here hx rfl (hb hby d1_32) rfl k) ?_
      refine own_step (b := T0.setTop (mkF m 34 #[.val (.int x), .val (.int (Int32.ofNat kf.val))] [(.int (((97 : Int32) + ((Int32.ofNat kf.val) - (26 : Int32))).toUInt32.toUInt16.toUInt32.toInt32))])) (fun t k => XT.i2c X0.here hx rfl (hb hby d1_33) rfl k) ?_
      exact own_retN X0 hx hret (by simp) hlk (hb hby d1_34) ⟨_, rfl, own_ala kf c11_1 c23_2, rfl, e0⟩ (by decide) (by decide)
  · show own_G p e below _ (T0.setTop (mkF m 14 #[.val (.int x), .val (.int (Int32.ofNat kf.val))] []))
    refine own_step (b := T0.setTop (mkF m 16 #[.val (.int x), .val (.int (Int32.ofNat kf.val))] [(.int (65 : Int32))])) (fun t k => XS.bipush X0.here hx rfl (hb hby d1_14) k) ?_
    refine own_step (b := T0.setTop (mkF m 17 #[.val (.int x), .val (.int (Int32.ofNat kf.val))] [(.int (Int32.ofNat kf.val)), (.int (65 : Int32))])) (fun t k => XS.iloadN X0.here hx rfl (hb hby d1_16) rfl k) ?_
    refine own_step (b := T0.setTop (mkF m 18 #[.val (.int x), .val (.int (Int32.ofNat kf.val))] [(.int ((65 : Int32) + (Int32.ofNat kf.val)))])) (fun t k => XS.iadd X0.here hx rfl (hb hby d1_17) rfl k) ?_
    refine own_step (b := T0.setTop (mkF m 19 #[.val (.int x), .val (.int (Int32.ofNat kf.val))] [(.int (((65 : Int32) + (Int32.ofNat kf.val)).toUInt32.toUInt16.toUInt32.toInt32))])) (fun t k => XT.i2c X0.here hx rfl (hb hby d1_18) rfl k) ?_
    exact own_retN X0 hx hret (by simp) hlk (hb hby d1_19) ⟨_, rfl, own_alA kf (c11_1), rfl, e0⟩ (by decide) (by decide)
theorem ef_isa (m : MethodId) (x : Int32) : entryFrame m #[(.int x)] 1 = mkF m 0 #[.val (.int x)] [] := by first | (simp [entryFrame, mkF, argsToLocals, Value.category, maxLocals]; done) | rfl
set_option maxRecDepth 65536 in
set_option maxHeartbeats 40000000 in
theorem rmIsa (l : Launch) (Z : State) (a0 : Array Value) (hw : ∀ d ∈ tables_1, d.before a0 Z = true) (ws : List Jvm.Cond) (x : Int32) (h0 : Heap) (hok : own_ok x = true) :
    own_Met l Z (⟨"com/example/rigid_tally/rigidtally/CounterNames", "isAllowed", "(C)Z"⟩ : MethodName) prog_3_method_3_code 1 (some .boolean) ws ⟨0, 0, 0, 0⟩ #[(.int x)] h0 (own_P (some (.int (1 : Int32))) h0) := by
  refine own_enter (plainFor_of_name pn1) (fun m => ef_isa m x) ?_
  intro p e s m below meth c T0 hx hby hml hZ hown hnm hret hlk X0 e0
  show own_G p e below _ (T0.setTop (mkF m 0 #[.val (.int x)] []))
  refine own_step (b := T0.setTop (mkF m 1 #[.val (.int x)] [(.int x)])) (fun t k => XS.iloadN X0.here hx rfl (hb hby d18_0) rfl k) ?_
  refine own_step (b := T0.setTop (mkF m 3 #[.val (.int x)] [(.int (65 : Int32)), (.int x)])) (fun t k => XS.bipush X0.here hx rfl (hb hby d18_1) k) ?_
  refine own_icmp_lt X0 hx (hb hby d18_3) (pc' := 12) (by decide) (by decide) (fun c3_1 => ?_) (fun c3_1 => ?_)
  · show own_G p e below _ (T0.setTop (mkF m 12 #[.val (.int x)] []))
    refine own_step (b := T0.setTop (mkF m 13 #[.val (.int x)] [(.int x)])) (fun t k => XS.iloadN X0.here hx rfl (hb hby d18_12) rfl k) ?_
    refine own_step (b := T0.setTop (mkF m 15 #[.val (.int x)] [(.int (97 : Int32)), (.int x)])) (fun t k => XS.bipush X0.here hx rfl (hb hby d18_13) k) ?_
    refine own_icmp_lt X0 hx (hb hby d18_15) (pc' := 24) (by decide) (by decide) (fun c15_2 => ?_) (fun c15_2 => ?_)
    · show own_G p e below _ (T0.setTop (mkF m 24 #[.val (.int x)] []))
      refine own_step (b := T0.setTop (mkF m 25 #[.val (.int x)] [(.int x)])) (fun t k => XS.iloadN X0.here hx rfl (hb hby d18_24) rfl k) ?_
      refine own_step (b := T0.setTop (mkF m 27 #[.val (.int x)] [(.int (48 : Int32)), (.int x)])) (fun t k => XS.bipush X0.here hx rfl (hb hby d18_25) k) ?_
      refine own_icmp_lt X0 hx (hb hby d18_27) (pc' := 36) (by decide) (by decide) (fun c27_3 => ?_) (fun c27_3 => ?_)
      · show own_G p e below _ (T0.setTop (mkF m 36 #[.val (.int x)] []))
        refine own_step (b := T0.setTop (mkF m 37 #[.val (.int x)] [(.int x)])) (fun t k => XS.iloadN X0.here hx rfl (hb hby d18_36) rfl k) ?_
        refine own_step (b := T0.setTop (mkF m 39 #[.val (.int x)] [(.int (46 : Int32)), (.int x)])) (fun t k => XS.bipush X0.here hx rfl (hb hby d18_37) k) ?_
        refine own_icmp_eq X0 hx (hb hby d18_39) (pc' := 54) (by decide) (by decide) (fun c39_4 => ?_) (fun c39_4 => ?_)
        · show own_G p e below _ (T0.setTop (mkF m 54 #[.val (.int x)] []))
          refine own_step (b := T0.setTop (mkF m 55 #[.val (.int x)] [(.int (1 : Int32))])) (fun t k => XS.iconst X0.here hx rfl (hb hby d18_54) k) ?_
          refine own_step (b := T0.setTop (mkF m 59 #[.val (.int x)] [(.int (1 : Int32))])) (fun t k => XS.goto X0.here hx rfl (pc0 := 55) (pc' := 59) rfl (hb hby d18_55) (by decide) (by decide) k) ?_
          exact own_retN X0 hx hret (by simp) hlk (hb hby d18_59) ⟨rfl, rfl, e0⟩ (by decide) (by decide)
        · show own_G p e below _ (T0.setTop (mkF m 42 #[.val (.int x)] []))
          refine own_step (b := T0.setTop (mkF m 43 #[.val (.int x)] [(.int x)])) (fun t k => XS.iloadN X0.here hx rfl (hb hby d18_42) rfl k) ?_
          refine own_step (b := T0.setTop (mkF m 45 #[.val (.int x)] [(.int (95 : Int32)), (.int x)])) (fun t k => XS.bipush X0.here hx rfl (hb hby d18_43) k) ?_
          refine own_icmp_eq X0 hx (hb hby d18_45) (pc' := 54) (by decide) (by decide) (fun c45_5 => ?_) (fun c45_5 => ?_)
          · show own_G p e below _ (T0.setTop (mkF m 54 #[.val (.int x)] []))
            refine own_step (b := T0.setTop (mkF m 55 #[.val (.int x)] [(.int (1 : Int32))])) (fun t k => XS.iconst X0.here hx rfl (hb hby d18_54) k) ?_
            refine own_step (b := T0.setTop (mkF m 59 #[.val (.int x)] [(.int (1 : Int32))])) (fun t k => XS.goto X0.here hx rfl (pc0 := 55) (pc' := 59) rfl (hb hby d18_55) (by decide) (by decide) k) ?_
            exact own_retN X0 hx hret (by simp) hlk (hb hby d18_59) ⟨rfl, rfl, e0⟩ (by decide) (by decide)
          · show own_G p e below _ (T0.setTop (mkF m 48 #[.val (.int x)] []))
            refine own_step (b := T0.setTop (mkF m 49 #[.val (.int x)] [(.int x)])) (fun t k => XS.iloadN X0.here hx rfl (hb hby d18_48) rfl k) ?_
            refine own_step (b := T0.setTop (mkF m 51 #[.val (.int x)] [(.int (45 : Int32)), (.int x)])) (fun t k => XS.bipush X0.here hx rfl (hb hby d18_49) k) ?_
            refine own_icmp_ne X0 hx (hb hby d18_51) (pc' := 58) (by decide) (by decide) (fun c51_6 => ?_) (fun c51_6 => ?_)
            · show own_G p e below _ (T0.setTop (mkF m 58 #[.val (.int x)] []))
              refine own_step (b := T0.setTop (mkF m 59 #[.val (.int x)] [(.int (0 : Int32))])) (fun t k => XS.iconst X0.here hx rfl (hb hby d18_58) k) ?_
              exact absurd hok (by simp [own_ok, c3_1, c15_2, c27_3, c39_4, c45_5, c51_6])
            · show own_G p e below _ (T0.setTop (mkF m 54 #[.val (.int x)] []))
              refine own_step (b := T0.setTop (mkF m 55 #[.val (.int x)] [(.int (1 : Int32))])) (fun t k => XS.iconst X0.here hx rfl (hb hby d18_54) k) ?_
              refine own_step (b := T0.setTop (mkF m 59 #[.val (.int x)] [(.int (1 : Int32))])) (fun t k => XS.goto X0.here hx rfl (pc0 := 55) (pc' := 59) rfl (hb hby d18_55) (by decide) (by decide) k) ?_
              exact own_retN X0 hx hret (by simp) hlk (hb hby d18_59) ⟨rfl, rfl, e0⟩ (by decide) (by decide)
      · show own_G p e below _ (T0.setTop (mkF m 30 #[.val (.int x)] []))
        refine own_step (b := T0.setTop (mkF m 31 #[.val (.int x)] [(.int x)])) (fun t k => XS.iloadN X0.here hx rfl (hb hby d18_30) rfl k) ?_
        refine own_step (b := T0.setTop (mkF m 33 #[.val (.int x)] [(.int (57 : Int32)), (.int x)])) (fun t k => XS.bipush X0.here hx rfl (hb hby d18_31) k) ?_
        refine own_icmp_le X0 hx (hb hby d18_33) (pc' := 54) (by decide) (by decide) (fun c33_7 => ?_) (fun c33_7 => ?_)
        · show own_G p e below _ (T0.setTop (mkF m 54 #[.val (.int x)] []))
          refine own_step (b := T0.setTop (mkF m 55 #[.val (.int x)] [(.int (1 : Int32))])) (fun t k => XS.iconst X0.here hx rfl (hb hby d18_54) k) ?_
          refine own_step (b := T0.setTop (mkF m 59 #[.val (.int x)] [(.int (1 : Int32))])) (fun t k => XS.goto X0.here hx rfl (pc0 := 55) (pc' := 59) rfl (hb hby d18_55) (by decide) (by decide) k) ?_
          exact own_retN X0 hx hret (by simp) hlk (hb hby d18_59) ⟨rfl, rfl, e0⟩ (by decide) (by decide)
        · show own_G p e below _ (T0.setTop (mkF m 36 #[.val (.int x)] []))
          refine own_step (b := T0.setTop (mkF m 37 #[.val (.int x)] [(.int x)])) (fun t k => XS.iloadN X0.here hx rfl (hb hby d18_36) rfl k) ?_
          refine own_step (b := T0.setTop (mkF m 39 #[.val (.int x)] [(.int (46 : Int32)), (.int x)])) (fun t k => XS.bipush X0.here hx rfl (hb hby d18_37) k) ?_
          refine own_icmp_eq X0 hx (hb hby d18_39) (pc' := 54) (by decide) (by decide) (fun c39_8 => ?_) (fun c39_8 => ?_)
          · show own_G p e below _ (T0.setTop (mkF m 54 #[.val (.int x)] []))
            refine own_step (b := T0.setTop (mkF m 55 #[.val (.int x)] [(.int (1 : Int32))])) (fun t k => XS.iconst X0.here hx rfl (hb hby d18_54) k) ?_
            refine own_step (b := T0.setTop (mkF m 59 #[.val (.int x)] [(.int (1 : Int32))])) (fun t k => XS.goto X0.here hx rfl (pc0 := 55) (pc' := 59) rfl (hb hby d18_55) (by decide) (by decide) k) ?_
            exact own_retN X0 hx hret (by simp) hlk (hb hby d18_59) ⟨rfl, rfl, e0⟩ (by decide) (by decide)
          · show own_G p e below _ (T0.setTop (mkF m 42 #[.val (.int x)] []))
            refine own_step (b := T0.setTop (mkF m 43 #[.val (.int x)] [(.int x)])) (fun t k => XS.iloadN X0.here hx rfl (hb hby d18_42) rfl k) ?_
            refine own_step (b := T0.setTop (mkF m 45 #[.val (.int x)] [(.int (95 : Int32)), (.int x)])) (fun t k => XS.bipush X0.here hx rfl (hb hby d18_43) k) ?_
            refine own_icmp_eq X0 hx (hb hby d18_45) (pc' := 54) (by decide) (by decide) (fun c45_9 => ?_) (fun c45_9 => ?_)
            · show own_G p e below _ (T0.setTop (mkF m 54 #[.val (.int x)] []))
              refine own_step (b := T0.setTop (mkF m 55 #[.val (.int x)] [(.int (1 : Int32))])) (fun t k => XS.iconst X0.here hx rfl (hb hby d18_54) k) ?_
              refine own_step (b := T0.setTop (mkF m 59 #[.val (.int x)] [(.int (1 : Int32))])) (fun t k => XS.goto X0.here hx rfl (pc0 := 55) (pc' := 59) rfl (hb hby d18_55) (by decide) (by decide) k) ?_
              exact own_retN X0 hx hret (by simp) hlk (hb hby d18_59) ⟨rfl, rfl, e0⟩ (by decide) (by decide)
            · show own_G p e below _ (T0.setTop (mkF m 48 #[.val (.int x)] []))
              refine own_step (b := T0.setTop (mkF m 49 #[.val (.int x)] [(.int x)])) (fun t k => XS.iloadN X0.here hx rfl (hb hby d18_48) rfl k) ?_
              refine own_step (b := T0.setTop (mkF m 51 #[.val (.int x)] [(.int (45 : Int32)), (.int x)])) (fun t k => XS.bipush X0.here hx rfl (hb hby d18_49) k) ?_
              refine own_icmp_ne X0 hx (hb hby d18_51) (pc' := 58) (by decide) (by decide) (fun c51_10 => ?_) (fun c51_10 => ?_)
              · show own_G p e below _ (T0.setTop (mkF m 58 #[.val (.int x)] []))
                refine own_step (b := T0.setTop (mkF m 59 #[.val (.int x)] [(.int (0 : Int32))])) (fun t k => XS.iconst X0.here hx rfl (hb hby d18_58) k) ?_
                exact absurd hok (by simp [own_ok, c3_1, c15_2, c27_3, c33_7, c39_8, c45_9, c51_10])
              · show own_G p e below _ (T0.setTop (mkF m 54 #[.val (.int x)] []))
                refine own_step (b := T0.setTop (mkF m 55 #[.val (.int x)] [(.int (1 : Int32))])) (fun t k => XS.iconst X0.here hx rfl (hb hby d18_54) k) ?_
                refine own_step (b := T0.setTop (mkF m 59 #[.val (.int x)] [(.int (1 : Int32))])) (fun t k => XS.goto X0.here hx rfl (pc0 := 55) (pc' := 59) rfl (hb hby d18_55) (by decide) (by decide) k) ?_
                exact own_retN X0 hx hret (by simp) hlk (hb hby d18_59) ⟨rfl, rfl, e0⟩ (by decide) (by decide)
    · show own_G p e below _ (T0.setTop (mkF m 18 #[.val (.int x)] []))
      refine own_step (b := T0.setTop (mkF m 19 #[.val (.int x)] [(.int x)])) (fun t k => XS.iloadN X0.here hx rfl (hb hby d18_18) rfl k) ?_
      refine own_step (b := T0.setTop (mkF m 21 #[.val (.int x)] [(.int (122 : Int32)), (.int x)])) (fun t k => XS.bipush X0.here hx rfl (hb hby d18_19) k) ?_
      refine own_icmp_le X0 hx (hb hby d18_21) (pc' := 54) (by decide) (by decide) (fun c21_11 => ?_) (fun c21_11 => ?_)
      · show own_G p e below _ (T0.setTop (mkF m 54 #[.val (.int x)] []))
        refine own_step (b := T0.setTop (mkF m 55 #[.val (.int x)] [(.int (1 : Int32))])) (fun t k => XS.iconst X0.here hx rfl (hb hby d18_54) k) ?_
        refine own_step (b := T0.setTop (mkF m 59 #[.val (.int x)] [(.int (1 : Int32))])) (fun t k => XS.goto X0.here hx rfl (pc0 := 55) (pc' := 59) rfl (hb hby d18_55) (by decide) (by decide) k) ?_
        exact own_retN X0 hx hret (by simp) hlk (hb hby d18_59) ⟨rfl, rfl, e0⟩ (by decide) (by decide)
      · show own_G p e below _ (T0.setTop (mkF m 24 #[.val (.int x)] []))
        refine own_step (b := T0.setTop (mkF m 25 #[.val (.int x)] [(.int x)])) (fun t k => XS.iloadN X0.here hx rfl (hb hby d18_24) rfl k) ?_
        refine own_step (b := T0.setTop (mkF m 27 #[.val (.int x)] [(.int (48 : Int32)), (.int x)])) (fun t k => XS.bipush X0.here hx rfl (hb hby d18_25) k) ?_
        refine own_icmp_lt X0 hx (hb hby d18_27) (pc' := 36) (by decide) (by decide) (fun c27_12 => ?_) (fun c27_12 => ?_)
        · show own_G p e below _ (T0.setTop (mkF m 36 #[.val (.int x)] []))
          refine own_step (b := T0.setTop (mkF m 37 #[.val (.int x)] [(.int x)])) (fun t k => XS.iloadN X0.here hx rfl (hb hby d18_36) rfl k) ?_
          refine own_step (b := T0.setTop (mkF m 39 #[.val (.int x)] [(.int (46 : Int32)), (.int x)])) (fun t k => XS.bipush X0.here hx rfl (hb hby d18_37) k) ?_
          refine own_icmp_eq X0 hx (hb hby d18_39) (pc' := 54) (by decide) (by decide) (fun c39_13 => ?_) (fun c39_13 => ?_)
          · show own_G p e below _ (T0.setTop (mkF m 54 #[.val (.int x)] []))
            refine own_step (b := T0.setTop (mkF m 55 #[.val (.int x)] [(.int (1 : Int32))])) (fun t k => XS.iconst X0.here hx rfl (hb hby d18_54) k) ?_
            refine own_step (b := T0.setTop (mkF m 59 #[.val (.int x)] [(.int (1 : Int32))])) (fun t k => XS.goto X0.here hx rfl (pc0 := 55) (pc' := 59) rfl (hb hby d18_55) (by decide) (by decide) k) ?_
            exact own_retN X0 hx hret (by simp) hlk (hb hby d18_59) ⟨rfl, rfl, e0⟩ (by decide) (by decide)
          · show own_G p e below _ (T0.setTop (mkF m 42 #[.val (.int x)] []))
            refine own_step (b := T0.setTop (mkF m 43 #[.val (.int x)] [(.int x)])) (fun t k => XS.iloadN X0.here hx rfl (hb hby d18_42) rfl k) ?_
            refine own_step (b := T0.setTop (mkF m 45 #[.val (.int x)] [(.int (95 : Int32)), (.int x)])) (fun t k => XS.bipush X0.here hx rfl (hb hby d18_43) k) ?_
            refine own_icmp_eq X0 hx (hb hby d18_45) (pc' := 54) (by decide) (by decide) (fun c45_14 => ?_) (fun c45_14 => ?_)
            · show own_G p e below _ (T0.setTop (mkF m 54 #[.val (.int x)] []))
              refine own_step (b := T0.setTop (mkF m 55 #[.val (.int x)] [(.int (1 : Int32))])) (fun t k => XS.iconst X0.here hx rfl (hb hby d18_54) k) ?_
              refine own_step (b := T0.setTop (mkF m 59 #[.val (.int x)] [(.int (1 : Int32))])) (fun t k => XS.goto X0.here hx rfl (pc0 := 55) (pc' := 59) rfl (hb hby d18_55) (by decide) (by decide) k) ?_
              exact own_retN X0 hx hret (by simp) hlk (hb hby d18_59) ⟨rfl, rfl, e0⟩ (by decide) (by decide)
            · show own_G p e below _ (T0.setTop (mkF m 48 #[.val (.int x)] []))
              refine own_step (b := T0.setTop (mkF m 49 #[.val (.int x)] [(.int x)])) (fun t k => XS.iloadN X0.here hx rfl (hb hby d18_48) rfl k) ?_
              refine own_step (b := T0.setTop (mkF m 51 #[.val (.int x)] [(.int (45 : Int32)), (.int x)])) (fun t k => XS.bipush X0.here hx rfl (hb hby d18_49) k) ?_
              refine own_icmp_ne X0 hx (hb hby d18_51) (pc' := 58) (by decide) (by decide) (fun c51_15 => ?_) (fun c51_15 => ?_)
              · show own_G p e below _ (T0.setTop (mkF m 58 #[.val (.int x)] []))
                refine own_step (b := T0.setTop (mkF m 59 #[.val (.int x)] [(.int (0 : Int32))])) (fun t k => XS.iconst X0.here hx rfl (hb hby d18_58) k) ?_
                exact absurd hok (by simp [own_ok, c3_1, c15_2, c21_11, c27_12, c39_13, c45_14, c51_15])
              · show own_G p e below _ (T0.setTop (mkF m 54 #[.val (.int x)] []))
                refine own_step (b := T0.setTop (mkF m 55 #[.val (.int x)] [(.int (1 : Int32))])) (fun t k => XS.iconst X0.here hx rfl (hb hby d18_54) k) ?_
                refine own_step (b := T0.setTop (mkF m 59 #[.val (.int x)] [(.int (1 : Int32))])) (fun t k => XS.goto X0.here hx rfl (pc0 := 55) (pc' := 59) rfl (hb hby d18_55) (by decide) (by decide) k) ?_
                exact own_retN X0 hx hret (by simp) hlk (hb hby d18_59) ⟨rfl, rfl, e0⟩ (by decide) (by decide)
        · show own_G p e below _ (T0.setTop (mkF m 30 #[.val (.int x)] []))
          refine own_step (b := T0.setTop (mkF m 31 #[.val (.int x)] [(.int x)])) (fun t k => XS.iloadN X0.here hx rfl (hb hby d18_30) rfl k) ?_
          refine own_step (b := T0.setTop (mkF m 33 #[.val (.int x)] [(.int (57 : Int32)), (.int x)])) (fun t k => XS.bipush X0.here hx rfl (hb hby d18_31) k) ?_
          refine own_icmp_le X0 hx (hb hby d18_33) (pc' := 54) (by decide) (by decide) (fun c33_16 => ?_) (fun c33_16 => ?_)
          · show own_G p e below _ (T0.setTop (mkF m 54 #[.val (.int x)] []))
            refine own_step (b := T0.setTop (mkF m 55 #[.val (.int x)] [(.int (1 : Int32))])) (fun t k => XS.iconst X0.here hx rfl (hb hby d18_54) k) ?_
            refine own_step (b := T0.setTop (mkF m 59 #[.val (.int x)] [(.int (1 : Int32))])) (fun t k => XS.goto X0.here hx rfl (pc0 := 55) (pc' := 59) rfl (hb hby d18_55) (by decide) (by decide) k) ?_
            exact own_retN X0 hx hret (by simp) hlk (hb hby d18_59) ⟨rfl, rfl, e0⟩ (by decide) (by decide)
          · show own_G p e below _ (T0.setTop (mkF m 36 #[.val (.int x)] []))
            refine own_step (b := T0.setTop (mkF m 37 #[.val (.int x)] [(.int x)])) (fun t k => XS.iloadN X0.here hx rfl (hb hby d18_36) rfl k) ?_
            refine own_step (b := T0.setTop (mkF m 39 #[.val (.int x)] [(.int (46 : Int32)), (.int x)])) (fun t k => XS.bipush X0.here hx rfl (hb hby d18_37) k) ?_
            refine own_icmp_eq X0 hx (hb hby d18_39) (pc' := 54) (by decide) (by decide) (fun c39_17 => ?_) (fun c39_17 => ?_)
            · show own_G p e below _ (T0.setTop (mkF m 54 #[.val (.int x)] []))
              refine own_step (b := T0.setTop (mkF m 55 #[.val (.int x)] [(.int (1 : Int32))])) (fun t k => XS.iconst X0.here hx rfl (hb hby d18_54) k) ?_
              refine own_step (b := T0.setTop (mkF m 59 #[.val (.int x)] [(.int (1 : Int32))])) (fun t k => XS.goto X0.here hx rfl (pc0 := 55) (pc' := 59) rfl (hb hby d18_55) (by decide) (by decide) k) ?_
              exact own_retN X0 hx hret (by simp) hlk (hb hby d18_59) ⟨rfl, rfl, e0⟩ (by decide) (by decide)
            · show own_G p e below _ (T0.setTop (mkF m 42 #[.val (.int x)] []))
              refine own_step (b := T0.setTop (mkF m 43 #[.val (.int x)] [(.int x)])) (fun t k => XS.iloadN X0.here hx rfl (hb hby d18_42) rfl k) ?_
              refine own_step (b := T0.setTop (mkF m 45 #[.val (.int x)] [(.int (95 : Int32)), (.int x)])) (fun t k => XS.bipush X0.here hx rfl (hb hby d18_43) k) ?_
              refine own_icmp_eq X0 hx (hb hby d18_45) (pc' := 54) (by decide) (by decide) (fun c45_18 => ?_) (fun c45_18 => ?_)
              · show own_G p e below _ (T0.setTop (mkF m 54 #[.val (.int x)] []))
                refine own_step (b := T0.setTop (mkF m 55 #[.val (.int x)] [(.int (1 : Int32))])) (fun t k => XS.iconst X0.here hx rfl (hb hby d18_54) k) ?_
                refine own_step (b := T0.setTop (mkF m 59 #[.val (.int x)] [(.int (1 : Int32))])) (fun t k => XS.goto X0.here hx rfl (pc0 := 55) (pc' := 59) rfl (hb hby d18_55) (by decide) (by decide) k) ?_
                exact own_retN X0 hx hret (by simp) hlk (hb hby d18_59) ⟨rfl, rfl, e0⟩ (by decide) (by decide)
              · show own_G p e below _ (T0.setTop (mkF m 48 #[.val (.int x)] []))
                refine own_step (b := T0.setTop (mkF m 49 #[.val (.int x)] [(.int x)])) (fun t k => XS.iloadN X0.here hx rfl (hb hby d18_48) rfl k) ?_
                refine own_step (b := T0.setTop (mkF m 51 #[.val (.int x)] [(.int (45 : Int32)), (.int x)])) (fun t k => XS.bipush X0.here hx rfl (hb hby d18_49) k) ?_
                refine own_icmp_ne X0 hx (hb hby d18_51) (pc' := 58) (by decide) (by decide) (fun c51_19 => ?_) (fun c51_19 => ?_)
                · show own_G p e below _ (T0.setTop (mkF m 58 #[.val (.int x)] []))
                  refine own_step (b := T0.setTop (mkF m 59 #[.val (.int x)] [(.int (0 : Int32))])) (fun t k => XS.iconst X0.here hx rfl (hb hby d18_58) k) ?_
                  exact absurd hok (by simp [own_ok, c3_1, c15_2, c21_11, c27_12, c33_16, c39_17, c45_18, c51_19])
                · show own_G p e below _ (T0.setTop (mkF m 54 #[.val (.int x)] []))
                  refine own_step (b := T0.setTop (mkF m 55 #[.val (.int x)] [(.int (1 : Int32))])) (fun t k => XS.iconst X0.here hx rfl (hb hby d18_54) k) ?_
                  refine own_step (b := T0.setTop (mkF m 59 #[.val (.int x)] [(.int (1 : Int32))])) (fun t k => XS.goto X0.here hx rfl (pc0 := 55) (pc' := 59) rfl (hb hby d18_55) (by decide) (by decide) k) ?_
                  exact own_retN X0 hx hret (by simp) hlk (hb hby d18_59) ⟨rfl, rfl, e0⟩ (by decide) (by decide)
  · show own_G p e below _ (T0.setTop (mkF m 6 #[.val (.int x)] []))
    refine own_step (b := T0.setTop (mkF m 7 #[.val (.int x)] [(.int x)])) (fun t k => XS.iloadN X0.here hx rfl (hb hby d18_6) rfl k) ?_
    refine own_step (b := T0.setTop (mkF m 9 #[.val (.int x)] [(.int (90 : Int32)), (.int x)])) (fun t k => XS.bipush X0.here hx rfl (hb hby d18_7) k) ?_
    refine own_icmp_le X0 hx (hb hby d18_9) (pc' := 54) (by decide) (by decide) (fun c9_20 => ?_) (fun c9_20 => ?_)
    · show own_G p e below _ (T0.setTop (mkF m 54 #[.val (.int x)] []))
      refine own_step (b := T0.setTop (mkF m 55 #[.val (.int x)] [(.int (1 : Int32))])) (fun t k => XS.iconst X0.here hx rfl (hb hby d18_54) k) ?_
      refine own_step (b := T0.setTop (mkF m 59 #[.val (.int x)] [(.int (1 : Int32))])) (fun t k => XS.goto X0.here hx rfl (pc0 := 55) (pc' := 59) rfl (hb hby d18_55) (by decide) (by decide) k) ?_
      exact own_retN X0 hx hret (by simp) hlk (hb hby d18_59) ⟨rfl, rfl, e0⟩ (by decide) (by decide)
    · show own_G p e below _ (T0.setTop (mkF m 12 #[.val (.int x)] []))
      refine own_step (b := T0.setTop (mkF m 13 #[.val (.int x)] [(.int x)])) (fun t k => XS.iloadN X0.here hx rfl (hb hby d18_12) rfl k) ?_
      refine own_step (b := T0.setTop (mkF m 15 #[.val (.int x)] [(.int (97 : Int32)), (.int x)])) (fun t k => XS.bipush X0.here hx rfl (hb hby d18_13) k) ?_
      refine own_icmp_lt X0 hx (hb hby d18_15) (pc' := 24) (by decide) (by decide) (fun c15_21 => ?_) (fun c15_21 => ?_)
      · show own_G p e below _ (T0.setTop (mkF m 24 #[.val (.int x)] []))
        refine own_step (b := T0.setTop (mkF m 25 #[.val (.int x)] [(.int x)])) (fun t k => XS.iloadN X0.here hx rfl (hb hby d18_24) rfl k) ?_
        refine own_step (b := T0.setTop (mkF m 27 #[.val (.int x)] [(.int (48 : Int32)), (.int x)])) (fun t k => XS.bipush X0.here hx rfl (hb hby d18_25) k) ?_
        refine own_icmp_lt X0 hx (hb hby d18_27) (pc' := 36) (by decide) (by decide) (fun c27_22 => ?_) (fun c27_22 => ?_)
        · show own_G p e below _ (T0.setTop (mkF m 36 #[.val (.int x)] []))
          refine own_step (b := T0.setTop (mkF m 37 #[.val (.int x)] [(.int x)])) (fun t k => XS.iloadN X0.here hx rfl (hb hby d18_36) rfl k) ?_
          refine own_step (b := T0.setTop (mkF m 39 #[.val (.int x)] [(.int (46 : Int32)), (.int x)])) (fun t k => XS.bipush X0.here hx rfl (hb hby d18_37) k) ?_
          refine own_icmp_eq X0 hx (hb hby d18_39) (pc' := 54) (by decide) (by decide) (fun c39_23 => ?_) (fun c39_23 => ?_)
          · show own_G p e below _ (T0.setTop (mkF m 54 #[.val (.int x)] []))
            refine own_step (b := T0.setTop (mkF m 55 #[.val (.int x)] [(.int (1 : Int32))])) (fun t k => XS.iconst X0.here hx rfl (hb hby d18_54) k) ?_
            refine own_step (b := T0.setTop (mkF m 59 #[.val (.int x)] [(.int (1 : Int32))])) (fun t k => XS.goto X0.here hx rfl (pc0 := 55) (pc' := 59) rfl (hb hby d18_55) (by decide) (by decide) k) ?_
            exact own_retN X0 hx hret (by simp) hlk (hb hby d18_59) ⟨rfl, rfl, e0⟩ (by decide) (by decide)
          · show own_G p e below _ (T0.setTop (mkF m 42 #[.val (.int x)] []))
            refine own_step (b := T0.setTop (mkF m 43 #[.val (.int x)] [(.int x)])) (fun t k => XS.iloadN X0.here hx rfl (hb hby d18_42) rfl k) ?_
            refine own_step (b := T0.setTop (mkF m 45 #[.val (.int x)] [(.int (95 : Int32)), (.int x)])) (fun t k => XS.bipush X0.here hx rfl (hb hby d18_43) k) ?_
            refine own_icmp_eq X0 hx (hb hby d18_45) (pc' := 54) (by decide) (by decide) (fun c45_24 => ?_) (fun c45_24 => ?_)
            · show own_G p e below _ (T0.setTop (mkF m 54 #[.val (.int x)] []))
              refine own_step (b := T0.setTop (mkF m 55 #[.val (.int x)] [(.int (1 : Int32))])) (fun t k => XS.iconst X0.here hx rfl (hb hby d18_54) k) ?_
              refine own_step (b := T0.setTop (mkF m 59 #[.val (.int x)] [(.int (1 : Int32))])) (fun t k => XS.goto X0.here hx rfl (pc0 := 55) (pc' := 59) rfl (hb hby d18_55) (by decide) (by decide) k) ?_
              exact own_retN X0 hx hret (by simp) hlk (hb hby d18_59) ⟨rfl, rfl, e0⟩ (by decide) (by decide)
            · show own_G p e below _ (T0.setTop (mkF m 48 #[.val (.int x)] []))
              refine own_step (b := T0.setTop (mkF m 49 #[.val (.int x)] [(.int x)])) (fun t k => XS.iloadN X0.here hx rfl (hb hby d18_48) rfl k) ?_
              refine own_step (b := T0.setTop (mkF m 51 #[.val (.int x)] [(.int (45 : Int32)), (.int x)])) (fun t k => XS.bipush X0.here hx rfl (hb hby d18_49) k) ?_
              refine own_icmp_ne X0 hx (hb hby d18_51) (pc' := 58) (by decide) (by decide) (fun c51_25 => ?_) (fun c51_25 => ?_)
              · show own_G p e below _ (T0.setTop (mkF m 58 #[.val (.int x)] []))
                refine own_step (b := T0.setTop (mkF m 59 #[.val (.int x)] [(.int (0 : Int32))])) (fun t k => XS.iconst X0.here hx rfl (hb hby d18_58) k) ?_
                exact absurd hok (by simp [own_ok, c3_1, c9_20, c15_21, c27_22, c39_23, c45_24, c51_25])
              · show own_G p e below _ (T0.setTop (mkF m 54 #[.val (.int x)] []))
                refine own_step (b := T0.setTop (mkF m 55 #[.val (.int x)] [(.int (1 : Int32))])) (fun t k => XS.iconst X0.here hx rfl (hb hby d18_54) k) ?_
                refine own_step (b := T0.setTop (mkF m 59 #[.val (.int x)] [(.int (1 : Int32))])) (fun t k => XS.goto X0.here hx rfl (pc0 := 55) (pc' := 59) rfl (hb hby d18_55) (by decide) (by decide) k) ?_
                exact own_retN X0 hx hret (by simp) hlk (hb hby d18_59) ⟨rfl, rfl, e0⟩ (by decide) (by decide)
        · show own_G p e below _ (T0.setTop (mkF m 30 #[.val (.int x)] []))
          refine own_step (b := T0.setTop (mkF m 31 #[.val (.int x)] [(.int x)])) (fun t k => XS.iloadN X0.here hx rfl (hb hby d18_30) rfl k) ?_
          refine own_step (b := T0.setTop (mkF m 33 #[.val (.int x)] [(.int (57 : Int32)), (.int x)])) (fun t k => XS.bipush X0.here hx rfl (hb hby d18_31) k) ?_
          refine own_icmp_le X0 hx (hb hby d18_33) (pc' := 54) (by decide) (by decide) (fun c33_26 => ?_) (fun c33_26 => ?_)
          · show own_G p e below _ (T0.setTop (mkF m 54 #[.val (.int x)] []))
            refine own_step (b := T0.setTop (mkF m 55 #[.val (.int x)] [(.int (1 : Int32))])) (fun t k => XS.iconst X0.here hx rfl (hb hby d18_54) k) ?_
            refine own_step (b := T0.setTop (mkF m 59 #[.val (.int x)] [(.int (1 : Int32))])) (fun t k => XS.goto X0.here hx rfl (pc0 := 55) (pc' := 59) rfl (hb hby d18_55) (by decide) (by decide) k) ?_
            exact own_retN X0 hx hret (by simp) hlk (hb hby d18_59) ⟨rfl, rfl, e0⟩ (by decide) (by decide)
          · show own_G p e below _ (T0.setTop (mkF m 36 #[.val (.int x)] []))
            refine own_step (b := T0.setTop (mkF m 37 #[.val (.int x)] [(.int x)])) (fun t k => XS.iloadN X0.here hx rfl (hb hby d18_36) rfl k) ?_
            refine own_step (b := T0.setTop (mkF m 39 #[.val (.int x)] [(.int (46 : Int32)), (.int x)])) (fun t k => XS.bipush X0.here hx rfl (hb hby d18_37) k) ?_
            refine own_icmp_eq X0 hx (hb hby d18_39) (pc' := 54) (by decide) (by decide) (fun c39_27 => ?_) (fun c39_27 => ?_)
            · show own_G p e below _ (T0.setTop (mkF m 54 #[.val (.int x)] []))
              refine own_step (b := T0.setTop (mkF m 55 #[.val (.int x)] [(.int (1 : Int32))])) (fun t k => XS.iconst X0.here hx rfl (hb hby d18_54) k) ?_
              refine own_step (b := T0.setTop (mkF m 59 #[.val (.int x)] [(.int (1 : Int32))])) (fun t k => XS.goto X0.here hx rfl (pc0 := 55) (pc' := 59) rfl (hb hby d18_55) (by decide) (by decide) k) ?_
              exact own_retN X0 hx hret (by simp) hlk (hb hby d18_59) ⟨rfl, rfl, e0⟩ (by decide) (by decide)
            · show own_G p e below _ (T0.setTop (mkF m 42 #[.val (.int x)] []))
              refine own_step (b := T0.setTop (mkF m 43 #[.val (.int x)] [(.int x)])) (fun t k => XS.iloadN X0.here hx rfl (hb hby d18_42) rfl k) ?_
              refine own_step (b := T0.setTop (mkF m 45 #[.val (.int x)] [(.int (95 : Int32)), (.int x)])) (fun t k => XS.bipush X0.here hx rfl (hb hby d18_43) k) ?_
              refine own_icmp_eq X0 hx (hb hby d18_45) (pc' := 54) (by decide) (by decide) (fun c45_28 => ?_) (fun c45_28 => ?_)
              · show own_G p e below _ (T0.setTop (mkF m 54 #[.val (.int x)] []))
                refine own_step (b := T0.setTop (mkF m 55 #[.val (.int x)] [(.int (1 : Int32))])) (fun t k => XS.iconst X0.here hx rfl (hb hby d18_54) k) ?_
                refine own_step (b := T0.setTop (mkF m 59 #[.val (.int x)] [(.int (1 : Int32))])) (fun t k => XS.goto X0.here hx rfl (pc0 := 55) (pc' := 59) rfl (hb hby d18_55) (by decide) (by decide) k) ?_
                exact own_retN X0 hx hret (by simp) hlk (hb hby d18_59) ⟨rfl, rfl, e0⟩ (by decide) (by decide)
              · show own_G p e below _ (T0.setTop (mkF m 48 #[.val (.int x)] []))
                refine own_step (b := T0.setTop (mkF m 49 #[.val (.int x)] [(.int x)])) (fun t k => XS.iloadN X0.here hx rfl (hb hby d18_48) rfl k) ?_
                refine own_step (b := T0.setTop (mkF m 51 #[.val (.int x)] [(.int (45 : Int32)), (.int x)])) (fun t k => XS.bipush X0.here hx rfl (hb hby d18_49) k) ?_
                refine own_icmp_ne X0 hx (hb hby d18_51) (pc' := 58) (by decide) (by decide) (fun c51_29 => ?_) (fun c51_29 => ?_)
                · show own_G p e below _ (T0.setTop (mkF m 58 #[.val (.int x)] []))
                  refine own_step (b := T0.setTop (mkF m 59 #[.val (.int x)] [(.int (0 : Int32))])) (fun t k => XS.iconst X0.here hx rfl (hb hby d18_58) k) ?_
                  exact absurd hok (by simp [own_ok, c3_1, c9_20, c15_21, c27_22, c33_26, c39_27, c45_28, c51_29])
                · show own_G p e below _ (T0.setTop (mkF m 54 #[.val (.int x)] []))
                  refine own_step (b := T0.setTop (mkF m 55 #[.val (.int x)] [(.int (1 : Int32))])) (fun t k => XS.iconst X0.here hx rfl (hb hby d18_54) k) ?_
                  refine own_step (b := T0.setTop (mkF m 59 #[.val (.int x)] [(.int (1 : Int32))])) (fun t k => XS.goto X0.here hx rfl (pc0 := 55) (pc' := 59) rfl (hb hby d18_55) (by decide) (by decide) k) ?_
                  exact own_retN X0 hx hret (by simp) hlk (hb hby d18_59) ⟨rfl, rfl, e0⟩ (by decide) (by decide)
      · show own_G p e below _ (T0.setTop (mkF m 18 #[.val (.int x)] []))
        refine own_step (b := T0.setTop (mkF m 19 #[.val (.int x)] [(.int x)])) (fun t k => XS.iloadN X0.here hx rfl (hb hby d18_18) rfl k) ?_
        refine own_step (b := T0.setTop (mkF m 21 #[.val (.int x)] [(.int (122 : Int32)), (.int x)])) (fun t k => XS.bipush X0.here hx rfl (hb hby d18_19) k) ?_
        refine own_icmp_le X0 hx (hb hby d18_21) (pc' := 54) (by decide) (by decide) (fun c21_30 => ?_) (fun c21_30 => ?_)
        · show own_G p e below _ (T0.setTop (mkF m 54 #[.val (.int x)] []))
          refine own_step (b := T0.setTop (mkF m 55 #[.val (.int x)] [(.int (1 : Int32))])) (fun t k => XS.iconst X0.here hx rfl (hb hby d18_54) k) ?_
          refine own_step (b := T0.setTop (mkF m 59 #[.val (.int x)] [(.int (1 : Int32))])) (fun t k => XS.goto X0.here hx rfl (pc0 := 55) (pc' := 59) rfl (hb hby d18_55) (by decide) (by decide) k) ?_
          exact own_retN X0 hx hret (by simp) hlk (hb hby d18_59) ⟨rfl, rfl, e0⟩ (by decide) (by decide)
        · show own_G p e below _ (T0.setTop (mkF m 24 #[.val (.int x)] []))
          refine own_step (b := T0.setTop (mkF m 25 #[.val (.int x)] [(.int x)])) (fun t k => XS.iloadN X0.here hx rfl (hb hby d18_24) rfl k) ?_
          refine own_step (b := T0.setTop (mkF m 27 #[.val (.int x)] [(.int (48 : Int32)), (.int x)])) (fun t k => XS.bipush X0.here hx rfl (hb hby d18_25) k) ?_
          refine own_icmp_lt X0 hx (hb hby d18_27) (pc' := 36) (by decide) (by decide) (fun c27_31 => ?_) (fun c27_31 => ?_)
          · show own_G p e below _ (T0.setTop (mkF m 36 #[.val (.int x)] []))
            refine own_step (b := T0.setTop (mkF m 37 #[.val (.int x)] [(.int x)])) (fun t k => XS.iloadN X0.here hx rfl (hb hby d18_36) rfl k) ?_
            refine own_step (b := T0.setTop (mkF m 39 #[.val (.int x)] [(.int (46 : Int32)), (.int x)])) (fun t k => XS.bipush X0.here hx rfl (hb hby d18_37) k) ?_
            refine own_icmp_eq X0 hx (hb hby d18_39) (pc' := 54) (by decide) (by decide) (fun c39_32 => ?_) (fun c39_32 => ?_)
            · show own_G p e below _ (T0.setTop (mkF m 54 #[.val (.int x)] []))
              refine own_step (b := T0.setTop (mkF m 55 #[.val (.int x)] [(.int (1 : Int32))])) (fun t k => XS.iconst X0.here hx rfl (hb hby d18_54) k) ?_
              refine own_step (b := T0.setTop (mkF m 59 #[.val (.int x)] [(.int (1 : Int32))])) (fun t k => XS.goto X0.here hx rfl (pc0 := 55) (pc' := 59) rfl (hb hby d18_55) (by decide) (by decide) k) ?_
              exact own_retN X0 hx hret (by simp) hlk (hb hby d18_59) ⟨rfl, rfl, e0⟩ (by decide) (by decide)
            · show own_G p e below _ (T0.setTop (mkF m 42 #[.val (.int x)] []))
              refine own_step (b := T0.setTop (mkF m 43 #[.val (.int x)] [(.int x)])) (fun t k => XS.iloadN X0.here hx rfl (hb hby d18_42) rfl k) ?_
              refine own_step (b := T0.setTop (mkF m 45 #[.val (.int x)] [(.int (95 : Int32)), (.int x)])) (fun t k => XS.bipush X0.here hx rfl (hb hby d18_43) k) ?_
              refine own_icmp_eq X0 hx (hb hby d18_45) (pc' := 54) (by decide) (by decide) (fun c45_33 => ?_) (fun c45_33 => ?_)
              · show own_G p e below _ (T0.setTop (mkF m 54 #[.val (.int x)] []))
                refine own_step (b := T0.setTop (mkF m 55 #[.val (.int x)] [(.int (1 : Int32))])) (fun t k => XS.iconst X0.here hx rfl (hb hby d18_54) k) ?_
                refine own_step (b := T0.setTop (mkF m 59 #[.val (.int x)] [(.int (1 : Int32))])) (fun t k => XS.goto X0.here hx rfl (pc0 := 55) (pc' := 59) rfl (hb hby d18_55) (by decide) (by decide) k) ?_
                exact own_retN X0 hx hret (by simp) hlk (hb hby d18_59) ⟨rfl, rfl, e0⟩ (by decide) (by decide)
              · show own_G p e below _ (T0.setTop (mkF m 48 #[.val (.int x)] []))
                refine own_step (b := T0.setTop (mkF m 49 #[.val (.int x)] [(.int x)])) (fun t k => XS.iloadN X0.here hx rfl (hb hby d18_48) rfl k) ?_
                refine own_step (b := T0.setTop (mkF m 51 #[.val (.int x)] [(.int (45 : Int32)), (.int x)])) (fun t k => XS.bipush X0.here hx rfl (hb hby d18_49) k) ?_
                refine own_icmp_ne X0 hx (hb hby d18_51) (pc' := 58) (by decide) (by decide) (fun c51_34 => ?_) (fun c51_34 => ?_)
                · show own_G p e below _ (T0.setTop (mkF m 58 #[.val (.int x)] []))
                  refine own_step (b := T0.setTop (mkF m 59 #[.val (.int x)] [(.int (0 : Int32))])) (fun t k => XS.iconst X0.here hx rfl (hb hby d18_58) k) ?_
                  exact absurd hok (by simp [own_ok, c3_1, c9_20, c15_21, c21_30, c27_31, c39_32, c45_33, c51_34])
                · show own_G p e below _ (T0.setTop (mkF m 54 #[.val (.int x)] []))
                  refine own_step (b := T0.setTop (mkF m 55 #[.val (.int x)] [(.int (1 : Int32))])) (fun t k => XS.iconst X0.here hx rfl (hb hby d18_54) k) ?_
                  refine own_step (b := T0.setTop (mkF m 59 #[.val (.int x)] [(.int (1 : Int32))])) (fun t k => XS.goto X0.here hx rfl (pc0 := 55) (pc' := 59) rfl (hb hby d18_55) (by decide) (by decide) k) ?_
                  exact own_retN X0 hx hret (by simp) hlk (hb hby d18_59) ⟨rfl, rfl, e0⟩ (by decide) (by decide)
          · show own_G p e below _ (T0.setTop (mkF m 30 #[.val (.int x)] []))
            refine own_step (b := T0.setTop (mkF m 31 #[.val (.int x)] [(.int x)])) (fun t k => XS.iloadN X0.here hx rfl (hb hby d18_30) rfl k) ?_
            refine own_step (b := T0.setTop (mkF m 33 #[.val (.int x)] [(.int (57 : Int32)), (.int x)])) (fun t k => XS.bipush X0.here hx rfl (hb hby d18_31) k) ?_
            refine own_icmp_le X0 hx (hb hby d18_33) (pc' := 54) (by decide) (by decide) (fun c33_35 => ?_) (fun c33_35 => ?_)
            · show own_G p e below _ (T0.setTop (mkF m 54 #[.val (.int x)] []))
              refine own_step (b := T0.setTop (mkF m 55 #[.val (.int x)] [(.int (1 : Int32))])) (fun t k => XS.iconst X0.here hx rfl (hb hby d18_54) k) ?_
              refine own_step (b := T0.setTop (mkF m 59 #[.val (.int x)] [(.int (1 : Int32))])) (fun t k => XS.goto X0.here hx rfl (pc0 := 55) (pc' := 59) rfl (hb hby d18_55) (by decide) (by decide) k) ?_
              exact own_retN X0 hx hret (by simp) hlk (hb hby d18_59) ⟨rfl, rfl, e0⟩ (by decide) (by decide)
            · show own_G p e below _ (T0.setTop (mkF m 36 #[.val (.int x)] []))
              refine own_step (b := T0.setTop (mkF m 37 #[.val (.int x)] [(.int x)])) (fun t k => XS.iloadN X0.here hx rfl (hb hby d18_36) rfl k) ?_
              refine own_step (b := T0.setTop (mkF m 39 #[.val (.int x)] [(.int (46 : Int32)), (.int x)])) (fun t k => XS.bipush X0.here hx rfl (hb hby d18_37) k) ?_
              refine own_icmp_eq X0 hx (hb hby d18_39) (pc' := 54) (by decide) (by decide) (fun c39_36 => ?_) (fun c39_36 => ?_)
              · show own_G p e below _ (T0.setTop (mkF m 54 #[.val (.int x)] []))
                refine own_step (b := T0.setTop (mkF m 55 #[.val (.int x)] [(.int (1 : Int32))])) (fun t k => XS.iconst X0.here hx rfl (hb hby d18_54) k) ?_
                refine own_step (b := T0.setTop (mkF m 59 #[.val (.int x)] [(.int (1 : Int32))])) (fun t k => XS.goto X0.here hx rfl (pc0 := 55) (pc' := 59) rfl (hb hby d18_55) (by decide) (by decide) k) ?_
                exact own_retN X0 hx hret (by simp) hlk (hb hby d18_59) ⟨rfl, rfl, e0⟩ (by decide) (by decide)
              · show own_G p e below _ (T0.setTop (mkF m 42 #[.val (.int x)] []))
                refine own_step (b := T0.setTop (mkF m 43 #[.val (.int x)] [(.int x)])) (fun t k => XS.iloadN X0.here hx rfl (hb hby d18_42) rfl k) ?_
                refine own_step (b := T0.setTop (mkF m 45 #[.val (.int x)] [(.int (95 : Int32)), (.int x)])) (fun t k => XS.bipush X0.here hx rfl (hb hby d18_43) k) ?_
                refine own_icmp_eq X0 hx (hb hby d18_45) (pc' := 54) (by decide) (by decide) (fun c45_37 => ?_) (fun c45_37 => ?_)
                · show own_G p e below _ (T0.setTop (mkF m 54 #[.val (.int x)] []))
                  refine own_step (b := T0.setTop (mkF m 55 #[.val (.int x)] [(.int (1 : Int32))])) (fun t k => XS.iconst X0.here hx rfl (hb hby d18_54) k) ?_
                  refine own_step (b := T0.setTop (mkF m 59 #[.val (.int x)] [(.int (1 : Int32))])) (fun t k => XS.goto X0.here hx rfl (pc0 := 55) (pc' := 59) rfl (hb hby d18_55) (by decide) (by decide) k) ?_
                  exact own_retN X0 hx hret (by simp) hlk (hb hby d18_59) ⟨rfl, rfl, e0⟩ (by decide) (by decide)
                · show own_G p e below _ (T0.setTop (mkF m 48 #[.val (.int x)] []))
                  refine own_step (b := T0.setTop (mkF m 49 #[.val (.int x)] [(.int x)])) (fun t k => XS.iloadN X0.here hx rfl (hb hby d18_48) rfl k) ?_
                  refine own_step (b := T0.setTop (mkF m 51 #[.val (.int x)] [(.int (45 : Int32)), (.int x)])) (fun t k => XS.bipush X0.here hx rfl (hb hby d18_49) k) ?_
                  refine own_icmp_ne X0 hx (hb hby d18_51) (pc' := 58) (by decide) (by decide) (fun c51_38 => ?_) (fun c51_38 => ?_)
                  · show own_G p e below _ (T0.setTop (mkF m 58 #[.val (.int x)] []))
                    refine own_step (b := T0.setTop (mkF m 59 #[.val (.int x)] [(.int (0 : Int32))])) (fun t k => XS.iconst X0.here hx rfl (hb hby d18_58) k) ?_
                    exact absurd hok (by simp [own_ok, c3_1, c9_20, c15_21, c21_30, c27_31, c33_35, c39_36, c45_37, c51_38])
                  · show own_G p e below _ (T0.setTop (mkF m 54 #[.val (.int x)] []))
                    refine own_step (b := T0.setTop (mkF m 55 #[.val (.int x)] [(.int (1 : Int32))])) (fun t k => XS.iconst X0.here hx rfl (hb hby d18_54) k) ?_
                    refine own_step (b := T0.setTop (mkF m 59 #[.val (.int x)] [(.int (1 : Int32))])) (fun t k => XS.goto X0.here hx rfl (pc0 := 55) (pc' := 59) rfl (hb hby d18_55) (by decide) (by decide) k) ?_
                    exact own_retN X0 hx hret (by simp) hlk (hb hby d18_59) ⟨rfl, rfl, e0⟩ (by decide) (by decide)
theorem ef_rnn (m : MethodId) (x y : Addr) : entryFrame m #[(.ref x), (.ref y)] 2 = mkF m 0 #[.val (.ref x), .val (.ref y)] [] := by first | (simp [entryFrame, mkF, argsToLocals, Value.category, maxLocals]; done) | rfl
set_option maxRecDepth 65536 in
set_option maxHeartbeats 40000000 in
theorem rmRnn (l : Launch) (Z : State) (a0 : Array Value) (hw : ∀ d ∈ tables_1, d.before a0 Z = true) (ws : List Jvm.Cond) (x y : Addr) (h0 : Heap) :
    own_Met l Z (⟨"java/util/Objects", "requireNonNull", "(Ljava/lang/Object;Ljava/lang/String;)Ljava/lang/Object;"⟩ : MethodName) jdk_31_method_11_code 2 (some (.object "java/lang/Object")) ws ⟨0, 0, 0, 0⟩ #[(.ref x), (.ref y)] h0 (own_P (some (.ref x)) h0) := by
  refine own_enter (plainFor_of_name pn2) (fun m => ef_rnn m x y) ?_
  intro p e s m below meth c T0 hx hby hml hZ hown hnm hret hlk X0 e0
  show own_G p e below _ (T0.setTop (mkF m 0 #[.val (.ref x), .val (.ref y)] []))
  refine own_step (b := T0.setTop (mkF m 1 #[.val (.ref x), .val (.ref y)] [(.ref x)])) (fun t k => XS.aloadN X0.here hx rfl (hb hby d11_0) rfl rfl k) ?_
  refine own_step (b := T0.setTop (mkF m 13 #[.val (.ref x), .val (.ref y)] [])) (fun t k => XT.ifnonnullYes X0.here hx rfl (pc0 := 1) (pc' := 13) rfl (hb hby d11_1) rfl (by decide) (by decide) k) ?_
  refine own_step (b := T0.setTop (mkF m 14 #[.val (.ref x), .val (.ref y)] [(.ref x)])) (fun t k => XS.aloadN X0.here hx rfl (hb hby d11_13) rfl rfl k) ?_
  exact own_retR X0 hx hret rfl rfl rfl hlk (hb hby d11_14) ⟨rfl, rfl, e0⟩ (by decide) (by decide)
/-! a Latin-1 String of known chars, in one word -/
def own_Str (Z : State) (h : Heap) (x : Addr) (cs : List Int32) : Prop := Exa Z h x "java/lang/String" ∧ (∀ c ∈ cs, ¬ c < 0 ∧ ¬ (255 : Int32) < c) ∧ cs.length ≤ 4000 ∧ Fld Z h x "java/lang/String" "coder" "B" (.int 0) ∧ ∃ (t : Addr) (kb : ClassId), Fld Z h x "java/lang/String" "value" "[B" (.ref t) ∧ Arv Z h t kb .byte (Int32.ofNat cs.length) ((cs.map (fun c => c.toInt8.toInt32)).map Value.int) (.int 0)
theorem own_Str.ext {Z : State} {h h' : Heap} {x : Addr} {cs : List Int32} (S : own_Str Z h x cs) (E : Ext h h') : own_Str Z h' x cs := by
  obtain ⟨s1, s2, s3, s4, t, kb, s5, s6⟩ := S
  exact ⟨s1.ext E, s2, s3, s4.ext E, t, kb, s5.ext E, s6.ext E⟩
theorem own_up (cs : List Int32) (h : ∀ c ∈ cs, ¬ c < 0 ∧ ¬ (255 : Int32) < c) : ∀ c ∈ cs, ¬ c < 0 ∧ ¬ (65535 : Int32) < c := fun c hc => ⟨(h c hc).1, fun q => (h c hc).2 (by rw [Int32.lt_iff_toInt_lt] at q ⊢; have e1 : (65535 : Int32).toInt = 65535 := rfl; have e2 : (255 : Int32).toInt = 255 := rfl; omega)⟩
theorem own_mkStr {Z : State} {h : Heap} {x t : Addr} {kb : ClassId} {cs : List Int32} {n : Nat} {N : Int32} (hn : cs.length = n) (hN : N = Int32.ofNat n) (E : Exa Z h x "java/lang/String") (hp : ∀ c ∈ cs, ¬ c < 0 ∧ ¬ (255 : Int32) < c) (hl : n ≤ 4000) (C : Fld Z h x "java/lang/String" "coder" "B" (.int 0)) (F : Fld Z h x "java/lang/String" "value" "[B" (.ref t)) (B : Arv Z h t kb .byte N ((cs.map (fun c => c.toInt8.toInt32)).map Value.int) (.int 0)) : own_Str Z h x cs := by
  subst hn hN; exact ⟨E, hp, hl, C, t, kb, F, B⟩

theorem own_chB {p : Program} {l : Launch} {e : Env} {R : Room} {s : State} {args : Array Value} {below : List Frame} {W : Nat} {Z : State} {a0 : Array Value} {h : Heap} (hZ : Z.Warmed39 s.vm) (hw : ∀ d ∈ tables_1, d.before a0 Z = true) {kI : Nat} (wi : (Jvm.Cond.instantiable "java/lang/String" kI).before a0 Z = true) {x : Addr} {cs : List Int32} (SS : own_Str Z h x cs)
    {G1 : Int32} (O2 : Sta Z Z.heap "java/lang/String" "COMPACT_STRINGS" "Z" (.int G1)) (P5 : ¬ (G1 = (0 : Int32))) {G3 : Value} (O4 : Sta Z Z.heap "jdk/internal/util/Preconditions" "SIOOBE_FORMATTER" "Ljava/util/function/BiFunction;" G3) (rG3 : G3.isRef = true) (OL : Old Z Z.heap.size h) (i : Nat) (hi : i < cs.length) {j : Int32} (hj : j = Int32.ofNat i) {r : Int32} (hr : cs.getD i 0 = r) (hfr : 4 ≤ R.frames) (hlo : W + 53 ≤ R.locals) :
    own_B l R p e below s args (⟨"java/lang/String", "charAt", "(I)C"⟩ : MethodName) W #[.ref x, .int j] h 0 0 (own_P (some (.int r)) h) := by
  obtain ⟨s1, s2, s3, s4, t, kb, s5, s6⟩ := SS
  subst hr
  exact StrChars.Road.chN hZ (fun d hd => hw d ((by decide +kernel : ∀ d ∈ StrChars.Road.wordsChN, d ∈ tables_1) d hd)) wi s1 s5 s4 s6 (StrChars.Road.codOf rfl fun c hc => (s2 c hc).2) (own_up cs s2) (O2.ext OL.2) P5 (O4.ext OL.2) rG3 s3 hi hj hfr hlo

theorem own_lenB {p : Program} {l : Launch} {e : Env} {R : Room} {s : State} {args : Array Value} {below : List Frame} {W : Nat} {Z : State} {a0 : Array Value} {h : Heap} (hZ : Z.Warmed39 s.vm) (hw : ∀ d ∈ tables_1, d.before a0 Z = true) {kI : Nat} (wi : (Jvm.Cond.instantiable "java/lang/String" kI).before a0 Z = true) {x : Addr} {cs : List Int32} (SS : own_Str Z h x cs)
    {G1 : Int32} (O2 : Sta Z Z.heap "java/lang/String" "COMPACT_STRINGS" "Z" (.int G1)) (P5 : ¬ (G1 = (0 : Int32))) (OL : Old Z Z.heap.size h) {r : Int32} (hr : Int32.ofNat cs.length = r) (hfr : 2 ≤ R.frames) (hlo : W + 25 ≤ R.locals) :
    own_B l R p e below s args (⟨"java/lang/String", "length", "()I"⟩ : MethodName) W #[.ref x] h 0 0 (own_P (some (.int r)) h) := by
  obtain ⟨s1, s2, s3, s4, t, kb, s5, s6⟩ := SS
  subst hr
  exact StrChars.Road.lenW hZ (fun d hd => hw d ((by decide +kernel : ∀ d ∈ StrChars.Road.wordsLen, d ∈ tables_1) d hd)) wi s1 s5 s4 s6 (StrChars.Road.codOf rfl fun c hc => (s2 c hc).2) (own_up cs s2) (O2.ext OL.2) P5 s3 hfr hlo

theorem own_empB {p : Program} {l : Launch} {e : Env} {R : Room} {s : State} {args : Array Value} {below : List Frame} {W : Nat} {Z : State} {a0 : Array Value} {h : Heap} (hZ : Z.Warmed39 s.vm) (hw : ∀ d ∈ tables_1, d.before a0 Z = true) {kI : Nat} (wi : (Jvm.Cond.instantiable "java/lang/String" kI).before a0 Z = true) {x : Addr} {cs : List Int32} (SS : own_Str Z h x cs) (h1 : ¬ cs.length = 0) (hfr : 1 ≤ R.frames) (hlo : W + 12 ≤ R.locals) :
    own_B l R p e below s args (⟨"java/lang/String", "isEmpty", "()Z"⟩ : MethodName) W #[.ref x] h 0 0 (own_P (some (.int (0 : Int32))) h) := by
  obtain ⟨s1, s2, s3, s4, t, kb, s5, s6⟩ := SS
  have q := StrChars.Road.empW (p := p) (l := l) (e := e) (R := R) (s := s) (args := args) (below := below) (len := 3) (W := W) hZ (fun d hd => hw d ((by decide +kernel : ∀ d ∈ StrChars.Road.wordsEmp, d ∈ tables_1) d hd)) wi s1 s5 s4 s6 (StrChars.Road.codOf rfl fun c hc => (s2 c hc).2) (own_up cs s2) s3 hfr hlo
  rw [if_neg h1] at q
  exact q

theorem ef_rv (m : MethodId) (x : Addr) : entryFrame m #[(.ref x)] 2 = mkF m 0 #[.val (.ref x), .unset] [] := by first | (simp [entryFrame, mkF, argsToLocals, Value.category, maxLocals]; done) | rfl
set_option maxRecDepth 65536 in
set_option maxHeartbeats 40000000 in
theorem rmRv (l : Launch) (Z : State) (a0 : Array Value) (hw : ∀ d ∈ tables_1, d.before a0 Z = true) (ws : List Jvm.Cond) (x : Addr) (cs : List Int32) (h0 : Heap) (SS : own_Str Z h0 x cs) (hl1 : 1 ≤ cs.length) (hl2 : cs.length ≤ 64) (hok : ∀ c ∈ cs, own_ok c = true) (OL0 : Old Z Z.heap.size h0) (G1 : Int32) (O2 : Sta Z Z.heap "java/lang/String" "COMPACT_STRINGS" "Z" (.int G1)) (P5 : ¬ (G1 = (0 : Int32))) (G3 : Value) (O4 : Sta Z Z.heap "jdk/internal/util/Preconditions" "SIOOBE_FORMATTER" "Ljava/util/function/BiFunction;" G3) (rG3 : G3.isRef = true) :
    own_MetW l Z (⟨"com/example/rigid_tally/rigidtally/CounterNames", "requireValid", "(Ljava/lang/String;)Ljava/lang/String;"⟩ : MethodName) prog_3_method_2_code 2 (some (.object "java/lang/String")) ws ⟨4, 2, 20, 53⟩ #[(.ref x)] h0 (fun v h L => v = some (.ref x) ∧ L = []) := by
  refine own_enterW (plainFor_of_name pn1) (fun m => ef_rv m x) ?_
  intro p e s m below meth c T0 vm0 k0 hx hby hml hZ hown hnm hret hlk X0 e0 es0 hS hk
  have hSA : ∀ d ∈ Bundle.stringAtoms, d.before a0 Z = true := fun d hd => hw d ((by decide +kernel : ∀ d ∈ Bundle.stringAtoms, d ∈ tables_1) d hd)
  show own_G p e below _ (T0.setTop (mkF m 0 #[.val (.ref x), .unset] []))
  refine own_step (b := T0.setTop (mkF m 1 #[.val (.ref x), .unset] [(.ref x)])) (fun t k => XS.aloadN X0.here hx rfl (hb hby d10_0) rfl rfl k) ?_
  refine own_ldcS X0 hx hZ hown (own_w hw 49 rfl) hSA e0 hS hk (hb hby d10_1) 16 (by decide) (by decide) (by decide) (by decide) (fun a1 T1 h1 vm1 k1 X1 e1 E1 z1 hS hk hZ hown => ?_)
  show own_G p e below _ (T1.setTop (mkF m 3 #[.val (.ref x), .unset] [(.ref a1), (.ref x)]))
  have SS1 := SS.ext E1
  have OL1 := OL0.ext E1
  refine own_staticP (W := 0) (argsL := [(.ref x), (.ref a1)]) (st := []) X1 hx hZ hown (own_w hw 52 rfl) (own_w hw 53 rfl) (own_w hw 54 rfl) (own_w hw 55 rfl) (by decide) e1 (rmRnn l Z a0 hw [] x a1 h1) (by decide) (by decide) (by decide) (by decide) (by rw [hml]; rfl) (lenOf pd0 rfl) rfl (Nat.le_of_ble_eq_true rfl) (hb hby d10_3) (fun T2 X2 e2 => ?_)
  show own_G p e below _ (T2.setTop (mkF m 6 #[.val (.ref x), .unset] [(.ref x)]))
  refine own_step (b := T2.setTop (mkF m 7 #[.val (.ref x), .unset] [])) (fun t k => XT.pop X2.here hx rfl (hb hby d10_6) rfl rfl k) ?_
  refine own_step (b := T2.setTop (mkF m 8 #[.val (.ref x), .unset] [(.ref x)])) (fun t k => XS.aloadN X2.here hx rfl (hb hby d10_7) rfl rfl k) ?_
  refine own_virtual (a := x) (W := 0) (argsL := []) (st := []) X2 hx hZ hown (own_w hw 56 rfl) (own_w hw 57 rfl) (own_w hw 59 rfl) rfl (own_w hw 58 rfl) (by decide) e2 SS1.1 (own_empB (W := 0) hZ hw (kI := 4) (own_w hw 7 rfl) SS1 (by omega) (by decide) (by decide)) (by decide) (by decide) (by rw [hml]; rfl) (lenOf pd1 rfl) rfl (Nat.le_of_ble_eq_true rfl) (hb hby d10_8) (fun v3 T3 L3 X3 hQ3 => ?_)
  obtain ⟨rfl, rfl, hh3⟩ := hQ3
  rw [List.append_nil] at X3
  show own_G p e below _ (T3.setTop (mkF m 11 #[.val (.ref x), .unset] [(.int (0 : Int32))]))
  refine own_if_ne X3 hx (hb hby d10_11) (pc' := 23) (by decide) (by decide) (fun c11_4 => absurd c11_4 (by decide)) (fun c11_4 => ?_)
  show own_G p e below _ (T3.setTop (mkF m 14 #[.val (.ref x), .unset] []))
  refine own_step (b := T3.setTop (mkF m 15 #[.val (.ref x), .unset] [(.ref x)])) (fun t k => XS.aloadN X3.here hx rfl (hb hby d10_14) rfl rfl k) ?_
  refine own_virtual (a := x) (W := 0) (argsL := []) (st := []) X3 hx hZ hown (own_w hw 61 rfl) (own_w hw 36 rfl) (own_w hw 38 rfl) rfl (own_w hw 37 rfl) (by decide) hh3 SS1.1 (own_lenB (W := 0) hZ hw (kI := 4) (own_w hw 7 rfl) SS1 O2 P5 OL1 (r := Int32.ofNat cs.length) rfl (by decide) (by decide)) (by decide) (by decide) (by rw [hml]; rfl) (lenOf pd2 rfl) rfl (Nat.le_of_ble_eq_true rfl) (hb hby d10_15) (fun v5 T5 L5 X5 hQ5 => ?_)
  obtain ⟨rfl, rfl, hh5⟩ := hQ5
  rw [List.append_nil] at X5
  show own_G p e below _ (T5.setTop (mkF m 18 #[.val (.ref x), .unset] [(.int (Int32.ofNat cs.length))]))
  refine own_step (b := T5.setTop (mkF m 20 #[.val (.ref x), .unset] [(.int (64 : Int32)), (.int (Int32.ofNat cs.length))])) (fun t k => XS.bipush X5.here hx rfl (hb hby d10_18) k) ?_
  refine own_icmp_le X5 hx (hb hby d10_20) (pc' := 40) (by decide) (by decide) (fun c20 => ?_) (fun c20 => absurd c20 (fun q => absurd ((own_ofNat_lt (i := 64) (by decide) (by omega)).mp q) (by omega)))
  show own_G p e below _ (T5.setTop (mkF m 40 #[.val (.ref x), .unset] []))
  refine own_step (b := T5.setTop (mkF m 41 #[.val (.ref x), .unset] [(.int (0 : Int32))])) (fun t k => XS.iconst X5.here hx rfl (hb hby d10_40) k) ?_
  refine own_step (b := T5.setTop (mkF m 42 #[.val (.ref x), .val (.int (0 : Int32))] [])) (fun t k => XS.istoreN X5.here hx rfl (hb hby d10_41) rfl (l' := #[.val (.ref x), .val (.int (0 : Int32))]) rfl k) ?_
  have Loop : ∀ (k i : Nat) (T : State), i + k = cs.length → Stand p l e ⟨4, 2, 20, 53⟩ (s.setVm vm1) m #[(.ref x)] below meth c T [] 2 20 → T.heap = h1 → own_G p e below (own_FW s (fun v h L => v = some (.ref x) ∧ L = []) 2 20) (T.setTop (mkF m 42 #[.val (.ref x), .val (.int (Int32.ofNat i))] [])) := by
    intro k
    induction k with
    | zero =>
      intro i T hi X eT
      show own_G p e below _ (T.setTop (mkF m 42 #[.val (.ref x), .val (.int (Int32.ofNat i))] []))
      refine own_step (b := T.setTop (mkF m 43 #[.val (.ref x), .val (.int (Int32.ofNat i))] [(.int (Int32.ofNat i))])) (fun t k => XS.iloadN X.here hx rfl (hb hby d10_42) rfl k) ?_
      refine own_step (b := T.setTop (mkF m 44 #[.val (.ref x), .val (.int (Int32.ofNat i))] [(.ref x), (.int (Int32.ofNat i))])) (fun t k => XS.aloadN X.here hx rfl (hb hby d10_43) rfl rfl k) ?_
      refine own_virtual (a := x) (W := 1) (argsL := []) (st := [(.int (Int32.ofNat i))]) X hx hZ hown (own_w hw 61 rfl) (own_w hw 36 rfl) (own_w hw 38 rfl) rfl (own_w hw 37 rfl) (by decide) eT SS1.1 (own_lenB (W := 1) hZ hw (kI := 4) (own_w hw 7 rfl) SS1 O2 P5 OL1 (r := Int32.ofNat cs.length) rfl (by decide) (by decide)) (by decide) (by decide) (by rw [hml]; rfl) (lenOf pd2 rfl) rfl (Nat.le_of_ble_eq_true rfl) (hb hby d10_44) (fun v6 T6 L6 X6 hQ6 => ?_)
      obtain ⟨rfl, rfl, hh6⟩ := hQ6
      rw [List.append_nil] at X6
      show own_G p e below _ (T6.setTop (mkF m 47 #[.val (.ref x), .val (.int (Int32.ofNat i))] [(.int (Int32.ofNat cs.length)), (.int (Int32.ofNat i))]))
      refine own_icmp_ge X6 hx (hb hby d10_47) (pc' := 105) (by decide) (by decide) (fun c47 => ?_) (fun c47 => absurd c47 (by rw [own_ofNat_lt (by omega) (by omega)]; omega))
      show own_G p e below _ (T6.setTop (mkF m 105 #[.val (.ref x), .val (.int (Int32.ofNat i))] []))
      refine own_step (b := T6.setTop (mkF m 106 #[.val (.ref x), .val (.int (Int32.ofNat i))] [(.ref x)])) (fun t k => XS.aloadN X6.here hx rfl (hb hby d10_105) rfl rfl k) ?_
      exact own_retWR X6 hx hS (by rw [show T6.heap = h1 from hh6]; omega) hret rfl rfl rfl hlk (hb hby d10_106) ⟨rfl, rfl⟩ (by decide) (by decide)
    | succ k ih =>
      intro i T hi X eT
      show own_G p e below _ (T.setTop (mkF m 42 #[.val (.ref x), .val (.int (Int32.ofNat i))] []))
      refine own_step (b := T.setTop (mkF m 43 #[.val (.ref x), .val (.int (Int32.ofNat i))] [(.int (Int32.ofNat i))])) (fun t k => XS.iloadN X.here hx rfl (hb hby d10_42) rfl k) ?_
      refine own_step (b := T.setTop (mkF m 44 #[.val (.ref x), .val (.int (Int32.ofNat i))] [(.ref x), (.int (Int32.ofNat i))])) (fun t k => XS.aloadN X.here hx rfl (hb hby d10_43) rfl rfl k) ?_
      refine own_virtual (a := x) (W := 1) (argsL := []) (st := [(.int (Int32.ofNat i))]) X hx hZ hown (own_w hw 61 rfl) (own_w hw 36 rfl) (own_w hw 38 rfl) rfl (own_w hw 37 rfl) (by decide) eT SS1.1 (own_lenB (W := 1) hZ hw (kI := 4) (own_w hw 7 rfl) SS1 O2 P5 OL1 (r := Int32.ofNat cs.length) rfl (by decide) (by decide)) (by decide) (by decide) (by rw [hml]; rfl) (lenOf pd2 rfl) rfl (Nat.le_of_ble_eq_true rfl) (hb hby d10_44) (fun v7 T7 L7 X7 hQ7 => ?_)
      obtain ⟨rfl, rfl, hh7⟩ := hQ7
      rw [List.append_nil] at X7
      show own_G p e below _ (T7.setTop (mkF m 47 #[.val (.ref x), .val (.int (Int32.ofNat i))] [(.int (Int32.ofNat cs.length)), (.int (Int32.ofNat i))]))
      refine own_icmp_ge X7 hx (hb hby d10_47) (pc' := 105) (by decide) (by decide) (fun c47 => absurd (by rw [own_ofNat_lt (by omega) (by omega)]; omega) c47) (fun c47 => ?_)
      show own_G p e below _ (T7.setTop (mkF m 50 #[.val (.ref x), .val (.int (Int32.ofNat i))] []))
      refine own_step (b := T7.setTop (mkF m 51 #[.val (.ref x), .val (.int (Int32.ofNat i))] [(.ref x)])) (fun t k => XS.aloadN X7.here hx rfl (hb hby d10_50) rfl rfl k) ?_
      refine own_step (b := T7.setTop (mkF m 52 #[.val (.ref x), .val (.int (Int32.ofNat i))] [(.int (Int32.ofNat i)), (.ref x)])) (fun t k => XS.iloadN X7.here hx rfl (hb hby d10_51) rfl k) ?_
      refine own_virtual (a := x) (W := 0) (argsL := [(.int (Int32.ofNat i))]) (st := []) X7 hx hZ hown (own_w hw 62 rfl) (own_w hw 63 rfl) (own_w hw 65 rfl) rfl (own_w hw 64 rfl) (by decide) hh7 SS1.1 (own_chB (W := 0) hZ hw (kI := 4) (own_w hw 7 rfl) SS1 O2 P5 O4 rG3 OL1 i (by omega) (j := Int32.ofNat i) rfl (r := cs.getD i 0) rfl (by decide) (by decide)) (by decide) (by decide) (by rw [hml]; rfl) (lenOf pd3 rfl) rfl (Nat.le_of_ble_eq_true rfl) (hb hby d10_52) (fun v8 T8 L8 X8 hQ8 => ?_)
      obtain ⟨rfl, rfl, hh8⟩ := hQ8
      rw [List.append_nil] at X8
      show own_G p e below _ (T8.setTop (mkF m 55 #[.val (.ref x), .val (.int (Int32.ofNat i))] [(.int (cs.getD i 0))]))
      refine own_staticP (W := 0) (argsL := [(.int (cs.getD i 0))]) (st := []) X8 hx hZ hown (own_w hw 84 rfl) (own_w hw 85 rfl) (own_w hw 47 rfl) (own_w hw 86 rfl) (by decide) hh8 (rmIsa l Z a0 hw [] (cs.getD i 0) h1 (hok _ (by rw [List.getD_eq_getElem?_getD, List.getElem?_eq_getElem (by omega : i < cs.length)]; exact List.getElem_mem _))) (by decide) (by decide) (by decide) (by decide) (by rw [hml]; rfl) (lenOf pd4 rfl) rfl (Nat.le_of_ble_eq_true rfl) (hb hby d10_55) (fun T9 X9 e9 => ?_)
      show own_G p e below _ (T9.setTop (mkF m 58 #[.val (.ref x), .val (.int (Int32.ofNat i))] [(.int (1 : Int32))]))
      refine own_if_ne X9 hx (hb hby d10_58) (pc' := 99) (by decide) (by decide) (fun c58_10 => ?_) (fun c58_10 => absurd c58_10 (by decide))
      show own_G p e below _ (T9.setTop (mkF m 99 #[.val (.ref x), .val (.int (Int32.ofNat i))] []))
      refine own_step (b := T9.setTop (mkF m 102 #[.val (.ref x), .val (.int ((Int32.ofNat i) + (1 : Int32)))] [])) (fun t k => XS.iinc X9.here hx rfl (hb hby d10_99) rfl (l' := #[.val (.ref x), .val (.int ((Int32.ofNat i) + (1 : Int32)))]) rfl k) ?_
      refine own_step (b := T9.setTop (mkF m 42 #[.val (.ref x), .val (.int ((Int32.ofNat i) + (1 : Int32)))] [])) (fun t k => XS.goto X9.here hx rfl (pc0 := 102) (pc' := 42) rfl (hb hby d10_102) (by decide) (by decide) k) ?_
      rw [own_ofNat_succ]
      exact ih (i + 1) T9 (by omega) X9 e9
  exact Loop cs.length 0 T5 (by omega) X5 hh5
theorem ef_0 (m : MethodId) (p0 p1 p2 p3 p4 p5 : Int32) : entryFrame m #[(.int p0), (.int p1), (.int p2), (.int p3), (.int p4), (.int p5)] maxLocals = mkF m 0 #[.val (.int p0), .val (.int p1), .val (.int p2), .val (.int p3), .val (.int p4), .val (.int p5), .unset, .unset, .unset, .unset, .unset, .unset, .unset, .unset] [] := by first | (simp [entryFrame, mkF, argsToLocals, Value.category, maxLocals]; done) | rfl
set_option maxRecDepth 65536 in
set_option maxHeartbeats 40000000 in
theorem rm0 (l : Launch) (Z : State) (a0 : Array Value) (hw : ∀ d ∈ tables_1, d.before a0 Z = true) (ws : List Jvm.Cond) (p0 p1 p2 p3 p4 p5 : Int32) (h0 : Heap) (G1 : Int32) (O2 : Sta Z Z.heap "java/lang/String" "COMPACT_STRINGS" "Z" (.int G1)) (P5 : ¬ (G1 = (0 : Int32))) (G3 : Value) (O4 : Sta Z Z.heap "jdk/internal/util/Preconditions" "SIOOBE_FORMATTER" "Ljava/util/function/BiFunction;" G3) (rG3 : G3.isRef = true) (OL0 : Old Z Z.heap.size h0) :
    own_MetW l Z x code maxLocals ret ws room_1 #[(.int p0), (.int p1), (.int p2), (.int p3), (.int p4), (.int p5)] h0 (fun v h L => v = some (.int 1) ∧ Fr Z.heap.size L) := by
  refine own_enterW (plainFor_of_name pn0) (fun m => ef_0 m p0 p1 p2 p3 p4 p5) ?_
  intro p e s m below meth c T0 vm0 k0 hx hby hml hZ hown hnm hret hlk X0 e0 es0 hS hk
  have zz0 : Z.heap.size ≤ h0.size := OL0.2.1
  have N0 := Fr.nil Z.heap.size
  have hws : ∀ d ∈ StrChars.Road.words, d.before a0 Z = true := fun d hd => hw d ((by decide +kernel : ∀ d ∈ StrChars.Road.words, d ∈ tables_1) d hd)
  show own_G p e below _ (T0.setTop (mkF m 0 #[.val (.int p0), .val (.int p1), .val (.int p2), .val (.int p3), .val (.int p4), .val (.int p5), .unset, .unset, .unset, .unset, .unset, .unset, .unset, .unset] []))
  refine own_step (b := T0.setTop (mkF m 1 #[.val (.int p0), .val (.int p1), .val (.int p2), .val (.int p3), .val (.int p4), .val (.int p5), .unset, .unset, .unset, .unset, .unset, .unset, .unset, .unset] [(.int p0)])) (fun t k => XS.iloadN X0.here hx rfl (hb hby at_0) rfl k) ?_
  refine own_static (W := 0) (argsL := [(.int p0)]) (st := []) X0 hx hZ hown (own_w hw 0 rfl) (own_w hw 1 rfl) (own_w hw 2 rfl) (own_w hw 3 rfl) (by decide) e0 (own_back (W := 0) (rmAl l Z a0 hw [] p0 h0) hZ (own_w hw 3 rfl) (own_w hw 2 rfl) (by decide) (by decide)) (by decide) (by decide) (by rw [hml]; rfl) (lenOf pd3 rfl) rfl (Nat.le_of_ble_eq_true rfl) (hb hby at_1) (fun v1 T1 L1 X1 hQ1 => ?_)
  obtain ⟨ca, rfl, hca, rfl, hh1⟩ := hQ1
  rw [List.append_nil] at X1
  show own_G p e below _ (T1.setTop (mkF m 4 #[.val (.int p0), .val (.int p1), .val (.int p2), .val (.int p3), .val (.int p4), .val (.int p5), .unset, .unset, .unset, .unset, .unset, .unset, .unset, .unset] [(.int ca)]))
  refine own_step (b := T1.setTop (mkF m 6 #[.val (.int p0), .val (.int p1), .val (.int p2), .val (.int p3), .val (.int p4), .val (.int p5), .val (.int ca), .unset, .unset, .unset, .unset, .unset, .unset, .unset] [])) (fun t k => XS.istore X1.here hx rfl (hb hby at_4) rfl (l' := #[.val (.int p0), .val (.int p1), .val (.int p2), .val (.int p3), .val (.int p4), .val (.int p5), .val (.int ca), .unset, .unset, .unset, .unset, .unset, .unset, .unset]) rfl k) ?_
  refine own_step (b := T1.setTop (mkF m 7 #[.val (.int p0), .val (.int p1), .val (.int p2), .val (.int p3), .val (.int p4), .val (.int p5), .val (.int ca), .unset, .unset, .unset, .unset, .unset, .unset, .unset] [(.int p1)])) (fun t k => XS.iloadN X1.here hx rfl (hb hby at_6) rfl k) ?_
  refine own_static (W := 0) (argsL := [(.int p1)]) (st := []) X1 hx hZ hown (own_w hw 0 rfl) (own_w hw 1 rfl) (own_w hw 2 rfl) (own_w hw 3 rfl) (by decide) hh1 (own_back (W := 0) (rmAl l Z a0 hw [] p1 h0) hZ (own_w hw 3 rfl) (own_w hw 2 rfl) (by decide) (by decide)) (by decide) (by decide) (by rw [hml]; rfl) (lenOf pd3 rfl) rfl (Nat.le_of_ble_eq_true rfl) (hb hby at_7) (fun v2 T2 L2 X2 hQ2 => ?_)
  obtain ⟨cb, rfl, hcb, rfl, hh2⟩ := hQ2
  rw [List.append_nil] at X2
  show own_G p e below _ (T2.setTop (mkF m 10 #[.val (.int p0), .val (.int p1), .val (.int p2), .val (.int p3), .val (.int p4), .val (.int p5), .val (.int ca), .unset, .unset, .unset, .unset, .unset, .unset, .unset] [(.int cb)]))
  refine own_step (b := T2.setTop (mkF m 12 #[.val (.int p0), .val (.int p1), .val (.int p2), .val (.int p3), .val (.int p4), .val (.int p5), .val (.int ca), .val (.int cb), .unset, .unset, .unset, .unset, .unset, .unset] [])) (fun t k => XS.istore X2.here hx rfl (hb hby at_10) rfl (l' := #[.val (.int p0), .val (.int p1), .val (.int p2), .val (.int p3), .val (.int p4), .val (.int p5), .val (.int ca), .val (.int cb), .unset, .unset, .unset, .unset, .unset, .unset]) rfl k) ?_
  refine own_step (b := T2.setTop (mkF m 13 #[.val (.int p0), .val (.int p1), .val (.int p2), .val (.int p3), .val (.int p4), .val (.int p5), .val (.int ca), .val (.int cb), .unset, .unset, .unset, .unset, .unset, .unset] [(.int p2)])) (fun t k => XS.iloadN X2.here hx rfl (hb hby at_12) rfl k) ?_
  refine own_static (W := 0) (argsL := [(.int p2)]) (st := []) X2 hx hZ hown (own_w hw 0 rfl) (own_w hw 1 rfl) (own_w hw 2 rfl) (own_w hw 3 rfl) (by decide) hh2 (own_back (W := 0) (rmAl l Z a0 hw [] p2 h0) hZ (own_w hw 3 rfl) (own_w hw 2 rfl) (by decide) (by decide)) (by decide) (by decide) (by rw [hml]; rfl) (lenOf pd3 rfl) rfl (Nat.le_of_ble_eq_true rfl) (hb hby at_13) (fun v3 T3 L3 X3 hQ3 => ?_)
  obtain ⟨cc, rfl, hcc, rfl, hh3⟩ := hQ3
  rw [List.append_nil] at X3
  show own_G p e below _ (T3.setTop (mkF m 16 #[.val (.int p0), .val (.int p1), .val (.int p2), .val (.int p3), .val (.int p4), .val (.int p5), .val (.int ca), .val (.int cb), .unset, .unset, .unset, .unset, .unset, .unset] [(.int cc)]))
  refine own_step (b := T3.setTop (mkF m 18 #[.val (.int p0), .val (.int p1), .val (.int p2), .val (.int p3), .val (.int p4), .val (.int p5), .val (.int ca), .val (.int cb), .val (.int cc), .unset, .unset, .unset, .unset, .unset] [])) (fun t k => XS.istore X3.here hx rfl (hb hby at_16) rfl (l' := #[.val (.int p0), .val (.int p1), .val (.int p2), .val (.int p3), .val (.int p4), .val (.int p5), .val (.int ca), .val (.int cb), .val (.int cc), .unset, .unset, .unset, .unset, .unset]) rfl k) ?_
  refine own_step (b := T3.setTop (mkF m 19 #[.val (.int p0), .val (.int p1), .val (.int p2), .val (.int p3), .val (.int p4), .val (.int p5), .val (.int ca), .val (.int cb), .val (.int cc), .unset, .unset, .unset, .unset, .unset] [(.int p3)])) (fun t k => XS.iloadN X3.here hx rfl (hb hby at_18) rfl k) ?_
  refine own_static (W := 0) (argsL := [(.int p3)]) (st := []) X3 hx hZ hown (own_w hw 0 rfl) (own_w hw 1 rfl) (own_w hw 2 rfl) (own_w hw 3 rfl) (by decide) hh3 (own_back (W := 0) (rmAl l Z a0 hw [] p3 h0) hZ (own_w hw 3 rfl) (own_w hw 2 rfl) (by decide) (by decide)) (by decide) (by decide) (by rw [hml]; rfl) (lenOf pd3 rfl) rfl (Nat.le_of_ble_eq_true rfl) (hb hby at_19) (fun v4 T4 L4 X4 hQ4 => ?_)
  obtain ⟨cd, rfl, hcd, rfl, hh4⟩ := hQ4
  rw [List.append_nil] at X4
  show own_G p e below _ (T4.setTop (mkF m 22 #[.val (.int p0), .val (.int p1), .val (.int p2), .val (.int p3), .val (.int p4), .val (.int p5), .val (.int ca), .val (.int cb), .val (.int cc), .unset, .unset, .unset, .unset, .unset] [(.int cd)]))
  refine own_step (b := T4.setTop (mkF m 24 #[.val (.int p0), .val (.int p1), .val (.int p2), .val (.int p3), .val (.int p4), .val (.int p5), .val (.int ca), .val (.int cb), .val (.int cc), .val (.int cd), .unset, .unset, .unset, .unset] [])) (fun t k => XS.istore X4.here hx rfl (hb hby at_22) rfl (l' := #[.val (.int p0), .val (.int p1), .val (.int p2), .val (.int p3), .val (.int p4), .val (.int p5), .val (.int ca), .val (.int cb), .val (.int cc), .val (.int cd), .unset, .unset, .unset, .unset]) rfl k) ?_
  refine own_step (b := T4.setTop (mkF m 26 #[.val (.int p0), .val (.int p1), .val (.int p2), .val (.int p3), .val (.int p4), .val (.int p5), .val (.int ca), .val (.int cb), .val (.int cc), .val (.int cd), .unset, .unset, .unset, .unset] [(.int p4)])) (fun t k => XS.iload X4.here hx rfl (hb hby at_24) rfl k) ?_
  refine own_static (W := 0) (argsL := [(.int p4)]) (st := []) X4 hx hZ hown (own_w hw 0 rfl) (own_w hw 1 rfl) (own_w hw 2 rfl) (own_w hw 3 rfl) (by decide) hh4 (own_back (W := 0) (rmAl l Z a0 hw [] p4 h0) hZ (own_w hw 3 rfl) (own_w hw 2 rfl) (by decide) (by decide)) (by decide) (by decide) (by rw [hml]; rfl) (lenOf pd3 rfl) rfl (Nat.le_of_ble_eq_true rfl) (hb hby at_26) (fun v5 T5 L5 X5 hQ5 => ?_)
  obtain ⟨ce, rfl, hce, rfl, hh5⟩ := hQ5
  rw [List.append_nil] at X5
  show own_G p e below _ (T5.setTop (mkF m 29 #[.val (.int p0), .val (.int p1), .val (.int p2), .val (.int p3), .val (.int p4), .val (.int p5), .val (.int ca), .val (.int cb), .val (.int cc), .val (.int cd), .unset, .unset, .unset, .unset] [(.int ce)]))
  refine own_step (b := T5.setTop (mkF m 31 #[.val (.int p0), .val (.int p1), .val (.int p2), .val (.int p3), .val (.int p4), .val (.int p5), .val (.int ca), .val (.int cb), .val (.int cc), .val (.int cd), .val (.int ce), .unset, .unset, .unset] [])) (fun t k => XS.istore X5.here hx rfl (hb hby at_29) rfl (l' := #[.val (.int p0), .val (.int p1), .val (.int p2), .val (.int p3), .val (.int p4), .val (.int p5), .val (.int ca), .val (.int cb), .val (.int cc), .val (.int cd), .val (.int ce), .unset, .unset, .unset]) rfl k) ?_
  refine own_step (b := T5.setTop (mkF m 33 #[.val (.int p0), .val (.int p1), .val (.int p2), .val (.int p3), .val (.int p4), .val (.int p5), .val (.int ca), .val (.int cb), .val (.int cc), .val (.int cd), .val (.int ce), .unset, .unset, .unset] [(.int p5)])) (fun t k => XS.iload X5.here hx rfl (hb hby at_31) rfl k) ?_
  refine own_step (b := T5.setTop (mkF m 34 #[.val (.int p0), .val (.int p1), .val (.int p2), .val (.int p3), .val (.int p4), .val (.int p5), .val (.int ca), .val (.int cb), .val (.int cc), .val (.int cd), .val (.int ce), .unset, .unset, .unset] [(.int (3 : Int32)), (.int p5)])) (fun t k => XS.iconst X5.here hx rfl (hb hby at_33) k) ?_
  refine own_step (b := T5.setTop (mkF m 35 #[.val (.int p0), .val (.int p1), .val (.int p2), .val (.int p3), .val (.int p4), .val (.int p5), .val (.int ca), .val (.int cb), .val (.int cc), .val (.int cd), .val (.int ce), .unset, .unset, .unset] [(.int (p5 &&& (3 : Int32)))])) (fun t k => XS.iand X5.here hx rfl (hb hby at_34) rfl k) ?_
  refine own_step (b := T5.setTop (mkF m 37 #[.val (.int p0), .val (.int p1), .val (.int p2), .val (.int p3), .val (.int p4), .val (.int p5), .val (.int ca), .val (.int cb), .val (.int cc), .val (.int cd), .val (.int ce), .val (.int (p5 &&& (3 : Int32))), .unset, .unset] [])) (fun t k => XS.istore X5.here hx rfl (hb hby at_35) rfl (l' := #[.val (.int p0), .val (.int p1), .val (.int p2), .val (.int p3), .val (.int p4), .val (.int p5), .val (.int ca), .val (.int cb), .val (.int cc), .val (.int cd), .val (.int ce), .val (.int (p5 &&& (3 : Int32))), .unset, .unset]) rfl k) ?_
  refine own_step (b := T5.setTop (mkF m 39 #[.val (.int p0), .val (.int p1), .val (.int p2), .val (.int p3), .val (.int p4), .val (.int p5), .val (.int ca), .val (.int cb), .val (.int cc), .val (.int cd), .val (.int ce), .val (.int (p5 &&& (3 : Int32))), .unset, .unset] [(.int (p5 &&& (3 : Int32)))])) (fun t k => XS.iload X5.here hx rfl (hb hby at_37) rfl k) ?_
  have J : ∀ (T : State) (locs : List Loc) (x : Addr) (cs : List Int32), Stand p l e room_1 (s.setVm vm0) m #[(.int p0), (.int p1), (.int p2), (.int p3), (.int p4), (.int p5)] below meth c T locs 3 132 → Fr Z.heap.size locs → Old Z Z.heap.size T.heap → k0 ≤ T.heap.size → own_Str Z T.heap x cs → 1 ≤ cs.length → cs.length ≤ 64 → (∀ c ∈ cs, own_ok c = true) → own_G p e below (own_FW s (fun v h L => v = some (.int 1) ∧ Fr Z.heap.size L) room_1.cells room_1.slots) (T.setTop (mkF m 536 #[.val (.int p0), .val (.int p1), .val (.int p2), .val (.int p3), .val (.int p4), .val (.int p5), .val (.int ca), .val (.int cb), .val (.int cc), .val (.int cd), .val (.int ce), .val (.int (p5 &&& (3 : Int32))), .val (.ref x), .unset] [])) := by
    intro T locs x cs X N OL hk SS h1 h2 hok
    show own_G p e below _ (T.setTop (mkF m 536 #[.val (.int p0), .val (.int p1), .val (.int p2), .val (.int p3), .val (.int p4), .val (.int p5), .val (.int ca), .val (.int cb), .val (.int cc), .val (.int cd), .val (.int ce), .val (.int (p5 &&& (3 : Int32))), .val (.ref x), .unset] []))
    refine own_step (b := T.setTop (mkF m 538 #[.val (.int p0), .val (.int p1), .val (.int p2), .val (.int p3), .val (.int p4), .val (.int p5), .val (.int ca), .val (.int cb), .val (.int cc), .val (.int cd), .val (.int ce), .val (.int (p5 &&& (3 : Int32))), .val (.ref x), .unset] [(.ref x)])) (fun t k => XS.aload X.here hx rfl (hb hby at_536) rfl rfl k) ?_
    refine own_staticW (W := 0) (argsL := [(.ref x)]) (st := []) X hx hZ hown (own_w hw 45 rfl) (own_w hw 46 rfl) (own_w hw 47 rfl) (own_w hw 48 rfl) (by decide) rfl hS hk (rmRv l Z a0 hw [] x cs T.heap SS h1 h2 hok OL G1 O2 P5 G3 O4 rG3) (by decide) (by decide) (by decide) (by decide) (by rw [hml]; rfl) (lenOf pd5 rfl) rfl (Nat.le_of_ble_eq_true rfl) (hb hby at_538) (fun v6 T6 L6 vm6 k6 X6 z6 hS hk hZ hown hQ6 => ?_)
    obtain ⟨rfl, rfl⟩ := hQ6
    rw [List.append_nil] at X6
    show own_G p e below _ (T6.setTop (mkF m 541 #[.val (.int p0), .val (.int p1), .val (.int p2), .val (.int p3), .val (.int p4), .val (.int p5), .val (.int ca), .val (.int cb), .val (.int cc), .val (.int cd), .val (.int ce), .val (.int (p5 &&& (3 : Int32))), .val (.ref x), .unset] [(.ref x)]))
    refine own_step (b := T6.setTop (mkF m 543 #[.val (.int p0), .val (.int p1), .val (.int p2), .val (.int p3), .val (.int p4), .val (.int p5), .val (.int ca), .val (.int cb), .val (.int cc), .val (.int cd), .val (.int ce), .val (.int (p5 &&& (3 : Int32))), .val (.ref x), .val (.ref x)] [])) (fun t k => XS.astore X6.here hx rfl (hb hby at_541) rfl rfl (l' := #[.val (.int p0), .val (.int p1), .val (.int p2), .val (.int p3), .val (.int p4), .val (.int p5), .val (.int ca), .val (.int cb), .val (.int cc), .val (.int cd), .val (.int ce), .val (.int (p5 &&& (3 : Int32))), .val (.ref x), .val (.ref x)]) rfl k) ?_
    refine own_step (b := T6.setTop (mkF m 545 #[.val (.int p0), .val (.int p1), .val (.int p2), .val (.int p3), .val (.int p4), .val (.int p5), .val (.int ca), .val (.int cb), .val (.int cc), .val (.int cd), .val (.int ce), .val (.int (p5 &&& (3 : Int32))), .val (.ref x), .val (.ref x)] [(.ref x)])) (fun t k => XS.aload X6.here hx rfl (hb hby at_543) rfl rfl k) ?_
    refine own_step (b := T6.setTop (mkF m 547 #[.val (.int p0), .val (.int p1), .val (.int p2), .val (.int p3), .val (.int p4), .val (.int p5), .val (.int ca), .val (.int cb), .val (.int cc), .val (.int cd), .val (.int ce), .val (.int (p5 &&& (3 : Int32))), .val (.ref x), .val (.ref x)] [(.ref x), (.ref x)])) (fun t k => XS.aload X6.here hx rfl (hb hby at_545) rfl rfl k) ?_
    refine own_step (b := T6.setTop (mkF m 550 #[.val (.int p0), .val (.int p1), .val (.int p2), .val (.int p3), .val (.int p4), .val (.int p5), .val (.int ca), .val (.int cb), .val (.int cc), .val (.int cd), .val (.int ce), .val (.int (p5 &&& (3 : Int32))), .val (.ref x), .val (.ref x)] [])) (fun t k => XT.acmpNo X6.here hx rfl (hb hby at_547) rfl rfl rfl (by simp [XT.acmp]) k) ?_
    refine own_step (b := T6.setTop (mkF m 551 #[.val (.int p0), .val (.int p1), .val (.int p2), .val (.int p3), .val (.int p4), .val (.int p5), .val (.int ca), .val (.int cb), .val (.int cc), .val (.int cd), .val (.int ce), .val (.int (p5 &&& (3 : Int32))), .val (.ref x), .val (.ref x)] [(.int (1 : Int32))])) (fun t k => XS.iconst X6.here hx rfl (hb hby at_550) k) ?_
    refine own_step (b := T6.setTop (mkF m 555 #[.val (.int p0), .val (.int p1), .val (.int p2), .val (.int p3), .val (.int p4), .val (.int p5), .val (.int ca), .val (.int cb), .val (.int cc), .val (.int cd), .val (.int ce), .val (.int (p5 &&& (3 : Int32))), .val (.ref x), .val (.ref x)] [(.int (1 : Int32))])) (fun t k => XS.goto X6.here hx rfl (pc0 := 551) (pc' := 555) rfl (hb hby at_551) (by decide) (by decide) k) ?_
    exact own_retWN X6 hx hS (by omega) hret (by simp) hlk (hb hby at_555) ⟨rfl, N⟩ (by decide) (by decide)
  have K : ∀ (T : State) (locs : List Loc) (x : Addr) (y : Addr) (cs : List Int32), Stand p l e room_1 (s.setVm vm0) m #[(.int p0), (.int p1), (.int p2), (.int p3), (.int p4), (.int p5)] below meth c T locs 3 132 → Fr Z.heap.size locs → Old Z Z.heap.size T.heap → k0 ≤ T.heap.size → own_Str Z T.heap x cs → 1 ≤ cs.length → cs.length ≤ 64 → (∀ c ∈ cs, own_ok c = true) → own_G p e below (own_FW s (fun v h L => v = some (.int 1) ∧ Fr Z.heap.size L) room_1.cells room_1.slots) (T.setTop (mkF m 536 #[.val (.int p0), .val (.int p1), .val (.int p2), .val (.int p3), .val (.int p4), .val (.int p5), .val (.int ca), .val (.int cb), .val (.int cc), .val (.int cd), .val (.int ce), .val (.int (p5 &&& (3 : Int32))), .val (.ref x), .val (.ref y)] [])) := by
    intro T locs x y cs X N OL hk SS h1 h2 hok
    show own_G p e below _ (T.setTop (mkF m 536 #[.val (.int p0), .val (.int p1), .val (.int p2), .val (.int p3), .val (.int p4), .val (.int p5), .val (.int ca), .val (.int cb), .val (.int cc), .val (.int cd), .val (.int ce), .val (.int (p5 &&& (3 : Int32))), .val (.ref x), .val (.ref y)] []))
    refine own_step (b := T.setTop (mkF m 538 #[.val (.int p0), .val (.int p1), .val (.int p2), .val (.int p3), .val (.int p4), .val (.int p5), .val (.int ca), .val (.int cb), .val (.int cc), .val (.int cd), .val (.int ce), .val (.int (p5 &&& (3 : Int32))), .val (.ref x), .val (.ref y)] [(.ref x)])) (fun t k => XS.aload X.here hx rfl (hb hby at_536) rfl rfl k) ?_
    refine own_staticW (W := 0) (argsL := [(.ref x)]) (st := []) X hx hZ hown (own_w hw 45 rfl) (own_w hw 46 rfl) (own_w hw 47 rfl) (own_w hw 48 rfl) (by decide) rfl hS hk (rmRv l Z a0 hw [] x cs T.heap SS h1 h2 hok OL G1 O2 P5 G3 O4 rG3) (by decide) (by decide) (by decide) (by decide) (by rw [hml]; rfl) (lenOf pd5 rfl) rfl (Nat.le_of_ble_eq_true rfl) (hb hby at_538) (fun v7 T7 L7 vm7 k7 X7 z7 hS hk hZ hown hQ7 => ?_)
    obtain ⟨rfl, rfl⟩ := hQ7
    rw [List.append_nil] at X7
    show own_G p e below _ (T7.setTop (mkF m 541 #[.val (.int p0), .val (.int p1), .val (.int p2), .val (.int p3), .val (.int p4), .val (.int p5), .val (.int ca), .val (.int cb), .val (.int cc), .val (.int cd), .val (.int ce), .val (.int (p5 &&& (3 : Int32))), .val (.ref x), .val (.ref y)] [(.ref x)]))
    refine own_step (b := T7.setTop (mkF m 543 #[.val (.int p0), .val (.int p1), .val (.int p2), .val (.int p3), .val (.int p4), .val (.int p5), .val (.int ca), .val (.int cb), .val (.int cc), .val (.int cd), .val (.int ce), .val (.int (p5 &&& (3 : Int32))), .val (.ref x), .val (.ref x)] [])) (fun t k => XS.astore X7.here hx rfl (hb hby at_541) rfl rfl (l' := #[.val (.int p0), .val (.int p1), .val (.int p2), .val (.int p3), .val (.int p4), .val (.int p5), .val (.int ca), .val (.int cb), .val (.int cc), .val (.int cd), .val (.int ce), .val (.int (p5 &&& (3 : Int32))), .val (.ref x), .val (.ref x)]) rfl k) ?_
    refine own_step (b := T7.setTop (mkF m 545 #[.val (.int p0), .val (.int p1), .val (.int p2), .val (.int p3), .val (.int p4), .val (.int p5), .val (.int ca), .val (.int cb), .val (.int cc), .val (.int cd), .val (.int ce), .val (.int (p5 &&& (3 : Int32))), .val (.ref x), .val (.ref x)] [(.ref x)])) (fun t k => XS.aload X7.here hx rfl (hb hby at_543) rfl rfl k) ?_
    refine own_step (b := T7.setTop (mkF m 547 #[.val (.int p0), .val (.int p1), .val (.int p2), .val (.int p3), .val (.int p4), .val (.int p5), .val (.int ca), .val (.int cb), .val (.int cc), .val (.int cd), .val (.int ce), .val (.int (p5 &&& (3 : Int32))), .val (.ref x), .val (.ref x)] [(.ref x), (.ref x)])) (fun t k => XS.aload X7.here hx rfl (hb hby at_545) rfl rfl k) ?_
    refine own_step (b := T7.setTop (mkF m 550 #[.val (.int p0), .val (.int p1), .val (.int p2), .val (.int p3), .val (.int p4), .val (.int p5), .val (.int ca), .val (.int cb), .val (.int cc), .val (.int cd), .val (.int ce), .val (.int (p5 &&& (3 : Int32))), .val (.ref x), .val (.ref x)] [])) (fun t k => XT.acmpNo X7.here hx rfl (hb hby at_547) rfl rfl rfl (by simp [XT.acmp]) k) ?_
    refine own_step (b := T7.setTop (mkF m 551 #[.val (.int p0), .val (.int p1), .val (.int p2), .val (.int p3), .val (.int p4), .val (.int p5), .val (.int ca), .val (.int cb), .val (.int cc), .val (.int cd), .val (.int ce), .val (.int (p5 &&& (3 : Int32))), .val (.ref x), .val (.ref x)] [(.int (1 : Int32))])) (fun t k => XS.iconst X7.here hx rfl (hb hby at_550) k) ?_
    refine own_step (b := T7.setTop (mkF m 555 #[.val (.int p0), .val (.int p1), .val (.int p2), .val (.int p3), .val (.int p4), .val (.int p5), .val (.int ca), .val (.int cb), .val (.int cc), .val (.int cd), .val (.int ce), .val (.int (p5 &&& (3 : Int32))), .val (.ref x), .val (.ref x)] [(.int (1 : Int32))])) (fun t k => XS.goto X7.here hx rfl (pc0 := 551) (pc' := 555) rfl (hb hby at_551) (by decide) (by decide) k) ?_
    exact own_retWN X7 hx hS (by omega) hret (by simp) hlk (hb hby at_555) ⟨rfl, N⟩ (by decide) (by decide)
  show own_G p e below _ (T5.setTop (mkF m 39 #[.val (.int p0), .val (.int p1), .val (.int p2), .val (.int p3), .val (.int p4), .val (.int p5), .val (.int ca), .val (.int cb), .val (.int cc), .val (.int cd), .val (.int ce), .val (.int (p5 &&& (3 : Int32))), .unset, .unset] [(.int (p5 &&& (3 : Int32)))]))
  refine own_if_ne X5 hx (hb hby at_39) (pc' := 62) (by decide) (by decide) (fun c39 => ?_) (fun c39 => ?_)
  · show own_G p e below _ (T5.setTop (mkF m 62 #[.val (.int p0), .val (.int p1), .val (.int p2), .val (.int p3), .val (.int p4), .val (.int p5), .val (.int ca), .val (.int cb), .val (.int cc), .val (.int cd), .val (.int ce), .val (.int (p5 &&& (3 : Int32))), .unset, .unset] []))
    refine own_step (b := T5.setTop (mkF m 64 #[.val (.int p0), .val (.int p1), .val (.int p2), .val (.int p3), .val (.int p4), .val (.int p5), .val (.int ca), .val (.int cb), .val (.int cc), .val (.int cd), .val (.int ce), .val (.int (p5 &&& (3 : Int32))), .unset, .unset] [(.int (p5 &&& (3 : Int32)))])) (fun t k => XS.iload X5.here hx rfl (hb hby at_62) rfl k) ?_
    refine own_step (b := T5.setTop (mkF m 65 #[.val (.int p0), .val (.int p1), .val (.int p2), .val (.int p3), .val (.int p4), .val (.int p5), .val (.int ca), .val (.int cb), .val (.int cc), .val (.int cd), .val (.int ce), .val (.int (p5 &&& (3 : Int32))), .unset, .unset] [(.int (1 : Int32)), (.int (p5 &&& (3 : Int32)))])) (fun t k => XS.iconst X5.here hx rfl (hb hby at_64) k) ?_
    refine own_icmp_ne X5 hx (hb hby at_65) (pc' := 93) (by decide) (by decide) (fun c65 => ?_) (fun c65 => ?_)
    · show own_G p e below _ (T5.setTop (mkF m 93 #[.val (.int p0), .val (.int p1), .val (.int p2), .val (.int p3), .val (.int p4), .val (.int p5), .val (.int ca), .val (.int cb), .val (.int cc), .val (.int cd), .val (.int ce), .val (.int (p5 &&& (3 : Int32))), .unset, .unset] []))
      refine own_step (b := T5.setTop (mkF m 95 #[.val (.int p0), .val (.int p1), .val (.int p2), .val (.int p3), .val (.int p4), .val (.int p5), .val (.int ca), .val (.int cb), .val (.int cc), .val (.int cd), .val (.int ce), .val (.int (p5 &&& (3 : Int32))), .unset, .unset] [(.int (p5 &&& (3 : Int32)))])) (fun t k => XS.iload X5.here hx rfl (hb hby at_93) rfl k) ?_
      refine own_step (b := T5.setTop (mkF m 96 #[.val (.int p0), .val (.int p1), .val (.int p2), .val (.int p3), .val (.int p4), .val (.int p5), .val (.int ca), .val (.int cb), .val (.int cc), .val (.int cd), .val (.int ce), .val (.int (p5 &&& (3 : Int32))), .unset, .unset] [(.int (2 : Int32)), (.int (p5 &&& (3 : Int32)))])) (fun t k => XS.iconst X5.here hx rfl (hb hby at_95) k) ?_
      refine own_icmp_ne X5 hx (hb hby at_96) (pc' := 129) (by decide) (by decide) (fun c96 => ?_) (fun c96 => ?_)
      · show own_G p e below _ (T5.setTop (mkF m 129 #[.val (.int p0), .val (.int p1), .val (.int p2), .val (.int p3), .val (.int p4), .val (.int p5), .val (.int ca), .val (.int cb), .val (.int cc), .val (.int cd), .val (.int ce), .val (.int (p5 &&& (3 : Int32))), .unset, .unset] []))
        refine own_step (b := T5.setTop (mkF m 131 #[.val (.int p0), .val (.int p1), .val (.int p2), .val (.int p3), .val (.int p4), .val (.int p5), .val (.int ca), .val (.int cb), .val (.int cc), .val (.int cd), .val (.int ce), .val (.int (p5 &&& (3 : Int32))), .unset, .unset] [(.int (64 : Int32))])) (fun t k => XS.bipush X5.here hx rfl (hb hby at_129) k) ?_
        refine own_newP X5 hx hZ (own_w hw 5 rfl) hh5 (hb hby at_131) (n := (64 : Int32)) (by decide) 64 (by decide) (by decide) (by decide) (by decide) (fun T8 h8 a8 k8 X8 e8 g8 l8 E8 V8 => ?_)
        have V8' : Arv Z h8 a8 k8 .char (64 : Int32) [.int 0, .int 0, .int 0, .int 0, .int 0, .int 0, .int 0, .int 0, .int 0, .int 0, .int 0, .int 0, .int 0, .int 0, .int 0, .int 0, .int 0, .int 0, .int 0, .int 0, .int 0, .int 0, .int 0, .int 0, .int 0, .int 0, .int 0, .int 0, .int 0, .int 0, .int 0, .int 0, .int 0, .int 0, .int 0, .int 0, .int 0, .int 0, .int 0, .int 0, .int 0, .int 0, .int 0, .int 0, .int 0, .int 0, .int 0, .int 0, .int 0, .int 0, .int 0, .int 0, .int 0, .int 0, .int 0, .int 0, .int 0, .int 0, .int 0, .int 0, .int 0, .int 0, .int 0, .int 0] (.int 0) := V8
        show own_G p e below _ (T8.setTop (mkF m 133 #[.val (.int p0), .val (.int p1), .val (.int p2), .val (.int p3), .val (.int p4), .val (.int p5), .val (.int ca), .val (.int cb), .val (.int cc), .val (.int cd), .val (.int ce), .val (.int (p5 &&& (3 : Int32))), .unset, .unset] [(.ref a8)]))
        have OL8 := OL0.ext E8
        have KF8 := (Keep.refl h8 [a8])
        refine own_step (b := T8.setTop (mkF m 134 #[.val (.int p0), .val (.int p1), .val (.int p2), .val (.int p3), .val (.int p4), .val (.int p5), .val (.int ca), .val (.int cb), .val (.int cc), .val (.int cd), .val (.int ce), .val (.int (p5 &&& (3 : Int32))), .unset, .unset] [(.ref a8), (.ref a8)])) (fun t k => XS.dup X8.here hx rfl (hb hby at_133) rfl rfl k) ?_
        refine own_step (b := T8.setTop (mkF m 135 #[.val (.int p0), .val (.int p1), .val (.int p2), .val (.int p3), .val (.int p4), .val (.int p5), .val (.int ca), .val (.int cb), .val (.int cc), .val (.int cd), .val (.int ce), .val (.int (p5 &&& (3 : Int32))), .unset, .unset] [(.int (0 : Int32)), (.ref a8), (.ref a8)])) (fun t k => XS.iconst X8.here hx rfl (hb hby at_134) k) ?_
        refine own_step (b := T8.setTop (mkF m 137 #[.val (.int p0), .val (.int p1), .val (.int p2), .val (.int p3), .val (.int p4), .val (.int p5), .val (.int ca), .val (.int cb), .val (.int cc), .val (.int cd), .val (.int ce), .val (.int (p5 &&& (3 : Int32))), .unset, .unset] [(.int ca), (.int (0 : Int32)), (.ref a8), (.ref a8)])) (fun t k => XS.iload X8.here hx rfl (hb hby at_135) rfl k) ?_
        refine own_stC X8 hx hZ e8 V8' 0 (by decide) (by decide) (by decide) (Nat.le_of_ble_eq_true rfl) N0 (by omega) (hb hby at_137) (fun T9 h9 X9 e9 N9 W9 z9 V9 => ?_)
        have V9' : Arv Z h9 a8 k8 .char (64 : Int32) [.int (nar .char ca), .int 0, .int 0, .int 0, .int 0, .int 0, .int 0, .int 0, .int 0, .int 0, .int 0, .int 0, .int 0, .int 0, .int 0, .int 0, .int 0, .int 0, .int 0, .int 0, .int 0, .int 0, .int 0, .int 0, .int 0, .int 0, .int 0, .int 0, .int 0, .int 0, .int 0, .int 0, .int 0, .int 0, .int 0, .int 0, .int 0, .int 0, .int 0, .int 0, .int 0, .int 0, .int 0, .int 0, .int 0, .int 0, .int 0, .int 0, .int 0, .int 0, .int 0, .int 0, .int 0, .int 0, .int 0, .int 0, .int 0, .int 0, .int 0, .int 0, .int 0, .int 0, .int 0, .int 0] (.int 0) := V9
        show own_G p e below _ (T9.setTop (mkF m 138 #[.val (.int p0), .val (.int p1), .val (.int p2), .val (.int p3), .val (.int p4), .val (.int p5), .val (.int ca), .val (.int cb), .val (.int cc), .val (.int cd), .val (.int ce), .val (.int (p5 &&& (3 : Int32))), .unset, .unset] [(.ref a8)]))
        have V9s : Arv Z h9 a8 k8 .char (64 : Int32) [.int ca, .int 0, .int 0, .int 0, .int 0, .int 0, .int 0, .int 0, .int 0, .int 0, .int 0, .int 0, .int 0, .int 0, .int 0, .int 0, .int 0, .int 0, .int 0, .int 0, .int 0, .int 0, .int 0, .int 0, .int 0, .int 0, .int 0, .int 0, .int 0, .int 0, .int 0, .int 0, .int 0, .int 0, .int 0, .int 0, .int 0, .int 0, .int 0, .int 0, .int 0, .int 0, .int 0, .int 0, .int 0, .int 0, .int 0, .int 0, .int 0, .int 0, .int 0, .int 0, .int 0, .int 0, .int 0, .int 0, .int 0, .int 0, .int 0, .int 0, .int 0, .int 0, .int 0, .int 0] (.int 0) := by have q := V9'; rw [own_narC hca.1.1 hca.1.2] at q; exact q
        have OL9 := OL8.wr W9 (by omega)
        have KF9 := KF8.wr W9 (Or.inl (List.mem_singleton.mpr rfl))
        clear V9'
        refine own_step (b := T9.setTop (mkF m 139 #[.val (.int p0), .val (.int p1), .val (.int p2), .val (.int p3), .val (.int p4), .val (.int p5), .val (.int ca), .val (.int cb), .val (.int cc), .val (.int cd), .val (.int ce), .val (.int (p5 &&& (3 : Int32))), .unset, .unset] [(.ref a8), (.ref a8)])) (fun t k => XS.dup X9.here hx rfl (hb hby at_138) rfl rfl k) ?_
        refine own_step (b := T9.setTop (mkF m 140 #[.val (.int p0), .val (.int p1), .val (.int p2), .val (.int p3), .val (.int p4), .val (.int p5), .val (.int ca), .val (.int cb), .val (.int cc), .val (.int cd), .val (.int ce), .val (.int (p5 &&& (3 : Int32))), .unset, .unset] [(.int (1 : Int32)), (.ref a8), (.ref a8)])) (fun t k => XS.iconst X9.here hx rfl (hb hby at_139) k) ?_
        refine own_step (b := T9.setTop (mkF m 142 #[.val (.int p0), .val (.int p1), .val (.int p2), .val (.int p3), .val (.int p4), .val (.int p5), .val (.int ca), .val (.int cb), .val (.int cc), .val (.int cd), .val (.int ce), .val (.int (p5 &&& (3 : Int32))), .unset, .unset] [(.int cb), (.int (1 : Int32)), (.ref a8), (.ref a8)])) (fun t k => XS.iload X9.here hx rfl (hb hby at_140) rfl k) ?_
        refine own_stC X9 hx hZ e9 V9s 1 (by decide) (by decide) (by decide) (Nat.le_of_ble_eq_true rfl) N9 (by omega) (hb hby at_142) (fun T10 h10 X10 e10 N10 W10 z10 V10 => ?_)
        have V10' : Arv Z h10 a8 k8 .char (64 : Int32) [.int ca, .int (nar .char cb), .int 0, .int 0, .int 0, .int 0, .int 0, .int 0, .int 0, .int 0, .int 0, .int 0, .int 0, .int 0, .int 0, .int 0, .int 0, .int 0, .int 0, .int 0, .int 0, .int 0, .int 0, .int 0, .int 0, .int 0, .int 0, .int 0, .int 0, .int 0, .int 0, .int 0, .int 0, .int 0, .int 0, .int 0, .int 0, .int 0, .int 0, .int 0, .int 0, .int 0, .int 0, .int 0, .int 0, .int 0, .int 0, .int 0, .int 0, .int 0, .int 0, .int 0, .int 0, .int 0, .int 0, .int 0, .int 0, .int 0, .int 0, .int 0, .int 0, .int 0, .int 0, .int 0] (.int 0) := V10
        show own_G p e below _ (T10.setTop (mkF m 143 #[.val (.int p0), .val (.int p1), .val (.int p2), .val (.int p3), .val (.int p4), .val (.int p5), .val (.int ca), .val (.int cb), .val (.int cc), .val (.int cd), .val (.int ce), .val (.int (p5 &&& (3 : Int32))), .unset, .unset] [(.ref a8)]))
        have V10s : Arv Z h10 a8 k8 .char (64 : Int32) [.int ca, .int cb, .int 0, .int 0, .int 0, .int 0, .int 0, .int 0, .int 0, .int 0, .int 0, .int 0, .int 0, .int 0, .int 0, .int 0, .int 0, .int 0, .int 0, .int 0, .int 0, .int 0, .int 0, .int 0, .int 0, .int 0, .int 0, .int 0, .int 0, .int 0, .int 0, .int 0, .int 0, .int 0, .int 0, .int 0, .int 0, .int 0, .int 0, .int 0, .int 0, .int 0, .int 0, .int 0, .int 0, .int 0, .int 0, .int 0, .int 0, .int 0, .int 0, .int 0, .int 0, .int 0, .int 0, .int 0, .int 0, .int 0, .int 0, .int 0, .int 0, .int 0, .int 0, .int 0] (.int 0) := by have q := V10'; rw [own_narC hcb.1.1 hcb.1.2] at q; exact q
        have OL10 := OL9.wr W10 (by omega)
        have KF10 := KF9.wr W10 (Or.inl (List.mem_singleton.mpr rfl))
        clear V10'
        refine own_step (b := T10.setTop (mkF m 144 #[.val (.int p0), .val (.int p1), .val (.int p2), .val (.int p3), .val (.int p4), .val (.int p5), .val (.int ca), .val (.int cb), .val (.int cc), .val (.int cd), .val (.int ce), .val (.int (p5 &&& (3 : Int32))), .unset, .unset] [(.ref a8), (.ref a8)])) (fun t k => XS.dup X10.here hx rfl (hb hby at_143) rfl rfl k) ?_
        refine own_step (b := T10.setTop (mkF m 145 #[.val (.int p0), .val (.int p1), .val (.int p2), .val (.int p3), .val (.int p4), .val (.int p5), .val (.int ca), .val (.int cb), .val (.int cc), .val (.int cd), .val (.int ce), .val (.int (p5 &&& (3 : Int32))), .unset, .unset] [(.int (2 : Int32)), (.ref a8), (.ref a8)])) (fun t k => XS.iconst X10.here hx rfl (hb hby at_144) k) ?_
        refine own_step (b := T10.setTop (mkF m 147 #[.val (.int p0), .val (.int p1), .val (.int p2), .val (.int p3), .val (.int p4), .val (.int p5), .val (.int ca), .val (.int cb), .val (.int cc), .val (.int cd), .val (.int ce), .val (.int (p5 &&& (3 : Int32))), .unset, .unset] [(.int cc), (.int (2 : Int32)), (.ref a8), (.ref a8)])) (fun t k => XS.iload X10.here hx rfl (hb hby at_145) rfl k) ?_
        refine own_stC X10 hx hZ e10 V10s 2 (by decide) (by decide) (by decide) (Nat.le_of_ble_eq_true rfl) N10 (by omega) (hb hby at_147) (fun T11 h11 X11 e11 N11 W11 z11 V11 => ?_)
        have V11' : Arv Z h11 a8 k8 .char (64 : Int32) [.int ca, .int cb, .int (nar .char cc), .int 0, .int 0, .int 0, .int 0, .int 0, .int 0, .int 0, .int 0, .int 0, .int 0, .int 0, .int 0, .int 0, .int 0, .int 0, .int 0, .int 0, .int 0, .int 0, .int 0, .int 0, .int 0, .int 0, .int 0, .int 0, .int 0, .int 0, .int 0, .int 0, .int 0, .int 0, .int 0, .int 0, .int 0, .int 0, .int 0, .int 0, .int 0, .int 0, .int 0, .int 0, .int 0, .int 0, .int 0, .int 0, .int 0, .int 0, .int 0, .int 0, .int 0, .int 0, .int 0, .int 0, .int 0, .int 0, .int 0, .int 0, .int 0, .int 0, .int 0, .int 0] (.int 0) := V11
        show own_G p e below _ (T11.setTop (mkF m 148 #[.val (.int p0), .val (.int p1), .val (.int p2), .val (.int p3), .val (.int p4), .val (.int p5), .val (.int ca), .val (.int cb), .val (.int cc), .val (.int cd), .val (.int ce), .val (.int (p5 &&& (3 : Int32))), .unset, .unset] [(.ref a8)]))
        have V11s : Arv Z h11 a8 k8 .char (64 : Int32) [.int ca, .int cb, .int cc, .int 0, .int 0, .int 0, .int 0, .int 0, .int 0, .int 0, .int 0, .int 0, .int 0, .int 0, .int 0, .int 0, .int 0, .int 0, .int 0, .int 0, .int 0, .int 0, .int 0, .int 0, .int 0, .int 0, .int 0, .int 0, .int 0, .int 0, .int 0, .int 0, .int 0, .int 0, .int 0, .int 0, .int 0, .int 0, .int 0, .int 0, .int 0, .int 0, .int 0, .int 0, .int 0, .int 0, .int 0, .int 0, .int 0, .int 0, .int 0, .int 0, .int 0, .int 0, .int 0, .int 0, .int 0, .int 0, .int 0, .int 0, .int 0, .int 0, .int 0, .int 0] (.int 0) := by have q := V11'; rw [own_narC hcc.1.1 hcc.1.2] at q; exact q
        have OL11 := OL10.wr W11 (by omega)
        have KF11 := KF10.wr W11 (Or.inl (List.mem_singleton.mpr rfl))
        clear V11'
        refine own_step (b := T11.setTop (mkF m 149 #[.val (.int p0), .val (.int p1), .val (.int p2), .val (.int p3), .val (.int p4), .val (.int p5), .val (.int ca), .val (.int cb), .val (.int cc), .val (.int cd), .val (.int ce), .val (.int (p5 &&& (3 : Int32))), .unset, .unset] [(.ref a8), (.ref a8)])) (fun t k => XS.dup X11.here hx rfl (hb hby at_148) rfl rfl k) ?_
        refine own_step (b := T11.setTop (mkF m 150 #[.val (.int p0), .val (.int p1), .val (.int p2), .val (.int p3), .val (.int p4), .val (.int p5), .val (.int ca), .val (.int cb), .val (.int cc), .val (.int cd), .val (.int ce), .val (.int (p5 &&& (3 : Int32))), .unset, .unset] [(.int (3 : Int32)), (.ref a8), (.ref a8)])) (fun t k => XS.iconst X11.here hx rfl (hb hby at_149) k) ?_
        refine own_step (b := T11.setTop (mkF m 152 #[.val (.int p0), .val (.int p1), .val (.int p2), .val (.int p3), .val (.int p4), .val (.int p5), .val (.int ca), .val (.int cb), .val (.int cc), .val (.int cd), .val (.int ce), .val (.int (p5 &&& (3 : Int32))), .unset, .unset] [(.int cd), (.int (3 : Int32)), (.ref a8), (.ref a8)])) (fun t k => XS.iload X11.here hx rfl (hb hby at_150) rfl k) ?_
        refine own_stC X11 hx hZ e11 V11s 3 (by decide) (by decide) (by decide) (Nat.le_of_ble_eq_true rfl) N11 (by omega) (hb hby at_152) (fun T12 h12 X12 e12 N12 W12 z12 V12 => ?_)
        have V12' : Arv Z h12 a8 k8 .char (64 : Int32) [.int ca, .int cb, .int cc, .int (nar .char cd), .int 0, .int 0, .int 0, .int 0, .int 0, .int 0, .int 0, .int 0, .int 0, .int 0, .int 0, .int 0, .int 0, .int 0, .int 0, .int 0, .int 0, .int 0, .int 0, .int 0, .int 0, .int 0, .int 0, .int 0, .int 0, .int 0, .int 0, .int 0, .int 0, .int 0, .int 0, .int 0, .int 0, .int 0, .int 0, .int 0, .int 0, .int 0, .int 0, .int 0, .int 0, .int 0, .int 0, .int 0, .int 0, .int 0, .int 0, .int 0, .int 0, .int 0, .int 0, .int 0, .int 0, .int 0, .int 0, .int 0, .int 0, .int 0, .int 0, .int 0] (.int 0) := V12
        show own_G p e below _ (T12.setTop (mkF m 153 #[.val (.int p0), .val (.int p1), .val (.int p2), .val (.int p3), .val (.int p4), .val (.int p5), .val (.int ca), .val (.int cb), .val (.int cc), .val (.int cd), .val (.int ce), .val (.int (p5 &&& (3 : Int32))), .unset, .unset] [(.ref a8)]))
        have V12s : Arv Z h12 a8 k8 .char (64 : Int32) [.int ca, .int cb, .int cc, .int cd, .int 0, .int 0, .int 0, .int 0, .int 0, .int 0, .int 0, .int 0, .int 0, .int 0, .int 0, .int 0, .int 0, .int 0, .int 0, .int 0, .int 0, .int 0, .int 0, .int 0, .int 0, .int 0, .int 0, .int 0, .int 0, .int 0, .int 0, .int 0, .int 0, .int 0, .int 0, .int 0, .int 0, .int 0, .int 0, .int 0, .int 0, .int 0, .int 0, .int 0, .int 0, .int 0, .int 0, .int 0, .int 0, .int 0, .int 0, .int 0, .int 0, .int 0, .int 0, .int 0, .int 0, .int 0, .int 0, .int 0, .int 0, .int 0, .int 0, .int 0] (.int 0) := by have q := V12'; rw [own_narC hcd.1.1 hcd.1.2] at q; exact q
        have OL12 := OL11.wr W12 (by omega)
        have KF12 := KF11.wr W12 (Or.inl (List.mem_singleton.mpr rfl))
        clear V12'
        refine own_step (b := T12.setTop (mkF m 154 #[.val (.int p0), .val (.int p1), .val (.int p2), .val (.int p3), .val (.int p4), .val (.int p5), .val (.int ca), .val (.int cb), .val (.int cc), .val (.int cd), .val (.int ce), .val (.int (p5 &&& (3 : Int32))), .unset, .unset] [(.ref a8), (.ref a8)])) (fun t k => XS.dup X12.here hx rfl (hb hby at_153) rfl rfl k) ?_
        refine own_step (b := T12.setTop (mkF m 155 #[.val (.int p0), .val (.int p1), .val (.int p2), .val (.int p3), .val (.int p4), .val (.int p5), .val (.int ca), .val (.int cb), .val (.int cc), .val (.int cd), .val (.int ce), .val (.int (p5 &&& (3 : Int32))), .unset, .unset] [(.int (4 : Int32)), (.ref a8), (.ref a8)])) (fun t k => XS.iconst X12.here hx rfl (hb hby at_154) k) ?_
        refine own_step (b := T12.setTop (mkF m 157 #[.val (.int p0), .val (.int p1), .val (.int p2), .val (.int p3), .val (.int p4), .val (.int p5), .val (.int ca), .val (.int cb), .val (.int cc), .val (.int cd), .val (.int ce), .val (.int (p5 &&& (3 : Int32))), .unset, .unset] [(.int cd), (.int (4 : Int32)), (.ref a8), (.ref a8)])) (fun t k => XS.iload X12.here hx rfl (hb hby at_155) rfl k) ?_
        refine own_stC X12 hx hZ e12 V12s 4 (by decide) (by decide) (by decide) (Nat.le_of_ble_eq_true rfl) N12 (by omega) (hb hby at_157) (fun T13 h13 X13 e13 N13 W13 z13 V13 => ?_)
        have V13' : Arv Z h13 a8 k8 .char (64 : Int32) [.int ca, .int cb, .int cc, .int cd, .int (nar .char cd), .int 0, .int 0, .int 0, .int 0, .int 0, .int 0, .int 0, .int 0, .int 0, .int 0, .int 0, .int 0, .int 0, .int 0, .int 0, .int 0, .int 0, .int 0, .int 0, .int 0, .int 0, .int 0, .int 0, .int 0, .int 0, .int 0, .int 0, .int 0, .int 0, .int 0, .int 0, .int 0, .int 0, .int 0, .int 0, .int 0, .int 0, .int 0, .int 0, .int 0, .int 0, .int 0, .int 0, .int 0, .int 0, .int 0, .int 0, .int 0, .int 0, .int 0, .int 0, .int 0, .int 0, .int 0, .int 0, .int 0, .int 0, .int 0, .int 0] (.int 0) := V13
        show own_G p e below _ (T13.setTop (mkF m 158 #[.val (.int p0), .val (.int p1), .val (.int p2), .val (.int p3), .val (.int p4), .val (.int p5), .val (.int ca), .val (.int cb), .val (.int cc), .val (.int cd), .val (.int ce), .val (.int (p5 &&& (3 : Int32))), .unset, .unset] [(.ref a8)]))
        have V13s : Arv Z h13 a8 k8 .char (64 : Int32) [.int ca, .int cb, .int cc, .int cd, .int cd, .int 0, .int 0, .int 0, .int 0, .int 0, .int 0, .int 0, .int 0, .int 0, .int 0, .int 0, .int 0, .int 0, .int 0, .int 0, .int 0, .int 0, .int 0, .int 0, .int 0, .int 0, .int 0, .int 0, .int 0, .int 0, .int 0, .int 0, .int 0, .int 0, .int 0, .int 0, .int 0, .int 0, .int 0, .int 0, .int 0, .int 0, .int 0, .int 0, .int 0, .int 0, .int 0, .int 0, .int 0, .int 0, .int 0, .int 0, .int 0, .int 0, .int 0, .int 0, .int 0, .int 0, .int 0, .int 0, .int 0, .int 0, .int 0, .int 0] (.int 0) := by have q := V13'; rw [own_narC hcd.1.1 hcd.1.2] at q; exact q
        have OL13 := OL12.wr W13 (by omega)
        have KF13 := KF12.wr W13 (Or.inl (List.mem_singleton.mpr rfl))
        clear V13'
        refine own_step (b := T13.setTop (mkF m 159 #[.val (.int p0), .val (.int p1), .val (.int p2), .val (.int p3), .val (.int p4), .val (.int p5), .val (.int ca), .val (.int cb), .val (.int cc), .val (.int cd), .val (.int ce), .val (.int (p5 &&& (3 : Int32))), .unset, .unset] [(.ref a8), (.ref a8)])) (fun t k => XS.dup X13.here hx rfl (hb hby at_158) rfl rfl k) ?_
        refine own_step (b := T13.setTop (mkF m 160 #[.val (.int p0), .val (.int p1), .val (.int p2), .val (.int p3), .val (.int p4), .val (.int p5), .val (.int ca), .val (.int cb), .val (.int cc), .val (.int cd), .val (.int ce), .val (.int (p5 &&& (3 : Int32))), .unset, .unset] [(.int (5 : Int32)), (.ref a8), (.ref a8)])) (fun t k => XS.iconst X13.here hx rfl (hb hby at_159) k) ?_
        refine own_step (b := T13.setTop (mkF m 162 #[.val (.int p0), .val (.int p1), .val (.int p2), .val (.int p3), .val (.int p4), .val (.int p5), .val (.int ca), .val (.int cb), .val (.int cc), .val (.int cd), .val (.int ce), .val (.int (p5 &&& (3 : Int32))), .unset, .unset] [(.int cd), (.int (5 : Int32)), (.ref a8), (.ref a8)])) (fun t k => XS.iload X13.here hx rfl (hb hby at_160) rfl k) ?_
        refine own_stC X13 hx hZ e13 V13s 5 (by decide) (by decide) (by decide) (Nat.le_of_ble_eq_true rfl) N13 (by omega) (hb hby at_162) (fun T14 h14 X14 e14 N14 W14 z14 V14 => ?_)
        have V14' : Arv Z h14 a8 k8 .char (64 : Int32) [.int ca, .int cb, .int cc, .int cd, .int cd, .int (nar .char cd), .int 0, .int 0, .int 0, .int 0, .int 0, .int 0, .int 0, .int 0, .int 0, .int 0, .int 0, .int 0, .int 0, .int 0, .int 0, .int 0, .int 0, .int 0, .int 0, .int 0, .int 0, .int 0, .int 0, .int 0, .int 0, .int 0, .int 0, .int 0, .int 0, .int 0, .int 0, .int 0, .int 0, .int 0, .int 0, .int 0, .int 0, .int 0, .int 0, .int 0, .int 0, .int 0, .int 0, .int 0, .int 0, .int 0, .int 0, .int 0, .int 0, .int 0, .int 0, .int 0, .int 0, .int 0, .int 0, .int 0, .int 0, .int 0] (.int 0) := V14
        show own_G p e below _ (T14.setTop (mkF m 163 #[.val (.int p0), .val (.int p1), .val (.int p2), .val (.int p3), .val (.int p4), .val (.int p5), .val (.int ca), .val (.int cb), .val (.int cc), .val (.int cd), .val (.int ce), .val (.int (p5 &&& (3 : Int32))), .unset, .unset] [(.ref a8)]))
        have V14s : Arv Z h14 a8 k8 .char (64 : Int32) [.int ca, .int cb, .int cc, .int cd, .int cd, .int cd, .int 0, .int 0, .int 0, .int 0, .int 0, .int 0, .int 0, .int 0, .int 0, .int 0, .int 0, .int 0, .int 0, .int 0, .int 0, .int 0, .int 0, .int 0, .int 0, .int 0, .int 0, .int 0, .int 0, .int 0, .int 0, .int 0, .int 0, .int 0, .int 0, .int 0, .int 0, .int 0, .int 0, .int 0, .int 0, .int 0, .int 0, .int 0, .int 0, .int 0, .int 0, .int 0, .int 0, .int 0, .int 0, .int 0, .int 0, .int 0, .int 0, .int 0, .int 0, .int 0, .int 0, .int 0, .int 0, .int 0, .int 0, .int 0] (.int 0) := by have q := V14'; rw [own_narC hcd.1.1 hcd.1.2] at q; exact q
        have OL14 := OL13.wr W14 (by omega)
        have KF14 := KF13.wr W14 (Or.inl (List.mem_singleton.mpr rfl))
        clear V14'
        refine own_step (b := T14.setTop (mkF m 164 #[.val (.int p0), .val (.int p1), .val (.int p2), .val (.int p3), .val (.int p4), .val (.int p5), .val (.int ca), .val (.int cb), .val (.int cc), .val (.int cd), .val (.int ce), .val (.int (p5 &&& (3 : Int32))), .unset, .unset] [(.ref a8), (.ref a8)])) (fun t k => XS.dup X14.here hx rfl (hb hby at_163) rfl rfl k) ?_
        refine own_step (b := T14.setTop (mkF m 166 #[.val (.int p0), .val (.int p1), .val (.int p2), .val (.int p3), .val (.int p4), .val (.int p5), .val (.int ca), .val (.int cb), .val (.int cc), .val (.int cd), .val (.int ce), .val (.int (p5 &&& (3 : Int32))), .unset, .unset] [(.int (6 : Int32)), (.ref a8), (.ref a8)])) (fun t k => XS.bipush X14.here hx rfl (hb hby at_164) k) ?_
        refine own_step (b := T14.setTop (mkF m 168 #[.val (.int p0), .val (.int p1), .val (.int p2), .val (.int p3), .val (.int p4), .val (.int p5), .val (.int ca), .val (.int cb), .val (.int cc), .val (.int cd), .val (.int ce), .val (.int (p5 &&& (3 : Int32))), .unset, .unset] [(.int cd), (.int (6 : Int32)), (.ref a8), (.ref a8)])) (fun t k => XS.iload X14.here hx rfl (hb hby at_166) rfl k) ?_
        refine own_stC X14 hx hZ e14 V14s 6 (by decide) (by decide) (by decide) (Nat.le_of_ble_eq_true rfl) N14 (by omega) (hb hby at_168) (fun T15 h15 X15 e15 N15 W15 z15 V15 => ?_)
        have V15' : Arv Z h15 a8 k8 .char (64 : Int32) [.int ca, .int cb, .int cc, .int cd, .int cd, .int cd, .int (nar .char cd), .int 0, .int 0, .int 0, .int 0, .int 0, .int 0, .int 0, .int 0, .int 0, .int 0, .int 0, .int 0, .int 0, .int 0, .int 0, .int 0, .int 0, .int 0, .int 0, .int 0, .int 0, .int 0, .int 0, .int 0, .int 0, .int 0, .int 0, .int 0, .int 0, .int 0, .int 0, .int 0, .int 0, .int 0, .int 0, .int 0, .int 0, .int 0, .int 0, .int 0, .int 0, .int 0, .int 0, .int 0, .int 0, .int 0, .int 0, .int 0, .int 0, .int 0, .int 0, .int 0, .int 0, .int 0, .int 0, .int 0, .int 0] (.int 0) := V15
        show own_G p e below _ (T15.setTop (mkF m 169 #[.val (.int p0), .val (.int p1), .val (.int p2), .val (.int p3), .val (.int p4), .val (.int p5), .val (.int ca), .val (.int cb), .val (.int cc), .val (.int cd), .val (.int ce), .val (.int (p5 &&& (3 : Int32))), .unset, .unset] [(.ref a8)]))
        have V15s : Arv Z h15 a8 k8 .char (64 : Int32) [.int ca, .int cb, .int cc, .int cd, .int cd, .int cd, .int cd, .int 0, .int 0, .int 0, .int 0, .int 0, .int 0, .int 0, .int 0, .int 0, .int 0, .int 0, .int 0, .int 0, .int 0, .int 0, .int 0, .int 0, .int 0, .int 0, .int 0, .int 0, .int 0, .int 0, .int 0, .int 0, .int 0, .int 0, .int 0, .int 0, .int 0, .int 0, .int 0, .int 0, .int 0, .int 0, .int 0, .int 0, .int 0, .int 0, .int 0, .int 0, .int 0, .int 0, .int 0, .int 0, .int 0, .int 0, .int 0, .int 0, .int 0, .int 0, .int 0, .int 0, .int 0, .int 0, .int 0, .int 0] (.int 0) := by have q := V15'; rw [own_narC hcd.1.1 hcd.1.2] at q; exact q
        have OL15 := OL14.wr W15 (by omega)
        have KF15 := KF14.wr W15 (Or.inl (List.mem_singleton.mpr rfl))
        clear V15'
        refine own_step (b := T15.setTop (mkF m 170 #[.val (.int p0), .val (.int p1), .val (.int p2), .val (.int p3), .val (.int p4), .val (.int p5), .val (.int ca), .val (.int cb), .val (.int cc), .val (.int cd), .val (.int ce), .val (.int (p5 &&& (3 : Int32))), .unset, .unset] [(.ref a8), (.ref a8)])) (fun t k => XS.dup X15.here hx rfl (hb hby at_169) rfl rfl k) ?_
        refine own_step (b := T15.setTop (mkF m 172 #[.val (.int p0), .val (.int p1), .val (.int p2), .val (.int p3), .val (.int p4), .val (.int p5), .val (.int ca), .val (.int cb), .val (.int cc), .val (.int cd), .val (.int ce), .val (.int (p5 &&& (3 : Int32))), .unset, .unset] [(.int (7 : Int32)), (.ref a8), (.ref a8)])) (fun t k => XS.bipush X15.here hx rfl (hb hby at_170) k) ?_
        refine own_step (b := T15.setTop (mkF m 174 #[.val (.int p0), .val (.int p1), .val (.int p2), .val (.int p3), .val (.int p4), .val (.int p5), .val (.int ca), .val (.int cb), .val (.int cc), .val (.int cd), .val (.int ce), .val (.int (p5 &&& (3 : Int32))), .unset, .unset] [(.int cd), (.int (7 : Int32)), (.ref a8), (.ref a8)])) (fun t k => XS.iload X15.here hx rfl (hb hby at_172) rfl k) ?_
        refine own_stC X15 hx hZ e15 V15s 7 (by decide) (by decide) (by decide) (Nat.le_of_ble_eq_true rfl) N15 (by omega) (hb hby at_174) (fun T16 h16 X16 e16 N16 W16 z16 V16 => ?_)
        have V16' : Arv Z h16 a8 k8 .char (64 : Int32) [.int ca, .int cb, .int cc, .int cd, .int cd, .int cd, .int cd, .int (nar .char cd), .int 0, .int 0, .int 0, .int 0, .int 0, .int 0, .int 0, .int 0, .int 0, .int 0, .int 0, .int 0, .int 0, .int 0, .int 0, .int 0, .int 0, .int 0, .int 0, .int 0, .int 0, .int 0, .int 0, .int 0, .int 0, .int 0, .int 0, .int 0, .int 0, .int 0, .int 0, .int 0, .int 0, .int 0, .int 0, .int 0, .int 0, .int 0, .int 0, .int 0, .int 0, .int 0, .int 0, .int 0, .int 0, .int 0, .int 0, .int 0, .int 0, .int 0, .int 0, .int 0, .int 0, .int 0, .int 0, .int 0] (.int 0) := V16
        show own_G p e below _ (T16.setTop (mkF m 175 #[.val (.int p0), .val (.int p1), .val (.int p2), .val (.int p3), .val (.int p4), .val (.int p5), .val (.int ca), .val (.int cb), .val (.int cc), .val (.int cd), .val (.int ce), .val (.int (p5 &&& (3 : Int32))), .unset, .unset] [(.ref a8)]))
        have V16s : Arv Z h16 a8 k8 .char (64 : Int32) [.int ca, .int cb, .int cc, .int cd, .int cd, .int cd, .int cd, .int cd, .int 0, .int 0, .int 0, .int 0, .int 0, .int 0, .int 0, .int 0, .int 0, .int 0, .int 0, .int 0, .int 0, .int 0, .int 0, .int 0, .int 0, .int 0, .int 0, .int 0, .int 0, .int 0, .int 0, .int 0, .int 0, .int 0, .int 0, .int 0, .int 0, .int 0, .int 0, .int 0, .int 0, .int 0, .int 0, .int 0, .int 0, .int 0, .int 0, .int 0, .int 0, .int 0, .int 0, .int 0, .int 0, .int 0, .int 0, .int 0, .int 0, .int 0, .int 0, .int 0, .int 0, .int 0, .int 0, .int 0] (.int 0) := by have q := V16'; rw [own_narC hcd.1.1 hcd.1.2] at q; exact q
        have OL16 := OL15.wr W16 (by omega)
        have KF16 := KF15.wr W16 (Or.inl (List.mem_singleton.mpr rfl))
        clear V16'
        refine own_step (b := T16.setTop (mkF m 176 #[.val (.int p0), .val (.int p1), .val (.int p2), .val (.int p3), .val (.int p4), .val (.int p5), .val (.int ca), .val (.int cb), .val (.int cc), .val (.int cd), .val (.int ce), .val (.int (p5 &&& (3 : Int32))), .unset, .unset] [(.ref a8), (.ref a8)])) (fun t k => XS.dup X16.here hx rfl (hb hby at_175) rfl rfl k) ?_
        refine own_step (b := T16.setTop (mkF m 178 #[.val (.int p0), .val (.int p1), .val (.int p2), .val (.int p3), .val (.int p4), .val (.int p5), .val (.int ca), .val (.int cb), .val (.int cc), .val (.int cd), .val (.int ce), .val (.int (p5 &&& (3 : Int32))), .unset, .unset] [(.int (8 : Int32)), (.ref a8), (.ref a8)])) (fun t k => XS.bipush X16.here hx rfl (hb hby at_176) k) ?_
        refine own_step (b := T16.setTop (mkF m 180 #[.val (.int p0), .val (.int p1), .val (.int p2), .val (.int p3), .val (.int p4), .val (.int p5), .val (.int ca), .val (.int cb), .val (.int cc), .val (.int cd), .val (.int ce), .val (.int (p5 &&& (3 : Int32))), .unset, .unset] [(.int cd), (.int (8 : Int32)), (.ref a8), (.ref a8)])) (fun t k => XS.iload X16.here hx rfl (hb hby at_178) rfl k) ?_
        refine own_stC X16 hx hZ e16 V16s 8 (by decide) (by decide) (by decide) (Nat.le_of_ble_eq_true rfl) N16 (by omega) (hb hby at_180) (fun T17 h17 X17 e17 N17 W17 z17 V17 => ?_)
        have V17' : Arv Z h17 a8 k8 .char (64 : Int32) [.int ca, .int cb, .int cc, .int cd, .int cd, .int cd, .int cd, .int cd, .int (nar .char cd), .int 0, .int 0, .int 0, .int 0, .int 0, .int 0, .int 0, .int 0, .int 0, .int 0, .int 0, .int 0, .int 0, .int 0, .int 0, .int 0, .int 0, .int 0, .int 0, .int 0, .int 0, .int 0, .int 0, .int 0, .int 0, .int 0, .int 0, .int 0, .int 0, .int 0, .int 0, .int 0, .int 0, .int 0, .int 0, .int 0, .int 0, .int 0, .int 0, .int 0, .int 0, .int 0, .int 0, .int 0, .int 0, .int 0, .int 0, .int 0, .int 0, .int 0, .int 0, .int 0, .int 0, .int 0, .int 0] (.int 0) := V17
        show own_G p e below _ (T17.setTop (mkF m 181 #[.val (.int p0), .val (.int p1), .val (.int p2), .val (.int p3), .val (.int p4), .val (.int p5), .val (.int ca), .val (.int cb), .val (.int cc), .val (.int cd), .val (.int ce), .val (.int (p5 &&& (3 : Int32))), .unset, .unset] [(.ref a8)]))
        have V17s : Arv Z h17 a8 k8 .char (64 : Int32) [.int ca, .int cb, .int cc, .int cd, .int cd, .int cd, .int cd, .int cd, .int cd, .int 0, .int 0, .int 0, .int 0, .int 0, .int 0, .int 0, .int 0, .int 0, .int 0, .int 0, .int 0, .int 0, .int 0, .int 0, .int 0, .int 0, .int 0, .int 0, .int 0, .int 0, .int 0, .int 0, .int 0, .int 0, .int 0, .int 0, .int 0, .int 0, .int 0, .int 0, .int 0, .int 0, .int 0, .int 0, .int 0, .int 0, .int 0, .int 0, .int 0, .int 0, .int 0, .int 0, .int 0, .int 0, .int 0, .int 0, .int 0, .int 0, .int 0, .int 0, .int 0, .int 0, .int 0, .int 0] (.int 0) := by have q := V17'; rw [own_narC hcd.1.1 hcd.1.2] at q; exact q
        have OL17 := OL16.wr W17 (by omega)
        have KF17 := KF16.wr W17 (Or.inl (List.mem_singleton.mpr rfl))
        clear V17'
        refine own_step (b := T17.setTop (mkF m 182 #[.val (.int p0), .val (.int p1), .val (.int p2), .val (.int p3), .val (.int p4), .val (.int p5), .val (.int ca), .val (.int cb), .val (.int cc), .val (.int cd), .val (.int ce), .val (.int (p5 &&& (3 : Int32))), .unset, .unset] [(.ref a8), (.ref a8)])) (fun t k => XS.dup X17.here hx rfl (hb hby at_181) rfl rfl k) ?_
        refine own_step (b := T17.setTop (mkF m 184 #[.val (.int p0), .val (.int p1), .val (.int p2), .val (.int p3), .val (.int p4), .val (.int p5), .val (.int ca), .val (.int cb), .val (.int cc), .val (.int cd), .val (.int ce), .val (.int (p5 &&& (3 : Int32))), .unset, .unset] [(.int (9 : Int32)), (.ref a8), (.ref a8)])) (fun t k => XS.bipush X17.here hx rfl (hb hby at_182) k) ?_
        refine own_step (b := T17.setTop (mkF m 186 #[.val (.int p0), .val (.int p1), .val (.int p2), .val (.int p3), .val (.int p4), .val (.int p5), .val (.int ca), .val (.int cb), .val (.int cc), .val (.int cd), .val (.int ce), .val (.int (p5 &&& (3 : Int32))), .unset, .unset] [(.int cd), (.int (9 : Int32)), (.ref a8), (.ref a8)])) (fun t k => XS.iload X17.here hx rfl (hb hby at_184) rfl k) ?_
        refine own_stC X17 hx hZ e17 V17s 9 (by decide) (by decide) (by decide) (Nat.le_of_ble_eq_true rfl) N17 (by omega) (hb hby at_186) (fun T18 h18 X18 e18 N18 W18 z18 V18 => ?_)
        have V18' : Arv Z h18 a8 k8 .char (64 : Int32) [.int ca, .int cb, .int cc, .int cd, .int cd, .int cd, .int cd, .int cd, .int cd, .int (nar .char cd), .int 0, .int 0, .int 0, .int 0, .int 0, .int 0, .int 0, .int 0, .int 0, .int 0, .int 0, .int 0, .int 0, .int 0, .int 0, .int 0, .int 0, .int 0, .int 0, .int 0, .int 0, .int 0, .int 0, .int 0, .int 0, .int 0, .int 0, .int 0, .int 0, .int 0, .int 0, .int 0, .int 0, .int 0, .int 0, .int 0, .int 0, .int 0, .int 0, .int 0, .int 0, .int 0, .int 0, .int 0, .int 0, .int 0, .int 0, .int 0, .int 0, .int 0, .int 0, .int 0, .int 0, .int 0] (.int 0) := V18
        show own_G p e below _ (T18.setTop (mkF m 187 #[.val (.int p0), .val (.int p1), .val (.int p2), .val (.int p3), .val (.int p4), .val (.int p5), .val (.int ca), .val (.int cb), .val (.int cc), .val (.int cd), .val (.int ce), .val (.int (p5 &&& (3 : Int32))), .unset, .unset] [(.ref a8)]))
        have V18s : Arv Z h18 a8 k8 .char (64 : Int32) [.int ca, .int cb, .int cc, .int cd, .int cd, .int cd, .int cd, .int cd, .int cd, .int cd, .int 0, .int 0, .int 0, .int 0, .int 0, .int 0, .int 0, .int 0, .int 0, .int 0, .int 0, .int 0, .int 0, .int 0, .int 0, .int 0, .int 0, .int 0, .int 0, .int 0, .int 0, .int 0, .int 0, .int 0, .int 0, .int 0, .int 0, .int 0, .int 0, .int 0, .int 0, .int 0, .int 0, .int 0, .int 0, .int 0, .int 0, .int 0, .int 0, .int 0, .int 0, .int 0, .int 0, .int 0, .int 0, .int 0, .int 0, .int 0, .int 0, .int 0, .int 0, .int 0, .int 0, .int 0] (.int 0) := by have q := V18'; rw [own_narC hcd.1.1 hcd.1.2] at q; exact q
        have OL18 := OL17.wr W18 (by omega)
        have KF18 := KF17.wr W18 (Or.inl (List.mem_singleton.mpr rfl))
        clear V18'
        refine own_step (b := T18.setTop (mkF m 188 #[.val (.int p0), .val (.int p1), .val (.int p2), .val (.int p3), .val (.int p4), .val (.int p5), .val (.int ca), .val (.int cb), .val (.int cc), .val (.int cd), .val (.int ce), .val (.int (p5 &&& (3 : Int32))), .unset, .unset] [(.ref a8), (.ref a8)])) (fun t k => XS.dup X18.here hx rfl (hb hby at_187) rfl rfl k) ?_
        refine own_step (b := T18.setTop (mkF m 190 #[.val (.int p0), .val (.int p1), .val (.int p2), .val (.int p3), .val (.int p4), .val (.int p5), .val (.int ca), .val (.int cb), .val (.int cc), .val (.int cd), .val (.int ce), .val (.int (p5 &&& (3 : Int32))), .unset, .unset] [(.int (10 : Int32)), (.ref a8), (.ref a8)])) (fun t k => XS.bipush X18.here hx rfl (hb hby at_188) k) ?_
        refine own_step (b := T18.setTop (mkF m 192 #[.val (.int p0), .val (.int p1), .val (.int p2), .val (.int p3), .val (.int p4), .val (.int p5), .val (.int ca), .val (.int cb), .val (.int cc), .val (.int cd), .val (.int ce), .val (.int (p5 &&& (3 : Int32))), .unset, .unset] [(.int cd), (.int (10 : Int32)), (.ref a8), (.ref a8)])) (fun t k => XS.iload X18.here hx rfl (hb hby at_190) rfl k) ?_
        refine own_stC X18 hx hZ e18 V18s 10 (by decide) (by decide) (by decide) (Nat.le_of_ble_eq_true rfl) N18 (by omega) (hb hby at_192) (fun T19 h19 X19 e19 N19 W19 z19 V19 => ?_)
        have V19' : Arv Z h19 a8 k8 .char (64 : Int32) [.int ca, .int cb, .int cc, .int cd, .int cd, .int cd, .int cd, .int cd, .int cd, .int cd, .int (nar .char cd), .int 0, .int 0, .int 0, .int 0, .int 0, .int 0, .int 0, .int 0, .int 0, .int 0, .int 0, .int 0, .int 0, .int 0, .int 0, .int 0, .int 0, .int 0, .int 0, .int 0, .int 0, .int 0, .int 0, .int 0, .int 0, .int 0, .int 0, .int 0, .int 0, .int 0, .int 0, .int 0, .int 0, .int 0, .int 0, .int 0, .int 0, .int 0, .int 0, .int 0, .int 0, .int 0, .int 0, .int 0, .int 0, .int 0, .int 0, .int 0, .int 0, .int 0, .int 0, .int 0, .int 0] (.int 0) := V19
        show own_G p e below _ (T19.setTop (mkF m 193 #[.val (.int p0), .val (.int p1), .val (.int p2), .val (.int p3), .val (.int p4), .val (.int p5), .val (.int ca), .val (.int cb), .val (.int cc), .val (.int cd), .val (.int ce), .val (.int (p5 &&& (3 : Int32))), .unset, .unset] [(.ref a8)]))
        have V19s : Arv Z h19 a8 k8 .char (64 : Int32) [.int ca, .int cb, .int cc, .int cd, .int cd, .int cd, .int cd, .int cd, .int cd, .int cd, .int cd, .int 0, .int 0, .int 0, .int 0, .int 0, .int 0, .int 0, .int 0, .int 0, .int 0, .int 0, .int 0, .int 0, .int 0, .int 0, .int 0, .int 0, .int 0, .int 0, .int 0, .int 0, .int 0, .int 0, .int 0, .int 0, .int 0, .int 0, .int 0, .int 0, .int 0, .int 0, .int 0, .int 0, .int 0, .int 0, .int 0, .int 0, .int 0, .int 0, .int 0, .int 0, .int 0, .int 0, .int 0, .int 0, .int 0, .int 0, .int 0, .int 0, .int 0, .int 0, .int 0, .int 0] (.int 0) := by have q := V19'; rw [own_narC hcd.1.1 hcd.1.2] at q; exact q
        have OL19 := OL18.wr W19 (by omega)
        have KF19 := KF18.wr W19 (Or.inl (List.mem_singleton.mpr rfl))
        clear V19'
        refine own_step (b := T19.setTop (mkF m 194 #[.val (.int p0), .val (.int p1), .val (.int p2), .val (.int p3), .val (.int p4), .val (.int p5), .val (.int ca), .val (.int cb), .val (.int cc), .val (.int cd), .val (.int ce), .val (.int (p5 &&& (3 : Int32))), .unset, .unset] [(.ref a8), (.ref a8)])) (fun t k => XS.dup X19.here hx rfl (hb hby at_193) rfl rfl k) ?_
        refine own_step (b := T19.setTop (mkF m 196 #[.val (.int p0), .val (.int p1), .val (.int p2), .val (.int p3), .val (.int p4), .val (.int p5), .val (.int ca), .val (.int cb), .val (.int cc), .val (.int cd), .val (.int ce), .val (.int (p5 &&& (3 : Int32))), .unset, .unset] [(.int (11 : Int32)), (.ref a8), (.ref a8)])) (fun t k => XS.bipush X19.here hx rfl (hb hby at_194) k) ?_
        refine own_step (b := T19.setTop (mkF m 198 #[.val (.int p0), .val (.int p1), .val (.int p2), .val (.int p3), .val (.int p4), .val (.int p5), .val (.int ca), .val (.int cb), .val (.int cc), .val (.int cd), .val (.int ce), .val (.int (p5 &&& (3 : Int32))), .unset, .unset] [(.int cd), (.int (11 : Int32)), (.ref a8), (.ref a8)])) (fun t k => XS.iload X19.here hx rfl (hb hby at_196) rfl k) ?_
        refine own_stC X19 hx hZ e19 V19s 11 (by decide) (by decide) (by decide) (Nat.le_of_ble_eq_true rfl) N19 (by omega) (hb hby at_198) (fun T20 h20 X20 e20 N20 W20 z20 V20 => ?_)
        have V20' : Arv Z h20 a8 k8 .char (64 : Int32) [.int ca, .int cb, .int cc, .int cd, .int cd, .int cd, .int cd, .int cd, .int cd, .int cd, .int cd, .int (nar .char cd), .int 0, .int 0, .int 0, .int 0, .int 0, .int 0, .int 0, .int 0, .int 0, .int 0, .int 0, .int 0, .int 0, .int 0, .int 0, .int 0, .int 0, .int 0, .int 0, .int 0, .int 0, .int 0, .int 0, .int 0, .int 0, .int 0, .int 0, .int 0, .int 0, .int 0, .int 0, .int 0, .int 0, .int 0, .int 0, .int 0, .int 0, .int 0, .int 0, .int 0, .int 0, .int 0, .int 0, .int 0, .int 0, .int 0, .int 0, .int 0, .int 0, .int 0, .int 0, .int 0] (.int 0) := V20
        show own_G p e below _ (T20.setTop (mkF m 199 #[.val (.int p0), .val (.int p1), .val (.int p2), .val (.int p3), .val (.int p4), .val (.int p5), .val (.int ca), .val (.int cb), .val (.int cc), .val (.int cd), .val (.int ce), .val (.int (p5 &&& (3 : Int32))), .unset, .unset] [(.ref a8)]))
        have V20s : Arv Z h20 a8 k8 .char (64 : Int32) [.int ca, .int cb, .int cc, .int cd, .int cd, .int cd, .int cd, .int cd, .int cd, .int cd, .int cd, .int cd, .int 0, .int 0, .int 0, .int 0, .int 0, .int 0, .int 0, .int 0, .int 0, .int 0, .int 0, .int 0, .int 0, .int 0, .int 0, .int 0, .int 0, .int 0, .int 0, .int 0, .int 0, .int 0, .int 0, .int 0, .int 0, .int 0, .int 0, .int 0, .int 0, .int 0, .int 0, .int 0, .int 0, .int 0, .int 0, .int 0, .int 0, .int 0, .int 0, .int 0, .int 0, .int 0, .int 0, .int 0, .int 0, .int 0, .int 0, .int 0, .int 0, .int 0, .int 0, .int 0] (.int 0) := by have q := V20'; rw [own_narC hcd.1.1 hcd.1.2] at q; exact q
        have OL20 := OL19.wr W20 (by omega)
        have KF20 := KF19.wr W20 (Or.inl (List.mem_singleton.mpr rfl))
        clear V20'
        refine own_step (b := T20.setTop (mkF m 200 #[.val (.int p0), .val (.int p1), .val (.int p2), .val (.int p3), .val (.int p4), .val (.int p5), .val (.int ca), .val (.int cb), .val (.int cc), .val (.int cd), .val (.int ce), .val (.int (p5 &&& (3 : Int32))), .unset, .unset] [(.ref a8), (.ref a8)])) (fun t k => XS.dup X20.here hx rfl (hb hby at_199) rfl rfl k) ?_
        refine own_step (b := T20.setTop (mkF m 202 #[.val (.int p0), .val (.int p1), .val (.int p2), .val (.int p3), .val (.int p4), .val (.int p5), .val (.int ca), .val (.int cb), .val (.int cc), .val (.int cd), .val (.int ce), .val (.int (p5 &&& (3 : Int32))), .unset, .unset] [(.int (12 : Int32)), (.ref a8), (.ref a8)])) (fun t k => XS.bipush X20.here hx rfl (hb hby at_200) k) ?_
        refine own_step (b := T20.setTop (mkF m 204 #[.val (.int p0), .val (.int p1), .val (.int p2), .val (.int p3), .val (.int p4), .val (.int p5), .val (.int ca), .val (.int cb), .val (.int cc), .val (.int cd), .val (.int ce), .val (.int (p5 &&& (3 : Int32))), .unset, .unset] [(.int cd), (.int (12 : Int32)), (.ref a8), (.ref a8)])) (fun t k => XS.iload X20.here hx rfl (hb hby at_202) rfl k) ?_
        refine own_stC X20 hx hZ e20 V20s 12 (by decide) (by decide) (by decide) (Nat.le_of_ble_eq_true rfl) N20 (by omega) (hb hby at_204) (fun T21 h21 X21 e21 N21 W21 z21 V21 => ?_)
        have V21' : Arv Z h21 a8 k8 .char (64 : Int32) [.int ca, .int cb, .int cc, .int cd, .int cd, .int cd, .int cd, .int cd, .int cd, .int cd, .int cd, .int cd, .int (nar .char cd), .int 0, .int 0, .int 0, .int 0, .int 0, .int 0, .int 0, .int 0, .int 0, .int 0, .int 0, .int 0, .int 0, .int 0, .int 0, .int 0, .int 0, .int 0, .int 0, .int 0, .int 0, .int 0, .int 0, .int 0, .int 0, .int 0, .int 0, .int 0, .int 0, .int 0, .int 0, .int 0, .int 0, .int 0, .int 0, .int 0, .int 0, .int 0, .int 0, .int 0, .int 0, .int 0, .int 0, .int 0, .int 0, .int 0, .int 0, .int 0, .int 0, .int 0, .int 0] (.int 0) := V21
        show own_G p e below _ (T21.setTop (mkF m 205 #[.val (.int p0), .val (.int p1), .val (.int p2), .val (.int p3), .val (.int p4), .val (.int p5), .val (.int ca), .val (.int cb), .val (.int cc), .val (.int cd), .val (.int ce), .val (.int (p5 &&& (3 : Int32))), .unset, .unset] [(.ref a8)]))
        have V21s : Arv Z h21 a8 k8 .char (64 : Int32) [.int ca, .int cb, .int cc, .int cd, .int cd, .int cd, .int cd, .int cd, .int cd, .int cd, .int cd, .int cd, .int cd, .int 0, .int 0, .int 0, .int 0, .int 0, .int 0, .int 0, .int 0, .int 0, .int 0, .int 0, .int 0, .int 0, .int 0, .int 0, .int 0, .int 0, .int 0, .int 0, .int 0, .int 0, .int 0, .int 0, .int 0, .int 0, .int 0, .int 0, .int 0, .int 0, .int 0, .int 0, .int 0, .int 0, .int 0, .int 0, .int 0, .int 0, .int 0, .int 0, .int 0, .int 0, .int 0, .int 0, .int 0, .int 0, .int 0, .int 0, .int 0, .int 0, .int 0, .int 0] (.int 0) := by have q := V21'; rw [own_narC hcd.1.1 hcd.1.2] at q; exact q
        have OL21 := OL20.wr W21 (by omega)
        have KF21 := KF20.wr W21 (Or.inl (List.mem_singleton.mpr rfl))
        clear V21'
        refine own_step (b := T21.setTop (mkF m 206 #[.val (.int p0), .val (.int p1), .val (.int p2), .val (.int p3), .val (.int p4), .val (.int p5), .val (.int ca), .val (.int cb), .val (.int cc), .val (.int cd), .val (.int ce), .val (.int (p5 &&& (3 : Int32))), .unset, .unset] [(.ref a8), (.ref a8)])) (fun t k => XS.dup X21.here hx rfl (hb hby at_205) rfl rfl k) ?_
        refine own_step (b := T21.setTop (mkF m 208 #[.val (.int p0), .val (.int p1), .val (.int p2), .val (.int p3), .val (.int p4), .val (.int p5), .val (.int ca), .val (.int cb), .val (.int cc), .val (.int cd), .val (.int ce), .val (.int (p5 &&& (3 : Int32))), .unset, .unset] [(.int (13 : Int32)), (.ref a8), (.ref a8)])) (fun t k => XS.bipush X21.here hx rfl (hb hby at_206) k) ?_
        refine own_step (b := T21.setTop (mkF m 210 #[.val (.int p0), .val (.int p1), .val (.int p2), .val (.int p3), .val (.int p4), .val (.int p5), .val (.int ca), .val (.int cb), .val (.int cc), .val (.int cd), .val (.int ce), .val (.int (p5 &&& (3 : Int32))), .unset, .unset] [(.int cd), (.int (13 : Int32)), (.ref a8), (.ref a8)])) (fun t k => XS.iload X21.here hx rfl (hb hby at_208) rfl k) ?_
        refine own_stC X21 hx hZ e21 V21s 13 (by decide) (by decide) (by decide) (Nat.le_of_ble_eq_true rfl) N21 (by omega) (hb hby at_210) (fun T22 h22 X22 e22 N22 W22 z22 V22 => ?_)
        have V22' : Arv Z h22 a8 k8 .char (64 : Int32) [.int ca, .int cb, .int cc, .int cd, .int cd, .int cd, .int cd, .int cd, .int cd, .int cd, .int cd, .int cd, .int cd, .int (nar .char cd), .int 0, .int 0, .int 0, .int 0, .int 0, .int 0, .int 0, .int 0, .int 0, .int 0, .int 0, .int 0, .int 0, .int 0, .int 0, .int 0, .int 0, .int 0, .int 0, .int 0, .int 0, .int 0, .int 0, .int 0, .int 0, .int 0, .int 0, .int 0, .int 0, .int 0, .int 0, .int 0, .int 0, .int 0, .int 0, .int 0, .int 0, .int 0, .int 0, .int 0, .int 0, .int 0, .int 0, .int 0, .int 0, .int 0, .int 0, .int 0, .int 0, .int 0] (.int 0) := V22
        show own_G p e below _ (T22.setTop (mkF m 211 #[.val (.int p0), .val (.int p1), .val (.int p2), .val (.int p3), .val (.int p4), .val (.int p5), .val (.int ca), .val (.int cb), .val (.int cc), .val (.int cd), .val (.int ce), .val (.int (p5 &&& (3 : Int32))), .unset, .unset] [(.ref a8)]))
        have V22s : Arv Z h22 a8 k8 .char (64 : Int32) [.int ca, .int cb, .int cc, .int cd, .int cd, .int cd, .int cd, .int cd, .int cd, .int cd, .int cd, .int cd, .int cd, .int cd, .int 0, .int 0, .int 0, .int 0, .int 0, .int 0, .int 0, .int 0, .int 0, .int 0, .int 0, .int 0, .int 0, .int 0, .int 0, .int 0, .int 0, .int 0, .int 0, .int 0, .int 0, .int 0, .int 0, .int 0, .int 0, .int 0, .int 0, .int 0, .int 0, .int 0, .int 0, .int 0, .int 0, .int 0, .int 0, .int 0, .int 0, .int 0, .int 0, .int 0, .int 0, .int 0, .int 0, .int 0, .int 0, .int 0, .int 0, .int 0, .int 0, .int 0] (.int 0) := by have q := V22'; rw [own_narC hcd.1.1 hcd.1.2] at q; exact q
        have OL22 := OL21.wr W22 (by omega)
        have KF22 := KF21.wr W22 (Or.inl (List.mem_singleton.mpr rfl))
        clear V22'
        refine own_step (b := T22.setTop (mkF m 212 #[.val (.int p0), .val (.int p1), .val (.int p2), .val (.int p3), .val (.int p4), .val (.int p5), .val (.int ca), .val (.int cb), .val (.int cc), .val (.int cd), .val (.int ce), .val (.int (p5 &&& (3 : Int32))), .unset, .unset] [(.ref a8), (.ref a8)])) (fun t k => XS.dup X22.here hx rfl (hb hby at_211) rfl rfl k) ?_
        refine own_step (b := T22.setTop (mkF m 214 #[.val (.int p0), .val (.int p1), .val (.int p2), .val (.int p3), .val (.int p4), .val (.int p5), .val (.int ca), .val (.int cb), .val (.int cc), .val (.int cd), .val (.int ce), .val (.int (p5 &&& (3 : Int32))), .unset, .unset] [(.int (14 : Int32)), (.ref a8), (.ref a8)])) (fun t k => XS.bipush X22.here hx rfl (hb hby at_212) k) ?_
        refine own_step (b := T22.setTop (mkF m 216 #[.val (.int p0), .val (.int p1), .val (.int p2), .val (.int p3), .val (.int p4), .val (.int p5), .val (.int ca), .val (.int cb), .val (.int cc), .val (.int cd), .val (.int ce), .val (.int (p5 &&& (3 : Int32))), .unset, .unset] [(.int cd), (.int (14 : Int32)), (.ref a8), (.ref a8)])) (fun t k => XS.iload X22.here hx rfl (hb hby at_214) rfl k) ?_
        refine own_stC X22 hx hZ e22 V22s 14 (by decide) (by decide) (by decide) (Nat.le_of_ble_eq_true rfl) N22 (by omega) (hb hby at_216) (fun T23 h23 X23 e23 N23 W23 z23 V23 => ?_)
        have V23' : Arv Z h23 a8 k8 .char (64 : Int32) [.int ca, .int cb, .int cc, .int cd, .int cd, .int cd, .int cd, .int cd, .int cd, .int cd, .int cd, .int cd, .int cd, .int cd, .int (nar .char cd), .int 0, .int 0, .int 0, .int 0, .int 0, .int 0, .int 0, .int 0, .int 0, .int 0, .int 0, .int 0, .int 0, .int 0, .int 0, .int 0, .int 0, .int 0, .int 0, .int 0, .int 0, .int 0, .int 0, .int 0, .int 0, .int 0, .int 0, .int 0, .int 0, .int 0, .int 0, .int 0, .int 0, .int 0, .int 0, .int 0, .int 0, .int 0, .int 0, .int 0, .int 0, .int 0, .int 0, .int 0, .int 0, .int 0, .int 0, .int 0, .int 0] (.int 0) := V23
        show own_G p e below _ (T23.setTop (mkF m 217 #[.val (.int p0), .val (.int p1), .val (.int p2), .val (.int p3), .val (.int p4), .val (.int p5), .val (.int ca), .val (.int cb), .val (.int cc), .val (.int cd), .val (.int ce), .val (.int (p5 &&& (3 : Int32))), .unset, .unset] [(.ref a8)]))
        have V23s : Arv Z h23 a8 k8 .char (64 : Int32) [.int ca, .int cb, .int cc, .int cd, .int cd, .int cd, .int cd, .int cd, .int cd, .int cd, .int cd, .int cd, .int cd, .int cd, .int cd, .int 0, .int 0, .int 0, .int 0, .int 0, .int 0, .int 0, .int 0, .int 0, .int 0, .int 0, .int 0, .int 0, .int 0, .int 0, .int 0, .int 0, .int 0, .int 0, .int 0, .int 0, .int 0, .int 0, .int 0, .int 0, .int 0, .int 0, .int 0, .int 0, .int 0, .int 0, .int 0, .int 0, .int 0, .int 0, .int 0, .int 0, .int 0, .int 0, .int 0, .int 0, .int 0, .int 0, .int 0, .int 0, .int 0, .int 0, .int 0, .int 0] (.int 0) := by have q := V23'; rw [own_narC hcd.1.1 hcd.1.2] at q; exact q
        have OL23 := OL22.wr W23 (by omega)
        have KF23 := KF22.wr W23 (Or.inl (List.mem_singleton.mpr rfl))
        clear V23'
        refine own_step (b := T23.setTop (mkF m 218 #[.val (.int p0), .val (.int p1), .val (.int p2), .val (.int p3), .val (.int p4), .val (.int p5), .val (.int ca), .val (.int cb), .val (.int cc), .val (.int cd), .val (.int ce), .val (.int (p5 &&& (3 : Int32))), .unset, .unset] [(.ref a8), (.ref a8)])) (fun t k => XS.dup X23.here hx rfl (hb hby at_217) rfl rfl k) ?_
        refine own_step (b := T23.setTop (mkF m 220 #[.val (.int p0), .val (.int p1), .val (.int p2), .val (.int p3), .val (.int p4), .val (.int p5), .val (.int ca), .val (.int cb), .val (.int cc), .val (.int cd), .val (.int ce), .val (.int (p5 &&& (3 : Int32))), .unset, .unset] [(.int (15 : Int32)), (.ref a8), (.ref a8)])) (fun t k => XS.bipush X23.here hx rfl (hb hby at_218) k) ?_
        refine own_step (b := T23.setTop (mkF m 222 #[.val (.int p0), .val (.int p1), .val (.int p2), .val (.int p3), .val (.int p4), .val (.int p5), .val (.int ca), .val (.int cb), .val (.int cc), .val (.int cd), .val (.int ce), .val (.int (p5 &&& (3 : Int32))), .unset, .unset] [(.int cd), (.int (15 : Int32)), (.ref a8), (.ref a8)])) (fun t k => XS.iload X23.here hx rfl (hb hby at_220) rfl k) ?_
        refine own_stC X23 hx hZ e23 V23s 15 (by decide) (by decide) (by decide) (Nat.le_of_ble_eq_true rfl) N23 (by omega) (hb hby at_222) (fun T24 h24 X24 e24 N24 W24 z24 V24 => ?_)
        have V24' : Arv Z h24 a8 k8 .char (64 : Int32) [.int ca, .int cb, .int cc, .int cd, .int cd, .int cd, .int cd, .int cd, .int cd, .int cd, .int cd, .int cd, .int cd, .int cd, .int cd, .int (nar .char cd), .int 0, .int 0, .int 0, .int 0, .int 0, .int 0, .int 0, .int 0, .int 0, .int 0, .int 0, .int 0, .int 0, .int 0, .int 0, .int 0, .int 0, .int 0, .int 0, .int 0, .int 0, .int 0, .int 0, .int 0, .int 0, .int 0, .int 0, .int 0, .int 0, .int 0, .int 0, .int 0, .int 0, .int 0, .int 0, .int 0, .int 0, .int 0, .int 0, .int 0, .int 0, .int 0, .int 0, .int 0, .int 0, .int 0, .int 0, .int 0] (.int 0) := V24
        show own_G p e below _ (T24.setTop (mkF m 223 #[.val (.int p0), .val (.int p1), .val (.int p2), .val (.int p3), .val (.int p4), .val (.int p5), .val (.int ca), .val (.int cb), .val (.int cc), .val (.int cd), .val (.int ce), .val (.int (p5 &&& (3 : Int32))), .unset, .unset] [(.ref a8)]))
        have V24s : Arv Z h24 a8 k8 .char (64 : Int32) [.int ca, .int cb, .int cc, .int cd, .int cd, .int cd, .int cd, .int cd, .int cd, .int cd, .int cd, .int cd, .int cd, .int cd, .int cd, .int cd, .int 0, .int 0, .int 0, .int 0, .int 0, .int 0, .int 0, .int 0, .int 0, .int 0, .int 0, .int 0, .int 0, .int 0, .int 0, .int 0, .int 0, .int 0, .int 0, .int 0, .int 0, .int 0, .int 0, .int 0, .int 0, .int 0, .int 0, .int 0, .int 0, .int 0, .int 0, .int 0, .int 0, .int 0, .int 0, .int 0, .int 0, .int 0, .int 0, .int 0, .int 0, .int 0, .int 0, .int 0, .int 0, .int 0, .int 0, .int 0] (.int 0) := by have q := V24'; rw [own_narC hcd.1.1 hcd.1.2] at q; exact q
        have OL24 := OL23.wr W24 (by omega)
        have KF24 := KF23.wr W24 (Or.inl (List.mem_singleton.mpr rfl))
        clear V24'
        refine own_step (b := T24.setTop (mkF m 224 #[.val (.int p0), .val (.int p1), .val (.int p2), .val (.int p3), .val (.int p4), .val (.int p5), .val (.int ca), .val (.int cb), .val (.int cc), .val (.int cd), .val (.int ce), .val (.int (p5 &&& (3 : Int32))), .unset, .unset] [(.ref a8), (.ref a8)])) (fun t k => XS.dup X24.here hx rfl (hb hby at_223) rfl rfl k) ?_
        refine own_step (b := T24.setTop (mkF m 226 #[.val (.int p0), .val (.int p1), .val (.int p2), .val (.int p3), .val (.int p4), .val (.int p5), .val (.int ca), .val (.int cb), .val (.int cc), .val (.int cd), .val (.int ce), .val (.int (p5 &&& (3 : Int32))), .unset, .unset] [(.int (16 : Int32)), (.ref a8), (.ref a8)])) (fun t k => XS.bipush X24.here hx rfl (hb hby at_224) k) ?_
        refine own_step (b := T24.setTop (mkF m 228 #[.val (.int p0), .val (.int p1), .val (.int p2), .val (.int p3), .val (.int p4), .val (.int p5), .val (.int ca), .val (.int cb), .val (.int cc), .val (.int cd), .val (.int ce), .val (.int (p5 &&& (3 : Int32))), .unset, .unset] [(.int cd), (.int (16 : Int32)), (.ref a8), (.ref a8)])) (fun t k => XS.iload X24.here hx rfl (hb hby at_226) rfl k) ?_
        refine own_stC X24 hx hZ e24 V24s 16 (by decide) (by decide) (by decide) (Nat.le_of_ble_eq_true rfl) N24 (by omega) (hb hby at_228) (fun T25 h25 X25 e25 N25 W25 z25 V25 => ?_)
        have V25' : Arv Z h25 a8 k8 .char (64 : Int32) [.int ca, .int cb, .int cc, .int cd, .int cd, .int cd, .int cd, .int cd, .int cd, .int cd, .int cd, .int cd, .int cd, .int cd, .int cd, .int cd, .int (nar .char cd), .int 0, .int 0, .int 0, .int 0, .int 0, .int 0, .int 0, .int 0, .int 0, .int 0, .int 0, .int 0, .int 0, .int 0, .int 0, .int 0, .int 0, .int 0, .int 0, .int 0, .int 0, .int 0, .int 0, .int 0, .int 0, .int 0, .int 0, .int 0, .int 0, .int 0, .int 0, .int 0, .int 0, .int 0, .int 0, .int 0, .int 0, .int 0, .int 0, .int 0, .int 0, .int 0, .int 0, .int 0, .int 0, .int 0, .int 0] (.int 0) := V25
        show own_G p e below _ (T25.setTop (mkF m 229 #[.val (.int p0), .val (.int p1), .val (.int p2), .val (.int p3), .val (.int p4), .val (.int p5), .val (.int ca), .val (.int cb), .val (.int cc), .val (.int cd), .val (.int ce), .val (.int (p5 &&& (3 : Int32))), .unset, .unset] [(.ref a8)]))
        have V25s : Arv Z h25 a8 k8 .char (64 : Int32) [.int ca, .int cb, .int cc, .int cd, .int cd, .int cd, .int cd, .int cd, .int cd, .int cd, .int cd, .int cd, .int cd, .int cd, .int cd, .int cd, .int cd, .int 0, .int 0, .int 0, .int 0, .int 0, .int 0, .int 0, .int 0, .int 0, .int 0, .int 0, .int 0, .int 0, .int 0, .int 0, .int 0, .int 0, .int 0, .int 0, .int 0, .int 0, .int 0, .int 0, .int 0, .int 0, .int 0, .int 0, .int 0, .int 0, .int 0, .int 0, .int 0, .int 0, .int 0, .int 0, .int 0, .int 0, .int 0, .int 0, .int 0, .int 0, .int 0, .int 0, .int 0, .int 0, .int 0, .int 0] (.int 0) := by have q := V25'; rw [own_narC hcd.1.1 hcd.1.2] at q; exact q
        have OL25 := OL24.wr W25 (by omega)
        have KF25 := KF24.wr W25 (Or.inl (List.mem_singleton.mpr rfl))
        clear V25'
        refine own_step (b := T25.setTop (mkF m 230 #[.val (.int p0), .val (.int p1), .val (.int p2), .val (.int p3), .val (.int p4), .val (.int p5), .val (.int ca), .val (.int cb), .val (.int cc), .val (.int cd), .val (.int ce), .val (.int (p5 &&& (3 : Int32))), .unset, .unset] [(.ref a8), (.ref a8)])) (fun t k => XS.dup X25.here hx rfl (hb hby at_229) rfl rfl k) ?_
        refine own_step (b := T25.setTop (mkF m 232 #[.val (.int p0), .val (.int p1), .val (.int p2), .val (.int p3), .val (.int p4), .val (.int p5), .val (.int ca), .val (.int cb), .val (.int cc), .val (.int cd), .val (.int ce), .val (.int (p5 &&& (3 : Int32))), .unset, .unset] [(.int (17 : Int32)), (.ref a8), (.ref a8)])) (fun t k => XS.bipush X25.here hx rfl (hb hby at_230) k) ?_
        refine own_step (b := T25.setTop (mkF m 234 #[.val (.int p0), .val (.int p1), .val (.int p2), .val (.int p3), .val (.int p4), .val (.int p5), .val (.int ca), .val (.int cb), .val (.int cc), .val (.int cd), .val (.int ce), .val (.int (p5 &&& (3 : Int32))), .unset, .unset] [(.int cd), (.int (17 : Int32)), (.ref a8), (.ref a8)])) (fun t k => XS.iload X25.here hx rfl (hb hby at_232) rfl k) ?_
        refine own_stC X25 hx hZ e25 V25s 17 (by decide) (by decide) (by decide) (Nat.le_of_ble_eq_true rfl) N25 (by omega) (hb hby at_234) (fun T26 h26 X26 e26 N26 W26 z26 V26 => ?_)
        have V26' : Arv Z h26 a8 k8 .char (64 : Int32) [.int ca, .int cb, .int cc, .int cd, .int cd, .int cd, .int cd, .int cd, .int cd, .int cd, .int cd, .int cd, .int cd, .int cd, .int cd, .int cd, .int cd, .int (nar .char cd), .int 0, .int 0, .int 0, .int 0, .int 0, .int 0, .int 0, .int 0, .int 0, .int 0, .int 0, .int 0, .int 0, .int 0, .int 0, .int 0, .int 0, .int 0, .int 0, .int 0, .int 0, .int 0, .int 0, .int 0, .int 0, .int 0, .int 0, .int 0, .int 0, .int 0, .int 0, .int 0, .int 0, .int 0, .int 0, .int 0, .int 0, .int 0, .int 0, .int 0, .int 0, .int 0, .int 0, .int 0, .int 0, .int 0] (.int 0) := V26
        show own_G p e below _ (T26.setTop (mkF m 235 #[.val (.int p0), .val (.int p1), .val (.int p2), .val (.int p3), .val (.int p4), .val (.int p5), .val (.int ca), .val (.int cb), .val (.int cc), .val (.int cd), .val (.int ce), .val (.int (p5 &&& (3 : Int32))), .unset, .unset] [(.ref a8)]))
        have V26s : Arv Z h26 a8 k8 .char (64 : Int32) [.int ca, .int cb, .int cc, .int cd, .int cd, .int cd, .int cd, .int cd, .int cd, .int cd, .int cd, .int cd, .int cd, .int cd, .int cd, .int cd, .int cd, .int cd, .int 0, .int 0, .int 0, .int 0, .int 0, .int 0, .int 0, .int 0, .int 0, .int 0, .int 0, .int 0, .int 0, .int 0, .int 0, .int 0, .int 0, .int 0, .int 0, .int 0, .int 0, .int 0, .int 0, .int 0, .int 0, .int 0, .int 0, .int 0, .int 0, .int 0, .int 0, .int 0, .int 0, .int 0, .int 0, .int 0, .int 0, .int 0, .int 0, .int 0, .int 0, .int 0, .int 0, .int 0, .int 0, .int 0] (.int 0) := by have q := V26'; rw [own_narC hcd.1.1 hcd.1.2] at q; exact q
        have OL26 := OL25.wr W26 (by omega)
        have KF26 := KF25.wr W26 (Or.inl (List.mem_singleton.mpr rfl))
        clear V26'
        refine own_step (b := T26.setTop (mkF m 236 #[.val (.int p0), .val (.int p1), .val (.int p2), .val (.int p3), .val (.int p4), .val (.int p5), .val (.int ca), .val (.int cb), .val (.int cc), .val (.int cd), .val (.int ce), .val (.int (p5 &&& (3 : Int32))), .unset, .unset] [(.ref a8), (.ref a8)])) (fun t k => XS.dup X26.here hx rfl (hb hby at_235) rfl rfl k) ?_
        refine own_step (b := T26.setTop (mkF m 238 #[.val (.int p0), .val (.int p1), .val (.int p2), .val (.int p3), .val (.int p4), .val (.int p5), .val (.int ca), .val (.int cb), .val (.int cc), .val (.int cd), .val (.int ce), .val (.int (p5 &&& (3 : Int32))), .unset, .unset] [(.int (18 : Int32)), (.ref a8), (.ref a8)])) (fun t k => XS.bipush X26.here hx rfl (hb hby at_236) k) ?_
        refine own_step (b := T26.setTop (mkF m 240 #[.val (.int p0), .val (.int p1), .val (.int p2), .val (.int p3), .val (.int p4), .val (.int p5), .val (.int ca), .val (.int cb), .val (.int cc), .val (.int cd), .val (.int ce), .val (.int (p5 &&& (3 : Int32))), .unset, .unset] [(.int cd), (.int (18 : Int32)), (.ref a8), (.ref a8)])) (fun t k => XS.iload X26.here hx rfl (hb hby at_238) rfl k) ?_
        refine own_stC X26 hx hZ e26 V26s 18 (by decide) (by decide) (by decide) (Nat.le_of_ble_eq_true rfl) N26 (by omega) (hb hby at_240) (fun T27 h27 X27 e27 N27 W27 z27 V27 => ?_)
        have V27' : Arv Z h27 a8 k8 .char (64 : Int32) [.int ca, .int cb, .int cc, .int cd, .int cd, .int cd, .int cd, .int cd, .int cd, .int cd, .int cd, .int cd, .int cd, .int cd, .int cd, .int cd, .int cd, .int cd, .int (nar .char cd), .int 0, .int 0, .int 0, .int 0, .int 0, .int 0, .int 0, .int 0, .int 0, .int 0, .int 0, .int 0, .int 0, .int 0, .int 0, .int 0, .int 0, .int 0, .int 0, .int 0, .int 0, .int 0, .int 0, .int 0, .int 0, .int 0, .int 0, .int 0, .int 0, .int 0, .int 0, .int 0, .int 0, .int 0, .int 0, .int 0, .int 0, .int 0, .int 0, .int 0, .int 0, .int 0, .int 0, .int 0, .int 0] (.int 0) := V27
        show own_G p e below _ (T27.setTop (mkF m 241 #[.val (.int p0), .val (.int p1), .val (.int p2), .val (.int p3), .val (.int p4), .val (.int p5), .val (.int ca), .val (.int cb), .val (.int cc), .val (.int cd), .val (.int ce), .val (.int (p5 &&& (3 : Int32))), .unset, .unset] [(.ref a8)]))
        have V27s : Arv Z h27 a8 k8 .char (64 : Int32) [.int ca, .int cb, .int cc, .int cd, .int cd, .int cd, .int cd, .int cd, .int cd, .int cd, .int cd, .int cd, .int cd, .int cd, .int cd, .int cd, .int cd, .int cd, .int cd, .int 0, .int 0, .int 0, .int 0, .int 0, .int 0, .int 0, .int 0, .int 0, .int 0, .int 0, .int 0, .int 0, .int 0, .int 0, .int 0, .int 0, .int 0, .int 0, .int 0, .int 0, .int 0, .int 0, .int 0, .int 0, .int 0, .int 0, .int 0, .int 0, .int 0, .int 0, .int 0, .int 0, .int 0, .int 0, .int 0, .int 0, .int 0, .int 0, .int 0, .int 0, .int 0, .int 0, .int 0, .int 0] (.int 0) := by have q := V27'; rw [own_narC hcd.1.1 hcd.1.2] at q; exact q
        have OL27 := OL26.wr W27 (by omega)
        have KF27 := KF26.wr W27 (Or.inl (List.mem_singleton.mpr rfl))
        clear V27'
        refine own_step (b := T27.setTop (mkF m 242 #[.val (.int p0), .val (.int p1), .val (.int p2), .val (.int p3), .val (.int p4), .val (.int p5), .val (.int ca), .val (.int cb), .val (.int cc), .val (.int cd), .val (.int ce), .val (.int (p5 &&& (3 : Int32))), .unset, .unset] [(.ref a8), (.ref a8)])) (fun t k => XS.dup X27.here hx rfl (hb hby at_241) rfl rfl k) ?_
        refine own_step (b := T27.setTop (mkF m 244 #[.val (.int p0), .val (.int p1), .val (.int p2), .val (.int p3), .val (.int p4), .val (.int p5), .val (.int ca), .val (.int cb), .val (.int cc), .val (.int cd), .val (.int ce), .val (.int (p5 &&& (3 : Int32))), .unset, .unset] [(.int (19 : Int32)), (.ref a8), (.ref a8)])) (fun t k => XS.bipush X27.here hx rfl (hb hby at_242) k) ?_
        refine own_step (b := T27.setTop (mkF m 246 #[.val (.int p0), .val (.int p1), .val (.int p2), .val (.int p3), .val (.int p4), .val (.int p5), .val (.int ca), .val (.int cb), .val (.int cc), .val (.int cd), .val (.int ce), .val (.int (p5 &&& (3 : Int32))), .unset, .unset] [(.int cd), (.int (19 : Int32)), (.ref a8), (.ref a8)])) (fun t k => XS.iload X27.here hx rfl (hb hby at_244) rfl k) ?_
        refine own_stC X27 hx hZ e27 V27s 19 (by decide) (by decide) (by decide) (Nat.le_of_ble_eq_true rfl) N27 (by omega) (hb hby at_246) (fun T28 h28 X28 e28 N28 W28 z28 V28 => ?_)
        have V28' : Arv Z h28 a8 k8 .char (64 : Int32) [.int ca, .int cb, .int cc, .int cd, .int cd, .int cd, .int cd, .int cd, .int cd, .int cd, .int cd, .int cd, .int cd, .int cd, .int cd, .int cd, .int cd, .int cd, .int cd, .int (nar .char cd), .int 0, .int 0, .int 0, .int 0, .int 0, .int 0, .int 0, .int 0, .int 0, .int 0, .int 0, .int 0, .int 0, .int 0, .int 0, .int 0, .int 0, .int 0, .int 0, .int 0, .int 0, .int 0, .int 0, .int 0, .int 0, .int 0, .int 0, .int 0, .int 0, .int 0, .int 0, .int 0, .int 0, .int 0, .int 0, .int 0, .int 0, .int 0, .int 0, .int 0, .int 0, .int 0, .int 0, .int 0] (.int 0) := V28
        show own_G p e below _ (T28.setTop (mkF m 247 #[.val (.int p0), .val (.int p1), .val (.int p2), .val (.int p3), .val (.int p4), .val (.int p5), .val (.int ca), .val (.int cb), .val (.int cc), .val (.int cd), .val (.int ce), .val (.int (p5 &&& (3 : Int32))), .unset, .unset] [(.ref a8)]))
        have V28s : Arv Z h28 a8 k8 .char (64 : Int32) [.int ca, .int cb, .int cc, .int cd, .int cd, .int cd, .int cd, .int cd, .int cd, .int cd, .int cd, .int cd, .int cd, .int cd, .int cd, .int cd, .int cd, .int cd, .int cd, .int cd, .int 0, .int 0, .int 0, .int 0, .int 0, .int 0, .int 0, .int 0, .int 0, .int 0, .int 0, .int 0, .int 0, .int 0, .int 0, .int 0, .int 0, .int 0, .int 0, .int 0, .int 0, .int 0, .int 0, .int 0, .int 0, .int 0, .int 0, .int 0, .int 0, .int 0, .int 0, .int 0, .int 0, .int 0, .int 0, .int 0, .int 0, .int 0, .int 0, .int 0, .int 0, .int 0, .int 0, .int 0] (.int 0) := by have q := V28'; rw [own_narC hcd.1.1 hcd.1.2] at q; exact q
        have OL28 := OL27.wr W28 (by omega)
        have KF28 := KF27.wr W28 (Or.inl (List.mem_singleton.mpr rfl))
        clear V28'
        refine own_step (b := T28.setTop (mkF m 248 #[.val (.int p0), .val (.int p1), .val (.int p2), .val (.int p3), .val (.int p4), .val (.int p5), .val (.int ca), .val (.int cb), .val (.int cc), .val (.int cd), .val (.int ce), .val (.int (p5 &&& (3 : Int32))), .unset, .unset] [(.ref a8), (.ref a8)])) (fun t k => XS.dup X28.here hx rfl (hb hby at_247) rfl rfl k) ?_
        refine own_step (b := T28.setTop (mkF m 250 #[.val (.int p0), .val (.int p1), .val (.int p2), .val (.int p3), .val (.int p4), .val (.int p5), .val (.int ca), .val (.int cb), .val (.int cc), .val (.int cd), .val (.int ce), .val (.int (p5 &&& (3 : Int32))), .unset, .unset] [(.int (20 : Int32)), (.ref a8), (.ref a8)])) (fun t k => XS.bipush X28.here hx rfl (hb hby at_248) k) ?_
        refine own_step (b := T28.setTop (mkF m 252 #[.val (.int p0), .val (.int p1), .val (.int p2), .val (.int p3), .val (.int p4), .val (.int p5), .val (.int ca), .val (.int cb), .val (.int cc), .val (.int cd), .val (.int ce), .val (.int (p5 &&& (3 : Int32))), .unset, .unset] [(.int cd), (.int (20 : Int32)), (.ref a8), (.ref a8)])) (fun t k => XS.iload X28.here hx rfl (hb hby at_250) rfl k) ?_
        refine own_stC X28 hx hZ e28 V28s 20 (by decide) (by decide) (by decide) (Nat.le_of_ble_eq_true rfl) N28 (by omega) (hb hby at_252) (fun T29 h29 X29 e29 N29 W29 z29 V29 => ?_)
        have V29' : Arv Z h29 a8 k8 .char (64 : Int32) [.int ca, .int cb, .int cc, .int cd, .int cd, .int cd, .int cd, .int cd, .int cd, .int cd, .int cd, .int cd, .int cd, .int cd, .int cd, .int cd, .int cd, .int cd, .int cd, .int cd, .int (nar .char cd), .int 0, .int 0, .int 0, .int 0, .int 0, .int 0, .int 0, .int 0, .int 0, .int 0, .int 0, .int 0, .int 0, .int 0, .int 0, .int 0, .int 0, .int 0, .int 0, .int 0, .int 0, .int 0, .int 0, .int 0, .int 0, .int 0, .int 0, .int 0, .int 0, .int 0, .int 0, .int 0, .int 0, .int 0, .int 0, .int 0, .int 0, .int 0, .int 0, .int 0, .int 0, .int 0, .int 0] (.int 0) := V29
        show own_G p e below _ (T29.setTop (mkF m 253 #[.val (.int p0), .val (.int p1), .val (.int p2), .val (.int p3), .val (.int p4), .val (.int p5), .val (.int ca), .val (.int cb), .val (.int cc), .val (.int cd), .val (.int ce), .val (.int (p5 &&& (3 : Int32))), .unset, .unset] [(.ref a8)]))
        have V29s : Arv Z h29 a8 k8 .char (64 : Int32) [.int ca, .int cb, .int cc, .int cd, .int cd, .int cd, .int cd, .int cd, .int cd, .int cd, .int cd, .int cd, .int cd, .int cd, .int cd, .int cd, .int cd, .int cd, .int cd, .int cd, .int cd, .int 0, .int 0, .int 0, .int 0, .int 0, .int 0, .int 0, .int 0, .int 0, .int 0, .int 0, .int 0, .int 0, .int 0, .int 0, .int 0, .int 0, .int 0, .int 0, .int 0, .int 0, .int 0, .int 0, .int 0, .int 0, .int 0, .int 0, .int 0, .int 0, .int 0, .int 0, .int 0, .int 0, .int 0, .int 0, .int 0, .int 0, .int 0, .int 0, .int 0, .int 0, .int 0, .int 0] (.int 0) := by have q := V29'; rw [own_narC hcd.1.1 hcd.1.2] at q; exact q
        have OL29 := OL28.wr W29 (by omega)
        have KF29 := KF28.wr W29 (Or.inl (List.mem_singleton.mpr rfl))
        clear V29'
        refine own_step (b := T29.setTop (mkF m 254 #[.val (.int p0), .val (.int p1), .val (.int p2), .val (.int p3), .val (.int p4), .val (.int p5), .val (.int ca), .val (.int cb), .val (.int cc), .val (.int cd), .val (.int ce), .val (.int (p5 &&& (3 : Int32))), .unset, .unset] [(.ref a8), (.ref a8)])) (fun t k => XS.dup X29.here hx rfl (hb hby at_253) rfl rfl k) ?_
        refine own_step (b := T29.setTop (mkF m 256 #[.val (.int p0), .val (.int p1), .val (.int p2), .val (.int p3), .val (.int p4), .val (.int p5), .val (.int ca), .val (.int cb), .val (.int cc), .val (.int cd), .val (.int ce), .val (.int (p5 &&& (3 : Int32))), .unset, .unset] [(.int (21 : Int32)), (.ref a8), (.ref a8)])) (fun t k => XS.bipush X29.here hx rfl (hb hby at_254) k) ?_
        refine own_step (b := T29.setTop (mkF m 258 #[.val (.int p0), .val (.int p1), .val (.int p2), .val (.int p3), .val (.int p4), .val (.int p5), .val (.int ca), .val (.int cb), .val (.int cc), .val (.int cd), .val (.int ce), .val (.int (p5 &&& (3 : Int32))), .unset, .unset] [(.int cd), (.int (21 : Int32)), (.ref a8), (.ref a8)])) (fun t k => XS.iload X29.here hx rfl (hb hby at_256) rfl k) ?_
        refine own_stC X29 hx hZ e29 V29s 21 (by decide) (by decide) (by decide) (Nat.le_of_ble_eq_true rfl) N29 (by omega) (hb hby at_258) (fun T30 h30 X30 e30 N30 W30 z30 V30 => ?_)
        have V30' : Arv Z h30 a8 k8 .char (64 : Int32) [.int ca, .int cb, .int cc, .int cd, .int cd, .int cd, .int cd, .int cd, .int cd, .int cd, .int cd, .int cd, .int cd, .int cd, .int cd, .int cd, .int cd, .int cd, .int cd, .int cd, .int cd, .int (nar .char cd), .int 0, .int 0, .int 0, .int 0, .int 0, .int 0, .int 0, .int 0, .int 0, .int 0, .int 0, .int 0, .int 0, .int 0, .int 0, .int 0, .int 0, .int 0, .int 0, .int 0, .int 0, .int 0, .int 0, .int 0, .int 0, .int 0, .int 0, .int 0, .int 0, .int 0, .int 0, .int 0, .int 0, .int 0, .int 0, .int 0, .int 0, .int 0, .int 0, .int 0, .int 0, .int 0] (.int 0) := V30
        show own_G p e below _ (T30.setTop (mkF m 259 #[.val (.int p0), .val (.int p1), .val (.int p2), .val (.int p3), .val (.int p4), .val (.int p5), .val (.int ca), .val (.int cb), .val (.int cc), .val (.int cd), .val (.int ce), .val (.int (p5 &&& (3 : Int32))), .unset, .unset] [(.ref a8)]))
        have V30s : Arv Z h30 a8 k8 .char (64 : Int32) [.int ca, .int cb, .int cc, .int cd, .int cd, .int cd, .int cd, .int cd, .int cd, .int cd, .int cd, .int cd, .int cd, .int cd, .int cd, .int cd, .int cd, .int cd, .int cd, .int cd, .int cd, .int cd, .int 0, .int 0, .int 0, .int 0, .int 0, .int 0, .int 0, .int 0, .int 0, .int 0, .int 0, .int 0, .int 0, .int 0, .int 0, .int 0, .int 0, .int 0, .int 0, .int 0, .int 0, .int 0, .int 0, .int 0, .int 0, .int 0, .int 0, .int 0, .int 0, .int 0, .int 0, .int 0, .int 0, .int 0, .int 0, .int 0, .int 0, .int 0, .int 0, .int 0, .int 0, .int 0] (.int 0) := by have q := V30'; rw [own_narC hcd.1.1 hcd.1.2] at q; exact q
        have OL30 := OL29.wr W30 (by omega)
        have KF30 := KF29.wr W30 (Or.inl (List.mem_singleton.mpr rfl))
        clear V30'
        refine own_step (b := T30.setTop (mkF m 260 #[.val (.int p0), .val (.int p1), .val (.int p2), .val (.int p3), .val (.int p4), .val (.int p5), .val (.int ca), .val (.int cb), .val (.int cc), .val (.int cd), .val (.int ce), .val (.int (p5 &&& (3 : Int32))), .unset, .unset] [(.ref a8), (.ref a8)])) (fun t k => XS.dup X30.here hx rfl (hb hby at_259) rfl rfl k) ?_
        refine own_step (b := T30.setTop (mkF m 262 #[.val (.int p0), .val (.int p1), .val (.int p2), .val (.int p3), .val (.int p4), .val (.int p5), .val (.int ca), .val (.int cb), .val (.int cc), .val (.int cd), .val (.int ce), .val (.int (p5 &&& (3 : Int32))), .unset, .unset] [(.int (22 : Int32)), (.ref a8), (.ref a8)])) (fun t k => XS.bipush X30.here hx rfl (hb hby at_260) k) ?_
        refine own_step (b := T30.setTop (mkF m 264 #[.val (.int p0), .val (.int p1), .val (.int p2), .val (.int p3), .val (.int p4), .val (.int p5), .val (.int ca), .val (.int cb), .val (.int cc), .val (.int cd), .val (.int ce), .val (.int (p5 &&& (3 : Int32))), .unset, .unset] [(.int cd), (.int (22 : Int32)), (.ref a8), (.ref a8)])) (fun t k => XS.iload X30.here hx rfl (hb hby at_262) rfl k) ?_
        refine own_stC X30 hx hZ e30 V30s 22 (by decide) (by decide) (by decide) (Nat.le_of_ble_eq_true rfl) N30 (by omega) (hb hby at_264) (fun T31 h31 X31 e31 N31 W31 z31 V31 => ?_)
        have V31' : Arv Z h31 a8 k8 .char (64 : Int32) [.int ca, .int cb, .int cc, .int cd, .int cd, .int cd, .int cd, .int cd, .int cd, .int cd, .int cd, .int cd, .int cd, .int cd, .int cd, .int cd, .int cd, .int cd, .int cd, .int cd, .int cd, .int cd, .int (nar .char cd), .int 0, .int 0, .int 0, .int 0, .int 0, .int 0, .int 0, .int 0, .int 0, .int 0, .int 0, .int 0, .int 0, .int 0, .int 0, .int 0, .int 0, .int 0, .int 0, .int 0, .int 0, .int 0, .int 0, .int 0, .int 0, .int 0, .int 0, .int 0, .int 0, .int 0, .int 0, .int 0, .int 0, .int 0, .int 0, .int 0, .int 0, .int 0, .int 0, .int 0, .int 0] (.int 0) := V31
        show own_G p e below _ (T31.setTop (mkF m 265 #[.val (.int p0), .val (.int p1), .val (.int p2), .val (.int p3), .val (.int p4), .val (.int p5), .val (.int ca), .val (.int cb), .val (.int cc), .val (.int cd), .val (.int ce), .val (.int (p5 &&& (3 : Int32))), .unset, .unset] [(.ref a8)]))
        have V31s : Arv Z h31 a8 k8 .char (64 : Int32) [.int ca, .int cb, .int cc, .int cd, .int cd, .int cd, .int cd, .int cd, .int cd, .int cd, .int cd, .int cd, .int cd, .int cd, .int cd, .int cd, .int cd, .int cd, .int cd, .int cd, .int cd, .int cd, .int cd, .int 0, .int 0, .int 0, .int 0, .int 0, .int 0, .int 0, .int 0, .int 0, .int 0, .int 0, .int 0, .int 0, .int 0, .int 0, .int 0, .int 0, .int 0, .int 0, .int 0, .int 0, .int 0, .int 0, .int 0, .int 0, .int 0, .int 0, .int 0, .int 0, .int 0, .int 0, .int 0, .int 0, .int 0, .int 0, .int 0, .int 0, .int 0, .int 0, .int 0, .int 0] (.int 0) := by have q := V31'; rw [own_narC hcd.1.1 hcd.1.2] at q; exact q
        have OL31 := OL30.wr W31 (by omega)
        have KF31 := KF30.wr W31 (Or.inl (List.mem_singleton.mpr rfl))
        clear V31'
        refine own_step (b := T31.setTop (mkF m 266 #[.val (.int p0), .val (.int p1), .val (.int p2), .val (.int p3), .val (.int p4), .val (.int p5), .val (.int ca), .val (.int cb), .val (.int cc), .val (.int cd), .val (.int ce), .val (.int (p5 &&& (3 : Int32))), .unset, .unset] [(.ref a8), (.ref a8)])) (fun t k => XS.dup X31.here hx rfl (hb hby at_265) rfl rfl k) ?_
        refine own_step (b := T31.setTop (mkF m 268 #[.val (.int p0), .val (.int p1), .val (.int p2), .val (.int p3), .val (.int p4), .val (.int p5), .val (.int ca), .val (.int cb), .val (.int cc), .val (.int cd), .val (.int ce), .val (.int (p5 &&& (3 : Int32))), .unset, .unset] [(.int (23 : Int32)), (.ref a8), (.ref a8)])) (fun t k => XS.bipush X31.here hx rfl (hb hby at_266) k) ?_
        refine own_step (b := T31.setTop (mkF m 270 #[.val (.int p0), .val (.int p1), .val (.int p2), .val (.int p3), .val (.int p4), .val (.int p5), .val (.int ca), .val (.int cb), .val (.int cc), .val (.int cd), .val (.int ce), .val (.int (p5 &&& (3 : Int32))), .unset, .unset] [(.int cd), (.int (23 : Int32)), (.ref a8), (.ref a8)])) (fun t k => XS.iload X31.here hx rfl (hb hby at_268) rfl k) ?_
        refine own_stC X31 hx hZ e31 V31s 23 (by decide) (by decide) (by decide) (Nat.le_of_ble_eq_true rfl) N31 (by omega) (hb hby at_270) (fun T32 h32 X32 e32 N32 W32 z32 V32 => ?_)
        have V32' : Arv Z h32 a8 k8 .char (64 : Int32) [.int ca, .int cb, .int cc, .int cd, .int cd, .int cd, .int cd, .int cd, .int cd, .int cd, .int cd, .int cd, .int cd, .int cd, .int cd, .int cd, .int cd, .int cd, .int cd, .int cd, .int cd, .int cd, .int cd, .int (nar .char cd), .int 0, .int 0, .int 0, .int 0, .int 0, .int 0, .int 0, .int 0, .int 0, .int 0, .int 0, .int 0, .int 0, .int 0, .int 0, .int 0, .int 0, .int 0, .int 0, .int 0, .int 0, .int 0, .int 0, .int 0, .int 0, .int 0, .int 0, .int 0, .int 0, .int 0, .int 0, .int 0, .int 0, .int 0, .int 0, .int 0, .int 0, .int 0, .int 0, .int 0] (.int 0) := V32
        show own_G p e below _ (T32.setTop (mkF m 271 #[.val (.int p0), .val (.int p1), .val (.int p2), .val (.int p3), .val (.int p4), .val (.int p5), .val (.int ca), .val (.int cb), .val (.int cc), .val (.int cd), .val (.int ce), .val (.int (p5 &&& (3 : Int32))), .unset, .unset] [(.ref a8)]))
        have V32s : Arv Z h32 a8 k8 .char (64 : Int32) [.int ca, .int cb, .int cc, .int cd, .int cd, .int cd, .int cd, .int cd, .int cd, .int cd, .int cd, .int cd, .int cd, .int cd, .int cd, .int cd, .int cd, .int cd, .int cd, .int cd, .int cd, .int cd, .int cd, .int cd, .int 0, .int 0, .int 0, .int 0, .int 0, .int 0, .int 0, .int 0, .int 0, .int 0, .int 0, .int 0, .int 0, .int 0, .int 0, .int 0, .int 0, .int 0, .int 0, .int 0, .int 0, .int 0, .int 0, .int 0, .int 0, .int 0, .int 0, .int 0, .int 0, .int 0, .int 0, .int 0, .int 0, .int 0, .int 0, .int 0, .int 0, .int 0, .int 0, .int 0] (.int 0) := by have q := V32'; rw [own_narC hcd.1.1 hcd.1.2] at q; exact q
        have OL32 := OL31.wr W32 (by omega)
        have KF32 := KF31.wr W32 (Or.inl (List.mem_singleton.mpr rfl))
        clear V32'
        refine own_step (b := T32.setTop (mkF m 272 #[.val (.int p0), .val (.int p1), .val (.int p2), .val (.int p3), .val (.int p4), .val (.int p5), .val (.int ca), .val (.int cb), .val (.int cc), .val (.int cd), .val (.int ce), .val (.int (p5 &&& (3 : Int32))), .unset, .unset] [(.ref a8), (.ref a8)])) (fun t k => XS.dup X32.here hx rfl (hb hby at_271) rfl rfl k) ?_
        refine own_step (b := T32.setTop (mkF m 274 #[.val (.int p0), .val (.int p1), .val (.int p2), .val (.int p3), .val (.int p4), .val (.int p5), .val (.int ca), .val (.int cb), .val (.int cc), .val (.int cd), .val (.int ce), .val (.int (p5 &&& (3 : Int32))), .unset, .unset] [(.int (24 : Int32)), (.ref a8), (.ref a8)])) (fun t k => XS.bipush X32.here hx rfl (hb hby at_272) k) ?_
        refine own_step (b := T32.setTop (mkF m 276 #[.val (.int p0), .val (.int p1), .val (.int p2), .val (.int p3), .val (.int p4), .val (.int p5), .val (.int ca), .val (.int cb), .val (.int cc), .val (.int cd), .val (.int ce), .val (.int (p5 &&& (3 : Int32))), .unset, .unset] [(.int cd), (.int (24 : Int32)), (.ref a8), (.ref a8)])) (fun t k => XS.iload X32.here hx rfl (hb hby at_274) rfl k) ?_
        refine own_stC X32 hx hZ e32 V32s 24 (by decide) (by decide) (by decide) (Nat.le_of_ble_eq_true rfl) N32 (by omega) (hb hby at_276) (fun T33 h33 X33 e33 N33 W33 z33 V33 => ?_)
        have V33' : Arv Z h33 a8 k8 .char (64 : Int32) [.int ca, .int cb, .int cc, .int cd, .int cd, .int cd, .int cd, .int cd, .int cd, .int cd, .int cd, .int cd, .int cd, .int cd, .int cd, .int cd, .int cd, .int cd, .int cd, .int cd, .int cd, .int cd, .int cd, .int cd, .int (nar .char cd), .int 0, .int 0, .int 0, .int 0, .int 0, .int 0, .int 0, .int 0, .int 0, .int 0, .int 0, .int 0, .int 0, .int 0, .int 0, .int 0, .int 0, .int 0, .int 0, .int 0, .int 0, .int 0, .int 0, .int 0, .int 0, .int 0, .int 0, .int 0, .int 0, .int 0, .int 0, .int 0, .int 0, .int 0, .int 0, .int 0, .int 0, .int 0, .int 0] (.int 0) := V33
        show own_G p e below _ (T33.setTop (mkF m 277 #[.val (.int p0), .val (.int p1), .val (.int p2), .val (.int p3), .val (.int p4), .val (.int p5), .val (.int ca), .val (.int cb), .val (.int cc), .val (.int cd), .val (.int ce), .val (.int (p5 &&& (3 : Int32))), .unset, .unset] [(.ref a8)]))
        have V33s : Arv Z h33 a8 k8 .char (64 : Int32) [.int ca, .int cb, .int cc, .int cd, .int cd, .int cd, .int cd, .int cd, .int cd, .int cd, .int cd, .int cd, .int cd, .int cd, .int cd, .int cd, .int cd, .int cd, .int cd, .int cd, .int cd, .int cd, .int cd, .int cd, .int cd, .int 0, .int 0, .int 0, .int 0, .int 0, .int 0, .int 0, .int 0, .int 0, .int 0, .int 0, .int 0, .int 0, .int 0, .int 0, .int 0, .int 0, .int 0, .int 0, .int 0, .int 0, .int 0, .int 0, .int 0, .int 0, .int 0, .int 0, .int 0, .int 0, .int 0, .int 0, .int 0, .int 0, .int 0, .int 0, .int 0, .int 0, .int 0, .int 0] (.int 0) := by have q := V33'; rw [own_narC hcd.1.1 hcd.1.2] at q; exact q
        have OL33 := OL32.wr W33 (by omega)
        have KF33 := KF32.wr W33 (Or.inl (List.mem_singleton.mpr rfl))
        clear V33'
        refine own_step (b := T33.setTop (mkF m 278 #[.val (.int p0), .val (.int p1), .val (.int p2), .val (.int p3), .val (.int p4), .val (.int p5), .val (.int ca), .val (.int cb), .val (.int cc), .val (.int cd), .val (.int ce), .val (.int (p5 &&& (3 : Int32))), .unset, .unset] [(.ref a8), (.ref a8)])) (fun t k => XS.dup X33.here hx rfl (hb hby at_277) rfl rfl k) ?_
        refine own_step (b := T33.setTop (mkF m 280 #[.val (.int p0), .val (.int p1), .val (.int p2), .val (.int p3), .val (.int p4), .val (.int p5), .val (.int ca), .val (.int cb), .val (.int cc), .val (.int cd), .val (.int ce), .val (.int (p5 &&& (3 : Int32))), .unset, .unset] [(.int (25 : Int32)), (.ref a8), (.ref a8)])) (fun t k => XS.bipush X33.here hx rfl (hb hby at_278) k) ?_
        refine own_step (b := T33.setTop (mkF m 282 #[.val (.int p0), .val (.int p1), .val (.int p2), .val (.int p3), .val (.int p4), .val (.int p5), .val (.int ca), .val (.int cb), .val (.int cc), .val (.int cd), .val (.int ce), .val (.int (p5 &&& (3 : Int32))), .unset, .unset] [(.int cd), (.int (25 : Int32)), (.ref a8), (.ref a8)])) (fun t k => XS.iload X33.here hx rfl (hb hby at_280) rfl k) ?_
        refine own_stC X33 hx hZ e33 V33s 25 (by decide) (by decide) (by decide) (Nat.le_of_ble_eq_true rfl) N33 (by omega) (hb hby at_282) (fun T34 h34 X34 e34 N34 W34 z34 V34 => ?_)
        have V34' : Arv Z h34 a8 k8 .char (64 : Int32) [.int ca, .int cb, .int cc, .int cd, .int cd, .int cd, .int cd, .int cd, .int cd, .int cd, .int cd, .int cd, .int cd, .int cd, .int cd, .int cd, .int cd, .int cd, .int cd, .int cd, .int cd, .int cd, .int cd, .int cd, .int cd, .int (nar .char cd), .int 0, .int 0, .int 0, .int 0, .int 0, .int 0, .int 0, .int 0, .int 0, .int 0, .int 0, .int 0, .int 0, .int 0, .int 0, .int 0, .int 0, .int 0, .int 0, .int 0, .int 0, .int 0, .int 0, .int 0, .int 0, .int 0, .int 0, .int 0, .int 0, .int 0, .int 0, .int 0, .int 0, .int 0, .int 0, .int 0, .int 0, .int 0] (.int 0) := V34
        show own_G p e below _ (T34.setTop (mkF m 283 #[.val (.int p0), .val (.int p1), .val (.int p2), .val (.int p3), .val (.int p4), .val (.int p5), .val (.int ca), .val (.int cb), .val (.int cc), .val (.int cd), .val (.int ce), .val (.int (p5 &&& (3 : Int32))), .unset, .unset] [(.ref a8)]))
        have V34s : Arv Z h34 a8 k8 .char (64 : Int32) [.int ca, .int cb, .int cc, .int cd, .int cd, .int cd, .int cd, .int cd, .int cd, .int cd, .int cd, .int cd, .int cd, .int cd, .int cd, .int cd, .int cd, .int cd, .int cd, .int cd, .int cd, .int cd, .int cd, .int cd, .int cd, .int cd, .int 0, .int 0, .int 0, .int 0, .int 0, .int 0, .int 0, .int 0, .int 0, .int 0, .int 0, .int 0, .int 0, .int 0, .int 0, .int 0, .int 0, .int 0, .int 0, .int 0, .int 0, .int 0, .int 0, .int 0, .int 0, .int 0, .int 0, .int 0, .int 0, .int 0, .int 0, .int 0, .int 0, .int 0, .int 0, .int 0, .int 0, .int 0] (.int 0) := by have q := V34'; rw [own_narC hcd.1.1 hcd.1.2] at q; exact q
        have OL34 := OL33.wr W34 (by omega)
        have KF34 := KF33.wr W34 (Or.inl (List.mem_singleton.mpr rfl))
        clear V34'
        refine own_step (b := T34.setTop (mkF m 284 #[.val (.int p0), .val (.int p1), .val (.int p2), .val (.int p3), .val (.int p4), .val (.int p5), .val (.int ca), .val (.int cb), .val (.int cc), .val (.int cd), .val (.int ce), .val (.int (p5 &&& (3 : Int32))), .unset, .unset] [(.ref a8), (.ref a8)])) (fun t k => XS.dup X34.here hx rfl (hb hby at_283) rfl rfl k) ?_
        refine own_step (b := T34.setTop (mkF m 286 #[.val (.int p0), .val (.int p1), .val (.int p2), .val (.int p3), .val (.int p4), .val (.int p5), .val (.int ca), .val (.int cb), .val (.int cc), .val (.int cd), .val (.int ce), .val (.int (p5 &&& (3 : Int32))), .unset, .unset] [(.int (26 : Int32)), (.ref a8), (.ref a8)])) (fun t k => XS.bipush X34.here hx rfl (hb hby at_284) k) ?_
        refine own_step (b := T34.setTop (mkF m 288 #[.val (.int p0), .val (.int p1), .val (.int p2), .val (.int p3), .val (.int p4), .val (.int p5), .val (.int ca), .val (.int cb), .val (.int cc), .val (.int cd), .val (.int ce), .val (.int (p5 &&& (3 : Int32))), .unset, .unset] [(.int cd), (.int (26 : Int32)), (.ref a8), (.ref a8)])) (fun t k => XS.iload X34.here hx rfl (hb hby at_286) rfl k) ?_
        refine own_stC X34 hx hZ e34 V34s 26 (by decide) (by decide) (by decide) (Nat.le_of_ble_eq_true rfl) N34 (by omega) (hb hby at_288) (fun T35 h35 X35 e35 N35 W35 z35 V35 => ?_)
        have V35' : Arv Z h35 a8 k8 .char (64 : Int32) [.int ca, .int cb, .int cc, .int cd, .int cd, .int cd, .int cd, .int cd, .int cd, .int cd, .int cd, .int cd, .int cd, .int cd, .int cd, .int cd, .int cd, .int cd, .int cd, .int cd, .int cd, .int cd, .int cd, .int cd, .int cd, .int cd, .int (nar .char cd), .int 0, .int 0, .int 0, .int 0, .int 0, .int 0, .int 0, .int 0, .int 0, .int 0, .int 0, .int 0, .int 0, .int 0, .int 0, .int 0, .int 0, .int 0, .int 0, .int 0, .int 0, .int 0, .int 0, .int 0, .int 0, .int 0, .int 0, .int 0, .int 0, .int 0, .int 0, .int 0, .int 0, .int 0, .int 0, .int 0, .int 0] (.int 0) := V35
        show own_G p e below _ (T35.setTop (mkF m 289 #[.val (.int p0), .val (.int p1), .val (.int p2), .val (.int p3), .val (.int p4), .val (.int p5), .val (.int ca), .val (.int cb), .val (.int cc), .val (.int cd), .val (.int ce), .val (.int (p5 &&& (3 : Int32))), .unset, .unset] [(.ref a8)]))
        have V35s : Arv Z h35 a8 k8 .char (64 : Int32) [.int ca, .int cb, .int cc, .int cd, .int cd, .int cd, .int cd, .int cd, .int cd, .int cd, .int cd, .int cd, .int cd, .int cd, .int cd, .int cd, .int cd, .int cd, .int cd, .int cd, .int cd, .int cd, .int cd, .int cd, .int cd, .int cd, .int cd, .int 0, .int 0, .int 0, .int 0, .int 0, .int 0, .int 0, .int 0, .int 0, .int 0, .int 0, .int 0, .int 0, .int 0, .int 0, .int 0, .int 0, .int 0, .int 0, .int 0, .int 0, .int 0, .int 0, .int 0, .int 0, .int 0, .int 0, .int 0, .int 0, .int 0, .int 0, .int 0, .int 0, .int 0, .int 0, .int 0, .int 0] (.int 0) := by have q := V35'; rw [own_narC hcd.1.1 hcd.1.2] at q; exact q
        have OL35 := OL34.wr W35 (by omega)
        have KF35 := KF34.wr W35 (Or.inl (List.mem_singleton.mpr rfl))
        clear V35'
        refine own_step (b := T35.setTop (mkF m 290 #[.val (.int p0), .val (.int p1), .val (.int p2), .val (.int p3), .val (.int p4), .val (.int p5), .val (.int ca), .val (.int cb), .val (.int cc), .val (.int cd), .val (.int ce), .val (.int (p5 &&& (3 : Int32))), .unset, .unset] [(.ref a8), (.ref a8)])) (fun t k => XS.dup X35.here hx rfl (hb hby at_289) rfl rfl k) ?_
        refine own_step (b := T35.setTop (mkF m 292 #[.val (.int p0), .val (.int p1), .val (.int p2), .val (.int p3), .val (.int p4), .val (.int p5), .val (.int ca), .val (.int cb), .val (.int cc), .val (.int cd), .val (.int ce), .val (.int (p5 &&& (3 : Int32))), .unset, .unset] [(.int (27 : Int32)), (.ref a8), (.ref a8)])) (fun t k => XS.bipush X35.here hx rfl (hb hby at_290) k) ?_
        refine own_step (b := T35.setTop (mkF m 294 #[.val (.int p0), .val (.int p1), .val (.int p2), .val (.int p3), .val (.int p4), .val (.int p5), .val (.int ca), .val (.int cb), .val (.int cc), .val (.int cd), .val (.int ce), .val (.int (p5 &&& (3 : Int32))), .unset, .unset] [(.int cd), (.int (27 : Int32)), (.ref a8), (.ref a8)])) (fun t k => XS.iload X35.here hx rfl (hb hby at_292) rfl k) ?_
        refine own_stC X35 hx hZ e35 V35s 27 (by decide) (by decide) (by decide) (Nat.le_of_ble_eq_true rfl) N35 (by omega) (hb hby at_294) (fun T36 h36 X36 e36 N36 W36 z36 V36 => ?_)
        have V36' : Arv Z h36 a8 k8 .char (64 : Int32) [.int ca, .int cb, .int cc, .int cd, .int cd, .int cd, .int cd, .int cd, .int cd, .int cd, .int cd, .int cd, .int cd, .int cd, .int cd, .int cd, .int cd, .int cd, .int cd, .int cd, .int cd, .int cd, .int cd, .int cd, .int cd, .int cd, .int cd, .int (nar .char cd), .int 0, .int 0, .int 0, .int 0, .int 0, .int 0, .int 0, .int 0, .int 0, .int 0, .int 0, .int 0, .int 0, .int 0, .int 0, .int 0, .int 0, .int 0, .int 0, .int 0, .int 0, .int 0, .int 0, .int 0, .int 0, .int 0, .int 0, .int 0, .int 0, .int 0, .int 0, .int 0, .int 0, .int 0, .int 0, .int 0] (.int 0) := V36
        show own_G p e below _ (T36.setTop (mkF m 295 #[.val (.int p0), .val (.int p1), .val (.int p2), .val (.int p3), .val (.int p4), .val (.int p5), .val (.int ca), .val (.int cb), .val (.int cc), .val (.int cd), .val (.int ce), .val (.int (p5 &&& (3 : Int32))), .unset, .unset] [(.ref a8)]))
        have V36s : Arv Z h36 a8 k8 .char (64 : Int32) [.int ca, .int cb, .int cc, .int cd, .int cd, .int cd, .int cd, .int cd, .int cd, .int cd, .int cd, .int cd, .int cd, .int cd, .int cd, .int cd, .int cd, .int cd, .int cd, .int cd, .int cd, .int cd, .int cd, .int cd, .int cd, .int cd, .int cd, .int cd, .int 0, .int 0, .int 0, .int 0, .int 0, .int 0, .int 0, .int 0, .int 0, .int 0, .int 0, .int 0, .int 0, .int 0, .int 0, .int 0, .int 0, .int 0, .int 0, .int 0, .int 0, .int 0, .int 0, .int 0, .int 0, .int 0, .int 0, .int 0, .int 0, .int 0, .int 0, .int 0, .int 0, .int 0, .int 0, .int 0] (.int 0) := by have q := V36'; rw [own_narC hcd.1.1 hcd.1.2] at q; exact q
        have OL36 := OL35.wr W36 (by omega)
        have KF36 := KF35.wr W36 (Or.inl (List.mem_singleton.mpr rfl))
        clear V36'
        refine own_step (b := T36.setTop (mkF m 296 #[.val (.int p0), .val (.int p1), .val (.int p2), .val (.int p3), .val (.int p4), .val (.int p5), .val (.int ca), .val (.int cb), .val (.int cc), .val (.int cd), .val (.int ce), .val (.int (p5 &&& (3 : Int32))), .unset, .unset] [(.ref a8), (.ref a8)])) (fun t k => XS.dup X36.here hx rfl (hb hby at_295) rfl rfl k) ?_
        refine own_step (b := T36.setTop (mkF m 298 #[.val (.int p0), .val (.int p1), .val (.int p2), .val (.int p3), .val (.int p4), .val (.int p5), .val (.int ca), .val (.int cb), .val (.int cc), .val (.int cd), .val (.int ce), .val (.int (p5 &&& (3 : Int32))), .unset, .unset] [(.int (28 : Int32)), (.ref a8), (.ref a8)])) (fun t k => XS.bipush X36.here hx rfl (hb hby at_296) k) ?_
        refine own_step (b := T36.setTop (mkF m 300 #[.val (.int p0), .val (.int p1), .val (.int p2), .val (.int p3), .val (.int p4), .val (.int p5), .val (.int ca), .val (.int cb), .val (.int cc), .val (.int cd), .val (.int ce), .val (.int (p5 &&& (3 : Int32))), .unset, .unset] [(.int cd), (.int (28 : Int32)), (.ref a8), (.ref a8)])) (fun t k => XS.iload X36.here hx rfl (hb hby at_298) rfl k) ?_
        refine own_stC X36 hx hZ e36 V36s 28 (by decide) (by decide) (by decide) (Nat.le_of_ble_eq_true rfl) N36 (by omega) (hb hby at_300) (fun T37 h37 X37 e37 N37 W37 z37 V37 => ?_)
        have V37' : Arv Z h37 a8 k8 .char (64 : Int32) [.int ca, .int cb, .int cc, .int cd, .int cd, .int cd, .int cd, .int cd, .int cd, .int cd, .int cd, .int cd, .int cd, .int cd, .int cd, .int cd, .int cd, .int cd, .int cd, .int cd, .int cd, .int cd, .int cd, .int cd, .int cd, .int cd, .int cd, .int cd, .int (nar .char cd), .int 0, .int 0, .int 0, .int 0, .int 0, .int 0, .int 0, .int 0, .int 0, .int 0, .int 0, .int 0, .int 0, .int 0, .int 0, .int 0, .int 0, .int 0, .int 0, .int 0, .int 0, .int 0, .int 0, .int 0, .int 0, .int 0, .int 0, .int 0, .int 0, .int 0, .int 0, .int 0, .int 0, .int 0, .int 0] (.int 0) := V37
        show own_G p e below _ (T37.setTop (mkF m 301 #[.val (.int p0), .val (.int p1), .val (.int p2), .val (.int p3), .val (.int p4), .val (.int p5), .val (.int ca), .val (.int cb), .val (.int cc), .val (.int cd), .val (.int ce), .val (.int (p5 &&& (3 : Int32))), .unset, .unset] [(.ref a8)]))
        have V37s : Arv Z h37 a8 k8 .char (64 : Int32) [.int ca, .int cb, .int cc, .int cd, .int cd, .int cd, .int cd, .int cd, .int cd, .int cd, .int cd, .int cd, .int cd, .int cd, .int cd, .int cd, .int cd, .int cd, .int cd, .int cd, .int cd, .int cd, .int cd, .int cd, .int cd, .int cd, .int cd, .int cd, .int cd, .int 0, .int 0, .int 0, .int 0, .int 0, .int 0, .int 0, .int 0, .int 0, .int 0, .int 0, .int 0, .int 0, .int 0, .int 0, .int 0, .int 0, .int 0, .int 0, .int 0, .int 0, .int 0, .int 0, .int 0, .int 0, .int 0, .int 0, .int 0, .int 0, .int 0, .int 0, .int 0, .int 0, .int 0, .int 0] (.int 0) := by have q := V37'; rw [own_narC hcd.1.1 hcd.1.2] at q; exact q
        have OL37 := OL36.wr W37 (by omega)
        have KF37 := KF36.wr W37 (Or.inl (List.mem_singleton.mpr rfl))
        clear V37'
        refine own_step (b := T37.setTop (mkF m 302 #[.val (.int p0), .val (.int p1), .val (.int p2), .val (.int p3), .val (.int p4), .val (.int p5), .val (.int ca), .val (.int cb), .val (.int cc), .val (.int cd), .val (.int ce), .val (.int (p5 &&& (3 : Int32))), .unset, .unset] [(.ref a8), (.ref a8)])) (fun t k => XS.dup X37.here hx rfl (hb hby at_301) rfl rfl k) ?_
        refine own_step (b := T37.setTop (mkF m 304 #[.val (.int p0), .val (.int p1), .val (.int p2), .val (.int p3), .val (.int p4), .val (.int p5), .val (.int ca), .val (.int cb), .val (.int cc), .val (.int cd), .val (.int ce), .val (.int (p5 &&& (3 : Int32))), .unset, .unset] [(.int (29 : Int32)), (.ref a8), (.ref a8)])) (fun t k => XS.bipush X37.here hx rfl (hb hby at_302) k) ?_
        refine own_step (b := T37.setTop (mkF m 306 #[.val (.int p0), .val (.int p1), .val (.int p2), .val (.int p3), .val (.int p4), .val (.int p5), .val (.int ca), .val (.int cb), .val (.int cc), .val (.int cd), .val (.int ce), .val (.int (p5 &&& (3 : Int32))), .unset, .unset] [(.int cd), (.int (29 : Int32)), (.ref a8), (.ref a8)])) (fun t k => XS.iload X37.here hx rfl (hb hby at_304) rfl k) ?_
        refine own_stC X37 hx hZ e37 V37s 29 (by decide) (by decide) (by decide) (Nat.le_of_ble_eq_true rfl) N37 (by omega) (hb hby at_306) (fun T38 h38 X38 e38 N38 W38 z38 V38 => ?_)
        have V38' : Arv Z h38 a8 k8 .char (64 : Int32) [.int ca, .int cb, .int cc, .int cd, .int cd, .int cd, .int cd, .int cd, .int cd, .int cd, .int cd, .int cd, .int cd, .int cd, .int cd, .int cd, .int cd, .int cd, .int cd, .int cd, .int cd, .int cd, .int cd, .int cd, .int cd, .int cd, .int cd, .int cd, .int cd, .int (nar .char cd), .int 0, .int 0, .int 0, .int 0, .int 0, .int 0, .int 0, .int 0, .int 0, .int 0, .int 0, .int 0, .int 0, .int 0, .int 0, .int 0, .int 0, .int 0, .int 0, .int 0, .int 0, .int 0, .int 0, .int 0, .int 0, .int 0, .int 0, .int 0, .int 0, .int 0, .int 0, .int 0, .int 0, .int 0] (.int 0) := V38
        show own_G p e below _ (T38.setTop (mkF m 307 #[.val (.int p0), .val (.int p1), .val (.int p2), .val (.int p3), .val (.int p4), .val (.int p5), .val (.int ca), .val (.int cb), .val (.int cc), .val (.int cd), .val (.int ce), .val (.int (p5 &&& (3 : Int32))), .unset, .unset] [(.ref a8)]))
        have V38s : Arv Z h38 a8 k8 .char (64 : Int32) [.int ca, .int cb, .int cc, .int cd, .int cd, .int cd, .int cd, .int cd, .int cd, .int cd, .int cd, .int cd, .int cd, .int cd, .int cd, .int cd, .int cd, .int cd, .int cd, .int cd, .int cd, .int cd, .int cd, .int cd, .int cd, .int cd, .int cd, .int cd, .int cd, .int cd, .int 0, .int 0, .int 0, .int 0, .int 0, .int 0, .int 0, .int 0, .int 0, .int 0, .int 0, .int 0, .int 0, .int 0, .int 0, .int 0, .int 0, .int 0, .int 0, .int 0, .int 0, .int 0, .int 0, .int 0, .int 0, .int 0, .int 0, .int 0, .int 0, .int 0, .int 0, .int 0, .int 0, .int 0] (.int 0) := by have q := V38'; rw [own_narC hcd.1.1 hcd.1.2] at q; exact q
        have OL38 := OL37.wr W38 (by omega)
        have KF38 := KF37.wr W38 (Or.inl (List.mem_singleton.mpr rfl))
        clear V38'
        refine own_step (b := T38.setTop (mkF m 308 #[.val (.int p0), .val (.int p1), .val (.int p2), .val (.int p3), .val (.int p4), .val (.int p5), .val (.int ca), .val (.int cb), .val (.int cc), .val (.int cd), .val (.int ce), .val (.int (p5 &&& (3 : Int32))), .unset, .unset] [(.ref a8), (.ref a8)])) (fun t k => XS.dup X38.here hx rfl (hb hby at_307) rfl rfl k) ?_
        refine own_step (b := T38.setTop (mkF m 310 #[.val (.int p0), .val (.int p1), .val (.int p2), .val (.int p3), .val (.int p4), .val (.int p5), .val (.int ca), .val (.int cb), .val (.int cc), .val (.int cd), .val (.int ce), .val (.int (p5 &&& (3 : Int32))), .unset, .unset] [(.int (30 : Int32)), (.ref a8), (.ref a8)])) (fun t k => XS.bipush X38.here hx rfl (hb hby at_308) k) ?_
        refine own_step (b := T38.setTop (mkF m 312 #[.val (.int p0), .val (.int p1), .val (.int p2), .val (.int p3), .val (.int p4), .val (.int p5), .val (.int ca), .val (.int cb), .val (.int cc), .val (.int cd), .val (.int ce), .val (.int (p5 &&& (3 : Int32))), .unset, .unset] [(.int cd), (.int (30 : Int32)), (.ref a8), (.ref a8)])) (fun t k => XS.iload X38.here hx rfl (hb hby at_310) rfl k) ?_
        refine own_stC X38 hx hZ e38 V38s 30 (by decide) (by decide) (by decide) (Nat.le_of_ble_eq_true rfl) N38 (by omega) (hb hby at_312) (fun T39 h39 X39 e39 N39 W39 z39 V39 => ?_)
        have V39' : Arv Z h39 a8 k8 .char (64 : Int32) [.int ca, .int cb, .int cc, .int cd, .int cd, .int cd, .int cd, .int cd, .int cd, .int cd, .int cd, .int cd, .int cd, .int cd, .int cd, .int cd, .int cd, .int cd, .int cd, .int cd, .int cd, .int cd, .int cd, .int cd, .int cd, .int cd, .int cd, .int cd, .int cd, .int cd, .int (nar .char cd), .int 0, .int 0, .int 0, .int 0, .int 0, .int 0, .int 0, .int 0, .int 0, .int 0, .int 0, .int 0, .int 0, .int 0, .int 0, .int 0, .int 0, .int 0, .int 0, .int 0, .int 0, .int 0, .int 0, .int 0, .int 0, .int 0, .int 0, .int 0, .int 0, .int 0, .int 0, .int 0, .int 0] (.int 0) := V39
        show own_G p e below _ (T39.setTop (mkF m 313 #[.val (.int p0), .val (.int p1), .val (.int p2), .val (.int p3), .val (.int p4), .val (.int p5), .val (.int ca), .val (.int cb), .val (.int cc), .val (.int cd), .val (.int ce), .val (.int (p5 &&& (3 : Int32))), .unset, .unset] [(.ref a8)]))
        have V39s : Arv Z h39 a8 k8 .char (64 : Int32) [.int ca, .int cb, .int cc, .int cd, .int cd, .int cd, .int cd, .int cd, .int cd, .int cd, .int cd, .int cd, .int cd, .int cd, .int cd, .int cd, .int cd, .int cd, .int cd, .int cd, .int cd, .int cd, .int cd, .int cd, .int cd, .int cd, .int cd, .int cd, .int cd, .int cd, .int cd, .int 0, .int 0, .int 0, .int 0, .int 0, .int 0, .int 0, .int 0, .int 0, .int 0, .int 0, .int 0, .int 0, .int 0, .int 0, .int 0, .int 0, .int 0, .int 0, .int 0, .int 0, .int 0, .int 0, .int 0, .int 0, .int 0, .int 0, .int 0, .int 0, .int 0, .int 0, .int 0, .int 0] (.int 0) := by have q := V39'; rw [own_narC hcd.1.1 hcd.1.2] at q; exact q
        have OL39 := OL38.wr W39 (by omega)
        have KF39 := KF38.wr W39 (Or.inl (List.mem_singleton.mpr rfl))
        clear V39'
        refine own_step (b := T39.setTop (mkF m 314 #[.val (.int p0), .val (.int p1), .val (.int p2), .val (.int p3), .val (.int p4), .val (.int p5), .val (.int ca), .val (.int cb), .val (.int cc), .val (.int cd), .val (.int ce), .val (.int (p5 &&& (3 : Int32))), .unset, .unset] [(.ref a8), (.ref a8)])) (fun t k => XS.dup X39.here hx rfl (hb hby at_313) rfl rfl k) ?_
        refine own_step (b := T39.setTop (mkF m 316 #[.val (.int p0), .val (.int p1), .val (.int p2), .val (.int p3), .val (.int p4), .val (.int p5), .val (.int ca), .val (.int cb), .val (.int cc), .val (.int cd), .val (.int ce), .val (.int (p5 &&& (3 : Int32))), .unset, .unset] [(.int (31 : Int32)), (.ref a8), (.ref a8)])) (fun t k => XS.bipush X39.here hx rfl (hb hby at_314) k) ?_
        refine own_step (b := T39.setTop (mkF m 318 #[.val (.int p0), .val (.int p1), .val (.int p2), .val (.int p3), .val (.int p4), .val (.int p5), .val (.int ca), .val (.int cb), .val (.int cc), .val (.int cd), .val (.int ce), .val (.int (p5 &&& (3 : Int32))), .unset, .unset] [(.int cd), (.int (31 : Int32)), (.ref a8), (.ref a8)])) (fun t k => XS.iload X39.here hx rfl (hb hby at_316) rfl k) ?_
        refine own_stC X39 hx hZ e39 V39s 31 (by decide) (by decide) (by decide) (Nat.le_of_ble_eq_true rfl) N39 (by omega) (hb hby at_318) (fun T40 h40 X40 e40 N40 W40 z40 V40 => ?_)
        have V40' : Arv Z h40 a8 k8 .char (64 : Int32) [.int ca, .int cb, .int cc, .int cd, .int cd, .int cd, .int cd, .int cd, .int cd, .int cd, .int cd, .int cd, .int cd, .int cd, .int cd, .int cd, .int cd, .int cd, .int cd, .int cd, .int cd, .int cd, .int cd, .int cd, .int cd, .int cd, .int cd, .int cd, .int cd, .int cd, .int cd, .int (nar .char cd), .int 0, .int 0, .int 0, .int 0, .int 0, .int 0, .int 0, .int 0, .int 0, .int 0, .int 0, .int 0, .int 0, .int 0, .int 0, .int 0, .int 0, .int 0, .int 0, .int 0, .int 0, .int 0, .int 0, .int 0, .int 0, .int 0, .int 0, .int 0, .int 0, .int 0, .int 0, .int 0] (.int 0) := V40
        show own_G p e below _ (T40.setTop (mkF m 319 #[.val (.int p0), .val (.int p1), .val (.int p2), .val (.int p3), .val (.int p4), .val (.int p5), .val (.int ca), .val (.int cb), .val (.int cc), .val (.int cd), .val (.int ce), .val (.int (p5 &&& (3 : Int32))), .unset, .unset] [(.ref a8)]))
        have V40s : Arv Z h40 a8 k8 .char (64 : Int32) [.int ca, .int cb, .int cc, .int cd, .int cd, .int cd, .int cd, .int cd, .int cd, .int cd, .int cd, .int cd, .int cd, .int cd, .int cd, .int cd, .int cd, .int cd, .int cd, .int cd, .int cd, .int cd, .int cd, .int cd, .int cd, .int cd, .int cd, .int cd, .int cd, .int cd, .int cd, .int cd, .int 0, .int 0, .int 0, .int 0, .int 0, .int 0, .int 0, .int 0, .int 0, .int 0, .int 0, .int 0, .int 0, .int 0, .int 0, .int 0, .int 0, .int 0, .int 0, .int 0, .int 0, .int 0, .int 0, .int 0, .int 0, .int 0, .int 0, .int 0, .int 0, .int 0, .int 0, .int 0] (.int 0) := by have q := V40'; rw [own_narC hcd.1.1 hcd.1.2] at q; exact q
        have OL40 := OL39.wr W40 (by omega)
        have KF40 := KF39.wr W40 (Or.inl (List.mem_singleton.mpr rfl))
        clear V40'
        refine own_step (b := T40.setTop (mkF m 320 #[.val (.int p0), .val (.int p1), .val (.int p2), .val (.int p3), .val (.int p4), .val (.int p5), .val (.int ca), .val (.int cb), .val (.int cc), .val (.int cd), .val (.int ce), .val (.int (p5 &&& (3 : Int32))), .unset, .unset] [(.ref a8), (.ref a8)])) (fun t k => XS.dup X40.here hx rfl (hb hby at_319) rfl rfl k) ?_
        refine own_step (b := T40.setTop (mkF m 322 #[.val (.int p0), .val (.int p1), .val (.int p2), .val (.int p3), .val (.int p4), .val (.int p5), .val (.int ca), .val (.int cb), .val (.int cc), .val (.int cd), .val (.int ce), .val (.int (p5 &&& (3 : Int32))), .unset, .unset] [(.int (32 : Int32)), (.ref a8), (.ref a8)])) (fun t k => XS.bipush X40.here hx rfl (hb hby at_320) k) ?_
        refine own_step (b := T40.setTop (mkF m 324 #[.val (.int p0), .val (.int p1), .val (.int p2), .val (.int p3), .val (.int p4), .val (.int p5), .val (.int ca), .val (.int cb), .val (.int cc), .val (.int cd), .val (.int ce), .val (.int (p5 &&& (3 : Int32))), .unset, .unset] [(.int cd), (.int (32 : Int32)), (.ref a8), (.ref a8)])) (fun t k => XS.iload X40.here hx rfl (hb hby at_322) rfl k) ?_
        refine own_stC X40 hx hZ e40 V40s 32 (by decide) (by decide) (by decide) (Nat.le_of_ble_eq_true rfl) N40 (by omega) (hb hby at_324) (fun T41 h41 X41 e41 N41 W41 z41 V41 => ?_)
        have V41' : Arv Z h41 a8 k8 .char (64 : Int32) [.int ca, .int cb, .int cc, .int cd, .int cd, .int cd, .int cd, .int cd, .int cd, .int cd, .int cd, .int cd, .int cd, .int cd, .int cd, .int cd, .int cd, .int cd, .int cd, .int cd, .int cd, .int cd, .int cd, .int cd, .int cd, .int cd, .int cd, .int cd, .int cd, .int cd, .int cd, .int cd, .int (nar .char cd), .int 0, .int 0, .int 0, .int 0, .int 0, .int 0, .int 0, .int 0, .int 0, .int 0, .int 0, .int 0, .int 0, .int 0, .int 0, .int 0, .int 0, .int 0, .int 0, .int 0, .int 0, .int 0, .int 0, .int 0, .int 0, .int 0, .int 0, .int 0, .int 0, .int 0, .int 0] (.int 0) := V41
        show own_G p e below _ (T41.setTop (mkF m 325 #[.val (.int p0), .val (.int p1), .val (.int p2), .val (.int p3), .val (.int p4), .val (.int p5), .val (.int ca), .val (.int cb), .val (.int cc), .val (.int cd), .val (.int ce), .val (.int (p5 &&& (3 : Int32))), .unset, .unset] [(.ref a8)]))
        have V41s : Arv Z h41 a8 k8 .char (64 : Int32) [.int ca, .int cb, .int cc, .int cd, .int cd, .int cd, .int cd, .int cd, .int cd, .int cd, .int cd, .int cd, .int cd, .int cd, .int cd, .int cd, .int cd, .int cd, .int cd, .int cd, .int cd, .int cd, .int cd, .int cd, .int cd, .int cd, .int cd, .int cd, .int cd, .int cd, .int cd, .int cd, .int cd, .int 0, .int 0, .int 0, .int 0, .int 0, .int 0, .int 0, .int 0, .int 0, .int 0, .int 0, .int 0, .int 0, .int 0, .int 0, .int 0, .int 0, .int 0, .int 0, .int 0, .int 0, .int 0, .int 0, .int 0, .int 0, .int 0, .int 0, .int 0, .int 0, .int 0, .int 0] (.int 0) := by have q := V41'; rw [own_narC hcd.1.1 hcd.1.2] at q; exact q
        have OL41 := OL40.wr W41 (by omega)
        have KF41 := KF40.wr W41 (Or.inl (List.mem_singleton.mpr rfl))
        clear V41'
        refine own_step (b := T41.setTop (mkF m 326 #[.val (.int p0), .val (.int p1), .val (.int p2), .val (.int p3), .val (.int p4), .val (.int p5), .val (.int ca), .val (.int cb), .val (.int cc), .val (.int cd), .val (.int ce), .val (.int (p5 &&& (3 : Int32))), .unset, .unset] [(.ref a8), (.ref a8)])) (fun t k => XS.dup X41.here hx rfl (hb hby at_325) rfl rfl k) ?_
        refine own_step (b := T41.setTop (mkF m 328 #[.val (.int p0), .val (.int p1), .val (.int p2), .val (.int p3), .val (.int p4), .val (.int p5), .val (.int ca), .val (.int cb), .val (.int cc), .val (.int cd), .val (.int ce), .val (.int (p5 &&& (3 : Int32))), .unset, .unset] [(.int (33 : Int32)), (.ref a8), (.ref a8)])) (fun t k => XS.bipush X41.here hx rfl (hb hby at_326) k) ?_
        refine own_step (b := T41.setTop (mkF m 330 #[.val (.int p0), .val (.int p1), .val (.int p2), .val (.int p3), .val (.int p4), .val (.int p5), .val (.int ca), .val (.int cb), .val (.int cc), .val (.int cd), .val (.int ce), .val (.int (p5 &&& (3 : Int32))), .unset, .unset] [(.int cd), (.int (33 : Int32)), (.ref a8), (.ref a8)])) (fun t k => XS.iload X41.here hx rfl (hb hby at_328) rfl k) ?_
        refine own_stC X41 hx hZ e41 V41s 33 (by decide) (by decide) (by decide) (Nat.le_of_ble_eq_true rfl) N41 (by omega) (hb hby at_330) (fun T42 h42 X42 e42 N42 W42 z42 V42 => ?_)
        have V42' : Arv Z h42 a8 k8 .char (64 : Int32) [.int ca, .int cb, .int cc, .int cd, .int cd, .int cd, .int cd, .int cd, .int cd, .int cd, .int cd, .int cd, .int cd, .int cd, .int cd, .int cd, .int cd, .int cd, .int cd, .int cd, .int cd, .int cd, .int cd, .int cd, .int cd, .int cd, .int cd, .int cd, .int cd, .int cd, .int cd, .int cd, .int cd, .int (nar .char cd), .int 0, .int 0, .int 0, .int 0, .int 0, .int 0, .int 0, .int 0, .int 0, .int 0, .int 0, .int 0, .int 0, .int 0, .int 0, .int 0, .int 0, .int 0, .int 0, .int 0, .int 0, .int 0, .int 0, .int 0, .int 0, .int 0, .int 0, .int 0, .int 0, .int 0] (.int 0) := V42
        show own_G p e below _ (T42.setTop (mkF m 331 #[.val (.int p0), .val (.int p1), .val (.int p2), .val (.int p3), .val (.int p4), .val (.int p5), .val (.int ca), .val (.int cb), .val (.int cc), .val (.int cd), .val (.int ce), .val (.int (p5 &&& (3 : Int32))), .unset, .unset] [(.ref a8)]))
        have V42s : Arv Z h42 a8 k8 .char (64 : Int32) [.int ca, .int cb, .int cc, .int cd, .int cd, .int cd, .int cd, .int cd, .int cd, .int cd, .int cd, .int cd, .int cd, .int cd, .int cd, .int cd, .int cd, .int cd, .int cd, .int cd, .int cd, .int cd, .int cd, .int cd, .int cd, .int cd, .int cd, .int cd, .int cd, .int cd, .int cd, .int cd, .int cd, .int cd, .int 0, .int 0, .int 0, .int 0, .int 0, .int 0, .int 0, .int 0, .int 0, .int 0, .int 0, .int 0, .int 0, .int 0, .int 0, .int 0, .int 0, .int 0, .int 0, .int 0, .int 0, .int 0, .int 0, .int 0, .int 0, .int 0, .int 0, .int 0, .int 0, .int 0] (.int 0) := by have q := V42'; rw [own_narC hcd.1.1 hcd.1.2] at q; exact q
        have OL42 := OL41.wr W42 (by omega)
        have KF42 := KF41.wr W42 (Or.inl (List.mem_singleton.mpr rfl))
        clear V42'
        refine own_step (b := T42.setTop (mkF m 332 #[.val (.int p0), .val (.int p1), .val (.int p2), .val (.int p3), .val (.int p4), .val (.int p5), .val (.int ca), .val (.int cb), .val (.int cc), .val (.int cd), .val (.int ce), .val (.int (p5 &&& (3 : Int32))), .unset, .unset] [(.ref a8), (.ref a8)])) (fun t k => XS.dup X42.here hx rfl (hb hby at_331) rfl rfl k) ?_
        refine own_step (b := T42.setTop (mkF m 334 #[.val (.int p0), .val (.int p1), .val (.int p2), .val (.int p3), .val (.int p4), .val (.int p5), .val (.int ca), .val (.int cb), .val (.int cc), .val (.int cd), .val (.int ce), .val (.int (p5 &&& (3 : Int32))), .unset, .unset] [(.int (34 : Int32)), (.ref a8), (.ref a8)])) (fun t k => XS.bipush X42.here hx rfl (hb hby at_332) k) ?_
        refine own_step (b := T42.setTop (mkF m 336 #[.val (.int p0), .val (.int p1), .val (.int p2), .val (.int p3), .val (.int p4), .val (.int p5), .val (.int ca), .val (.int cb), .val (.int cc), .val (.int cd), .val (.int ce), .val (.int (p5 &&& (3 : Int32))), .unset, .unset] [(.int cd), (.int (34 : Int32)), (.ref a8), (.ref a8)])) (fun t k => XS.iload X42.here hx rfl (hb hby at_334) rfl k) ?_
        refine own_stC X42 hx hZ e42 V42s 34 (by decide) (by decide) (by decide) (Nat.le_of_ble_eq_true rfl) N42 (by omega) (hb hby at_336) (fun T43 h43 X43 e43 N43 W43 z43 V43 => ?_)
        have V43' : Arv Z h43 a8 k8 .char (64 : Int32) [.int ca, .int cb, .int cc, .int cd, .int cd, .int cd, .int cd, .int cd, .int cd, .int cd, .int cd, .int cd, .int cd, .int cd, .int cd, .int cd, .int cd, .int cd, .int cd, .int cd, .int cd, .int cd, .int cd, .int cd, .int cd, .int cd, .int cd, .int cd, .int cd, .int cd, .int cd, .int cd, .int cd, .int cd, .int (nar .char cd), .int 0, .int 0, .int 0, .int 0, .int 0, .int 0, .int 0, .int 0, .int 0, .int 0, .int 0, .int 0, .int 0, .int 0, .int 0, .int 0, .int 0, .int 0, .int 0, .int 0, .int 0, .int 0, .int 0, .int 0, .int 0, .int 0, .int 0, .int 0, .int 0] (.int 0) := V43
        show own_G p e below _ (T43.setTop (mkF m 337 #[.val (.int p0), .val (.int p1), .val (.int p2), .val (.int p3), .val (.int p4), .val (.int p5), .val (.int ca), .val (.int cb), .val (.int cc), .val (.int cd), .val (.int ce), .val (.int (p5 &&& (3 : Int32))), .unset, .unset] [(.ref a8)]))
        have V43s : Arv Z h43 a8 k8 .char (64 : Int32) [.int ca, .int cb, .int cc, .int cd, .int cd, .int cd, .int cd, .int cd, .int cd, .int cd, .int cd, .int cd, .int cd, .int cd, .int cd, .int cd, .int cd, .int cd, .int cd, .int cd, .int cd, .int cd, .int cd, .int cd, .int cd, .int cd, .int cd, .int cd, .int cd, .int cd, .int cd, .int cd, .int cd, .int cd, .int cd, .int 0, .int 0, .int 0, .int 0, .int 0, .int 0, .int 0, .int 0, .int 0, .int 0, .int 0, .int 0, .int 0, .int 0, .int 0, .int 0, .int 0, .int 0, .int 0, .int 0, .int 0, .int 0, .int 0, .int 0, .int 0, .int 0, .int 0, .int 0, .int 0] (.int 0) := by have q := V43'; rw [own_narC hcd.1.1 hcd.1.2] at q; exact q
        have OL43 := OL42.wr W43 (by omega)
        have KF43 := KF42.wr W43 (Or.inl (List.mem_singleton.mpr rfl))
        clear V43'
        refine own_step (b := T43.setTop (mkF m 338 #[.val (.int p0), .val (.int p1), .val (.int p2), .val (.int p3), .val (.int p4), .val (.int p5), .val (.int ca), .val (.int cb), .val (.int cc), .val (.int cd), .val (.int ce), .val (.int (p5 &&& (3 : Int32))), .unset, .unset] [(.ref a8), (.ref a8)])) (fun t k => XS.dup X43.here hx rfl (hb hby at_337) rfl rfl k) ?_
        refine own_step (b := T43.setTop (mkF m 340 #[.val (.int p0), .val (.int p1), .val (.int p2), .val (.int p3), .val (.int p4), .val (.int p5), .val (.int ca), .val (.int cb), .val (.int cc), .val (.int cd), .val (.int ce), .val (.int (p5 &&& (3 : Int32))), .unset, .unset] [(.int (35 : Int32)), (.ref a8), (.ref a8)])) (fun t k => XS.bipush X43.here hx rfl (hb hby at_338) k) ?_
        refine own_step (b := T43.setTop (mkF m 342 #[.val (.int p0), .val (.int p1), .val (.int p2), .val (.int p3), .val (.int p4), .val (.int p5), .val (.int ca), .val (.int cb), .val (.int cc), .val (.int cd), .val (.int ce), .val (.int (p5 &&& (3 : Int32))), .unset, .unset] [(.int cd), (.int (35 : Int32)), (.ref a8), (.ref a8)])) (fun t k => XS.iload X43.here hx rfl (hb hby at_340) rfl k) ?_
        refine own_stC X43 hx hZ e43 V43s 35 (by decide) (by decide) (by decide) (Nat.le_of_ble_eq_true rfl) N43 (by omega) (hb hby at_342) (fun T44 h44 X44 e44 N44 W44 z44 V44 => ?_)
        have V44' : Arv Z h44 a8 k8 .char (64 : Int32) [.int ca, .int cb, .int cc, .int cd, .int cd, .int cd, .int cd, .int cd, .int cd, .int cd, .int cd, .int cd, .int cd, .int cd, .int cd, .int cd, .int cd, .int cd, .int cd, .int cd, .int cd, .int cd, .int cd, .int cd, .int cd, .int cd, .int cd, .int cd, .int cd, .int cd, .int cd, .int cd, .int cd, .int cd, .int cd, .int (nar .char cd), .int 0, .int 0, .int 0, .int 0, .int 0, .int 0, .int 0, .int 0, .int 0, .int 0, .int 0, .int 0, .int 0, .int 0, .int 0, .int 0, .int 0, .int 0, .int 0, .int 0, .int 0, .int 0, .int 0, .int 0, .int 0, .int 0, .int 0, .int 0] (.int 0) := V44
        show own_G p e below _ (T44.setTop (mkF m 343 #[.val (.int p0), .val (.int p1), .val (.int p2), .val (.int p3), .val (.int p4), .val (.int p5), .val (.int ca), .val (.int cb), .val (.int cc), .val (.int cd), .val (.int ce), .val (.int (p5 &&& (3 : Int32))), .unset, .unset] [(.ref a8)]))
        have V44s : Arv Z h44 a8 k8 .char (64 : Int32) [.int ca, .int cb, .int cc, .int cd, .int cd, .int cd, .int cd, .int cd, .int cd, .int cd, .int cd, .int cd, .int cd, .int cd, .int cd, .int cd, .int cd, .int cd, .int cd, .int cd, .int cd, .int cd, .int cd, .int cd, .int cd, .int cd, .int cd, .int cd, .int cd, .int cd, .int cd, .int cd, .int cd, .int cd, .int cd, .int cd, .int 0, .int 0, .int 0, .int 0, .int 0, .int 0, .int 0, .int 0, .int 0, .int 0, .int 0, .int 0, .int 0, .int 0, .int 0, .int 0, .int 0, .int 0, .int 0, .int 0, .int 0, .int 0, .int 0, .int 0, .int 0, .int 0, .int 0, .int 0] (.int 0) := by have q := V44'; rw [own_narC hcd.1.1 hcd.1.2] at q; exact q
        have OL44 := OL43.wr W44 (by omega)
        have KF44 := KF43.wr W44 (Or.inl (List.mem_singleton.mpr rfl))
        clear V44'
        refine own_step (b := T44.setTop (mkF m 344 #[.val (.int p0), .val (.int p1), .val (.int p2), .val (.int p3), .val (.int p4), .val (.int p5), .val (.int ca), .val (.int cb), .val (.int cc), .val (.int cd), .val (.int ce), .val (.int (p5 &&& (3 : Int32))), .unset, .unset] [(.ref a8), (.ref a8)])) (fun t k => XS.dup X44.here hx rfl (hb hby at_343) rfl rfl k) ?_
        refine own_step (b := T44.setTop (mkF m 346 #[.val (.int p0), .val (.int p1), .val (.int p2), .val (.int p3), .val (.int p4), .val (.int p5), .val (.int ca), .val (.int cb), .val (.int cc), .val (.int cd), .val (.int ce), .val (.int (p5 &&& (3 : Int32))), .unset, .unset] [(.int (36 : Int32)), (.ref a8), (.ref a8)])) (fun t k => XS.bipush X44.here hx rfl (hb hby at_344) k) ?_
        refine own_step (b := T44.setTop (mkF m 348 #[.val (.int p0), .val (.int p1), .val (.int p2), .val (.int p3), .val (.int p4), .val (.int p5), .val (.int ca), .val (.int cb), .val (.int cc), .val (.int cd), .val (.int ce), .val (.int (p5 &&& (3 : Int32))), .unset, .unset] [(.int cd), (.int (36 : Int32)), (.ref a8), (.ref a8)])) (fun t k => XS.iload X44.here hx rfl (hb hby at_346) rfl k) ?_
        refine own_stC X44 hx hZ e44 V44s 36 (by decide) (by decide) (by decide) (Nat.le_of_ble_eq_true rfl) N44 (by omega) (hb hby at_348) (fun T45 h45 X45 e45 N45 W45 z45 V45 => ?_)
        have V45' : Arv Z h45 a8 k8 .char (64 : Int32) [.int ca, .int cb, .int cc, .int cd, .int cd, .int cd, .int cd, .int cd, .int cd, .int cd, .int cd, .int cd, .int cd, .int cd, .int cd, .int cd, .int cd, .int cd, .int cd, .int cd, .int cd, .int cd, .int cd, .int cd, .int cd, .int cd, .int cd, .int cd, .int cd, .int cd, .int cd, .int cd, .int cd, .int cd, .int cd, .int cd, .int (nar .char cd), .int 0, .int 0, .int 0, .int 0, .int 0, .int 0, .int 0, .int 0, .int 0, .int 0, .int 0, .int 0, .int 0, .int 0, .int 0, .int 0, .int 0, .int 0, .int 0, .int 0, .int 0, .int 0, .int 0, .int 0, .int 0, .int 0, .int 0] (.int 0) := V45
        show own_G p e below _ (T45.setTop (mkF m 349 #[.val (.int p0), .val (.int p1), .val (.int p2), .val (.int p3), .val (.int p4), .val (.int p5), .val (.int ca), .val (.int cb), .val (.int cc), .val (.int cd), .val (.int ce), .val (.int (p5 &&& (3 : Int32))), .unset, .unset] [(.ref a8)]))
        have V45s : Arv Z h45 a8 k8 .char (64 : Int32) [.int ca, .int cb, .int cc, .int cd, .int cd, .int cd, .int cd, .int cd, .int cd, .int cd, .int cd, .int cd, .int cd, .int cd, .int cd, .int cd, .int cd, .int cd, .int cd, .int cd, .int cd, .int cd, .int cd, .int cd, .int cd, .int cd, .int cd, .int cd, .int cd, .int cd, .int cd, .int cd, .int cd, .int cd, .int cd, .int cd, .int cd, .int 0, .int 0, .int 0, .int 0, .int 0, .int 0, .int 0, .int 0, .int 0, .int 0, .int 0, .int 0, .int 0, .int 0, .int 0, .int 0, .int 0, .int 0, .int 0, .int 0, .int 0, .int 0, .int 0, .int 0, .int 0, .int 0, .int 0] (.int 0) := by have q := V45'; rw [own_narC hcd.1.1 hcd.1.2] at q; exact q
        have OL45 := OL44.wr W45 (by omega)
        have KF45 := KF44.wr W45 (Or.inl (List.mem_singleton.mpr rfl))
        clear V45'
        refine own_step (b := T45.setTop (mkF m 350 #[.val (.int p0), .val (.int p1), .val (.int p2), .val (.int p3), .val (.int p4), .val (.int p5), .val (.int ca), .val (.int cb), .val (.int cc), .val (.int cd), .val (.int ce), .val (.int (p5 &&& (3 : Int32))), .unset, .unset] [(.ref a8), (.ref a8)])) (fun t k => XS.dup X45.here hx rfl (hb hby at_349) rfl rfl k) ?_
        refine own_step (b := T45.setTop (mkF m 352 #[.val (.int p0), .val (.int p1), .val (.int p2), .val (.int p3), .val (.int p4), .val (.int p5), .val (.int ca), .val (.int cb), .val (.int cc), .val (.int cd), .val (.int ce), .val (.int (p5 &&& (3 : Int32))), .unset, .unset] [(.int (37 : Int32)), (.ref a8), (.ref a8)])) (fun t k => XS.bipush X45.here hx rfl (hb hby at_350) k) ?_
        refine own_step (b := T45.setTop (mkF m 354 #[.val (.int p0), .val (.int p1), .val (.int p2), .val (.int p3), .val (.int p4), .val (.int p5), .val (.int ca), .val (.int cb), .val (.int cc), .val (.int cd), .val (.int ce), .val (.int (p5 &&& (3 : Int32))), .unset, .unset] [(.int cd), (.int (37 : Int32)), (.ref a8), (.ref a8)])) (fun t k => XS.iload X45.here hx rfl (hb hby at_352) rfl k) ?_
        refine own_stC X45 hx hZ e45 V45s 37 (by decide) (by decide) (by decide) (Nat.le_of_ble_eq_true rfl) N45 (by omega) (hb hby at_354) (fun T46 h46 X46 e46 N46 W46 z46 V46 => ?_)
        have V46' : Arv Z h46 a8 k8 .char (64 : Int32) [.int ca, .int cb, .int cc, .int cd, .int cd, .int cd, .int cd, .int cd, .int cd, .int cd, .int cd, .int cd, .int cd, .int cd, .int cd, .int cd, .int cd, .int cd, .int cd, .int cd, .int cd, .int cd, .int cd, .int cd, .int cd, .int cd, .int cd, .int cd, .int cd, .int cd, .int cd, .int cd, .int cd, .int cd, .int cd, .int cd, .int cd, .int (nar .char cd), .int 0, .int 0, .int 0, .int 0, .int 0, .int 0, .int 0, .int 0, .int 0, .int 0, .int 0, .int 0, .int 0, .int 0, .int 0, .int 0, .int 0, .int 0, .int 0, .int 0, .int 0, .int 0, .int 0, .int 0, .int 0, .int 0] (.int 0) := V46
        show own_G p e below _ (T46.setTop (mkF m 355 #[.val (.int p0), .val (.int p1), .val (.int p2), .val (.int p3), .val (.int p4), .val (.int p5), .val (.int ca), .val (.int cb), .val (.int cc), .val (.int cd), .val (.int ce), .val (.int (p5 &&& (3 : Int32))), .unset, .unset] [(.ref a8)]))
        have V46s : Arv Z h46 a8 k8 .char (64 : Int32) [.int ca, .int cb, .int cc, .int cd, .int cd, .int cd, .int cd, .int cd, .int cd, .int cd, .int cd, .int cd, .int cd, .int cd, .int cd, .int cd, .int cd, .int cd, .int cd, .int cd, .int cd, .int cd, .int cd, .int cd, .int cd, .int cd, .int cd, .int cd, .int cd, .int cd, .int cd, .int cd, .int cd, .int cd, .int cd, .int cd, .int cd, .int cd, .int 0, .int 0, .int 0, .int 0, .int 0, .int 0, .int 0, .int 0, .int 0, .int 0, .int 0, .int 0, .int 0, .int 0, .int 0, .int 0, .int 0, .int 0, .int 0, .int 0, .int 0, .int 0, .int 0, .int 0, .int 0, .int 0] (.int 0) := by have q := V46'; rw [own_narC hcd.1.1 hcd.1.2] at q; exact q
        have OL46 := OL45.wr W46 (by omega)
        have KF46 := KF45.wr W46 (Or.inl (List.mem_singleton.mpr rfl))
        clear V46'
        refine own_step (b := T46.setTop (mkF m 356 #[.val (.int p0), .val (.int p1), .val (.int p2), .val (.int p3), .val (.int p4), .val (.int p5), .val (.int ca), .val (.int cb), .val (.int cc), .val (.int cd), .val (.int ce), .val (.int (p5 &&& (3 : Int32))), .unset, .unset] [(.ref a8), (.ref a8)])) (fun t k => XS.dup X46.here hx rfl (hb hby at_355) rfl rfl k) ?_
        refine own_step (b := T46.setTop (mkF m 358 #[.val (.int p0), .val (.int p1), .val (.int p2), .val (.int p3), .val (.int p4), .val (.int p5), .val (.int ca), .val (.int cb), .val (.int cc), .val (.int cd), .val (.int ce), .val (.int (p5 &&& (3 : Int32))), .unset, .unset] [(.int (38 : Int32)), (.ref a8), (.ref a8)])) (fun t k => XS.bipush X46.here hx rfl (hb hby at_356) k) ?_
        refine own_step (b := T46.setTop (mkF m 360 #[.val (.int p0), .val (.int p1), .val (.int p2), .val (.int p3), .val (.int p4), .val (.int p5), .val (.int ca), .val (.int cb), .val (.int cc), .val (.int cd), .val (.int ce), .val (.int (p5 &&& (3 : Int32))), .unset, .unset] [(.int cd), (.int (38 : Int32)), (.ref a8), (.ref a8)])) (fun t k => XS.iload X46.here hx rfl (hb hby at_358) rfl k) ?_
        refine own_stC X46 hx hZ e46 V46s 38 (by decide) (by decide) (by decide) (Nat.le_of_ble_eq_true rfl) N46 (by omega) (hb hby at_360) (fun T47 h47 X47 e47 N47 W47 z47 V47 => ?_)
        have V47' : Arv Z h47 a8 k8 .char (64 : Int32) [.int ca, .int cb, .int cc, .int cd, .int cd, .int cd, .int cd, .int cd, .int cd, .int cd, .int cd, .int cd, .int cd, .int cd, .int cd, .int cd, .int cd, .int cd, .int cd, .int cd, .int cd, .int cd, .int cd, .int cd, .int cd, .int cd, .int cd, .int cd, .int cd, .int cd, .int cd, .int cd, .int cd, .int cd, .int cd, .int cd, .int cd, .int cd, .int (nar .char cd), .int 0, .int 0, .int 0, .int 0, .int 0, .int 0, .int 0, .int 0, .int 0, .int 0, .int 0, .int 0, .int 0, .int 0, .int 0, .int 0, .int 0, .int 0, .int 0, .int 0, .int 0, .int 0, .int 0, .int 0, .int 0] (.int 0) := V47
        show own_G p e below _ (T47.setTop (mkF m 361 #[.val (.int p0), .val (.int p1), .val (.int p2), .val (.int p3), .val (.int p4), .val (.int p5), .val (.int ca), .val (.int cb), .val (.int cc), .val (.int cd), .val (.int ce), .val (.int (p5 &&& (3 : Int32))), .unset, .unset] [(.ref a8)]))
        have V47s : Arv Z h47 a8 k8 .char (64 : Int32) [.int ca, .int cb, .int cc, .int cd, .int cd, .int cd, .int cd, .int cd, .int cd, .int cd, .int cd, .int cd, .int cd, .int cd, .int cd, .int cd, .int cd, .int cd, .int cd, .int cd, .int cd, .int cd, .int cd, .int cd, .int cd, .int cd, .int cd, .int cd, .int cd, .int cd, .int cd, .int cd, .int cd, .int cd, .int cd, .int cd, .int cd, .int cd, .int cd, .int 0, .int 0, .int 0, .int 0, .int 0, .int 0, .int 0, .int 0, .int 0, .int 0, .int 0, .int 0, .int 0, .int 0, .int 0, .int 0, .int 0, .int 0, .int 0, .int 0, .int 0, .int 0, .int 0, .int 0, .int 0] (.int 0) := by have q := V47'; rw [own_narC hcd.1.1 hcd.1.2] at q; exact q
        have OL47 := OL46.wr W47 (by omega)
        have KF47 := KF46.wr W47 (Or.inl (List.mem_singleton.mpr rfl))
        clear V47'
        refine own_step (b := T47.setTop (mkF m 362 #[.val (.int p0), .val (.int p1), .val (.int p2), .val (.int p3), .val (.int p4), .val (.int p5), .val (.int ca), .val (.int cb), .val (.int cc), .val (.int cd), .val (.int ce), .val (.int (p5 &&& (3 : Int32))), .unset, .unset] [(.ref a8), (.ref a8)])) (fun t k => XS.dup X47.here hx rfl (hb hby at_361) rfl rfl k) ?_
        refine own_step (b := T47.setTop (mkF m 364 #[.val (.int p0), .val (.int p1), .val (.int p2), .val (.int p3), .val (.int p4), .val (.int p5), .val (.int ca), .val (.int cb), .val (.int cc), .val (.int cd), .val (.int ce), .val (.int (p5 &&& (3 : Int32))), .unset, .unset] [(.int (39 : Int32)), (.ref a8), (.ref a8)])) (fun t k => XS.bipush X47.here hx rfl (hb hby at_362) k) ?_
        refine own_step (b := T47.setTop (mkF m 366 #[.val (.int p0), .val (.int p1), .val (.int p2), .val (.int p3), .val (.int p4), .val (.int p5), .val (.int ca), .val (.int cb), .val (.int cc), .val (.int cd), .val (.int ce), .val (.int (p5 &&& (3 : Int32))), .unset, .unset] [(.int cd), (.int (39 : Int32)), (.ref a8), (.ref a8)])) (fun t k => XS.iload X47.here hx rfl (hb hby at_364) rfl k) ?_
        refine own_stC X47 hx hZ e47 V47s 39 (by decide) (by decide) (by decide) (Nat.le_of_ble_eq_true rfl) N47 (by omega) (hb hby at_366) (fun T48 h48 X48 e48 N48 W48 z48 V48 => ?_)
        have V48' : Arv Z h48 a8 k8 .char (64 : Int32) [.int ca, .int cb, .int cc, .int cd, .int cd, .int cd, .int cd, .int cd, .int cd, .int cd, .int cd, .int cd, .int cd, .int cd, .int cd, .int cd, .int cd, .int cd, .int cd, .int cd, .int cd, .int cd, .int cd, .int cd, .int cd, .int cd, .int cd, .int cd, .int cd, .int cd, .int cd, .int cd, .int cd, .int cd, .int cd, .int cd, .int cd, .int cd, .int cd, .int (nar .char cd), .int 0, .int 0, .int 0, .int 0, .int 0, .int 0, .int 0, .int 0, .int 0, .int 0, .int 0, .int 0, .int 0, .int 0, .int 0, .int 0, .int 0, .int 0, .int 0, .int 0, .int 0, .int 0, .int 0, .int 0] (.int 0) := V48
        show own_G p e below _ (T48.setTop (mkF m 367 #[.val (.int p0), .val (.int p1), .val (.int p2), .val (.int p3), .val (.int p4), .val (.int p5), .val (.int ca), .val (.int cb), .val (.int cc), .val (.int cd), .val (.int ce), .val (.int (p5 &&& (3 : Int32))), .unset, .unset] [(.ref a8)]))
        have V48s : Arv Z h48 a8 k8 .char (64 : Int32) [.int ca, .int cb, .int cc, .int cd, .int cd, .int cd, .int cd, .int cd, .int cd, .int cd, .int cd, .int cd, .int cd, .int cd, .int cd, .int cd, .int cd, .int cd, .int cd, .int cd, .int cd, .int cd, .int cd, .int cd, .int cd, .int cd, .int cd, .int cd, .int cd, .int cd, .int cd, .int cd, .int cd, .int cd, .int cd, .int cd, .int cd, .int cd, .int cd, .int cd, .int 0, .int 0, .int 0, .int 0, .int 0, .int 0, .int 0, .int 0, .int 0, .int 0, .int 0, .int 0, .int 0, .int 0, .int 0, .int 0, .int 0, .int 0, .int 0, .int 0, .int 0, .int 0, .int 0, .int 0] (.int 0) := by have q := V48'; rw [own_narC hcd.1.1 hcd.1.2] at q; exact q
        have OL48 := OL47.wr W48 (by omega)
        have KF48 := KF47.wr W48 (Or.inl (List.mem_singleton.mpr rfl))
        clear V48'
        refine own_step (b := T48.setTop (mkF m 368 #[.val (.int p0), .val (.int p1), .val (.int p2), .val (.int p3), .val (.int p4), .val (.int p5), .val (.int ca), .val (.int cb), .val (.int cc), .val (.int cd), .val (.int ce), .val (.int (p5 &&& (3 : Int32))), .unset, .unset] [(.ref a8), (.ref a8)])) (fun t k => XS.dup X48.here hx rfl (hb hby at_367) rfl rfl k) ?_
        refine own_step (b := T48.setTop (mkF m 370 #[.val (.int p0), .val (.int p1), .val (.int p2), .val (.int p3), .val (.int p4), .val (.int p5), .val (.int ca), .val (.int cb), .val (.int cc), .val (.int cd), .val (.int ce), .val (.int (p5 &&& (3 : Int32))), .unset, .unset] [(.int (40 : Int32)), (.ref a8), (.ref a8)])) (fun t k => XS.bipush X48.here hx rfl (hb hby at_368) k) ?_
        refine own_step (b := T48.setTop (mkF m 372 #[.val (.int p0), .val (.int p1), .val (.int p2), .val (.int p3), .val (.int p4), .val (.int p5), .val (.int ca), .val (.int cb), .val (.int cc), .val (.int cd), .val (.int ce), .val (.int (p5 &&& (3 : Int32))), .unset, .unset] [(.int cd), (.int (40 : Int32)), (.ref a8), (.ref a8)])) (fun t k => XS.iload X48.here hx rfl (hb hby at_370) rfl k) ?_
        refine own_stC X48 hx hZ e48 V48s 40 (by decide) (by decide) (by decide) (Nat.le_of_ble_eq_true rfl) N48 (by omega) (hb hby at_372) (fun T49 h49 X49 e49 N49 W49 z49 V49 => ?_)
        have V49' : Arv Z h49 a8 k8 .char (64 : Int32) [.int ca, .int cb, .int cc, .int cd, .int cd, .int cd, .int cd, .int cd, .int cd, .int cd, .int cd, .int cd, .int cd, .int cd, .int cd, .int cd, .int cd, .int cd, .int cd, .int cd, .int cd, .int cd, .int cd, .int cd, .int cd, .int cd, .int cd, .int cd, .int cd, .int cd, .int cd, .int cd, .int cd, .int cd, .int cd, .int cd, .int cd, .int cd, .int cd, .int cd, .int (nar .char cd), .int 0, .int 0, .int 0, .int 0, .int 0, .int 0, .int 0, .int 0, .int 0, .int 0, .int 0, .int 0, .int 0, .int 0, .int 0, .int 0, .int 0, .int 0, .int 0, .int 0, .int 0, .int 0, .int 0] (.int 0) := V49
        show own_G p e below _ (T49.setTop (mkF m 373 #[.val (.int p0), .val (.int p1), .val (.int p2), .val (.int p3), .val (.int p4), .val (.int p5), .val (.int ca), .val (.int cb), .val (.int cc), .val (.int cd), .val (.int ce), .val (.int (p5 &&& (3 : Int32))), .unset, .unset] [(.ref a8)]))
        have V49s : Arv Z h49 a8 k8 .char (64 : Int32) [.int ca, .int cb, .int cc, .int cd, .int cd, .int cd, .int cd, .int cd, .int cd, .int cd, .int cd, .int cd, .int cd, .int cd, .int cd, .int cd, .int cd, .int cd, .int cd, .int cd, .int cd, .int cd, .int cd, .int cd, .int cd, .int cd, .int cd, .int cd, .int cd, .int cd, .int cd, .int cd, .int cd, .int cd, .int cd, .int cd, .int cd, .int cd, .int cd, .int cd, .int cd, .int 0, .int 0, .int 0, .int 0, .int 0, .int 0, .int 0, .int 0, .int 0, .int 0, .int 0, .int 0, .int 0, .int 0, .int 0, .int 0, .int 0, .int 0, .int 0, .int 0, .int 0, .int 0, .int 0] (.int 0) := by have q := V49'; rw [own_narC hcd.1.1 hcd.1.2] at q; exact q
        have OL49 := OL48.wr W49 (by omega)
        have KF49 := KF48.wr W49 (Or.inl (List.mem_singleton.mpr rfl))
        clear V49'
        refine own_step (b := T49.setTop (mkF m 374 #[.val (.int p0), .val (.int p1), .val (.int p2), .val (.int p3), .val (.int p4), .val (.int p5), .val (.int ca), .val (.int cb), .val (.int cc), .val (.int cd), .val (.int ce), .val (.int (p5 &&& (3 : Int32))), .unset, .unset] [(.ref a8), (.ref a8)])) (fun t k => XS.dup X49.here hx rfl (hb hby at_373) rfl rfl k) ?_
        refine own_step (b := T49.setTop (mkF m 376 #[.val (.int p0), .val (.int p1), .val (.int p2), .val (.int p3), .val (.int p4), .val (.int p5), .val (.int ca), .val (.int cb), .val (.int cc), .val (.int cd), .val (.int ce), .val (.int (p5 &&& (3 : Int32))), .unset, .unset] [(.int (41 : Int32)), (.ref a8), (.ref a8)])) (fun t k => XS.bipush X49.here hx rfl (hb hby at_374) k) ?_
        refine own_step (b := T49.setTop (mkF m 378 #[.val (.int p0), .val (.int p1), .val (.int p2), .val (.int p3), .val (.int p4), .val (.int p5), .val (.int ca), .val (.int cb), .val (.int cc), .val (.int cd), .val (.int ce), .val (.int (p5 &&& (3 : Int32))), .unset, .unset] [(.int cd), (.int (41 : Int32)), (.ref a8), (.ref a8)])) (fun t k => XS.iload X49.here hx rfl (hb hby at_376) rfl k) ?_
        refine own_stC X49 hx hZ e49 V49s 41 (by decide) (by decide) (by decide) (Nat.le_of_ble_eq_true rfl) N49 (by omega) (hb hby at_378) (fun T50 h50 X50 e50 N50 W50 z50 V50 => ?_)
        have V50' : Arv Z h50 a8 k8 .char (64 : Int32) [.int ca, .int cb, .int cc, .int cd, .int cd, .int cd, .int cd, .int cd, .int cd, .int cd, .int cd, .int cd, .int cd, .int cd, .int cd, .int cd, .int cd, .int cd, .int cd, .int cd, .int cd, .int cd, .int cd, .int cd, .int cd, .int cd, .int cd, .int cd, .int cd, .int cd, .int cd, .int cd, .int cd, .int cd, .int cd, .int cd, .int cd, .int cd, .int cd, .int cd, .int cd, .int (nar .char cd), .int 0, .int 0, .int 0, .int 0, .int 0, .int 0, .int 0, .int 0, .int 0, .int 0, .int 0, .int 0, .int 0, .int 0, .int 0, .int 0, .int 0, .int 0, .int 0, .int 0, .int 0, .int 0] (.int 0) := V50
        show own_G p e below _ (T50.setTop (mkF m 379 #[.val (.int p0), .val (.int p1), .val (.int p2), .val (.int p3), .val (.int p4), .val (.int p5), .val (.int ca), .val (.int cb), .val (.int cc), .val (.int cd), .val (.int ce), .val (.int (p5 &&& (3 : Int32))), .unset, .unset] [(.ref a8)]))
        have V50s : Arv Z h50 a8 k8 .char (64 : Int32) [.int ca, .int cb, .int cc, .int cd, .int cd, .int cd, .int cd, .int cd, .int cd, .int cd, .int cd, .int cd, .int cd, .int cd, .int cd, .int cd, .int cd, .int cd, .int cd, .int cd, .int cd, .int cd, .int cd, .int cd, .int cd, .int cd, .int cd, .int cd, .int cd, .int cd, .int cd, .int cd, .int cd, .int cd, .int cd, .int cd, .int cd, .int cd, .int cd, .int cd, .int cd, .int cd, .int 0, .int 0, .int 0, .int 0, .int 0, .int 0, .int 0, .int 0, .int 0, .int 0, .int 0, .int 0, .int 0, .int 0, .int 0, .int 0, .int 0, .int 0, .int 0, .int 0, .int 0, .int 0] (.int 0) := by have q := V50'; rw [own_narC hcd.1.1 hcd.1.2] at q; exact q
        have OL50 := OL49.wr W50 (by omega)
        have KF50 := KF49.wr W50 (Or.inl (List.mem_singleton.mpr rfl))
        clear V50'
        refine own_step (b := T50.setTop (mkF m 380 #[.val (.int p0), .val (.int p1), .val (.int p2), .val (.int p3), .val (.int p4), .val (.int p5), .val (.int ca), .val (.int cb), .val (.int cc), .val (.int cd), .val (.int ce), .val (.int (p5 &&& (3 : Int32))), .unset, .unset] [(.ref a8), (.ref a8)])) (fun t k => XS.dup X50.here hx rfl (hb hby at_379) rfl rfl k) ?_
        refine own_step (b := T50.setTop (mkF m 382 #[.val (.int p0), .val (.int p1), .val (.int p2), .val (.int p3), .val (.int p4), .val (.int p5), .val (.int ca), .val (.int cb), .val (.int cc), .val (.int cd), .val (.int ce), .val (.int (p5 &&& (3 : Int32))), .unset, .unset] [(.int (42 : Int32)), (.ref a8), (.ref a8)])) (fun t k => XS.bipush X50.here hx rfl (hb hby at_380) k) ?_
        refine own_step (b := T50.setTop (mkF m 384 #[.val (.int p0), .val (.int p1), .val (.int p2), .val (.int p3), .val (.int p4), .val (.int p5), .val (.int ca), .val (.int cb), .val (.int cc), .val (.int cd), .val (.int ce), .val (.int (p5 &&& (3 : Int32))), .unset, .unset] [(.int cd), (.int (42 : Int32)), (.ref a8), (.ref a8)])) (fun t k => XS.iload X50.here hx rfl (hb hby at_382) rfl k) ?_
        refine own_stC X50 hx hZ e50 V50s 42 (by decide) (by decide) (by decide) (Nat.le_of_ble_eq_true rfl) N50 (by omega) (hb hby at_384) (fun T51 h51 X51 e51 N51 W51 z51 V51 => ?_)
        have V51' : Arv Z h51 a8 k8 .char (64 : Int32) [.int ca, .int cb, .int cc, .int cd, .int cd, .int cd, .int cd, .int cd, .int cd, .int cd, .int cd, .int cd, .int cd, .int cd, .int cd, .int cd, .int cd, .int cd, .int cd, .int cd, .int cd, .int cd, .int cd, .int cd, .int cd, .int cd, .int cd, .int cd, .int cd, .int cd, .int cd, .int cd, .int cd, .int cd, .int cd, .int cd, .int cd, .int cd, .int cd, .int cd, .int cd, .int cd, .int (nar .char cd), .int 0, .int 0, .int 0, .int 0, .int 0, .int 0, .int 0, .int 0, .int 0, .int 0, .int 0, .int 0, .int 0, .int 0, .int 0, .int 0, .int 0, .int 0, .int 0, .int 0, .int 0] (.int 0) := V51
        show own_G p e below _ (T51.setTop (mkF m 385 #[.val (.int p0), .val (.int p1), .val (.int p2), .val (.int p3), .val (.int p4), .val (.int p5), .val (.int ca), .val (.int cb), .val (.int cc), .val (.int cd), .val (.int ce), .val (.int (p5 &&& (3 : Int32))), .unset, .unset] [(.ref a8)]))
        have V51s : Arv Z h51 a8 k8 .char (64 : Int32) [.int ca, .int cb, .int cc, .int cd, .int cd, .int cd, .int cd, .int cd, .int cd, .int cd, .int cd, .int cd, .int cd, .int cd, .int cd, .int cd, .int cd, .int cd, .int cd, .int cd, .int cd, .int cd, .int cd, .int cd, .int cd, .int cd, .int cd, .int cd, .int cd, .int cd, .int cd, .int cd, .int cd, .int cd, .int cd, .int cd, .int cd, .int cd, .int cd, .int cd, .int cd, .int cd, .int cd, .int 0, .int 0, .int 0, .int 0, .int 0, .int 0, .int 0, .int 0, .int 0, .int 0, .int 0, .int 0, .int 0, .int 0, .int 0, .int 0, .int 0, .int 0, .int 0, .int 0, .int 0] (.int 0) := by have q := V51'; rw [own_narC hcd.1.1 hcd.1.2] at q; exact q
        have OL51 := OL50.wr W51 (by omega)
        have KF51 := KF50.wr W51 (Or.inl (List.mem_singleton.mpr rfl))
        clear V51'
        refine own_step (b := T51.setTop (mkF m 386 #[.val (.int p0), .val (.int p1), .val (.int p2), .val (.int p3), .val (.int p4), .val (.int p5), .val (.int ca), .val (.int cb), .val (.int cc), .val (.int cd), .val (.int ce), .val (.int (p5 &&& (3 : Int32))), .unset, .unset] [(.ref a8), (.ref a8)])) (fun t k => XS.dup X51.here hx rfl (hb hby at_385) rfl rfl k) ?_
        refine own_step (b := T51.setTop (mkF m 388 #[.val (.int p0), .val (.int p1), .val (.int p2), .val (.int p3), .val (.int p4), .val (.int p5), .val (.int ca), .val (.int cb), .val (.int cc), .val (.int cd), .val (.int ce), .val (.int (p5 &&& (3 : Int32))), .unset, .unset] [(.int (43 : Int32)), (.ref a8), (.ref a8)])) (fun t k => XS.bipush X51.here hx rfl (hb hby at_386) k) ?_
        refine own_step (b := T51.setTop (mkF m 390 #[.val (.int p0), .val (.int p1), .val (.int p2), .val (.int p3), .val (.int p4), .val (.int p5), .val (.int ca), .val (.int cb), .val (.int cc), .val (.int cd), .val (.int ce), .val (.int (p5 &&& (3 : Int32))), .unset, .unset] [(.int cd), (.int (43 : Int32)), (.ref a8), (.ref a8)])) (fun t k => XS.iload X51.here hx rfl (hb hby at_388) rfl k) ?_
        refine own_stC X51 hx hZ e51 V51s 43 (by decide) (by decide) (by decide) (Nat.le_of_ble_eq_true rfl) N51 (by omega) (hb hby at_390) (fun T52 h52 X52 e52 N52 W52 z52 V52 => ?_)
        have V52' : Arv Z h52 a8 k8 .char (64 : Int32) [.int ca, .int cb, .int cc, .int cd, .int cd, .int cd, .int cd, .int cd, .int cd, .int cd, .int cd, .int cd, .int cd, .int cd, .int cd, .int cd, .int cd, .int cd, .int cd, .int cd, .int cd, .int cd, .int cd, .int cd, .int cd, .int cd, .int cd, .int cd, .int cd, .int cd, .int cd, .int cd, .int cd, .int cd, .int cd, .int cd, .int cd, .int cd, .int cd, .int cd, .int cd, .int cd, .int cd, .int (nar .char cd), .int 0, .int 0, .int 0, .int 0, .int 0, .int 0, .int 0, .int 0, .int 0, .int 0, .int 0, .int 0, .int 0, .int 0, .int 0, .int 0, .int 0, .int 0, .int 0, .int 0] (.int 0) := V52
        show own_G p e below _ (T52.setTop (mkF m 391 #[.val (.int p0), .val (.int p1), .val (.int p2), .val (.int p3), .val (.int p4), .val (.int p5), .val (.int ca), .val (.int cb), .val (.int cc), .val (.int cd), .val (.int ce), .val (.int (p5 &&& (3 : Int32))), .unset, .unset] [(.ref a8)]))
        have V52s : Arv Z h52 a8 k8 .char (64 : Int32) [.int ca, .int cb, .int cc, .int cd, .int cd, .int cd, .int cd, .int cd, .int cd, .int cd, .int cd, .int cd, .int cd, .int cd, .int cd, .int cd, .int cd, .int cd, .int cd, .int cd, .int cd, .int cd, .int cd, .int cd, .int cd, .int cd, .int cd, .int cd, .int cd, .int cd, .int cd, .int cd, .int cd, .int cd, .int cd, .int cd, .int cd, .int cd, .int cd, .int cd, .int cd, .int cd, .int cd, .int cd, .int 0, .int 0, .int 0, .int 0, .int 0, .int 0, .int 0, .int 0, .int 0, .int 0, .int 0, .int 0, .int 0, .int 0, .int 0, .int 0, .int 0, .int 0, .int 0, .int 0] (.int 0) := by have q := V52'; rw [own_narC hcd.1.1 hcd.1.2] at q; exact q
        have OL52 := OL51.wr W52 (by omega)
        have KF52 := KF51.wr W52 (Or.inl (List.mem_singleton.mpr rfl))
        clear V52'
        refine own_step (b := T52.setTop (mkF m 392 #[.val (.int p0), .val (.int p1), .val (.int p2), .val (.int p3), .val (.int p4), .val (.int p5), .val (.int ca), .val (.int cb), .val (.int cc), .val (.int cd), .val (.int ce), .val (.int (p5 &&& (3 : Int32))), .unset, .unset] [(.ref a8), (.ref a8)])) (fun t k => XS.dup X52.here hx rfl (hb hby at_391) rfl rfl k) ?_
        refine own_step (b := T52.setTop (mkF m 394 #[.val (.int p0), .val (.int p1), .val (.int p2), .val (.int p3), .val (.int p4), .val (.int p5), .val (.int ca), .val (.int cb), .val (.int cc), .val (.int cd), .val (.int ce), .val (.int (p5 &&& (3 : Int32))), .unset, .unset] [(.int (44 : Int32)), (.ref a8), (.ref a8)])) (fun t k => XS.bipush X52.here hx rfl (hb hby at_392) k) ?_
        refine own_step (b := T52.setTop (mkF m 396 #[.val (.int p0), .val (.int p1), .val (.int p2), .val (.int p3), .val (.int p4), .val (.int p5), .val (.int ca), .val (.int cb), .val (.int cc), .val (.int cd), .val (.int ce), .val (.int (p5 &&& (3 : Int32))), .unset, .unset] [(.int cd), (.int (44 : Int32)), (.ref a8), (.ref a8)])) (fun t k => XS.iload X52.here hx rfl (hb hby at_394) rfl k) ?_
        refine own_stC X52 hx hZ e52 V52s 44 (by decide) (by decide) (by decide) (Nat.le_of_ble_eq_true rfl) N52 (by omega) (hb hby at_396) (fun T53 h53 X53 e53 N53 W53 z53 V53 => ?_)
        have V53' : Arv Z h53 a8 k8 .char (64 : Int32) [.int ca, .int cb, .int cc, .int cd, .int cd, .int cd, .int cd, .int cd, .int cd, .int cd, .int cd, .int cd, .int cd, .int cd, .int cd, .int cd, .int cd, .int cd, .int cd, .int cd, .int cd, .int cd, .int cd, .int cd, .int cd, .int cd, .int cd, .int cd, .int cd, .int cd, .int cd, .int cd, .int cd, .int cd, .int cd, .int cd, .int cd, .int cd, .int cd, .int cd, .int cd, .int cd, .int cd, .int cd, .int (nar .char cd), .int 0, .int 0, .int 0, .int 0, .int 0, .int 0, .int 0, .int 0, .int 0, .int 0, .int 0, .int 0, .int 0, .int 0, .int 0, .int 0, .int 0, .int 0, .int 0] (.int 0) := V53
        show own_G p e below _ (T53.setTop (mkF m 397 #[.val (.int p0), .val (.int p1), .val (.int p2), .val (.int p3), .val (.int p4), .val (.int p5), .val (.int ca), .val (.int cb), .val (.int cc), .val (.int cd), .val (.int ce), .val (.int (p5 &&& (3 : Int32))), .unset, .unset] [(.ref a8)]))
        have V53s : Arv Z h53 a8 k8 .char (64 : Int32) [.int ca, .int cb, .int cc, .int cd, .int cd, .int cd, .int cd, .int cd, .int cd, .int cd, .int cd, .int cd, .int cd, .int cd, .int cd, .int cd, .int cd, .int cd, .int cd, .int cd, .int cd, .int cd, .int cd, .int cd, .int cd, .int cd, .int cd, .int cd, .int cd, .int cd, .int cd, .int cd, .int cd, .int cd, .int cd, .int cd, .int cd, .int cd, .int cd, .int cd, .int cd, .int cd, .int cd, .int cd, .int cd, .int 0, .int 0, .int 0, .int 0, .int 0, .int 0, .int 0, .int 0, .int 0, .int 0, .int 0, .int 0, .int 0, .int 0, .int 0, .int 0, .int 0, .int 0, .int 0] (.int 0) := by have q := V53'; rw [own_narC hcd.1.1 hcd.1.2] at q; exact q
        have OL53 := OL52.wr W53 (by omega)
        have KF53 := KF52.wr W53 (Or.inl (List.mem_singleton.mpr rfl))
        clear V53'
        refine own_step (b := T53.setTop (mkF m 398 #[.val (.int p0), .val (.int p1), .val (.int p2), .val (.int p3), .val (.int p4), .val (.int p5), .val (.int ca), .val (.int cb), .val (.int cc), .val (.int cd), .val (.int ce), .val (.int (p5 &&& (3 : Int32))), .unset, .unset] [(.ref a8), (.ref a8)])) (fun t k => XS.dup X53.here hx rfl (hb hby at_397) rfl rfl k) ?_
        refine own_step (b := T53.setTop (mkF m 400 #[.val (.int p0), .val (.int p1), .val (.int p2), .val (.int p3), .val (.int p4), .val (.int p5), .val (.int ca), .val (.int cb), .val (.int cc), .val (.int cd), .val (.int ce), .val (.int (p5 &&& (3 : Int32))), .unset, .unset] [(.int (45 : Int32)), (.ref a8), (.ref a8)])) (fun t k => XS.bipush X53.here hx rfl (hb hby at_398) k) ?_
        refine own_step (b := T53.setTop (mkF m 402 #[.val (.int p0), .val (.int p1), .val (.int p2), .val (.int p3), .val (.int p4), .val (.int p5), .val (.int ca), .val (.int cb), .val (.int cc), .val (.int cd), .val (.int ce), .val (.int (p5 &&& (3 : Int32))), .unset, .unset] [(.int cd), (.int (45 : Int32)), (.ref a8), (.ref a8)])) (fun t k => XS.iload X53.here hx rfl (hb hby at_400) rfl k) ?_
        refine own_stC X53 hx hZ e53 V53s 45 (by decide) (by decide) (by decide) (Nat.le_of_ble_eq_true rfl) N53 (by omega) (hb hby at_402) (fun T54 h54 X54 e54 N54 W54 z54 V54 => ?_)
        have V54' : Arv Z h54 a8 k8 .char (64 : Int32) [.int ca, .int cb, .int cc, .int cd, .int cd, .int cd, .int cd, .int cd, .int cd, .int cd, .int cd, .int cd, .int cd, .int cd, .int cd, .int cd, .int cd, .int cd, .int cd, .int cd, .int cd, .int cd, .int cd, .int cd, .int cd, .int cd, .int cd, .int cd, .int cd, .int cd, .int cd, .int cd, .int cd, .int cd, .int cd, .int cd, .int cd, .int cd, .int cd, .int cd, .int cd, .int cd, .int cd, .int cd, .int cd, .int (nar .char cd), .int 0, .int 0, .int 0, .int 0, .int 0, .int 0, .int 0, .int 0, .int 0, .int 0, .int 0, .int 0, .int 0, .int 0, .int 0, .int 0, .int 0, .int 0] (.int 0) := V54
        show own_G p e below _ (T54.setTop (mkF m 403 #[.val (.int p0), .val (.int p1), .val (.int p2), .val (.int p3), .val (.int p4), .val (.int p5), .val (.int ca), .val (.int cb), .val (.int cc), .val (.int cd), .val (.int ce), .val (.int (p5 &&& (3 : Int32))), .unset, .unset] [(.ref a8)]))
        have V54s : Arv Z h54 a8 k8 .char (64 : Int32) [.int ca, .int cb, .int cc, .int cd, .int cd, .int cd, .int cd, .int cd, .int cd, .int cd, .int cd, .int cd, .int cd, .int cd, .int cd, .int cd, .int cd, .int cd, .int cd, .int cd, .int cd, .int cd, .int cd, .int cd, .int cd, .int cd, .int cd, .int cd, .int cd, .int cd, .int cd, .int cd, .int cd, .int cd, .int cd, .int cd, .int cd, .int cd, .int cd, .int cd, .int cd, .int cd, .int cd, .int cd, .int cd, .int cd, .int 0, .int 0, .int 0, .int 0, .int 0, .int 0, .int 0, .int 0, .int 0, .int 0, .int 0, .int 0, .int 0, .int 0, .int 0, .int 0, .int 0, .int 0] (.int 0) := by have q := V54'; rw [own_narC hcd.1.1 hcd.1.2] at q; exact q
        have OL54 := OL53.wr W54 (by omega)
        have KF54 := KF53.wr W54 (Or.inl (List.mem_singleton.mpr rfl))
        clear V54'
        refine own_step (b := T54.setTop (mkF m 404 #[.val (.int p0), .val (.int p1), .val (.int p2), .val (.int p3), .val (.int p4), .val (.int p5), .val (.int ca), .val (.int cb), .val (.int cc), .val (.int cd), .val (.int ce), .val (.int (p5 &&& (3 : Int32))), .unset, .unset] [(.ref a8), (.ref a8)])) (fun t k => XS.dup X54.here hx rfl (hb hby at_403) rfl rfl k) ?_
        refine own_step (b := T54.setTop (mkF m 406 #[.val (.int p0), .val (.int p1), .val (.int p2), .val (.int p3), .val (.int p4), .val (.int p5), .val (.int ca), .val (.int cb), .val (.int cc), .val (.int cd), .val (.int ce), .val (.int (p5 &&& (3 : Int32))), .unset, .unset] [(.int (46 : Int32)), (.ref a8), (.ref a8)])) (fun t k => XS.bipush X54.here hx rfl (hb hby at_404) k) ?_
        refine own_step (b := T54.setTop (mkF m 408 #[.val (.int p0), .val (.int p1), .val (.int p2), .val (.int p3), .val (.int p4), .val (.int p5), .val (.int ca), .val (.int cb), .val (.int cc), .val (.int cd), .val (.int ce), .val (.int (p5 &&& (3 : Int32))), .unset, .unset] [(.int cd), (.int (46 : Int32)), (.ref a8), (.ref a8)])) (fun t k => XS.iload X54.here hx rfl (hb hby at_406) rfl k) ?_
        refine own_stC X54 hx hZ e54 V54s 46 (by decide) (by decide) (by decide) (Nat.le_of_ble_eq_true rfl) N54 (by omega) (hb hby at_408) (fun T55 h55 X55 e55 N55 W55 z55 V55 => ?_)
        have V55' : Arv Z h55 a8 k8 .char (64 : Int32) [.int ca, .int cb, .int cc, .int cd, .int cd, .int cd, .int cd, .int cd, .int cd, .int cd, .int cd, .int cd, .int cd, .int cd, .int cd, .int cd, .int cd, .int cd, .int cd, .int cd, .int cd, .int cd, .int cd, .int cd, .int cd, .int cd, .int cd, .int cd, .int cd, .int cd, .int cd, .int cd, .int cd, .int cd, .int cd, .int cd, .int cd, .int cd, .int cd, .int cd, .int cd, .int cd, .int cd, .int cd, .int cd, .int cd, .int (nar .char cd), .int 0, .int 0, .int 0, .int 0, .int 0, .int 0, .int 0, .int 0, .int 0, .int 0, .int 0, .int 0, .int 0, .int 0, .int 0, .int 0, .int 0] (.int 0) := V55
        show own_G p e below _ (T55.setTop (mkF m 409 #[.val (.int p0), .val (.int p1), .val (.int p2), .val (.int p3), .val (.int p4), .val (.int p5), .val (.int ca), .val (.int cb), .val (.int cc), .val (.int cd), .val (.int ce), .val (.int (p5 &&& (3 : Int32))), .unset, .unset] [(.ref a8)]))
        have V55s : Arv Z h55 a8 k8 .char (64 : Int32) [.int ca, .int cb, .int cc, .int cd, .int cd, .int cd, .int cd, .int cd, .int cd, .int cd, .int cd, .int cd, .int cd, .int cd, .int cd, .int cd, .int cd, .int cd, .int cd, .int cd, .int cd, .int cd, .int cd, .int cd, .int cd, .int cd, .int cd, .int cd, .int cd, .int cd, .int cd, .int cd, .int cd, .int cd, .int cd, .int cd, .int cd, .int cd, .int cd, .int cd, .int cd, .int cd, .int cd, .int cd, .int cd, .int cd, .int cd, .int 0, .int 0, .int 0, .int 0, .int 0, .int 0, .int 0, .int 0, .int 0, .int 0, .int 0, .int 0, .int 0, .int 0, .int 0, .int 0, .int 0] (.int 0) := by have q := V55'; rw [own_narC hcd.1.1 hcd.1.2] at q; exact q
        have OL55 := OL54.wr W55 (by omega)
        have KF55 := KF54.wr W55 (Or.inl (List.mem_singleton.mpr rfl))
        clear V55'
        refine own_step (b := T55.setTop (mkF m 410 #[.val (.int p0), .val (.int p1), .val (.int p2), .val (.int p3), .val (.int p4), .val (.int p5), .val (.int ca), .val (.int cb), .val (.int cc), .val (.int cd), .val (.int ce), .val (.int (p5 &&& (3 : Int32))), .unset, .unset] [(.ref a8), (.ref a8)])) (fun t k => XS.dup X55.here hx rfl (hb hby at_409) rfl rfl k) ?_
        refine own_step (b := T55.setTop (mkF m 412 #[.val (.int p0), .val (.int p1), .val (.int p2), .val (.int p3), .val (.int p4), .val (.int p5), .val (.int ca), .val (.int cb), .val (.int cc), .val (.int cd), .val (.int ce), .val (.int (p5 &&& (3 : Int32))), .unset, .unset] [(.int (47 : Int32)), (.ref a8), (.ref a8)])) (fun t k => XS.bipush X55.here hx rfl (hb hby at_410) k) ?_
        refine own_step (b := T55.setTop (mkF m 414 #[.val (.int p0), .val (.int p1), .val (.int p2), .val (.int p3), .val (.int p4), .val (.int p5), .val (.int ca), .val (.int cb), .val (.int cc), .val (.int cd), .val (.int ce), .val (.int (p5 &&& (3 : Int32))), .unset, .unset] [(.int cd), (.int (47 : Int32)), (.ref a8), (.ref a8)])) (fun t k => XS.iload X55.here hx rfl (hb hby at_412) rfl k) ?_
        refine own_stC X55 hx hZ e55 V55s 47 (by decide) (by decide) (by decide) (Nat.le_of_ble_eq_true rfl) N55 (by omega) (hb hby at_414) (fun T56 h56 X56 e56 N56 W56 z56 V56 => ?_)
        have V56' : Arv Z h56 a8 k8 .char (64 : Int32) [.int ca, .int cb, .int cc, .int cd, .int cd, .int cd, .int cd, .int cd, .int cd, .int cd, .int cd, .int cd, .int cd, .int cd, .int cd, .int cd, .int cd, .int cd, .int cd, .int cd, .int cd, .int cd, .int cd, .int cd, .int cd, .int cd, .int cd, .int cd, .int cd, .int cd, .int cd, .int cd, .int cd, .int cd, .int cd, .int cd, .int cd, .int cd, .int cd, .int cd, .int cd, .int cd, .int cd, .int cd, .int cd, .int cd, .int cd, .int (nar .char cd), .int 0, .int 0, .int 0, .int 0, .int 0, .int 0, .int 0, .int 0, .int 0, .int 0, .int 0, .int 0, .int 0, .int 0, .int 0, .int 0] (.int 0) := V56
        show own_G p e below _ (T56.setTop (mkF m 415 #[.val (.int p0), .val (.int p1), .val (.int p2), .val (.int p3), .val (.int p4), .val (.int p5), .val (.int ca), .val (.int cb), .val (.int cc), .val (.int cd), .val (.int ce), .val (.int (p5 &&& (3 : Int32))), .unset, .unset] [(.ref a8)]))
        have V56s : Arv Z h56 a8 k8 .char (64 : Int32) [.int ca, .int cb, .int cc, .int cd, .int cd, .int cd, .int cd, .int cd, .int cd, .int cd, .int cd, .int cd, .int cd, .int cd, .int cd, .int cd, .int cd, .int cd, .int cd, .int cd, .int cd, .int cd, .int cd, .int cd, .int cd, .int cd, .int cd, .int cd, .int cd, .int cd, .int cd, .int cd, .int cd, .int cd, .int cd, .int cd, .int cd, .int cd, .int cd, .int cd, .int cd, .int cd, .int cd, .int cd, .int cd, .int cd, .int cd, .int cd, .int 0, .int 0, .int 0, .int 0, .int 0, .int 0, .int 0, .int 0, .int 0, .int 0, .int 0, .int 0, .int 0, .int 0, .int 0, .int 0] (.int 0) := by have q := V56'; rw [own_narC hcd.1.1 hcd.1.2] at q; exact q
        have OL56 := OL55.wr W56 (by omega)
        have KF56 := KF55.wr W56 (Or.inl (List.mem_singleton.mpr rfl))
        clear V56'
        refine own_step (b := T56.setTop (mkF m 416 #[.val (.int p0), .val (.int p1), .val (.int p2), .val (.int p3), .val (.int p4), .val (.int p5), .val (.int ca), .val (.int cb), .val (.int cc), .val (.int cd), .val (.int ce), .val (.int (p5 &&& (3 : Int32))), .unset, .unset] [(.ref a8), (.ref a8)])) (fun t k => XS.dup X56.here hx rfl (hb hby at_415) rfl rfl k) ?_
        refine own_step (b := T56.setTop (mkF m 418 #[.val (.int p0), .val (.int p1), .val (.int p2), .val (.int p3), .val (.int p4), .val (.int p5), .val (.int ca), .val (.int cb), .val (.int cc), .val (.int cd), .val (.int ce), .val (.int (p5 &&& (3 : Int32))), .unset, .unset] [(.int (48 : Int32)), (.ref a8), (.ref a8)])) (fun t k => XS.bipush X56.here hx rfl (hb hby at_416) k) ?_
        refine own_step (b := T56.setTop (mkF m 420 #[.val (.int p0), .val (.int p1), .val (.int p2), .val (.int p3), .val (.int p4), .val (.int p5), .val (.int ca), .val (.int cb), .val (.int cc), .val (.int cd), .val (.int ce), .val (.int (p5 &&& (3 : Int32))), .unset, .unset] [(.int cd), (.int (48 : Int32)), (.ref a8), (.ref a8)])) (fun t k => XS.iload X56.here hx rfl (hb hby at_418) rfl k) ?_
        refine own_stC X56 hx hZ e56 V56s 48 (by decide) (by decide) (by decide) (Nat.le_of_ble_eq_true rfl) N56 (by omega) (hb hby at_420) (fun T57 h57 X57 e57 N57 W57 z57 V57 => ?_)
        have V57' : Arv Z h57 a8 k8 .char (64 : Int32) [.int ca, .int cb, .int cc, .int cd, .int cd, .int cd, .int cd, .int cd, .int cd, .int cd, .int cd, .int cd, .int cd, .int cd, .int cd, .int cd, .int cd, .int cd, .int cd, .int cd, .int cd, .int cd, .int cd, .int cd, .int cd, .int cd, .int cd, .int cd, .int cd, .int cd, .int cd, .int cd, .int cd, .int cd, .int cd, .int cd, .int cd, .int cd, .int cd, .int cd, .int cd, .int cd, .int cd, .int cd, .int cd, .int cd, .int cd, .int cd, .int (nar .char cd), .int 0, .int 0, .int 0, .int 0, .int 0, .int 0, .int 0, .int 0, .int 0, .int 0, .int 0, .int 0, .int 0, .int 0, .int 0] (.int 0) := V57
        show own_G p e below _ (T57.setTop (mkF m 421 #[.val (.int p0), .val (.int p1), .val (.int p2), .val (.int p3), .val (.int p4), .val (.int p5), .val (.int ca), .val (.int cb), .val (.int cc), .val (.int cd), .val (.int ce), .val (.int (p5 &&& (3 : Int32))), .unset, .unset] [(.ref a8)]))
        have V57s : Arv Z h57 a8 k8 .char (64 : Int32) [.int ca, .int cb, .int cc, .int cd, .int cd, .int cd, .int cd, .int cd, .int cd, .int cd, .int cd, .int cd, .int cd, .int cd, .int cd, .int cd, .int cd, .int cd, .int cd, .int cd, .int cd, .int cd, .int cd, .int cd, .int cd, .int cd, .int cd, .int cd, .int cd, .int cd, .int cd, .int cd, .int cd, .int cd, .int cd, .int cd, .int cd, .int cd, .int cd, .int cd, .int cd, .int cd, .int cd, .int cd, .int cd, .int cd, .int cd, .int cd, .int cd, .int 0, .int 0, .int 0, .int 0, .int 0, .int 0, .int 0, .int 0, .int 0, .int 0, .int 0, .int 0, .int 0, .int 0, .int 0] (.int 0) := by have q := V57'; rw [own_narC hcd.1.1 hcd.1.2] at q; exact q
        have OL57 := OL56.wr W57 (by omega)
        have KF57 := KF56.wr W57 (Or.inl (List.mem_singleton.mpr rfl))
        clear V57'
        refine own_step (b := T57.setTop (mkF m 422 #[.val (.int p0), .val (.int p1), .val (.int p2), .val (.int p3), .val (.int p4), .val (.int p5), .val (.int ca), .val (.int cb), .val (.int cc), .val (.int cd), .val (.int ce), .val (.int (p5 &&& (3 : Int32))), .unset, .unset] [(.ref a8), (.ref a8)])) (fun t k => XS.dup X57.here hx rfl (hb hby at_421) rfl rfl k) ?_
        refine own_step (b := T57.setTop (mkF m 424 #[.val (.int p0), .val (.int p1), .val (.int p2), .val (.int p3), .val (.int p4), .val (.int p5), .val (.int ca), .val (.int cb), .val (.int cc), .val (.int cd), .val (.int ce), .val (.int (p5 &&& (3 : Int32))), .unset, .unset] [(.int (49 : Int32)), (.ref a8), (.ref a8)])) (fun t k => XS.bipush X57.here hx rfl (hb hby at_422) k) ?_
        refine own_step (b := T57.setTop (mkF m 426 #[.val (.int p0), .val (.int p1), .val (.int p2), .val (.int p3), .val (.int p4), .val (.int p5), .val (.int ca), .val (.int cb), .val (.int cc), .val (.int cd), .val (.int ce), .val (.int (p5 &&& (3 : Int32))), .unset, .unset] [(.int cd), (.int (49 : Int32)), (.ref a8), (.ref a8)])) (fun t k => XS.iload X57.here hx rfl (hb hby at_424) rfl k) ?_
        refine own_stC X57 hx hZ e57 V57s 49 (by decide) (by decide) (by decide) (Nat.le_of_ble_eq_true rfl) N57 (by omega) (hb hby at_426) (fun T58 h58 X58 e58 N58 W58 z58 V58 => ?_)
        have V58' : Arv Z h58 a8 k8 .char (64 : Int32) [.int ca, .int cb, .int cc, .int cd, .int cd, .int cd, .int cd, .int cd, .int cd, .int cd, .int cd, .int cd, .int cd, .int cd, .int cd, .int cd, .int cd, .int cd, .int cd, .int cd, .int cd, .int cd, .int cd, .int cd, .int cd, .int cd, .int cd, .int cd, .int cd, .int cd, .int cd, .int cd, .int cd, .int cd, .int cd, .int cd, .int cd, .int cd, .int cd, .int cd, .int cd, .int cd, .int cd, .int cd, .int cd, .int cd, .int cd, .int cd, .int cd, .int (nar .char cd), .int 0, .int 0, .int 0, .int 0, .int 0, .int 0, .int 0, .int 0, .int 0, .int 0, .int 0, .int 0, .int 0, .int 0] (.int 0) := V58
        show own_G p e below _ (T58.setTop (mkF m 427 #[.val (.int p0), .val (.int p1), .val (.int p2), .val (.int p3), .val (.int p4), .val (.int p5), .val (.int ca), .val (.int cb), .val (.int cc), .val (.int cd), .val (.int ce), .val (.int (p5 &&& (3 : Int32))), .unset, .unset] [(.ref a8)]))
        have V58s : Arv Z h58 a8 k8 .char (64 : Int32) [.int ca, .int cb, .int cc, .int cd, .int cd, .int cd, .int cd, .int cd, .int cd, .int cd, .int cd, .int cd, .int cd, .int cd, .int cd, .int cd, .int cd, .int cd, .int cd, .int cd, .int cd, .int cd, .int cd, .int cd, .int cd, .int cd, .int cd, .int cd, .int cd, .int cd, .int cd, .int cd, .int cd, .int cd, .int cd, .int cd, .int cd, .int cd, .int cd, .int cd, .int cd, .int cd, .int cd, .int cd, .int cd, .int cd, .int cd, .int cd, .int cd, .int cd, .int 0, .int 0, .int 0, .int 0, .int 0, .int 0, .int 0, .int 0, .int 0, .int 0, .int 0, .int 0, .int 0, .int 0] (.int 0) := by have q := V58'; rw [own_narC hcd.1.1 hcd.1.2] at q; exact q
        have OL58 := OL57.wr W58 (by omega)
        have KF58 := KF57.wr W58 (Or.inl (List.mem_singleton.mpr rfl))
        clear V58'
        refine own_step (b := T58.setTop (mkF m 428 #[.val (.int p0), .val (.int p1), .val (.int p2), .val (.int p3), .val (.int p4), .val (.int p5), .val (.int ca), .val (.int cb), .val (.int cc), .val (.int cd), .val (.int ce), .val (.int (p5 &&& (3 : Int32))), .unset, .unset] [(.ref a8), (.ref a8)])) (fun t k => XS.dup X58.here hx rfl (hb hby at_427) rfl rfl k) ?_
        refine own_step (b := T58.setTop (mkF m 430 #[.val (.int p0), .val (.int p1), .val (.int p2), .val (.int p3), .val (.int p4), .val (.int p5), .val (.int ca), .val (.int cb), .val (.int cc), .val (.int cd), .val (.int ce), .val (.int (p5 &&& (3 : Int32))), .unset, .unset] [(.int (50 : Int32)), (.ref a8), (.ref a8)])) (fun t k => XS.bipush X58.here hx rfl (hb hby at_428) k) ?_
        refine own_step (b := T58.setTop (mkF m 432 #[.val (.int p0), .val (.int p1), .val (.int p2), .val (.int p3), .val (.int p4), .val (.int p5), .val (.int ca), .val (.int cb), .val (.int cc), .val (.int cd), .val (.int ce), .val (.int (p5 &&& (3 : Int32))), .unset, .unset] [(.int cd), (.int (50 : Int32)), (.ref a8), (.ref a8)])) (fun t k => XS.iload X58.here hx rfl (hb hby at_430) rfl k) ?_
        refine own_stC X58 hx hZ e58 V58s 50 (by decide) (by decide) (by decide) (Nat.le_of_ble_eq_true rfl) N58 (by omega) (hb hby at_432) (fun T59 h59 X59 e59 N59 W59 z59 V59 => ?_)
        have V59' : Arv Z h59 a8 k8 .char (64 : Int32) [.int ca, .int cb, .int cc, .int cd, .int cd, .int cd, .int cd, .int cd, .int cd, .int cd, .int cd, .int cd, .int cd, .int cd, .int cd, .int cd, .int cd, .int cd, .int cd, .int cd, .int cd, .int cd, .int cd, .int cd, .int cd, .int cd, .int cd, .int cd, .int cd, .int cd, .int cd, .int cd, .int cd, .int cd, .int cd, .int cd, .int cd, .int cd, .int cd, .int cd, .int cd, .int cd, .int cd, .int cd, .int cd, .int cd, .int cd, .int cd, .int cd, .int cd, .int (nar .char cd), .int 0, .int 0, .int 0, .int 0, .int 0, .int 0, .int 0, .int 0, .int 0, .int 0, .int 0, .int 0, .int 0] (.int 0) := V59
        show own_G p e below _ (T59.setTop (mkF m 433 #[.val (.int p0), .val (.int p1), .val (.int p2), .val (.int p3), .val (.int p4), .val (.int p5), .val (.int ca), .val (.int cb), .val (.int cc), .val (.int cd), .val (.int ce), .val (.int (p5 &&& (3 : Int32))), .unset, .unset] [(.ref a8)]))
        have V59s : Arv Z h59 a8 k8 .char (64 : Int32) [.int ca, .int cb, .int cc, .int cd, .int cd, .int cd, .int cd, .int cd, .int cd, .int cd, .int cd, .int cd, .int cd, .int cd, .int cd, .int cd, .int cd, .int cd, .int cd, .int cd, .int cd, .int cd, .int cd, .int cd, .int cd, .int cd, .int cd, .int cd, .int cd, .int cd, .int cd, .int cd, .int cd, .int cd, .int cd, .int cd, .int cd, .int cd, .int cd, .int cd, .int cd, .int cd, .int cd, .int cd, .int cd, .int cd, .int cd, .int cd, .int cd, .int cd, .int cd, .int 0, .int 0, .int 0, .int 0, .int 0, .int 0, .int 0, .int 0, .int 0, .int 0, .int 0, .int 0, .int 0] (.int 0) := by have q := V59'; rw [own_narC hcd.1.1 hcd.1.2] at q; exact q
        have OL59 := OL58.wr W59 (by omega)
        have KF59 := KF58.wr W59 (Or.inl (List.mem_singleton.mpr rfl))
        clear V59'
        refine own_step (b := T59.setTop (mkF m 434 #[.val (.int p0), .val (.int p1), .val (.int p2), .val (.int p3), .val (.int p4), .val (.int p5), .val (.int ca), .val (.int cb), .val (.int cc), .val (.int cd), .val (.int ce), .val (.int (p5 &&& (3 : Int32))), .unset, .unset] [(.ref a8), (.ref a8)])) (fun t k => XS.dup X59.here hx rfl (hb hby at_433) rfl rfl k) ?_
        refine own_step (b := T59.setTop (mkF m 436 #[.val (.int p0), .val (.int p1), .val (.int p2), .val (.int p3), .val (.int p4), .val (.int p5), .val (.int ca), .val (.int cb), .val (.int cc), .val (.int cd), .val (.int ce), .val (.int (p5 &&& (3 : Int32))), .unset, .unset] [(.int (51 : Int32)), (.ref a8), (.ref a8)])) (fun t k => XS.bipush X59.here hx rfl (hb hby at_434) k) ?_
        refine own_step (b := T59.setTop (mkF m 438 #[.val (.int p0), .val (.int p1), .val (.int p2), .val (.int p3), .val (.int p4), .val (.int p5), .val (.int ca), .val (.int cb), .val (.int cc), .val (.int cd), .val (.int ce), .val (.int (p5 &&& (3 : Int32))), .unset, .unset] [(.int cd), (.int (51 : Int32)), (.ref a8), (.ref a8)])) (fun t k => XS.iload X59.here hx rfl (hb hby at_436) rfl k) ?_
        refine own_stC X59 hx hZ e59 V59s 51 (by decide) (by decide) (by decide) (Nat.le_of_ble_eq_true rfl) N59 (by omega) (hb hby at_438) (fun T60 h60 X60 e60 N60 W60 z60 V60 => ?_)
        have V60' : Arv Z h60 a8 k8 .char (64 : Int32) [.int ca, .int cb, .int cc, .int cd, .int cd, .int cd, .int cd, .int cd, .int cd, .int cd, .int cd, .int cd, .int cd, .int cd, .int cd, .int cd, .int cd, .int cd, .int cd, .int cd, .int cd, .int cd, .int cd, .int cd, .int cd, .int cd, .int cd, .int cd, .int cd, .int cd, .int cd, .int cd, .int cd, .int cd, .int cd, .int cd, .int cd, .int cd, .int cd, .int cd, .int cd, .int cd, .int cd, .int cd, .int cd, .int cd, .int cd, .int cd, .int cd, .int cd, .int cd, .int (nar .char cd), .int 0, .int 0, .int 0, .int 0, .int 0, .int 0, .int 0, .int 0, .int 0, .int 0, .int 0, .int 0] (.int 0) := V60
        show own_G p e below _ (T60.setTop (mkF m 439 #[.val (.int p0), .val (.int p1), .val (.int p2), .val (.int p3), .val (.int p4), .val (.int p5), .val (.int ca), .val (.int cb), .val (.int cc), .val (.int cd), .val (.int ce), .val (.int (p5 &&& (3 : Int32))), .unset, .unset] [(.ref a8)]))
        have V60s : Arv Z h60 a8 k8 .char (64 : Int32) [.int ca, .int cb, .int cc, .int cd, .int cd, .int cd, .int cd, .int cd, .int cd, .int cd, .int cd, .int cd, .int cd, .int cd, .int cd, .int cd, .int cd, .int cd, .int cd, .int cd, .int cd, .int cd, .int cd, .int cd, .int cd, .int cd, .int cd, .int cd, .int cd, .int cd, .int cd, .int cd, .int cd, .int cd, .int cd, .int cd, .int cd, .int cd, .int cd, .int cd, .int cd, .int cd, .int cd, .int cd, .int cd, .int cd, .int cd, .int cd, .int cd, .int cd, .int cd, .int cd, .int 0, .int 0, .int 0, .int 0, .int 0, .int 0, .int 0, .int 0, .int 0, .int 0, .int 0, .int 0] (.int 0) := by have q := V60'; rw [own_narC hcd.1.1 hcd.1.2] at q; exact q
        have OL60 := OL59.wr W60 (by omega)
        have KF60 := KF59.wr W60 (Or.inl (List.mem_singleton.mpr rfl))
        clear V60'
        refine own_step (b := T60.setTop (mkF m 440 #[.val (.int p0), .val (.int p1), .val (.int p2), .val (.int p3), .val (.int p4), .val (.int p5), .val (.int ca), .val (.int cb), .val (.int cc), .val (.int cd), .val (.int ce), .val (.int (p5 &&& (3 : Int32))), .unset, .unset] [(.ref a8), (.ref a8)])) (fun t k => XS.dup X60.here hx rfl (hb hby at_439) rfl rfl k) ?_
        refine own_step (b := T60.setTop (mkF m 442 #[.val (.int p0), .val (.int p1), .val (.int p2), .val (.int p3), .val (.int p4), .val (.int p5), .val (.int ca), .val (.int cb), .val (.int cc), .val (.int cd), .val (.int ce), .val (.int (p5 &&& (3 : Int32))), .unset, .unset] [(.int (52 : Int32)), (.ref a8), (.ref a8)])) (fun t k => XS.bipush X60.here hx rfl (hb hby at_440) k) ?_
        refine own_step (b := T60.setTop (mkF m 444 #[.val (.int p0), .val (.int p1), .val (.int p2), .val (.int p3), .val (.int p4), .val (.int p5), .val (.int ca), .val (.int cb), .val (.int cc), .val (.int cd), .val (.int ce), .val (.int (p5 &&& (3 : Int32))), .unset, .unset] [(.int cd), (.int (52 : Int32)), (.ref a8), (.ref a8)])) (fun t k => XS.iload X60.here hx rfl (hb hby at_442) rfl k) ?_
        refine own_stC X60 hx hZ e60 V60s 52 (by decide) (by decide) (by decide) (Nat.le_of_ble_eq_true rfl) N60 (by omega) (hb hby at_444) (fun T61 h61 X61 e61 N61 W61 z61 V61 => ?_)
        have V61' : Arv Z h61 a8 k8 .char (64 : Int32) [.int ca, .int cb, .int cc, .int cd, .int cd, .int cd, .int cd, .int cd, .int cd, .int cd, .int cd, .int cd, .int cd, .int cd, .int cd, .int cd, .int cd, .int cd, .int cd, .int cd, .int cd, .int cd, .int cd, .int cd, .int cd, .int cd, .int cd, .int cd, .int cd, .int cd, .int cd, .int cd, .int cd, .int cd, .int cd, .int cd, .int cd, .int cd, .int cd, .int cd, .int cd, .int cd, .int cd, .int cd, .int cd, .int cd, .int cd, .int cd, .int cd, .int cd, .int cd, .int cd, .int (nar .char cd), .int 0, .int 0, .int 0, .int 0, .int 0, .int 0, .int 0, .int 0, .int 0, .int 0, .int 0] (.int 0) := V61
        show own_G p e below _ (T61.setTop (mkF m 445 #[.val (.int p0), .val (.int p1), .val (.int p2), .val (.int p3), .val (.int p4), .val (.int p5), .val (.int ca), .val (.int cb), .val (.int cc), .val (.int cd), .val (.int ce), .val (.int (p5 &&& (3 : Int32))), .unset, .unset] [(.ref a8)]))
        have V61s : Arv Z h61 a8 k8 .char (64 : Int32) [.int ca, .int cb, .int cc, .int cd, .int cd, .int cd, .int cd, .int cd, .int cd, .int cd, .int cd, .int cd, .int cd, .int cd, .int cd, .int cd, .int cd, .int cd, .int cd, .int cd, .int cd, .int cd, .int cd, .int cd, .int cd, .int cd, .int cd, .int cd, .int cd, .int cd, .int cd, .int cd, .int cd, .int cd, .int cd, .int cd, .int cd, .int cd, .int cd, .int cd, .int cd, .int cd, .int cd, .int cd, .int cd, .int cd, .int cd, .int cd, .int cd, .int cd, .int cd, .int cd, .int cd, .int 0, .int 0, .int 0, .int 0, .int 0, .int 0, .int 0, .int 0, .int 0, .int 0, .int 0] (.int 0) := by have q := V61'; rw [own_narC hcd.1.1 hcd.1.2] at q; exact q
        have OL61 := OL60.wr W61 (by omega)
        have KF61 := KF60.wr W61 (Or.inl (List.mem_singleton.mpr rfl))
        clear V61'
        refine own_step (b := T61.setTop (mkF m 446 #[.val (.int p0), .val (.int p1), .val (.int p2), .val (.int p3), .val (.int p4), .val (.int p5), .val (.int ca), .val (.int cb), .val (.int cc), .val (.int cd), .val (.int ce), .val (.int (p5 &&& (3 : Int32))), .unset, .unset] [(.ref a8), (.ref a8)])) (fun t k => XS.dup X61.here hx rfl (hb hby at_445) rfl rfl k) ?_
        refine own_step (b := T61.setTop (mkF m 448 #[.val (.int p0), .val (.int p1), .val (.int p2), .val (.int p3), .val (.int p4), .val (.int p5), .val (.int ca), .val (.int cb), .val (.int cc), .val (.int cd), .val (.int ce), .val (.int (p5 &&& (3 : Int32))), .unset, .unset] [(.int (53 : Int32)), (.ref a8), (.ref a8)])) (fun t k => XS.bipush X61.here hx rfl (hb hby at_446) k) ?_
        refine own_step (b := T61.setTop (mkF m 450 #[.val (.int p0), .val (.int p1), .val (.int p2), .val (.int p3), .val (.int p4), .val (.int p5), .val (.int ca), .val (.int cb), .val (.int cc), .val (.int cd), .val (.int ce), .val (.int (p5 &&& (3 : Int32))), .unset, .unset] [(.int cd), (.int (53 : Int32)), (.ref a8), (.ref a8)])) (fun t k => XS.iload X61.here hx rfl (hb hby at_448) rfl k) ?_
        refine own_stC X61 hx hZ e61 V61s 53 (by decide) (by decide) (by decide) (Nat.le_of_ble_eq_true rfl) N61 (by omega) (hb hby at_450) (fun T62 h62 X62 e62 N62 W62 z62 V62 => ?_)
        have V62' : Arv Z h62 a8 k8 .char (64 : Int32) [.int ca, .int cb, .int cc, .int cd, .int cd, .int cd, .int cd, .int cd, .int cd, .int cd, .int cd, .int cd, .int cd, .int cd, .int cd, .int cd, .int cd, .int cd, .int cd, .int cd, .int cd, .int cd, .int cd, .int cd, .int cd, .int cd, .int cd, .int cd, .int cd, .int cd, .int cd, .int cd, .int cd, .int cd, .int cd, .int cd, .int cd, .int cd, .int cd, .int cd, .int cd, .int cd, .int cd, .int cd, .int cd, .int cd, .int cd, .int cd, .int cd, .int cd, .int cd, .int cd, .int cd, .int (nar .char cd), .int 0, .int 0, .int 0, .int 0, .int 0, .int 0, .int 0, .int 0, .int 0, .int 0] (.int 0) := V62
        show own_G p e below _ (T62.setTop (mkF m 451 #[.val (.int p0), .val (.int p1), .val (.int p2), .val (.int p3), .val (.int p4), .val (.int p5), .val (.int ca), .val (.int cb), .val (.int cc), .val (.int cd), .val (.int ce), .val (.int (p5 &&& (3 : Int32))), .unset, .unset] [(.ref a8)]))
        have V62s : Arv Z h62 a8 k8 .char (64 : Int32) [.int ca, .int cb, .int cc, .int cd, .int cd, .int cd, .int cd, .int cd, .int cd, .int cd, .int cd, .int cd, .int cd, .int cd, .int cd, .int cd, .int cd, .int cd, .int cd, .int cd, .int cd, .int cd, .int cd, .int cd, .int cd, .int cd, .int cd, .int cd, .int cd, .int cd, .int cd, .int cd, .int cd, .int cd, .int cd, .int cd, .int cd, .int cd, .int cd, .int cd, .int cd, .int cd, .int cd, .int cd, .int cd, .int cd, .int cd, .int cd, .int cd, .int cd, .int cd, .int cd, .int cd, .int cd, .int 0, .int 0, .int 0, .int 0, .int 0, .int 0, .int 0, .int 0, .int 0, .int 0] (.int 0) := by have q := V62'; rw [own_narC hcd.1.1 hcd.1.2] at q; exact q
        have OL62 := OL61.wr W62 (by omega)
        have KF62 := KF61.wr W62 (Or.inl (List.mem_singleton.mpr rfl))
        clear V62'
        refine own_step (b := T62.setTop (mkF m 452 #[.val (.int p0), .val (.int p1), .val (.int p2), .val (.int p3), .val (.int p4), .val (.int p5), .val (.int ca), .val (.int cb), .val (.int cc), .val (.int cd), .val (.int ce), .val (.int (p5 &&& (3 : Int32))), .unset, .unset] [(.ref a8), (.ref a8)])) (fun t k => XS.dup X62.here hx rfl (hb hby at_451) rfl rfl k) ?_
        refine own_step (b := T62.setTop (mkF m 454 #[.val (.int p0), .val (.int p1), .val (.int p2), .val (.int p3), .val (.int p4), .val (.int p5), .val (.int ca), .val (.int cb), .val (.int cc), .val (.int cd), .val (.int ce), .val (.int (p5 &&& (3 : Int32))), .unset, .unset] [(.int (54 : Int32)), (.ref a8), (.ref a8)])) (fun t k => XS.bipush X62.here hx rfl (hb hby at_452) k) ?_
        refine own_step (b := T62.setTop (mkF m 456 #[.val (.int p0), .val (.int p1), .val (.int p2), .val (.int p3), .val (.int p4), .val (.int p5), .val (.int ca), .val (.int cb), .val (.int cc), .val (.int cd), .val (.int ce), .val (.int (p5 &&& (3 : Int32))), .unset, .unset] [(.int cd), (.int (54 : Int32)), (.ref a8), (.ref a8)])) (fun t k => XS.iload X62.here hx rfl (hb hby at_454) rfl k) ?_
        refine own_stC X62 hx hZ e62 V62s 54 (by decide) (by decide) (by decide) (Nat.le_of_ble_eq_true rfl) N62 (by omega) (hb hby at_456) (fun T63 h63 X63 e63 N63 W63 z63 V63 => ?_)
        have V63' : Arv Z h63 a8 k8 .char (64 : Int32) [.int ca, .int cb, .int cc, .int cd, .int cd, .int cd, .int cd, .int cd, .int cd, .int cd, .int cd, .int cd, .int cd, .int cd, .int cd, .int cd, .int cd, .int cd, .int cd, .int cd, .int cd, .int cd, .int cd, .int cd, .int cd, .int cd, .int cd, .int cd, .int cd, .int cd, .int cd, .int cd, .int cd, .int cd, .int cd, .int cd, .int cd, .int cd, .int cd, .int cd, .int cd, .int cd, .int cd, .int cd, .int cd, .int cd, .int cd, .int cd, .int cd, .int cd, .int cd, .int cd, .int cd, .int cd, .int (nar .char cd), .int 0, .int 0, .int 0, .int 0, .int 0, .int 0, .int 0, .int 0, .int 0] (.int 0) := V63
        show own_G p e below _ (T63.setTop (mkF m 457 #[.val (.int p0), .val (.int p1), .val (.int p2), .val (.int p3), .val (.int p4), .val (.int p5), .val (.int ca), .val (.int cb), .val (.int cc), .val (.int cd), .val (.int ce), .val (.int (p5 &&& (3 : Int32))), .unset, .unset] [(.ref a8)]))
        have V63s : Arv Z h63 a8 k8 .char (64 : Int32) [.int ca, .int cb, .int cc, .int cd, .int cd, .int cd, .int cd, .int cd, .int cd, .int cd, .int cd, .int cd, .int cd, .int cd, .int cd, .int cd, .int cd, .int cd, .int cd, .int cd, .int cd, .int cd, .int cd, .int cd, .int cd, .int cd, .int cd, .int cd, .int cd, .int cd, .int cd, .int cd, .int cd, .int cd, .int cd, .int cd, .int cd, .int cd, .int cd, .int cd, .int cd, .int cd, .int cd, .int cd, .int cd, .int cd, .int cd, .int cd, .int cd, .int cd, .int cd, .int cd, .int cd, .int cd, .int cd, .int 0, .int 0, .int 0, .int 0, .int 0, .int 0, .int 0, .int 0, .int 0] (.int 0) := by have q := V63'; rw [own_narC hcd.1.1 hcd.1.2] at q; exact q
        have OL63 := OL62.wr W63 (by omega)
        have KF63 := KF62.wr W63 (Or.inl (List.mem_singleton.mpr rfl))
        clear V63'
        refine own_step (b := T63.setTop (mkF m 458 #[.val (.int p0), .val (.int p1), .val (.int p2), .val (.int p3), .val (.int p4), .val (.int p5), .val (.int ca), .val (.int cb), .val (.int cc), .val (.int cd), .val (.int ce), .val (.int (p5 &&& (3 : Int32))), .unset, .unset] [(.ref a8), (.ref a8)])) (fun t k => XS.dup X63.here hx rfl (hb hby at_457) rfl rfl k) ?_
        refine own_step (b := T63.setTop (mkF m 460 #[.val (.int p0), .val (.int p1), .val (.int p2), .val (.int p3), .val (.int p4), .val (.int p5), .val (.int ca), .val (.int cb), .val (.int cc), .val (.int cd), .val (.int ce), .val (.int (p5 &&& (3 : Int32))), .unset, .unset] [(.int (55 : Int32)), (.ref a8), (.ref a8)])) (fun t k => XS.bipush X63.here hx rfl (hb hby at_458) k) ?_
        refine own_step (b := T63.setTop (mkF m 462 #[.val (.int p0), .val (.int p1), .val (.int p2), .val (.int p3), .val (.int p4), .val (.int p5), .val (.int ca), .val (.int cb), .val (.int cc), .val (.int cd), .val (.int ce), .val (.int (p5 &&& (3 : Int32))), .unset, .unset] [(.int cd), (.int (55 : Int32)), (.ref a8), (.ref a8)])) (fun t k => XS.iload X63.here hx rfl (hb hby at_460) rfl k) ?_
        refine own_stC X63 hx hZ e63 V63s 55 (by decide) (by decide) (by decide) (Nat.le_of_ble_eq_true rfl) N63 (by omega) (hb hby at_462) (fun T64 h64 X64 e64 N64 W64 z64 V64 => ?_)
        have V64' : Arv Z h64 a8 k8 .char (64 : Int32) [.int ca, .int cb, .int cc, .int cd, .int cd, .int cd, .int cd, .int cd, .int cd, .int cd, .int cd, .int cd, .int cd, .int cd, .int cd, .int cd, .int cd, .int cd, .int cd, .int cd, .int cd, .int cd, .int cd, .int cd, .int cd, .int cd, .int cd, .int cd, .int cd, .int cd, .int cd, .int cd, .int cd, .int cd, .int cd, .int cd, .int cd, .int cd, .int cd, .int cd, .int cd, .int cd, .int cd, .int cd, .int cd, .int cd, .int cd, .int cd, .int cd, .int cd, .int cd, .int cd, .int cd, .int cd, .int cd, .int (nar .char cd), .int 0, .int 0, .int 0, .int 0, .int 0, .int 0, .int 0, .int 0] (.int 0) := V64
        show own_G p e below _ (T64.setTop (mkF m 463 #[.val (.int p0), .val (.int p1), .val (.int p2), .val (.int p3), .val (.int p4), .val (.int p5), .val (.int ca), .val (.int cb), .val (.int cc), .val (.int cd), .val (.int ce), .val (.int (p5 &&& (3 : Int32))), .unset, .unset] [(.ref a8)]))
        have V64s : Arv Z h64 a8 k8 .char (64 : Int32) [.int ca, .int cb, .int cc, .int cd, .int cd, .int cd, .int cd, .int cd, .int cd, .int cd, .int cd, .int cd, .int cd, .int cd, .int cd, .int cd, .int cd, .int cd, .int cd, .int cd, .int cd, .int cd, .int cd, .int cd, .int cd, .int cd, .int cd, .int cd, .int cd, .int cd, .int cd, .int cd, .int cd, .int cd, .int cd, .int cd, .int cd, .int cd, .int cd, .int cd, .int cd, .int cd, .int cd, .int cd, .int cd, .int cd, .int cd, .int cd, .int cd, .int cd, .int cd, .int cd, .int cd, .int cd, .int cd, .int cd, .int 0, .int 0, .int 0, .int 0, .int 0, .int 0, .int 0, .int 0] (.int 0) := by have q := V64'; rw [own_narC hcd.1.1 hcd.1.2] at q; exact q
        have OL64 := OL63.wr W64 (by omega)
        have KF64 := KF63.wr W64 (Or.inl (List.mem_singleton.mpr rfl))
        clear V64'
        refine own_step (b := T64.setTop (mkF m 464 #[.val (.int p0), .val (.int p1), .val (.int p2), .val (.int p3), .val (.int p4), .val (.int p5), .val (.int ca), .val (.int cb), .val (.int cc), .val (.int cd), .val (.int ce), .val (.int (p5 &&& (3 : Int32))), .unset, .unset] [(.ref a8), (.ref a8)])) (fun t k => XS.dup X64.here hx rfl (hb hby at_463) rfl rfl k) ?_
        refine own_step (b := T64.setTop (mkF m 466 #[.val (.int p0), .val (.int p1), .val (.int p2), .val (.int p3), .val (.int p4), .val (.int p5), .val (.int ca), .val (.int cb), .val (.int cc), .val (.int cd), .val (.int ce), .val (.int (p5 &&& (3 : Int32))), .unset, .unset] [(.int (56 : Int32)), (.ref a8), (.ref a8)])) (fun t k => XS.bipush X64.here hx rfl (hb hby at_464) k) ?_
        refine own_step (b := T64.setTop (mkF m 468 #[.val (.int p0), .val (.int p1), .val (.int p2), .val (.int p3), .val (.int p4), .val (.int p5), .val (.int ca), .val (.int cb), .val (.int cc), .val (.int cd), .val (.int ce), .val (.int (p5 &&& (3 : Int32))), .unset, .unset] [(.int cd), (.int (56 : Int32)), (.ref a8), (.ref a8)])) (fun t k => XS.iload X64.here hx rfl (hb hby at_466) rfl k) ?_
        refine own_stC X64 hx hZ e64 V64s 56 (by decide) (by decide) (by decide) (Nat.le_of_ble_eq_true rfl) N64 (by omega) (hb hby at_468) (fun T65 h65 X65 e65 N65 W65 z65 V65 => ?_)
        have V65' : Arv Z h65 a8 k8 .char (64 : Int32) [.int ca, .int cb, .int cc, .int cd, .int cd, .int cd, .int cd, .int cd, .int cd, .int cd, .int cd, .int cd, .int cd, .int cd, .int cd, .int cd, .int cd, .int cd, .int cd, .int cd, .int cd, .int cd, .int cd, .int cd, .int cd, .int cd, .int cd, .int cd, .int cd, .int cd, .int cd, .int cd, .int cd, .int cd, .int cd, .int cd, .int cd, .int cd, .int cd, .int cd, .int cd, .int cd, .int cd, .int cd, .int cd, .int cd, .int cd, .int cd, .int cd, .int cd, .int cd, .int cd, .int cd, .int cd, .int cd, .int cd, .int (nar .char cd), .int 0, .int 0, .int 0, .int 0, .int 0, .int 0, .int 0] (.int 0) := V65
        show own_G p e below _ (T65.setTop (mkF m 469 #[.val (.int p0), .val (.int p1), .val (.int p2), .val (.int p3), .val (.int p4), .val (.int p5), .val (.int ca), .val (.int cb), .val (.int cc), .val (.int cd), .val (.int ce), .val (.int (p5 &&& (3 : Int32))), .unset, .unset] [(.ref a8)]))
        have V65s : Arv Z h65 a8 k8 .char (64 : Int32) [.int ca, .int cb, .int cc, .int cd, .int cd, .int cd, .int cd, .int cd, .int cd, .int cd, .int cd, .int cd, .int cd, .int cd, .int cd, .int cd, .int cd, .int cd, .int cd, .int cd, .int cd, .int cd, .int cd, .int cd, .int cd, .int cd, .int cd, .int cd, .int cd, .int cd, .int cd, .int cd, .int cd, .int cd, .int cd, .int cd, .int cd, .int cd, .int cd, .int cd, .int cd, .int cd, .int cd, .int cd, .int cd, .int cd, .int cd, .int cd, .int cd, .int cd, .int cd, .int cd, .int cd, .int cd, .int cd, .int cd, .int cd, .int 0, .int 0, .int 0, .int 0, .int 0, .int 0, .int 0] (.int 0) := by have q := V65'; rw [own_narC hcd.1.1 hcd.1.2] at q; exact q
        have OL65 := OL64.wr W65 (by omega)
        have KF65 := KF64.wr W65 (Or.inl (List.mem_singleton.mpr rfl))
        clear V65'
        refine own_step (b := T65.setTop (mkF m 470 #[.val (.int p0), .val (.int p1), .val (.int p2), .val (.int p3), .val (.int p4), .val (.int p5), .val (.int ca), .val (.int cb), .val (.int cc), .val (.int cd), .val (.int ce), .val (.int (p5 &&& (3 : Int32))), .unset, .unset] [(.ref a8), (.ref a8)])) (fun t k => XS.dup X65.here hx rfl (hb hby at_469) rfl rfl k) ?_
        refine own_step (b := T65.setTop (mkF m 472 #[.val (.int p0), .val (.int p1), .val (.int p2), .val (.int p3), .val (.int p4), .val (.int p5), .val (.int ca), .val (.int cb), .val (.int cc), .val (.int cd), .val (.int ce), .val (.int (p5 &&& (3 : Int32))), .unset, .unset] [(.int (57 : Int32)), (.ref a8), (.ref a8)])) (fun t k => XS.bipush X65.here hx rfl (hb hby at_470) k) ?_
        refine own_step (b := T65.setTop (mkF m 474 #[.val (.int p0), .val (.int p1), .val (.int p2), .val (.int p3), .val (.int p4), .val (.int p5), .val (.int ca), .val (.int cb), .val (.int cc), .val (.int cd), .val (.int ce), .val (.int (p5 &&& (3 : Int32))), .unset, .unset] [(.int cd), (.int (57 : Int32)), (.ref a8), (.ref a8)])) (fun t k => XS.iload X65.here hx rfl (hb hby at_472) rfl k) ?_
        refine own_stC X65 hx hZ e65 V65s 57 (by decide) (by decide) (by decide) (Nat.le_of_ble_eq_true rfl) N65 (by omega) (hb hby at_474) (fun T66 h66 X66 e66 N66 W66 z66 V66 => ?_)
        have V66' : Arv Z h66 a8 k8 .char (64 : Int32) [.int ca, .int cb, .int cc, .int cd, .int cd, .int cd, .int cd, .int cd, .int cd, .int cd, .int cd, .int cd, .int cd, .int cd, .int cd, .int cd, .int cd, .int cd, .int cd, .int cd, .int cd, .int cd, .int cd, .int cd, .int cd, .int cd, .int cd, .int cd, .int cd, .int cd, .int cd, .int cd, .int cd, .int cd, .int cd, .int cd, .int cd, .int cd, .int cd, .int cd, .int cd, .int cd, .int cd, .int cd, .int cd, .int cd, .int cd, .int cd, .int cd, .int cd, .int cd, .int cd, .int cd, .int cd, .int cd, .int cd, .int cd, .int (nar .char cd), .int 0, .int 0, .int 0, .int 0, .int 0, .int 0] (.int 0) := V66
        show own_G p e below _ (T66.setTop (mkF m 475 #[.val (.int p0), .val (.int p1), .val (.int p2), .val (.int p3), .val (.int p4), .val (.int p5), .val (.int ca), .val (.int cb), .val (.int cc), .val (.int cd), .val (.int ce), .val (.int (p5 &&& (3 : Int32))), .unset, .unset] [(.ref a8)]))
        have V66s : Arv Z h66 a8 k8 .char (64 : Int32) [.int ca, .int cb, .int cc, .int cd, .int cd, .int cd, .int cd, .int cd, .int cd, .int cd, .int cd, .int cd, .int cd, .int cd, .int cd, .int cd, .int cd, .int cd, .int cd, .int cd, .int cd, .int cd, .int cd, .int cd, .int cd, .int cd, .int cd, .int cd, .int cd, .int cd, .int cd, .int cd, .int cd, .int cd, .int cd, .int cd, .int cd, .int cd, .int cd, .int cd, .int cd, .int cd, .int cd, .int cd, .int cd, .int cd, .int cd, .int cd, .int cd, .int cd, .int cd, .int cd, .int cd, .int cd, .int cd, .int cd, .int cd, .int cd, .int 0, .int 0, .int 0, .int 0, .int 0, .int 0] (.int 0) := by have q := V66'; rw [own_narC hcd.1.1 hcd.1.2] at q; exact q
        have OL66 := OL65.wr W66 (by omega)
        have KF66 := KF65.wr W66 (Or.inl (List.mem_singleton.mpr rfl))
        clear V66'
        refine own_step (b := T66.setTop (mkF m 476 #[.val (.int p0), .val (.int p1), .val (.int p2), .val (.int p3), .val (.int p4), .val (.int p5), .val (.int ca), .val (.int cb), .val (.int cc), .val (.int cd), .val (.int ce), .val (.int (p5 &&& (3 : Int32))), .unset, .unset] [(.ref a8), (.ref a8)])) (fun t k => XS.dup X66.here hx rfl (hb hby at_475) rfl rfl k) ?_
        refine own_step (b := T66.setTop (mkF m 478 #[.val (.int p0), .val (.int p1), .val (.int p2), .val (.int p3), .val (.int p4), .val (.int p5), .val (.int ca), .val (.int cb), .val (.int cc), .val (.int cd), .val (.int ce), .val (.int (p5 &&& (3 : Int32))), .unset, .unset] [(.int (58 : Int32)), (.ref a8), (.ref a8)])) (fun t k => XS.bipush X66.here hx rfl (hb hby at_476) k) ?_
        refine own_step (b := T66.setTop (mkF m 480 #[.val (.int p0), .val (.int p1), .val (.int p2), .val (.int p3), .val (.int p4), .val (.int p5), .val (.int ca), .val (.int cb), .val (.int cc), .val (.int cd), .val (.int ce), .val (.int (p5 &&& (3 : Int32))), .unset, .unset] [(.int cd), (.int (58 : Int32)), (.ref a8), (.ref a8)])) (fun t k => XS.iload X66.here hx rfl (hb hby at_478) rfl k) ?_
        refine own_stC X66 hx hZ e66 V66s 58 (by decide) (by decide) (by decide) (Nat.le_of_ble_eq_true rfl) N66 (by omega) (hb hby at_480) (fun T67 h67 X67 e67 N67 W67 z67 V67 => ?_)
        have V67' : Arv Z h67 a8 k8 .char (64 : Int32) [.int ca, .int cb, .int cc, .int cd, .int cd, .int cd, .int cd, .int cd, .int cd, .int cd, .int cd, .int cd, .int cd, .int cd, .int cd, .int cd, .int cd, .int cd, .int cd, .int cd, .int cd, .int cd, .int cd, .int cd, .int cd, .int cd, .int cd, .int cd, .int cd, .int cd, .int cd, .int cd, .int cd, .int cd, .int cd, .int cd, .int cd, .int cd, .int cd, .int cd, .int cd, .int cd, .int cd, .int cd, .int cd, .int cd, .int cd, .int cd, .int cd, .int cd, .int cd, .int cd, .int cd, .int cd, .int cd, .int cd, .int cd, .int cd, .int (nar .char cd), .int 0, .int 0, .int 0, .int 0, .int 0] (.int 0) := V67
        show own_G p e below _ (T67.setTop (mkF m 481 #[.val (.int p0), .val (.int p1), .val (.int p2), .val (.int p3), .val (.int p4), .val (.int p5), .val (.int ca), .val (.int cb), .val (.int cc), .val (.int cd), .val (.int ce), .val (.int (p5 &&& (3 : Int32))), .unset, .unset] [(.ref a8)]))
        have V67s : Arv Z h67 a8 k8 .char (64 : Int32) [.int ca, .int cb, .int cc, .int cd, .int cd, .int cd, .int cd, .int cd, .int cd, .int cd, .int cd, .int cd, .int cd, .int cd, .int cd, .int cd, .int cd, .int cd, .int cd, .int cd, .int cd, .int cd, .int cd, .int cd, .int cd, .int cd, .int cd, .int cd, .int cd, .int cd, .int cd, .int cd, .int cd, .int cd, .int cd, .int cd, .int cd, .int cd, .int cd, .int cd, .int cd, .int cd, .int cd, .int cd, .int cd, .int cd, .int cd, .int cd, .int cd, .int cd, .int cd, .int cd, .int cd, .int cd, .int cd, .int cd, .int cd, .int cd, .int cd, .int 0, .int 0, .int 0, .int 0, .int 0] (.int 0) := by have q := V67'; rw [own_narC hcd.1.1 hcd.1.2] at q; exact q
        have OL67 := OL66.wr W67 (by omega)
        have KF67 := KF66.wr W67 (Or.inl (List.mem_singleton.mpr rfl))
        clear V67'
        refine own_step (b := T67.setTop (mkF m 482 #[.val (.int p0), .val (.int p1), .val (.int p2), .val (.int p3), .val (.int p4), .val (.int p5), .val (.int ca), .val (.int cb), .val (.int cc), .val (.int cd), .val (.int ce), .val (.int (p5 &&& (3 : Int32))), .unset, .unset] [(.ref a8), (.ref a8)])) (fun t k => XS.dup X67.here hx rfl (hb hby at_481) rfl rfl k) ?_
        refine own_step (b := T67.setTop (mkF m 484 #[.val (.int p0), .val (.int p1), .val (.int p2), .val (.int p3), .val (.int p4), .val (.int p5), .val (.int ca), .val (.int cb), .val (.int cc), .val (.int cd), .val (.int ce), .val (.int (p5 &&& (3 : Int32))), .unset, .unset] [(.int (59 : Int32)), (.ref a8), (.ref a8)])) (fun t k => XS.bipush X67.here hx rfl (hb hby at_482) k) ?_
        refine own_step (b := T67.setTop (mkF m 486 #[.val (.int p0), .val (.int p1), .val (.int p2), .val (.int p3), .val (.int p4), .val (.int p5), .val (.int ca), .val (.int cb), .val (.int cc), .val (.int cd), .val (.int ce), .val (.int (p5 &&& (3 : Int32))), .unset, .unset] [(.int cd), (.int (59 : Int32)), (.ref a8), (.ref a8)])) (fun t k => XS.iload X67.here hx rfl (hb hby at_484) rfl k) ?_
        refine own_stC X67 hx hZ e67 V67s 59 (by decide) (by decide) (by decide) (Nat.le_of_ble_eq_true rfl) N67 (by omega) (hb hby at_486) (fun T68 h68 X68 e68 N68 W68 z68 V68 => ?_)
        have V68' : Arv Z h68 a8 k8 .char (64 : Int32) [.int ca, .int cb, .int cc, .int cd, .int cd, .int cd, .int cd, .int cd, .int cd, .int cd, .int cd, .int cd, .int cd, .int cd, .int cd, .int cd, .int cd, .int cd, .int cd, .int cd, .int cd, .int cd, .int cd, .int cd, .int cd, .int cd, .int cd, .int cd, .int cd, .int cd, .int cd, .int cd, .int cd, .int cd, .int cd, .int cd, .int cd, .int cd, .int cd, .int cd, .int cd, .int cd, .int cd, .int cd, .int cd, .int cd, .int cd, .int cd, .int cd, .int cd, .int cd, .int cd, .int cd, .int cd, .int cd, .int cd, .int cd, .int cd, .int cd, .int (nar .char cd), .int 0, .int 0, .int 0, .int 0] (.int 0) := V68
        show own_G p e below _ (T68.setTop (mkF m 487 #[.val (.int p0), .val (.int p1), .val (.int p2), .val (.int p3), .val (.int p4), .val (.int p5), .val (.int ca), .val (.int cb), .val (.int cc), .val (.int cd), .val (.int ce), .val (.int (p5 &&& (3 : Int32))), .unset, .unset] [(.ref a8)]))
        have V68s : Arv Z h68 a8 k8 .char (64 : Int32) [.int ca, .int cb, .int cc, .int cd, .int cd, .int cd, .int cd, .int cd, .int cd, .int cd, .int cd, .int cd, .int cd, .int cd, .int cd, .int cd, .int cd, .int cd, .int cd, .int cd, .int cd, .int cd, .int cd, .int cd, .int cd, .int cd, .int cd, .int cd, .int cd, .int cd, .int cd, .int cd, .int cd, .int cd, .int cd, .int cd, .int cd, .int cd, .int cd, .int cd, .int cd, .int cd, .int cd, .int cd, .int cd, .int cd, .int cd, .int cd, .int cd, .int cd, .int cd, .int cd, .int cd, .int cd, .int cd, .int cd, .int cd, .int cd, .int cd, .int cd, .int 0, .int 0, .int 0, .int 0] (.int 0) := by have q := V68'; rw [own_narC hcd.1.1 hcd.1.2] at q; exact q
        have OL68 := OL67.wr W68 (by omega)
        have KF68 := KF67.wr W68 (Or.inl (List.mem_singleton.mpr rfl))
        clear V68'
        refine own_step (b := T68.setTop (mkF m 488 #[.val (.int p0), .val (.int p1), .val (.int p2), .val (.int p3), .val (.int p4), .val (.int p5), .val (.int ca), .val (.int cb), .val (.int cc), .val (.int cd), .val (.int ce), .val (.int (p5 &&& (3 : Int32))), .unset, .unset] [(.ref a8), (.ref a8)])) (fun t k => XS.dup X68.here hx rfl (hb hby at_487) rfl rfl k) ?_
        refine own_step (b := T68.setTop (mkF m 490 #[.val (.int p0), .val (.int p1), .val (.int p2), .val (.int p3), .val (.int p4), .val (.int p5), .val (.int ca), .val (.int cb), .val (.int cc), .val (.int cd), .val (.int ce), .val (.int (p5 &&& (3 : Int32))), .unset, .unset] [(.int (60 : Int32)), (.ref a8), (.ref a8)])) (fun t k => XS.bipush X68.here hx rfl (hb hby at_488) k) ?_
        refine own_step (b := T68.setTop (mkF m 492 #[.val (.int p0), .val (.int p1), .val (.int p2), .val (.int p3), .val (.int p4), .val (.int p5), .val (.int ca), .val (.int cb), .val (.int cc), .val (.int cd), .val (.int ce), .val (.int (p5 &&& (3 : Int32))), .unset, .unset] [(.int cd), (.int (60 : Int32)), (.ref a8), (.ref a8)])) (fun t k => XS.iload X68.here hx rfl (hb hby at_490) rfl k) ?_
        refine own_stC X68 hx hZ e68 V68s 60 (by decide) (by decide) (by decide) (Nat.le_of_ble_eq_true rfl) N68 (by omega) (hb hby at_492) (fun T69 h69 X69 e69 N69 W69 z69 V69 => ?_)
        have V69' : Arv Z h69 a8 k8 .char (64 : Int32) [.int ca, .int cb, .int cc, .int cd, .int cd, .int cd, .int cd, .int cd, .int cd, .int cd, .int cd, .int cd, .int cd, .int cd, .int cd, .int cd, .int cd, .int cd, .int cd, .int cd, .int cd, .int cd, .int cd, .int cd, .int cd, .int cd, .int cd, .int cd, .int cd, .int cd, .int cd, .int cd, .int cd, .int cd, .int cd, .int cd, .int cd, .int cd, .int cd, .int cd, .int cd, .int cd, .int cd, .int cd, .int cd, .int cd, .int cd, .int cd, .int cd, .int cd, .int cd, .int cd, .int cd, .int cd, .int cd, .int cd, .int cd, .int cd, .int cd, .int cd, .int (nar .char cd), .int 0, .int 0, .int 0] (.int 0) := V69
        show own_G p e below _ (T69.setTop (mkF m 493 #[.val (.int p0), .val (.int p1), .val (.int p2), .val (.int p3), .val (.int p4), .val (.int p5), .val (.int ca), .val (.int cb), .val (.int cc), .val (.int cd), .val (.int ce), .val (.int (p5 &&& (3 : Int32))), .unset, .unset] [(.ref a8)]))
        have V69s : Arv Z h69 a8 k8 .char (64 : Int32) [.int ca, .int cb, .int cc, .int cd, .int cd, .int cd, .int cd, .int cd, .int cd, .int cd, .int cd, .int cd, .int cd, .int cd, .int cd, .int cd, .int cd, .int cd, .int cd, .int cd, .int cd, .int cd, .int cd, .int cd, .int cd, .int cd, .int cd, .int cd, .int cd, .int cd, .int cd, .int cd, .int cd, .int cd, .int cd, .int cd, .int cd, .int cd, .int cd, .int cd, .int cd, .int cd, .int cd, .int cd, .int cd, .int cd, .int cd, .int cd, .int cd, .int cd, .int cd, .int cd, .int cd, .int cd, .int cd, .int cd, .int cd, .int cd, .int cd, .int cd, .int cd, .int 0, .int 0, .int 0] (.int 0) := by have q := V69'; rw [own_narC hcd.1.1 hcd.1.2] at q; exact q
        have OL69 := OL68.wr W69 (by omega)
        have KF69 := KF68.wr W69 (Or.inl (List.mem_singleton.mpr rfl))
        clear V69'
        refine own_step (b := T69.setTop (mkF m 494 #[.val (.int p0), .val (.int p1), .val (.int p2), .val (.int p3), .val (.int p4), .val (.int p5), .val (.int ca), .val (.int cb), .val (.int cc), .val (.int cd), .val (.int ce), .val (.int (p5 &&& (3 : Int32))), .unset, .unset] [(.ref a8), (.ref a8)])) (fun t k => XS.dup X69.here hx rfl (hb hby at_493) rfl rfl k) ?_
        refine own_step (b := T69.setTop (mkF m 496 #[.val (.int p0), .val (.int p1), .val (.int p2), .val (.int p3), .val (.int p4), .val (.int p5), .val (.int ca), .val (.int cb), .val (.int cc), .val (.int cd), .val (.int ce), .val (.int (p5 &&& (3 : Int32))), .unset, .unset] [(.int (61 : Int32)), (.ref a8), (.ref a8)])) (fun t k => XS.bipush X69.here hx rfl (hb hby at_494) k) ?_
        refine own_step (b := T69.setTop (mkF m 498 #[.val (.int p0), .val (.int p1), .val (.int p2), .val (.int p3), .val (.int p4), .val (.int p5), .val (.int ca), .val (.int cb), .val (.int cc), .val (.int cd), .val (.int ce), .val (.int (p5 &&& (3 : Int32))), .unset, .unset] [(.int cd), (.int (61 : Int32)), (.ref a8), (.ref a8)])) (fun t k => XS.iload X69.here hx rfl (hb hby at_496) rfl k) ?_
        refine own_stC X69 hx hZ e69 V69s 61 (by decide) (by decide) (by decide) (Nat.le_of_ble_eq_true rfl) N69 (by omega) (hb hby at_498) (fun T70 h70 X70 e70 N70 W70 z70 V70 => ?_)
        have V70' : Arv Z h70 a8 k8 .char (64 : Int32) [.int ca, .int cb, .int cc, .int cd, .int cd, .int cd, .int cd, .int cd, .int cd, .int cd, .int cd, .int cd, .int cd, .int cd, .int cd, .int cd, .int cd, .int cd, .int cd, .int cd, .int cd, .int cd, .int cd, .int cd, .int cd, .int cd, .int cd, .int cd, .int cd, .int cd, .int cd, .int cd, .int cd, .int cd, .int cd, .int cd, .int cd, .int cd, .int cd, .int cd, .int cd, .int cd, .int cd, .int cd, .int cd, .int cd, .int cd, .int cd, .int cd, .int cd, .int cd, .int cd, .int cd, .int cd, .int cd, .int cd, .int cd, .int cd, .int cd, .int cd, .int cd, .int (nar .char cd), .int 0, .int 0] (.int 0) := V70
        show own_G p e below _ (T70.setTop (mkF m 499 #[.val (.int p0), .val (.int p1), .val (.int p2), .val (.int p3), .val (.int p4), .val (.int p5), .val (.int ca), .val (.int cb), .val (.int cc), .val (.int cd), .val (.int ce), .val (.int (p5 &&& (3 : Int32))), .unset, .unset] [(.ref a8)]))
        have V70s : Arv Z h70 a8 k8 .char (64 : Int32) [.int ca, .int cb, .int cc, .int cd, .int cd, .int cd, .int cd, .int cd, .int cd, .int cd, .int cd, .int cd, .int cd, .int cd, .int cd, .int cd, .int cd, .int cd, .int cd, .int cd, .int cd, .int cd, .int cd, .int cd, .int cd, .int cd, .int cd, .int cd, .int cd, .int cd, .int cd, .int cd, .int cd, .int cd, .int cd, .int cd, .int cd, .int cd, .int cd, .int cd, .int cd, .int cd, .int cd, .int cd, .int cd, .int cd, .int cd, .int cd, .int cd, .int cd, .int cd, .int cd, .int cd, .int cd, .int cd, .int cd, .int cd, .int cd, .int cd, .int cd, .int cd, .int cd, .int 0, .int 0] (.int 0) := by have q := V70'; rw [own_narC hcd.1.1 hcd.1.2] at q; exact q
        have OL70 := OL69.wr W70 (by omega)
        have KF70 := KF69.wr W70 (Or.inl (List.mem_singleton.mpr rfl))
        clear V70'
        refine own_step (b := T70.setTop (mkF m 500 #[.val (.int p0), .val (.int p1), .val (.int p2), .val (.int p3), .val (.int p4), .val (.int p5), .val (.int ca), .val (.int cb), .val (.int cc), .val (.int cd), .val (.int ce), .val (.int (p5 &&& (3 : Int32))), .unset, .unset] [(.ref a8), (.ref a8)])) (fun t k => XS.dup X70.here hx rfl (hb hby at_499) rfl rfl k) ?_
        refine own_step (b := T70.setTop (mkF m 502 #[.val (.int p0), .val (.int p1), .val (.int p2), .val (.int p3), .val (.int p4), .val (.int p5), .val (.int ca), .val (.int cb), .val (.int cc), .val (.int cd), .val (.int ce), .val (.int (p5 &&& (3 : Int32))), .unset, .unset] [(.int (62 : Int32)), (.ref a8), (.ref a8)])) (fun t k => XS.bipush X70.here hx rfl (hb hby at_500) k) ?_
        refine own_step (b := T70.setTop (mkF m 504 #[.val (.int p0), .val (.int p1), .val (.int p2), .val (.int p3), .val (.int p4), .val (.int p5), .val (.int ca), .val (.int cb), .val (.int cc), .val (.int cd), .val (.int ce), .val (.int (p5 &&& (3 : Int32))), .unset, .unset] [(.int cd), (.int (62 : Int32)), (.ref a8), (.ref a8)])) (fun t k => XS.iload X70.here hx rfl (hb hby at_502) rfl k) ?_
        refine own_stC X70 hx hZ e70 V70s 62 (by decide) (by decide) (by decide) (Nat.le_of_ble_eq_true rfl) N70 (by omega) (hb hby at_504) (fun T71 h71 X71 e71 N71 W71 z71 V71 => ?_)
        have V71' : Arv Z h71 a8 k8 .char (64 : Int32) [.int ca, .int cb, .int cc, .int cd, .int cd, .int cd, .int cd, .int cd, .int cd, .int cd, .int cd, .int cd, .int cd, .int cd, .int cd, .int cd, .int cd, .int cd, .int cd, .int cd, .int cd, .int cd, .int cd, .int cd, .int cd, .int cd, .int cd, .int cd, .int cd, .int cd, .int cd, .int cd, .int cd, .int cd, .int cd, .int cd, .int cd, .int cd, .int cd, .int cd, .int cd, .int cd, .int cd, .int cd, .int cd, .int cd, .int cd, .int cd, .int cd, .int cd, .int cd, .int cd, .int cd, .int cd, .int cd, .int cd, .int cd, .int cd, .int cd, .int cd, .int cd, .int cd, .int (nar .char cd), .int 0] (.int 0) := V71
        show own_G p e below _ (T71.setTop (mkF m 505 #[.val (.int p0), .val (.int p1), .val (.int p2), .val (.int p3), .val (.int p4), .val (.int p5), .val (.int ca), .val (.int cb), .val (.int cc), .val (.int cd), .val (.int ce), .val (.int (p5 &&& (3 : Int32))), .unset, .unset] [(.ref a8)]))
        have V71s : Arv Z h71 a8 k8 .char (64 : Int32) [.int ca, .int cb, .int cc, .int cd, .int cd, .int cd, .int cd, .int cd, .int cd, .int cd, .int cd, .int cd, .int cd, .int cd, .int cd, .int cd, .int cd, .int cd, .int cd, .int cd, .int cd, .int cd, .int cd, .int cd, .int cd, .int cd, .int cd, .int cd, .int cd, .int cd, .int cd, .int cd, .int cd, .int cd, .int cd, .int cd, .int cd, .int cd, .int cd, .int cd, .int cd, .int cd, .int cd, .int cd, .int cd, .int cd, .int cd, .int cd, .int cd, .int cd, .int cd, .int cd, .int cd, .int cd, .int cd, .int cd, .int cd, .int cd, .int cd, .int cd, .int cd, .int cd, .int cd, .int 0] (.int 0) := by have q := V71'; rw [own_narC hcd.1.1 hcd.1.2] at q; exact q
        have OL71 := OL70.wr W71 (by omega)
        have KF71 := KF70.wr W71 (Or.inl (List.mem_singleton.mpr rfl))
        clear V71'
        refine own_step (b := T71.setTop (mkF m 506 #[.val (.int p0), .val (.int p1), .val (.int p2), .val (.int p3), .val (.int p4), .val (.int p5), .val (.int ca), .val (.int cb), .val (.int cc), .val (.int cd), .val (.int ce), .val (.int (p5 &&& (3 : Int32))), .unset, .unset] [(.ref a8), (.ref a8)])) (fun t k => XS.dup X71.here hx rfl (hb hby at_505) rfl rfl k) ?_
        refine own_step (b := T71.setTop (mkF m 508 #[.val (.int p0), .val (.int p1), .val (.int p2), .val (.int p3), .val (.int p4), .val (.int p5), .val (.int ca), .val (.int cb), .val (.int cc), .val (.int cd), .val (.int ce), .val (.int (p5 &&& (3 : Int32))), .unset, .unset] [(.int (63 : Int32)), (.ref a8), (.ref a8)])) (fun t k => XS.bipush X71.here hx rfl (hb hby at_506) k) ?_
        refine own_step (b := T71.setTop (mkF m 510 #[.val (.int p0), .val (.int p1), .val (.int p2), .val (.int p3), .val (.int p4), .val (.int p5), .val (.int ca), .val (.int cb), .val (.int cc), .val (.int cd), .val (.int ce), .val (.int (p5 &&& (3 : Int32))), .unset, .unset] [(.int ce), (.int (63 : Int32)), (.ref a8), (.ref a8)])) (fun t k => XS.iload X71.here hx rfl (hb hby at_508) rfl k) ?_
        refine own_stC X71 hx hZ e71 V71s 63 (by decide) (by decide) (by decide) (Nat.le_of_ble_eq_true rfl) N71 (by omega) (hb hby at_510) (fun T72 h72 X72 e72 N72 W72 z72 V72 => ?_)
        have V72' : Arv Z h72 a8 k8 .char (64 : Int32) [.int ca, .int cb, .int cc, .int cd, .int cd, .int cd, .int cd, .int cd, .int cd, .int cd, .int cd, .int cd, .int cd, .int cd, .int cd, .int cd, .int cd, .int cd, .int cd, .int cd, .int cd, .int cd, .int cd, .int cd, .int cd, .int cd, .int cd, .int cd, .int cd, .int cd, .int cd, .int cd, .int cd, .int cd, .int cd, .int cd, .int cd, .int cd, .int cd, .int cd, .int cd, .int cd, .int cd, .int cd, .int cd, .int cd, .int cd, .int cd, .int cd, .int cd, .int cd, .int cd, .int cd, .int cd, .int cd, .int cd, .int cd, .int cd, .int cd, .int cd, .int cd, .int cd, .int cd, .int (nar .char ce)] (.int 0) := V72
        show own_G p e below _ (T72.setTop (mkF m 511 #[.val (.int p0), .val (.int p1), .val (.int p2), .val (.int p3), .val (.int p4), .val (.int p5), .val (.int ca), .val (.int cb), .val (.int cc), .val (.int cd), .val (.int ce), .val (.int (p5 &&& (3 : Int32))), .unset, .unset] [(.ref a8)]))
        have V72s : Arv Z h72 a8 k8 .char (64 : Int32) [.int ca, .int cb, .int cc, .int cd, .int cd, .int cd, .int cd, .int cd, .int cd, .int cd, .int cd, .int cd, .int cd, .int cd, .int cd, .int cd, .int cd, .int cd, .int cd, .int cd, .int cd, .int cd, .int cd, .int cd, .int cd, .int cd, .int cd, .int cd, .int cd, .int cd, .int cd, .int cd, .int cd, .int cd, .int cd, .int cd, .int cd, .int cd, .int cd, .int cd, .int cd, .int cd, .int cd, .int cd, .int cd, .int cd, .int cd, .int cd, .int cd, .int cd, .int cd, .int cd, .int cd, .int cd, .int cd, .int cd, .int cd, .int cd, .int cd, .int cd, .int cd, .int cd, .int cd, .int ce] (.int 0) := by have q := V72'; rw [own_narC hce.1.1 hce.1.2] at q; exact q
        have OL72 := OL71.wr W72 (by omega)
        have KF72 := KF71.wr W72 (Or.inl (List.mem_singleton.mpr rfl))
        clear V72'
        refine own_step (b := T72.setTop (mkF m 513 #[.val (.int p0), .val (.int p1), .val (.int p2), .val (.int p3), .val (.int p4), .val (.int p5), .val (.int ca), .val (.int cb), .val (.int cc), .val (.int cd), .val (.int ce), .val (.int (p5 &&& (3 : Int32))), .unset, .val (.ref a8)] [])) (fun t k => XS.astore X72.here hx rfl (hb hby at_511) rfl rfl (l' := #[.val (.int p0), .val (.int p1), .val (.int p2), .val (.int p3), .val (.int p4), .val (.int p5), .val (.int ca), .val (.int cb), .val (.int cc), .val (.int cd), .val (.int ce), .val (.int (p5 &&& (3 : Int32))), .unset, .val (.ref a8)]) rfl k) ?_
        refine own_newO X72 hx hZ hown (own_w hw 6 rfl) (own_w hw 7 rfl) (own_w hw 8 rfl) e72 (hb hby at_513) (by decide) (by decide) (fun T73 h73 a73 X73 e73 g73 l73 E73 A73 D73 => ?_)
        show own_G p e below _ (T73.setTop (mkF m 516 #[.val (.int p0), .val (.int p1), .val (.int p2), .val (.int p3), .val (.int p4), .val (.int p5), .val (.int ca), .val (.int cb), .val (.int cc), .val (.int cd), .val (.int ce), .val (.int (p5 &&& (3 : Int32))), .unset, .val (.ref a8)] [(.ref a73)]))
        have OL73 := OL72.ext E73
        refine own_step (b := T73.setTop (mkF m 517 #[.val (.int p0), .val (.int p1), .val (.int p2), .val (.int p3), .val (.int p4), .val (.int p5), .val (.int ca), .val (.int cb), .val (.int cc), .val (.int cd), .val (.int ce), .val (.int (p5 &&& (3 : Int32))), .unset, .val (.ref a8)] [(.ref a73), (.ref a73)])) (fun t k => XS.dup X73.here hx rfl (hb hby at_516) rfl rfl k) ?_
        refine own_step (b := T73.setTop (mkF m 519 #[.val (.int p0), .val (.int p1), .val (.int p2), .val (.int p3), .val (.int p4), .val (.int p5), .val (.int ca), .val (.int cb), .val (.int cc), .val (.int cd), .val (.int ce), .val (.int (p5 &&& (3 : Int32))), .unset, .val (.ref a8)] [(.ref a8), (.ref a73), (.ref a73)])) (fun t k => XS.aload X73.here hx rfl (hb hby at_517) rfl rfl k) ?_
        have hal : ∀ c ∈ ([ca, cb, cc, cd, cd, cd, cd, cd, cd, cd, cd, cd, cd, cd, cd, cd, cd, cd, cd, cd, cd, cd, cd, cd, cd, cd, cd, cd, cd, cd, cd, cd, cd, cd, cd, cd, cd, cd, cd, cd, cd, cd, cd, cd, cd, cd, cd, cd, cd, cd, cd, cd, cd, cd, cd, cd, cd, cd, cd, cd, cd, cd, cd, ce] : List Int32), own_al c := (own_aS hca (own_aS hcb (own_aS hcc (own_aS hcd (own_aS hcd (own_aS hcd (own_aS hcd (own_aS hcd (own_aS hcd (own_aS hcd (own_aS hcd (own_aS hcd (own_aS hcd (own_aS hcd (own_aS hcd (own_aS hcd (own_aS hcd (own_aS hcd (own_aS hcd (own_aS hcd (own_aS hcd (own_aS hcd (own_aS hcd (own_aS hcd (own_aS hcd (own_aS hcd (own_aS hcd (own_aS hcd (own_aS hcd (own_aS hcd (own_aS hcd (own_aS hcd (own_aS hcd (own_aS hcd (own_aS hcd (own_aS hcd (own_aS hcd (own_aS hcd (own_aS hcd (own_aS hcd (own_aS hcd (own_aS hcd (own_aS hcd (own_aS hcd (own_aS hcd (own_aS hcd (own_aS hcd (own_aS hcd (own_aS hcd (own_aS hcd (own_aS hcd (own_aS hcd (own_aS hcd (own_aS hcd (own_aS hcd (own_aS hcd (own_aS hcd (own_aS hcd (own_aS hcd (own_aS hcd (own_aS hcd (own_aS hcd (own_aS hcd (own_aS hce own_a0))))))))))))))))))))))))))))))))))))))))))))))))))))))))))))))))
        have hp := fun c hc => (hal c hc).1
        refine own_special (W := 1) (argsL := [(.ref a8)]) (a := a73) (st := [(.ref a73)]) X73 hx hZ hown rfl (own_w hw 9 rfl) (own_w hw 10 rfl) (own_w hw 11 rfl) (by decide) e73 (StrChars.Road.backV (W := 1) hZ hws (kI := 4) (own_w hw 7 rfl) (cs := ([ca, cb, cc, cd, cd, cd, cd, cd, cd, cd, cd, cd, cd, cd, cd, cd, cd, cd, cd, cd, cd, cd, cd, cd, cd, cd, cd, cd, cd, cd, cd, cd, cd, cd, cd, cd, cd, cd, cd, cd, cd, cd, cd, cd, cd, cd, cd, cd, cd, cd, cd, cd, cd, cd, cd, cd, cd, cd, cd, cd, cd, cd, cd, ce] : List Int32)) (bs := (([ca, cb, cc, cd, cd, cd, cd, cd, cd, cd, cd, cd, cd, cd, cd, cd, cd, cd, cd, cd, cd, cd, cd, cd, cd, cd, cd, cd, cd, cd, cd, cd, cd, cd, cd, cd, cd, cd, cd, cd, cd, cd, cd, cd, cd, cd, cd, cd, cd, cd, cd, cd, cd, cd, cd, cd, cd, cd, cd, cd, cd, cd, cd, ce] : List Int32)).map (fun c => c.toInt8.toInt32)) (n := 64) (n0 := Z.heap.size) (by omega) (by omega) A73 (D73 (Or.inr (own_w hw 34 rfl)) (ty := (.array .byte)) (by decide)) (D73 (Or.inr (own_w hw 32 rfl)) (ty := .byte) (by decide)) (V72s.ext E73) (O2.ext OL73.2) P5 rfl rfl (by decide) (by decide) hp rfl (by decide) (by decide)) (by decide) (by decide) (by rw [hml]; rfl) (lenOf pd6 rfl) rfl (Nat.le_of_ble_eq_true rfl) (hb hby at_519) (fun v74 T74 L74 X74 hQ74 => ?_)
        obtain ⟨rfl, M74, K74, E74, C74, t74, kb74, u74, uu74, uuu74, F74, B74⟩ := hQ74
        have z74 : h73.size ≤ T74.heap.size := K74.1
        have N74 := Fr.app N72 M74
        have OL74 := OL73.keep K74 (allS (by omega) all0)
        show own_G p e below _ (T74.setTop (mkF m 522 #[.val (.int p0), .val (.int p1), .val (.int p2), .val (.int p3), .val (.int p4), .val (.int p5), .val (.int ca), .val (.int cb), .val (.int cc), .val (.int cd), .val (.int ce), .val (.int (p5 &&& (3 : Int32))), .unset, .val (.ref a8)] [(.ref a73)]))
        have hl64 : ([ca, cb, cc, cd, cd, cd, cd, cd, cd, cd, cd, cd, cd, cd, cd, cd, cd, cd, cd, cd, cd, cd, cd, cd, cd, cd, cd, cd, cd, cd, cd, cd, cd, cd, cd, cd, cd, cd, cd, cd, cd, cd, cd, cd, cd, cd, cd, cd, cd, cd, cd, cd, cd, cd, cd, cd, cd, cd, cd, cd, cd, cd, cd, ce] : List Int32).length = 64 := by simp only [List.length_cons, List.length_nil]
        have SS : own_Str Z T74.heap a73 [ca, cb, cc, cd, cd, cd, cd, cd, cd, cd, cd, cd, cd, cd, cd, cd, cd, cd, cd, cd, cd, cd, cd, cd, cd, cd, cd, cd, cd, cd, cd, cd, cd, cd, cd, cd, cd, cd, cd, cd, cd, cd, cd, cd, cd, cd, cd, cd, cd, cd, cd, cd, cd, cd, cd, cd, cd, cd, cd, cd, cd, cd, cd, ce] := own_mkStr hl64 rfl E74 hp (by decide) C74 F74 B74
        refine own_step (b := T74.setTop (mkF m 524 #[.val (.int p0), .val (.int p1), .val (.int p2), .val (.int p3), .val (.int p4), .val (.int p5), .val (.int ca), .val (.int cb), .val (.int cc), .val (.int cd), .val (.int ce), .val (.int (p5 &&& (3 : Int32))), .val (.ref a73), .val (.ref a8)] [])) (fun t k => XS.astore X74.here hx rfl (hb hby at_522) rfl rfl (l' := #[.val (.int p0), .val (.int p1), .val (.int p2), .val (.int p3), .val (.int p4), .val (.int p5), .val (.int ca), .val (.int cb), .val (.int cc), .val (.int cd), .val (.int ce), .val (.int (p5 &&& (3 : Int32))), .val (.ref a73), .val (.ref a8)]) rfl k) ?_
        refine own_step (b := T74.setTop (mkF m 526 #[.val (.int p0), .val (.int p1), .val (.int p2), .val (.int p3), .val (.int p4), .val (.int p5), .val (.int ca), .val (.int cb), .val (.int cc), .val (.int cd), .val (.int ce), .val (.int (p5 &&& (3 : Int32))), .val (.ref a73), .val (.ref a8)] [(.ref a73)])) (fun t k => XS.aload X74.here hx rfl (hb hby at_524) rfl rfl k) ?_
        refine own_virtual (a := a73) (W := 0) (argsL := []) (st := []) X74 hx hZ hown (own_w hw 35 rfl) (own_w hw 36 rfl) (own_w hw 38 rfl) rfl (own_w hw 37 rfl) (by decide) rfl SS.1 (own_lenB (W := 0) hZ hw (kI := 4) (own_w hw 7 rfl) SS O2 P5 OL74 (r := (64 : Int32)) (congrArg Int32.ofNat hl64) (by decide) (by decide)) (by decide) (by decide) (by rw [hml]; rfl) (lenOf pd2 rfl) rfl (Nat.le_of_ble_eq_true rfl) (hb hby at_526) (fun v75 T75 L75 X75 hQ75 => ?_)
        obtain ⟨rfl, rfl, hh75⟩ := hQ75
        rw [List.append_nil] at X75
        show own_G p e below _ (T75.setTop (mkF m 529 #[.val (.int p0), .val (.int p1), .val (.int p2), .val (.int p3), .val (.int p4), .val (.int p5), .val (.int ca), .val (.int cb), .val (.int cc), .val (.int cd), .val (.int ce), .val (.int (p5 &&& (3 : Int32))), .val (.ref a73), .val (.ref a8)] [(.int (64 : Int32))]))
        refine own_step (b := T75.setTop (mkF m 531 #[.val (.int p0), .val (.int p1), .val (.int p2), .val (.int p3), .val (.int p4), .val (.int p5), .val (.int ca), .val (.int cb), .val (.int cc), .val (.int cd), .val (.int ce), .val (.int (p5 &&& (3 : Int32))), .val (.ref a73), .val (.ref a8)] [(.int (64 : Int32)), (.int (64 : Int32))])) (fun t k => XS.bipush X75.here hx rfl (hb hby at_529) k) ?_
        refine own_icmp_eq X75 hx (hb hby at_531) (pc' := 536) (by decide) (by decide) (fun c531_76 => ?_) (fun c531_76 => absurd c531_76 (by decide))
        show own_G p e below _ (T75.setTop (mkF m 536 #[.val (.int p0), .val (.int p1), .val (.int p2), .val (.int p3), .val (.int p4), .val (.int p5), .val (.int ca), .val (.int cb), .val (.int cc), .val (.int cd), .val (.int ce), .val (.int (p5 &&& (3 : Int32))), .val (.ref a73), .val (.ref a8)] []))
        exact K T75 _ a73 a8 _ (X75.more (by decide) (by decide)) N74 (by rw [hh75]; exact OL74) (by rw [hh75]; omega) (by rw [hh75]; exact SS) (by rw [hl64]; decide) (by rw [hl64]; decide) (fun c hc => (hal c hc).2)
      · show own_G p e below _ (T5.setTop (mkF m 99 #[.val (.int p0), .val (.int p1), .val (.int p2), .val (.int p3), .val (.int p4), .val (.int p5), .val (.int ca), .val (.int cb), .val (.int cc), .val (.int cd), .val (.int ce), .val (.int (p5 &&& (3 : Int32))), .unset, .unset] []))
        refine own_newO X5 hx hZ hown (own_w hw 6 rfl) (own_w hw 7 rfl) (own_w hw 8 rfl) hh5 (hb hby at_99) (by decide) (by decide) (fun T77 h77 a77 X77 e77 g77 l77 E77 A77 D77 => ?_)
        show own_G p e below _ (T77.setTop (mkF m 102 #[.val (.int p0), .val (.int p1), .val (.int p2), .val (.int p3), .val (.int p4), .val (.int p5), .val (.int ca), .val (.int cb), .val (.int cc), .val (.int cd), .val (.int ce), .val (.int (p5 &&& (3 : Int32))), .unset, .unset] [(.ref a77)]))
        have OL77 := OL0.ext E77
        refine own_step (b := T77.setTop (mkF m 103 #[.val (.int p0), .val (.int p1), .val (.int p2), .val (.int p3), .val (.int p4), .val (.int p5), .val (.int ca), .val (.int cb), .val (.int cc), .val (.int cd), .val (.int ce), .val (.int (p5 &&& (3 : Int32))), .unset, .unset] [(.ref a77), (.ref a77)])) (fun t k => XS.dup X77.here hx rfl (hb hby at_102) rfl rfl k) ?_
        refine own_step (b := T77.setTop (mkF m 104 #[.val (.int p0), .val (.int p1), .val (.int p2), .val (.int p3), .val (.int p4), .val (.int p5), .val (.int ca), .val (.int cb), .val (.int cc), .val (.int cd), .val (.int ce), .val (.int (p5 &&& (3 : Int32))), .unset, .unset] [(.int (3 : Int32)), (.ref a77), (.ref a77)])) (fun t k => XS.iconst X77.here hx rfl (hb hby at_103) k) ?_
        refine own_newP X77 hx hZ (own_w hw 5 rfl) e77 (hb hby at_104) (n := (3 : Int32)) (by decide) 3 (by decide) (by decide) (by decide) (by decide) (fun T78 h78 a78 k78 X78 e78 g78 l78 E78 V78 => ?_)
        have V78' : Arv Z h78 a78 k78 .char (3 : Int32) [.int 0, .int 0, .int 0] (.int 0) := V78
        show own_G p e below _ (T78.setTop (mkF m 106 #[.val (.int p0), .val (.int p1), .val (.int p2), .val (.int p3), .val (.int p4), .val (.int p5), .val (.int ca), .val (.int cb), .val (.int cc), .val (.int cd), .val (.int ce), .val (.int (p5 &&& (3 : Int32))), .unset, .unset] [(.ref a78), (.ref a77), (.ref a77)]))
        have OL78 := OL77.ext E78
        have KF78 := (Keep.refl h78 [a78])
        refine own_step (b := T78.setTop (mkF m 107 #[.val (.int p0), .val (.int p1), .val (.int p2), .val (.int p3), .val (.int p4), .val (.int p5), .val (.int ca), .val (.int cb), .val (.int cc), .val (.int cd), .val (.int ce), .val (.int (p5 &&& (3 : Int32))), .unset, .unset] [(.ref a78), (.ref a78), (.ref a77), (.ref a77)])) (fun t k => XS.dup X78.here hx rfl (hb hby at_106) rfl rfl k) ?_
        refine own_step (b := T78.setTop (mkF m 108 #[.val (.int p0), .val (.int p1), .val (.int p2), .val (.int p3), .val (.int p4), .val (.int p5), .val (.int ca), .val (.int cb), .val (.int cc), .val (.int cd), .val (.int ce), .val (.int (p5 &&& (3 : Int32))), .unset, .unset] [(.int (0 : Int32)), (.ref a78), (.ref a78), (.ref a77), (.ref a77)])) (fun t k => XS.iconst X78.here hx rfl (hb hby at_107) k) ?_
        refine own_step (b := T78.setTop (mkF m 110 #[.val (.int p0), .val (.int p1), .val (.int p2), .val (.int p3), .val (.int p4), .val (.int p5), .val (.int ca), .val (.int cb), .val (.int cc), .val (.int cd), .val (.int ce), .val (.int (p5 &&& (3 : Int32))), .unset, .unset] [(.int ca), (.int (0 : Int32)), (.ref a78), (.ref a78), (.ref a77), (.ref a77)])) (fun t k => XS.iload X78.here hx rfl (hb hby at_108) rfl k) ?_
        refine own_stC X78 hx hZ e78 V78' 0 (by decide) (by decide) (by decide) (Nat.le_of_ble_eq_true rfl) N0 (by omega) (hb hby at_110) (fun T79 h79 X79 e79 N79 W79 z79 V79 => ?_)
        have V79' : Arv Z h79 a78 k78 .char (3 : Int32) [.int (nar .char ca), .int 0, .int 0] (.int 0) := V79
        show own_G p e below _ (T79.setTop (mkF m 111 #[.val (.int p0), .val (.int p1), .val (.int p2), .val (.int p3), .val (.int p4), .val (.int p5), .val (.int ca), .val (.int cb), .val (.int cc), .val (.int cd), .val (.int ce), .val (.int (p5 &&& (3 : Int32))), .unset, .unset] [(.ref a78), (.ref a77), (.ref a77)]))
        have V79s : Arv Z h79 a78 k78 .char (3 : Int32) [.int ca, .int 0, .int 0] (.int 0) := by have q := V79'; rw [own_narC hca.1.1 hca.1.2] at q; exact q
        have OL79 := OL78.wr W79 (by omega)
        have KF79 := KF78.wr W79 (Or.inl (List.mem_singleton.mpr rfl))
        clear V79'
        refine own_step (b := T79.setTop (mkF m 112 #[.val (.int p0), .val (.int p1), .val (.int p2), .val (.int p3), .val (.int p4), .val (.int p5), .val (.int ca), .val (.int cb), .val (.int cc), .val (.int cd), .val (.int ce), .val (.int (p5 &&& (3 : Int32))), .unset, .unset] [(.ref a78), (.ref a78), (.ref a77), (.ref a77)])) (fun t k => XS.dup X79.here hx rfl (hb hby at_111) rfl rfl k) ?_
        refine own_step (b := T79.setTop (mkF m 113 #[.val (.int p0), .val (.int p1), .val (.int p2), .val (.int p3), .val (.int p4), .val (.int p5), .val (.int ca), .val (.int cb), .val (.int cc), .val (.int cd), .val (.int ce), .val (.int (p5 &&& (3 : Int32))), .unset, .unset] [(.int (1 : Int32)), (.ref a78), (.ref a78), (.ref a77), (.ref a77)])) (fun t k => XS.iconst X79.here hx rfl (hb hby at_112) k) ?_
        refine own_step (b := T79.setTop (mkF m 115 #[.val (.int p0), .val (.int p1), .val (.int p2), .val (.int p3), .val (.int p4), .val (.int p5), .val (.int ca), .val (.int cb), .val (.int cc), .val (.int cd), .val (.int ce), .val (.int (p5 &&& (3 : Int32))), .unset, .unset] [(.int cb), (.int (1 : Int32)), (.ref a78), (.ref a78), (.ref a77), (.ref a77)])) (fun t k => XS.iload X79.here hx rfl (hb hby at_113) rfl k) ?_
        refine own_stC X79 hx hZ e79 V79s 1 (by decide) (by decide) (by decide) (Nat.le_of_ble_eq_true rfl) N79 (by omega) (hb hby at_115) (fun T80 h80 X80 e80 N80 W80 z80 V80 => ?_)
        have V80' : Arv Z h80 a78 k78 .char (3 : Int32) [.int ca, .int (nar .char cb), .int 0] (.int 0) := V80
        show own_G p e below _ (T80.setTop (mkF m 116 #[.val (.int p0), .val (.int p1), .val (.int p2), .val (.int p3), .val (.int p4), .val (.int p5), .val (.int ca), .val (.int cb), .val (.int cc), .val (.int cd), .val (.int ce), .val (.int (p5 &&& (3 : Int32))), .unset, .unset] [(.ref a78), (.ref a77), (.ref a77)]))
        have V80s : Arv Z h80 a78 k78 .char (3 : Int32) [.int ca, .int cb, .int 0] (.int 0) := by have q := V80'; rw [own_narC hcb.1.1 hcb.1.2] at q; exact q
        have OL80 := OL79.wr W80 (by omega)
        have KF80 := KF79.wr W80 (Or.inl (List.mem_singleton.mpr rfl))
        clear V80'
        refine own_step (b := T80.setTop (mkF m 117 #[.val (.int p0), .val (.int p1), .val (.int p2), .val (.int p3), .val (.int p4), .val (.int p5), .val (.int ca), .val (.int cb), .val (.int cc), .val (.int cd), .val (.int ce), .val (.int (p5 &&& (3 : Int32))), .unset, .unset] [(.ref a78), (.ref a78), (.ref a77), (.ref a77)])) (fun t k => XS.dup X80.here hx rfl (hb hby at_116) rfl rfl k) ?_
        refine own_step (b := T80.setTop (mkF m 118 #[.val (.int p0), .val (.int p1), .val (.int p2), .val (.int p3), .val (.int p4), .val (.int p5), .val (.int ca), .val (.int cb), .val (.int cc), .val (.int cd), .val (.int ce), .val (.int (p5 &&& (3 : Int32))), .unset, .unset] [(.int (2 : Int32)), (.ref a78), (.ref a78), (.ref a77), (.ref a77)])) (fun t k => XS.iconst X80.here hx rfl (hb hby at_117) k) ?_
        refine own_step (b := T80.setTop (mkF m 120 #[.val (.int p0), .val (.int p1), .val (.int p2), .val (.int p3), .val (.int p4), .val (.int p5), .val (.int ca), .val (.int cb), .val (.int cc), .val (.int cd), .val (.int ce), .val (.int (p5 &&& (3 : Int32))), .unset, .unset] [(.int cc), (.int (2 : Int32)), (.ref a78), (.ref a78), (.ref a77), (.ref a77)])) (fun t k => XS.iload X80.here hx rfl (hb hby at_118) rfl k) ?_
        refine own_stC X80 hx hZ e80 V80s 2 (by decide) (by decide) (by decide) (Nat.le_of_ble_eq_true rfl) N80 (by omega) (hb hby at_120) (fun T81 h81 X81 e81 N81 W81 z81 V81 => ?_)
        have V81' : Arv Z h81 a78 k78 .char (3 : Int32) [.int ca, .int cb, .int (nar .char cc)] (.int 0) := V81
        show own_G p e below _ (T81.setTop (mkF m 121 #[.val (.int p0), .val (.int p1), .val (.int p2), .val (.int p3), .val (.int p4), .val (.int p5), .val (.int ca), .val (.int cb), .val (.int cc), .val (.int cd), .val (.int ce), .val (.int (p5 &&& (3 : Int32))), .unset, .unset] [(.ref a78), (.ref a77), (.ref a77)]))
        have V81s : Arv Z h81 a78 k78 .char (3 : Int32) [.int ca, .int cb, .int cc] (.int 0) := by have q := V81'; rw [own_narC hcc.1.1 hcc.1.2] at q; exact q
        have OL81 := OL80.wr W81 (by omega)
        have KF81 := KF80.wr W81 (Or.inl (List.mem_singleton.mpr rfl))
        clear V81'
        have hal : ∀ c ∈ ([ca, cb, cc] : List Int32), own_al c := (own_aS hca (own_aS hcb (own_aS hcc own_a0)))
        have hp := fun c hc => (hal c hc).1
        refine own_special (W := 1) (argsL := [(.ref a78)]) (a := a77) (st := [(.ref a77)]) X81 hx hZ hown rfl (own_w hw 9 rfl) (own_w hw 10 rfl) (own_w hw 11 rfl) (by decide) e81 (StrChars.Road.backV (W := 1) hZ hws (kI := 4) (own_w hw 7 rfl) (cs := ([ca, cb, cc] : List Int32)) (bs := (([ca, cb, cc] : List Int32)).map (fun c => c.toInt8.toInt32)) (n := 3) (n0 := Z.heap.size) (by omega) (by omega) ((A77.ext E78).keep KF81) (((D77 (Or.inr (own_w hw 34 rfl)) (ty := (.array .byte)) (by decide)).ext E78).keep KF81 (ninS (own_ne (by omega)) nin0)) (((D77 (Or.inr (own_w hw 32 rfl)) (ty := .byte) (by decide)).ext E78).keep KF81 (ninS (own_ne (by omega)) nin0)) V81s (O2.ext OL81.2) P5 rfl rfl (by decide) (by decide) hp rfl (by decide) (by decide)) (by decide) (by decide) (by rw [hml]; rfl) (lenOf pd6 rfl) rfl (Nat.le_of_ble_eq_true rfl) (hb hby at_121) (fun v82 T82 L82 X82 hQ82 => ?_)
        obtain ⟨rfl, M82, K82, E82, C82, t82, kb82, u82, uu82, uuu82, F82, B82⟩ := hQ82
        have z82 : h81.size ≤ T82.heap.size := K82.1
        have N82 := Fr.app N81 M82
        have OL82 := OL81.keep K82 (allS (by omega) all0)
        show own_G p e below _ (T82.setTop (mkF m 124 #[.val (.int p0), .val (.int p1), .val (.int p2), .val (.int p3), .val (.int p4), .val (.int p5), .val (.int ca), .val (.int cb), .val (.int cc), .val (.int cd), .val (.int ce), .val (.int (p5 &&& (3 : Int32))), .unset, .unset] [(.ref a77)]))
        have SS : own_Str Z T82.heap a77 [ca, cb, cc] := ⟨E82, hp, (Nat.le_of_ble_eq_true rfl), C82, _, _, F82, B82⟩
        refine own_step (b := T82.setTop (mkF m 126 #[.val (.int p0), .val (.int p1), .val (.int p2), .val (.int p3), .val (.int p4), .val (.int p5), .val (.int ca), .val (.int cb), .val (.int cc), .val (.int cd), .val (.int ce), .val (.int (p5 &&& (3 : Int32))), .val (.ref a77), .unset] [])) (fun t k => XS.astore X82.here hx rfl (hb hby at_124) rfl rfl (l' := #[.val (.int p0), .val (.int p1), .val (.int p2), .val (.int p3), .val (.int p4), .val (.int p5), .val (.int ca), .val (.int cb), .val (.int cc), .val (.int cd), .val (.int ce), .val (.int (p5 &&& (3 : Int32))), .val (.ref a77), .unset]) rfl k) ?_
        refine own_step (b := T82.setTop (mkF m 536 #[.val (.int p0), .val (.int p1), .val (.int p2), .val (.int p3), .val (.int p4), .val (.int p5), .val (.int ca), .val (.int cb), .val (.int cc), .val (.int cd), .val (.int ce), .val (.int (p5 &&& (3 : Int32))), .val (.ref a77), .unset] [])) (fun t k => XS.goto X82.here hx rfl (pc0 := 126) (pc' := 536) rfl (hb hby at_126) (by decide) (by decide) k) ?_
        exact J T82 _ a77 _ (X82.more (by decide) (by decide)) N82 OL82 (by omega) SS (Nat.le_of_ble_eq_true rfl) (Nat.le_of_ble_eq_true rfl) (fun c hc => (hal c hc).2)
    · show own_G p e below _ (T5.setTop (mkF m 68 #[.val (.int p0), .val (.int p1), .val (.int p2), .val (.int p3), .val (.int p4), .val (.int p5), .val (.int ca), .val (.int cb), .val (.int cc), .val (.int cd), .val (.int ce), .val (.int (p5 &&& (3 : Int32))), .unset, .unset] []))
      refine own_newO X5 hx hZ hown (own_w hw 6 rfl) (own_w hw 7 rfl) (own_w hw 8 rfl) hh5 (hb hby at_68) (by decide) (by decide) (fun T83 h83 a83 X83 e83 g83 l83 E83 A83 D83 => ?_)
      show own_G p e below _ (T83.setTop (mkF m 71 #[.val (.int p0), .val (.int p1), .val (.int p2), .val (.int p3), .val (.int p4), .val (.int p5), .val (.int ca), .val (.int cb), .val (.int cc), .val (.int cd), .val (.int ce), .val (.int (p5 &&& (3 : Int32))), .unset, .unset] [(.ref a83)]))
      have OL83 := OL0.ext E83
      refine own_step (b := T83.setTop (mkF m 72 #[.val (.int p0), .val (.int p1), .val (.int p2), .val (.int p3), .val (.int p4), .val (.int p5), .val (.int ca), .val (.int cb), .val (.int cc), .val (.int cd), .val (.int ce), .val (.int (p5 &&& (3 : Int32))), .unset, .unset] [(.ref a83), (.ref a83)])) (fun t k => XS.dup X83.here hx rfl (hb hby at_71) rfl rfl k) ?_
      refine own_step (b := T83.setTop (mkF m 73 #[.val (.int p0), .val (.int p1), .val (.int p2), .val (.int p3), .val (.int p4), .val (.int p5), .val (.int ca), .val (.int cb), .val (.int cc), .val (.int cd), .val (.int ce), .val (.int (p5 &&& (3 : Int32))), .unset, .unset] [(.int (2 : Int32)), (.ref a83), (.ref a83)])) (fun t k => XS.iconst X83.here hx rfl (hb hby at_72) k) ?_
      refine own_newP X83 hx hZ (own_w hw 5 rfl) e83 (hb hby at_73) (n := (2 : Int32)) (by decide) 2 (by decide) (by decide) (by decide) (by decide) (fun T84 h84 a84 k84 X84 e84 g84 l84 E84 V84 => ?_)
      have V84' : Arv Z h84 a84 k84 .char (2 : Int32) [.int 0, .int 0] (.int 0) := V84
      show own_G p e below _ (T84.setTop (mkF m 75 #[.val (.int p0), .val (.int p1), .val (.int p2), .val (.int p3), .val (.int p4), .val (.int p5), .val (.int ca), .val (.int cb), .val (.int cc), .val (.int cd), .val (.int ce), .val (.int (p5 &&& (3 : Int32))), .unset, .unset] [(.ref a84), (.ref a83), (.ref a83)]))
      have OL84 := OL83.ext E84
      have KF84 := (Keep.refl h84 [a84])
      refine own_step (b := T84.setTop (mkF m 76 #[.val (.int p0), .val (.int p1), .val (.int p2), .val (.int p3), .val (.int p4), .val (.int p5), .val (.int ca), .val (.int cb), .val (.int cc), .val (.int cd), .val (.int ce), .val (.int (p5 &&& (3 : Int32))), .unset, .unset] [(.ref a84), (.ref a84), (.ref a83), (.ref a83)])) (fun t k => XS.dup X84.here hx rfl (hb hby at_75) rfl rfl k) ?_
      refine own_step (b := T84.setTop (mkF m 77 #[.val (.int p0), .val (.int p1), .val (.int p2), .val (.int p3), .val (.int p4), .val (.int p5), .val (.int ca), .val (.int cb), .val (.int cc), .val (.int cd), .val (.int ce), .val (.int (p5 &&& (3 : Int32))), .unset, .unset] [(.int (0 : Int32)), (.ref a84), (.ref a84), (.ref a83), (.ref a83)])) (fun t k => XS.iconst X84.here hx rfl (hb hby at_76) k) ?_
      refine own_step (b := T84.setTop (mkF m 79 #[.val (.int p0), .val (.int p1), .val (.int p2), .val (.int p3), .val (.int p4), .val (.int p5), .val (.int ca), .val (.int cb), .val (.int cc), .val (.int cd), .val (.int ce), .val (.int (p5 &&& (3 : Int32))), .unset, .unset] [(.int ca), (.int (0 : Int32)), (.ref a84), (.ref a84), (.ref a83), (.ref a83)])) (fun t k => XS.iload X84.here hx rfl (hb hby at_77) rfl k) ?_
      refine own_stC X84 hx hZ e84 V84' 0 (by decide) (by decide) (by decide) (Nat.le_of_ble_eq_true rfl) N0 (by omega) (hb hby at_79) (fun T85 h85 X85 e85 N85 W85 z85 V85 => ?_)
      have V85' : Arv Z h85 a84 k84 .char (2 : Int32) [.int (nar .char ca), .int 0] (.int 0) := V85
      show own_G p e below _ (T85.setTop (mkF m 80 #[.val (.int p0), .val (.int p1), .val (.int p2), .val (.int p3), .val (.int p4), .val (.int p5), .val (.int ca), .val (.int cb), .val (.int cc), .val (.int cd), .val (.int ce), .val (.int (p5 &&& (3 : Int32))), .unset, .unset] [(.ref a84), (.ref a83), (.ref a83)]))
      have V85s : Arv Z h85 a84 k84 .char (2 : Int32) [.int ca, .int 0] (.int 0) := by have q := V85'; rw [own_narC hca.1.1 hca.1.2] at q; exact q
      have OL85 := OL84.wr W85 (by omega)
      have KF85 := KF84.wr W85 (Or.inl (List.mem_singleton.mpr rfl))
      clear V85'
      refine own_step (b := T85.setTop (mkF m 81 #[.val (.int p0), .val (.int p1), .val (.int p2), .val (.int p3), .val (.int p4), .val (.int p5), .val (.int ca), .val (.int cb), .val (.int cc), .val (.int cd), .val (.int ce), .val (.int (p5 &&& (3 : Int32))), .unset, .unset] [(.ref a84), (.ref a84), (.ref a83), (.ref a83)])) (fun t k => XS.dup X85.here hx rfl (hb hby at_80) rfl rfl k) ?_
      refine own_step (b := T85.setTop (mkF m 82 #[.val (.int p0), .val (.int p1), .val (.int p2), .val (.int p3), .val (.int p4), .val (.int p5), .val (.int ca), .val (.int cb), .val (.int cc), .val (.int cd), .val (.int ce), .val (.int (p5 &&& (3 : Int32))), .unset, .unset] [(.int (1 : Int32)), (.ref a84), (.ref a84), (.ref a83), (.ref a83)])) (fun t k => XS.iconst X85.here hx rfl (hb hby at_81) k) ?_
      refine own_step (b := T85.setTop (mkF m 84 #[.val (.int p0), .val (.int p1), .val (.int p2), .val (.int p3), .val (.int p4), .val (.int p5), .val (.int ca), .val (.int cb), .val (.int cc), .val (.int cd), .val (.int ce), .val (.int (p5 &&& (3 : Int32))), .unset, .unset] [(.int cb), (.int (1 : Int32)), (.ref a84), (.ref a84), (.ref a83), (.ref a83)])) (fun t k => XS.iload X85.here hx rfl (hb hby at_82) rfl k) ?_
      refine own_stC X85 hx hZ e85 V85s 1 (by decide) (by decide) (by decide) (Nat.le_of_ble_eq_true rfl) N85 (by omega) (hb hby at_84) (fun T86 h86 X86 e86 N86 W86 z86 V86 => ?_)
      have V86' : Arv Z h86 a84 k84 .char (2 : Int32) [.int ca, .int (nar .char cb)] (.int 0) := V86
      show own_G p e below _ (T86.setTop (mkF m 85 #[.val (.int p0), .val (.int p1), .val (.int p2), .val (.int p3), .val (.int p4), .val (.int p5), .val (.int ca), .val (.int cb), .val (.int cc), .val (.int cd), .val (.int ce), .val (.int (p5 &&& (3 : Int32))), .unset, .unset] [(.ref a84), (.ref a83), (.ref a83)]))
      have V86s : Arv Z h86 a84 k84 .char (2 : Int32) [.int ca, .int cb] (.int 0) := by have q := V86'; rw [own_narC hcb.1.1 hcb.1.2] at q; exact q
      have OL86 := OL85.wr W86 (by omega)
      have KF86 := KF85.wr W86 (Or.inl (List.mem_singleton.mpr rfl))
      clear V86'
      have hal : ∀ c ∈ ([ca, cb] : List Int32), own_al c := (own_aS hca (own_aS hcb own_a0))
      have hp := fun c hc => (hal c hc).1
      refine own_special (W := 1) (argsL := [(.ref a84)]) (a := a83) (st := [(.ref a83)]) X86 hx hZ hown rfl (own_w hw 9 rfl) (own_w hw 10 rfl) (own_w hw 11 rfl) (by decide) e86 (StrChars.Road.backV (W := 1) hZ hws (kI := 4) (own_w hw 7 rfl) (cs := ([ca, cb] : List Int32)) (bs := (([ca, cb] : List Int32)).map (fun c => c.toInt8.toInt32)) (n := 2) (n0 := Z.heap.size) (by omega) (by omega) ((A83.ext E84).keep KF86) (((D83 (Or.inr (own_w hw 34 rfl)) (ty := (.array .byte)) (by decide)).ext E84).keep KF86 (ninS (own_ne (by omega)) nin0)) (((D83 (Or.inr (own_w hw 32 rfl)) (ty := .byte) (by decide)).ext E84).keep KF86 (ninS (own_ne (by omega)) nin0)) V86s (O2.ext OL86.2) P5 rfl rfl (by decide) (by decide) hp rfl (by decide) (by decide)) (by decide) (by decide) (by rw [hml]; rfl) (lenOf pd6 rfl) rfl (Nat.le_of_ble_eq_true rfl) (hb hby at_85) (fun v87 T87 L87 X87 hQ87 => ?_)
      obtain ⟨rfl, M87, K87, E87, C87, t87, kb87, u87, uu87, uuu87, F87, B87⟩ := hQ87
      have z87 : h86.size ≤ T87.heap.size := K87.1
      have N87 := Fr.app N86 M87
      have OL87 := OL86.keep K87 (allS (by omega) all0)
      show own_G p e below _ (T87.setTop (mkF m 88 #[.val (.int p0), .val (.int p1), .val (.int p2), .val (.int p3), .val (.int p4), .val (.int p5), .val (.int ca), .val (.int cb), .val (.int cc), .val (.int cd), .val (.int ce), .val (.int (p5 &&& (3 : Int32))), .unset, .unset] [(.ref a83)]))
      have SS : own_Str Z T87.heap a83 [ca, cb] := ⟨E87, hp, (Nat.le_of_ble_eq_true rfl), C87, _, _, F87, B87⟩
      refine own_step (b := T87.setTop (mkF m 90 #[.val (.int p0), .val (.int p1), .val (.int p2), .val (.int p3), .val (.int p4), .val (.int p5), .val (.int ca), .val (.int cb), .val (.int cc), .val (.int cd), .val (.int ce), .val (.int (p5 &&& (3 : Int32))), .val (.ref a83), .unset] [])) (fun t k => XS.astore X87.here hx rfl (hb hby at_88) rfl rfl (l' := #[.val (.int p0), .val (.int p1), .val (.int p2), .val (.int p3), .val (.int p4), .val (.int p5), .val (.int ca), .val (.int cb), .val (.int cc), .val (.int cd), .val (.int ce), .val (.int (p5 &&& (3 : Int32))), .val (.ref a83), .unset]) rfl k) ?_
      refine own_step (b := T87.setTop (mkF m 536 #[.val (.int p0), .val (.int p1), .val (.int p2), .val (.int p3), .val (.int p4), .val (.int p5), .val (.int ca), .val (.int cb), .val (.int cc), .val (.int cd), .val (.int ce), .val (.int (p5 &&& (3 : Int32))), .val (.ref a83), .unset] [])) (fun t k => XS.goto X87.here hx rfl (pc0 := 90) (pc' := 536) rfl (hb hby at_90) (by decide) (by decide) k) ?_
      exact J T87 _ a83 _ (X87.more (by decide) (by decide)) N87 OL87 (by omega) SS (Nat.le_of_ble_eq_true rfl) (Nat.le_of_ble_eq_true rfl) (fun c hc => (hal c hc).2)
  · show own_G p e below _ (T5.setTop (mkF m 42 #[.val (.int p0), .val (.int p1), .val (.int p2), .val (.int p3), .val (.int p4), .val (.int p5), .val (.int ca), .val (.int cb), .val (.int cc), .val (.int cd), .val (.int ce), .val (.int (p5 &&& (3 : Int32))), .unset, .unset] []))
    refine own_newO X5 hx hZ hown (own_w hw 6 rfl) (own_w hw 7 rfl) (own_w hw 8 rfl) hh5 (hb hby at_42) (by decide) (by decide) (fun T88 h88 a88 X88 e88 g88 l88 E88 A88 D88 => ?_)
    show own_G p e below _ (T88.setTop (mkF m 45 #[.val (.int p0), .val (.int p1), .val (.int p2), .val (.int p3), .val (.int p4), .val (.int p5), .val (.int ca), .val (.int cb), .val (.int cc), .val (.int cd), .val (.int ce), .val (.int (p5 &&& (3 : Int32))), .unset, .unset] [(.ref a88)]))
    have OL88 := OL0.ext E88
    refine own_step (b := T88.setTop (mkF m 46 #[.val (.int p0), .val (.int p1), .val (.int p2), .val (.int p3), .val (.int p4), .val (.int p5), .val (.int ca), .val (.int cb), .val (.int cc), .val (.int cd), .val (.int ce), .val (.int (p5 &&& (3 : Int32))), .unset, .unset] [(.ref a88), (.ref a88)])) (fun t k => XS.dup X88.here hx rfl (hb hby at_45) rfl rfl k) ?_
    refine own_step (b := T88.setTop (mkF m 47 #[.val (.int p0), .val (.int p1), .val (.int p2), .val (.int p3), .val (.int p4), .val (.int p5), .val (.int ca), .val (.int cb), .val (.int cc), .val (.int cd), .val (.int ce), .val (.int (p5 &&& (3 : Int32))), .unset, .unset] [(.int (1 : Int32)), (.ref a88), (.ref a88)])) (fun t k => XS.iconst X88.here hx rfl (hb hby at_46) k) ?_
    refine own_newP X88 hx hZ (own_w hw 5 rfl) e88 (hb hby at_47) (n := (1 : Int32)) (by decide) 1 (by decide) (by decide) (by decide) (by decide) (fun T89 h89 a89 k89 X89 e89 g89 l89 E89 V89 => ?_)
    have V89' : Arv Z h89 a89 k89 .char (1 : Int32) [.int 0] (.int 0) := V89
    show own_G p e below _ (T89.setTop (mkF m 49 #[.val (.int p0), .val (.int p1), .val (.int p2), .val (.int p3), .val (.int p4), .val (.int p5), .val (.int ca), .val (.int cb), .val (.int cc), .val (.int cd), .val (.int ce), .val (.int (p5 &&& (3 : Int32))), .unset, .unset] [(.ref a89), (.ref a88), (.ref a88)]))
    have OL89 := OL88.ext E89
    have KF89 := (Keep.refl h89 [a89])
    refine own_step (b := T89.setTop (mkF m 50 #[.val (.int p0), .val (.int p1), .val (.int p2), .val (.int p3), .val (.int p4), .val (.int p5), .val (.int ca), .val (.int cb), .val (.int cc), .val (.int cd), .val (.int ce), .val (.int (p5 &&& (3 : Int32))), .unset, .unset] [(.ref a89), (.ref a89), (.ref a88), (.ref a88)])) (fun t k => XS.dup X89.here hx rfl (hb hby at_49) rfl rfl k) ?_
    refine own_step (b := T89.setTop (mkF m 51 #[.val (.int p0), .val (.int p1), .val (.int p2), .val (.int p3), .val (.int p4), .val (.int p5), .val (.int ca), .val (.int cb), .val (.int cc), .val (.int cd), .val (.int ce), .val (.int (p5 &&& (3 : Int32))), .unset, .unset] [(.int (0 : Int32)), (.ref a89), (.ref a89), (.ref a88), (.ref a88)])) (fun t k => XS.iconst X89.here hx rfl (hb hby at_50) k) ?_
    refine own_step (b := T89.setTop (mkF m 53 #[.val (.int p0), .val (.int p1), .val (.int p2), .val (.int p3), .val (.int p4), .val (.int p5), .val (.int ca), .val (.int cb), .val (.int cc), .val (.int cd), .val (.int ce), .val (.int (p5 &&& (3 : Int32))), .unset, .unset] [(.int ca), (.int (0 : Int32)), (.ref a89), (.ref a89), (.ref a88), (.ref a88)])) (fun t k => XS.iload X89.here hx rfl (hb hby at_51) rfl k) ?_
    refine own_stC X89 hx hZ e89 V89' 0 (by decide) (by decide) (by decide) (Nat.le_of_ble_eq_true rfl) N0 (by omega) (hb hby at_53) (fun T90 h90 X90 e90 N90 W90 z90 V90 => ?_)
    have V90' : Arv Z h90 a89 k89 .char (1 : Int32) [.int (nar .char ca)] (.int 0) := V90
    show own_G p e below _ (T90.setTop (mkF m 54 #[.val (.int p0), .val (.int p1), .val (.int p2), .val (.int p3), .val (.int p4), .val (.int p5), .val (.int ca), .val (.int cb), .val (.int cc), .val (.int cd), .val (.int ce), .val (.int (p5 &&& (3 : Int32))), .unset, .unset] [(.ref a89), (.ref a88), (.ref a88)]))
    have V90s : Arv Z h90 a89 k89 .char (1 : Int32) [.int ca] (.int 0) := by have q := V90'; rw [own_narC hca.1.1 hca.1.2] at q; exact q
    have OL90 := OL89.wr W90 (by omega)
    have KF90 := KF89.wr W90 (Or.inl (List.mem_singleton.mpr rfl))
    clear V90'
    have hal : ∀ c ∈ ([ca] : List Int32), own_al c := (own_aS hca own_a0)
    have hp := fun c hc => (hal c hc).1
    refine own_special (W := 1) (argsL := [(.ref a89)]) (a := a88) (st := [(.ref a88)]) X90 hx hZ hown rfl (own_w hw 9 rfl) (own_w hw 10 rfl) (own_w hw 11 rfl) (by decide) e90 (StrChars.Road.backV (W := 1) hZ hws (kI := 4) (own_w hw 7 rfl) (cs := ([ca] : List Int32)) (bs := (([ca] : List Int32)).map (fun c => c.toInt8.toInt32)) (n := 1) (n0 := Z.heap.size) (by omega) (by omega) ((A88.ext E89).keep KF90) (((D88 (Or.inr (own_w hw 34 rfl)) (ty := (.array .byte)) (by decide)).ext E89).keep KF90 (ninS (own_ne (by omega)) nin0)) (((D88 (Or.inr (own_w hw 32 rfl)) (ty := .byte) (by decide)).ext E89).keep KF90 (ninS (own_ne (by omega)) nin0)) V90s (O2.ext OL90.2) P5 rfl rfl (by decide) (by decide) hp rfl (by decide) (by decide)) (by decide) (by decide) (by rw [hml]; rfl) (lenOf pd6 rfl) rfl (Nat.le_of_ble_eq_true rfl) (hb hby at_54) (fun v91 T91 L91 X91 hQ91 => ?_)
    obtain ⟨rfl, M91, K91, E91, C91, t91, kb91, u91, uu91, uuu91, F91, B91⟩ := hQ91
    have z91 : h90.size ≤ T91.heap.size := K91.1
    have N91 := Fr.app N90 M91
    have OL91 := OL90.keep K91 (allS (by omega) all0)
    show own_G p e below _ (T91.setTop (mkF m 57 #[.val (.int p0), .val (.int p1), .val (.int p2), .val (.int p3), .val (.int p4), .val (.int p5), .val (.int ca), .val (.int cb), .val (.int cc), .val (.int cd), .val (.int ce), .val (.int (p5 &&& (3 : Int32))), .unset, .unset] [(.ref a88)]))
    have SS : own_Str Z T91.heap a88 [ca] := ⟨E91, hp, (Nat.le_of_ble_eq_true rfl), C91, _, _, F91, B91⟩
    refine own_step (b := T91.setTop (mkF m 59 #[.val (.int p0), .val (.int p1), .val (.int p2), .val (.int p3), .val (.int p4), .val (.int p5), .val (.int ca), .val (.int cb), .val (.int cc), .val (.int cd), .val (.int ce), .val (.int (p5 &&& (3 : Int32))), .val (.ref a88), .unset] [])) (fun t k => XS.astore X91.here hx rfl (hb hby at_57) rfl rfl (l' := #[.val (.int p0), .val (.int p1), .val (.int p2), .val (.int p3), .val (.int p4), .val (.int p5), .val (.int ca), .val (.int cb), .val (.int cc), .val (.int cd), .val (.int ce), .val (.int (p5 &&& (3 : Int32))), .val (.ref a88), .unset]) rfl k) ?_
    refine own_step (b := T91.setTop (mkF m 536 #[.val (.int p0), .val (.int p1), .val (.int p2), .val (.int p3), .val (.int p4), .val (.int p5), .val (.int ca), .val (.int cb), .val (.int cc), .val (.int cd), .val (.int ce), .val (.int (p5 &&& (3 : Int32))), .val (.ref a88), .unset] [])) (fun t k => XS.goto X91.here hx rfl (pc0 := 59) (pc' := 536) rfl (hb hby at_59) (by decide) (by decide) k) ?_
    exact J T91 _ a88 _ (X91.more (by decide) (by decide)) N91 OL91 (by omega) SS (Nat.le_of_ble_eq_true rfl) (Nat.le_of_ble_eq_true rfl) (fun c hc => (hal c hc).2)
theorem comes_1 {Post : Tables → Env → Array Value → State → Outcome → State → Prop} (hpost : ∀ tb e args s v u, (limb_1_1.after args s (.returned v) u = true ∧ limb_1_2.after args s (.returned v) u = true ∧ True) → ReturnedEndW s (.returned v) u (Jvm.fieldLocs frame_1_writes args s ++ Jvm.arrayLocs frame_1_arrays args s ++ Jvm.staticLocs frame_1_statics s) 16 1408 → Post tb e args s (.returned v) u) :
    ArmFor flags0 classFile x code maxLocals ret World_1 tables_1 room_1 Calls_1 rest_1 Pre_1 Post := by
  intro l hfl _ _ p e ha hc hk s m args below hf hA hF happ hP
  obtain ⟨hcalls, hrest, hpre⟩ := hP
  obtain ⟨-, -, -, hnamed, -, -, -, hat⟩ := (Spec.applies_iff hf).mp happ
  obtain ⟨hg, hn⟩ := and_e (Cond.before_iff.mp (show (Jvm.Cond.and given_1 narrow_1).before args s = true from hpre))
  obtain ⟨hcnt, q0⟩ := and_e hg
  obtain ⟨i0, q1⟩ := and_e q0
  obtain ⟨i1, q2⟩ := and_e q1
  obtain ⟨i2, q3⟩ := and_e q2
  obtain ⟨i3, q4⟩ := and_e q3
  obtain ⟨i4, q5⟩ := and_e q4
  have i5 := q5
  obtain ⟨w0, w1, w2, w3, w4, w5, rfl⟩ : ∃ w0 w1 w2 w3 w4 w5 : Value, args = #[w0, w1, w2, w3, w4, w5] := by
    have hs : args.size = 6 := by simpa [Cond.value, given_1] using hcnt
    obtain ⟨L⟩ := args
    match L, hs with
    | [w0, w1, w2, w3, w4, w5], _ => exact ⟨w0, w1, w2, w3, w4, w5, rfl⟩
  have hw := fun d (hd : d ∈ tables_1) => atoms_spec (ws := Jvm.Cond.code x code maxLocals ret :: tables_1) hat d (List.mem_cons_of_mem _ hd)
  obtain ⟨hsets, hown0⟩ := atoms_of _ (rest_1_c_eq ▸ (show rest_1_c.before _ s = true from hrest))
  have hfit : Fit s := fun {y c} hc i hi => by
    obtain ⟨ha, rfl⟩ := Array.getElem?_eq_some_iff.mp hc
    have q := List.all_eq_true.mp ((Array.all_eq_true_iff_forall_mem.mp hF) _ (Array.getElem_mem ha)) i (List.mem_range.mpr hi)
    simpa [Array.getElem?_eq_getElem hi] using q
  obtain ⟨j0, e0⟩ := is_v i0
  obtain rfl : w0 = (.int j0) := Option.some.inj e0
  obtain ⟨j1, e1⟩ := is_v i1
  obtain rfl : w1 = (.int j1) := Option.some.inj e1
  obtain ⟨j2, e2⟩ := is_v i2
  obtain rfl : w2 = (.int j2) := Option.some.inj e2
  obtain ⟨j3, e3⟩ := is_v i3
  obtain rfl : w3 = (.int j3) := Option.some.inj e3
  obtain ⟨j4, e4⟩ := is_v i4
  obtain rfl : w4 = (.int j4) := Option.some.inj e4
  obtain ⟨j5, e5⟩ := is_v i5
  obtain rfl : w5 = (.int j5) := Option.some.inj e5
  have n5 := not_v (Cond.before_iff.mp (hsets _ (List.mem_of_getElem? (i := 2) rfl)))
  obtain ⟨G1, eG1⟩ := is_v (Cond.before_iff.mp (hsets _ (List.mem_of_getElem? (i := 1) rfl)))
  have O2 : Sta s s.heap "java/lang/String" "COMPACT_STRINGS" "Z" (.int G1) := Sta.start eG1 (Or.inl (hsets _ (List.mem_of_getElem? (i := 0) rfl)))
  have P5 : ¬ (G1 = (0 : Int32)) := gotF (Cond.eq_ints eG1 (Term.int_eval (0))) n5
  obtain ⟨G3, eG3, rG3⟩ := isR_v (Cond.before_iff.mp (hsets _ (List.mem_of_getElem? (i := 8) rfl)))
  have O4 : Sta s s.heap "jdk/internal/util/Preconditions" "SIOOBE_FORMATTER" "Ljava/util/function/BiFunction;" G3 := Sta.start eG3 (Or.inl (hsets _ (List.mem_of_getElem? (i := 7) rfl)))
  obtain ⟨n, o, h1, h2, h3, _, L, rfl, ⟨rfl, N⟩, hq⟩ := rm0 l s _ hw tables_1 j0 j1 j2 j3 j4 j5 s.heap G1 O2 P5 G3 O4 rG3 (Old.start s) p e ha hc hk s m _ below hf ((Spec.applies_iff_loose hf).mp happ).1 ⟨rfl, State.Warmed39.refl s, rfl⟩ trivial
  refine ⟨n, _, h1, h2, h3, hpost _ _ _ _ _ _ ⟨Cond.after_iff.mpr rfl, Cond.after_iff.mpr (eq_i res_at (Term.int_eval (1)) rfl), trivial⟩ ⟨hq.1, hq.2.1, hq.2.2.1, (hq.2.2.2.sift fun y hy => Or.inr (N y hy)).mono (by decide) (by decide)⟩⟩
theorem main_1_1 : Claimed_1_1 := comes_1 fun _ _ _ _ _ _ h hF => ⟨h.1, hF⟩
theorem main_1_2 : Claimed_1_2 := comes_1 fun _ _ _ _ _ _ h hF => ⟨h.2.1, hF⟩
end Jvm.Pilot.@@N@@
namespace Jvm.Pilot.@@N@@
open Jvm Jvm.ClassFile Sem Op Lib Jvm.Free Jvm.Stand Jvm.Pilot.@@N@@.Jvm.D
/-! MADE BY PROGRAM (witnessworld.py) out of the Statement's table words and the real class files: 21 classes; the members and pool entries that the words name. The judged class is class 1, her method 2. -/
namespace start1
open Jvm.ClassFile
def u (s : String) : CpInfo := .utf8 (stringToUtf16 s)
/-- a pool by its gaps: so many unusable entries, then the entry; so many at the end -/
def gap : Nat → List CpInfo → List CpInfo
  | 0, r => r
  | n + 1, r => .unusable :: gap n r
def poolList (es : List (Nat × CpInfo)) (last : Nat) : List CpInfo := es.foldr (fun e r => gap e.1 (e.2 :: r)) (gap last [])
def pool (es : List (Nat × CpInfo)) (last : Nat) : Array CpInfo := ⟨poolList es last⟩
def fileOf (pool : Array CpInfo) (this : Nat) (attrs : Array Attribute := #[]) (ms : Array MethodInfo := #[]) (fl : Nat := 33) (sup : Nat := 0) (ifs : Array Nat := #[]) (fds : Array FieldInfo := #[]) : ClassFile where
  minorVersion := 0
  majorVersion := 65
  constantPool := pool
  accessFlags := fl
  thisClass := this
  superClass := sup
  interfaces := ifs
  fields := fds
  methods := ms
  attributes := attrs
def plain (name : String) (sup : Option ClassId) : Class where
  name := name
  kind := .ordinary
  loader := none
  accessFlags := 33
  super := sup
  interfaces := #[]
  cf := none
  fields := #[]
  methods := #[]
  instanceTypes := #[]
  staticTypes := #[]
  resolved := #[]
  callSites := []
  init := .initialized
  statics := none
  mirror := none

def pool0 : Array CpInfo := pool [(5, u "<init>"), (0, u "()V"), (1, .class_ 10), (1, u "java/lang/Object")] 113

def k0c0 : Code := { maxStack := 0, maxLocals := 1, code := object_method_1_code, exceptionTable := #[], attributes := #[] }
def k0m0 : Method := { name := "<init>", desc := "()V", sig := { parameters := [], returnType := none }, accessFlags := 1, code := some k0c0 }
/-- java/lang/Object -/
def k0 : Class := { plain "java/lang/Object" none with
  accessFlags := 33
  interfaces := #[]
  cf := some (fileOf pool0 8 #[] #[{ accessFlags := 1, nameIndex := 5, descriptorIndex := 6, attributes := #[] }] 33 0 #[] #[])
  fields := #[]
  methods := #[k0m0]
  instanceTypes := #[]
  staticTypes := #[]
  resolved := Array.replicate 124 none
  statics := none }

def pool1 : Array CpInfo := pool [(2, .class_ 4), (1, u "java/lang/Object"), (0, u "<init>"), (0, u "()V"), (0, .integer 2147483647), (0, .methodref 9 10), (0, .class_ 11), (0, .nameAndType 12 13), (0, u "com/example/rigid_tally/rigidtally/CounterNamesRequireValidPinLaw"), (0, u "allowed"), (0, u "(I)C"), (0, .class_ 15), (0, u "java/lang/String"), (0, .methodref 14 17), (0, .nameAndType 5 18), (0, u "([C)V"), (0, .methodref 14 20), (0, .nameAndType 21 22), (0, u "length"), (0, u "()I"), (0, .methodref 24 25), (0, .class_ 26), (0, .nameAndType 27 28), (0, u "com/example/rigid_tally/rigidtally/CounterNames"), (0, u "requireValid"), (0, u "(Ljava/lang/String;)Ljava/lang/String;"), (3, u "law"), (0, u "(IIIIII)Z")] 2

def k1m0 : Method := { name := "<init>", desc := "()V", sig := { parameters := [], returnType := none }, accessFlags := 2, code := none }
def k1c1 : Code := { maxStack := 3, maxLocals := 2, code := method_2_code, exceptionTable := #[], attributes := #[] }
def k1m1 : Method := { name := "allowed", desc := "(I)C", sig := { parameters := [.int], returnType := some .char }, accessFlags := 10, code := some k1c1 }
def k1c2 : Code := { maxStack := 6, maxLocals := 14, code := code, exceptionTable := #[], attributes := #[] }
def k1m2 : Method := { name := "law", desc := "(IIIIII)Z", sig := { parameters := [.int, .int, .int, .int, .int, .int], returnType := some .boolean }, accessFlags := 9, code := some k1c2 }
/-- com/example/rigid_tally/rigidtally/CounterNamesRequireValidPinLaw -/
def k1 : Class := { plain "com/example/rigid_tally/rigidtally/CounterNamesRequireValidPinLaw" (some 0) with
  accessFlags := 49
  interfaces := #[]
  cf := some (fileOf pool1 9 #[] #[{ accessFlags := 2, nameIndex := 5, descriptorIndex := 6, attributes := #[] }, { accessFlags := 10, nameIndex := 12, descriptorIndex := 13, attributes := #[] }, { accessFlags := 9, nameIndex := 32, descriptorIndex := 33, attributes := #[] }] 49 2 #[] #[])
  fields := #[]
  methods := #[k1m0, k1m1, k1m2]
  instanceTypes := #[]
  staticTypes := #[]
  resolved := Array.replicate 36 none
  statics := none }

def pool2 : Array CpInfo := pool [(1, .class_ 2), (0, u "java/io/Serializable"), (0, .class_ 4), (0, u "java/lang/Object")] 2

/-- java/io/Serializable -/
def k2 : Class := { plain "java/io/Serializable" (some 0) with
  accessFlags := 1537
  interfaces := #[]
  cf := some (fileOf pool2 1 #[] #[] 1537 3 #[] #[])
  fields := #[]
  methods := #[]
  instanceTypes := #[]
  staticTypes := #[]
  resolved := Array.replicate 7 none
  statics := none }

def pool3 : Array CpInfo := pool [(1, .class_ 2), (0, u "java/lang/Comparable"), (0, .class_ 4), (0, u "java/lang/Object")] 7

/-- java/lang/Comparable -/
def k3 : Class := { plain "java/lang/Comparable" (some 0) with
  accessFlags := 1537
  interfaces := #[]
  cf := some (fileOf pool3 1 #[] #[] 1537 3 #[] #[])
  fields := #[]
  methods := #[]
  instanceTypes := #[]
  staticTypes := #[]
  resolved := Array.replicate 12 none
  statics := none }

def pool4 : Array CpInfo := pool [(2, .class_ 4), (1, u "java/lang/CharSequence"), (42, .class_ 48), (0, u "java/lang/CharSequence$1CodePointIterator"), (10, .class_ 60), (0, u "java/lang/CharSequence$1CharIterator"), (5, .class_ 67), (0, u "java/lang/Object")] 63

/-- java/lang/CharSequence -/
def k4 : Class := { plain "java/lang/CharSequence" (some 0) with
  accessFlags := 1537
  interfaces := #[]
  cf := some (fileOf pool4 2 #[.nestMembers #[47, 59]] #[] 1537 66 #[] #[])
  fields := #[]
  methods := #[]
  instanceTypes := #[]
  staticTypes := #[]
  resolved := Array.replicate 131 none
  statics := none }

def pool5 : Array CpInfo := pool [(1, .class_ 2), (0, u "java/lang/constant/Constable"), (0, .class_ 4), (0, u "java/lang/Object")] 6

/-- java/lang/constant/Constable -/
def k5 : Class := { plain "java/lang/constant/Constable" (some 0) with
  accessFlags := 1537
  interfaces := #[]
  cf := some (fileOf pool5 1 #[] #[] 1537 3 #[] #[])
  fields := #[]
  methods := #[]
  instanceTypes := #[]
  staticTypes := #[]
  resolved := Array.replicate 11 none
  statics := none }

def pool6 : Array CpInfo := pool [(1, .class_ 2), (0, u "java/lang/constant/ConstantDesc"), (0, .class_ 4), (0, u "java/lang/Object")] 32

/-- java/lang/constant/ConstantDesc -/
def k6 : Class := { plain "java/lang/constant/ConstantDesc" (some 0) with
  accessFlags := 1537
  interfaces := #[]
  cf := some (fileOf pool6 1 #[] #[] 1537 3 #[] #[])
  fields := #[]
  methods := #[]
  instanceTypes := #[]
  staticTypes := #[]
  resolved := Array.replicate 37 none
  statics := none }

def pool7 : Array CpInfo := pool [(1, .methodref 2 3), (0, .class_ 4), (0, .nameAndType 5 6), (0, u "java/lang/Object"), (0, u "<init>"), (0, u "()V"), (2, .fieldref 10 11), (0, .class_ 12), (0, .nameAndType 13 14), (0, u "java/lang/String"), (0, u "value"), (0, u "[B"), (0, .fieldref 10 16), (0, .nameAndType 17 18), (0, u "coder"), (0, u "B"), (2, u "hash"), (0, u "I"), (2, u "hashIsZero"), (0, u "Z"), (0, .methodref 10 28), (0, .nameAndType 5 29), (0, u "([CIILjava/lang/Void;)V"), (8, .fieldref 10 39), (0, .nameAndType 40 26), (0, u "COMPACT_STRINGS"), (1, .class_ 44), (1, u "java/lang/StringUTF16"), (0, u "compress"), (1, .methodref 42 48), (0, .nameAndType 49 50), (0, u "coderFromArrayLen"), (0, u "([BI)B"), (56, .class_ 109), (1, u "java/lang/StringLatin1"), (32, u "()Z"), (34, .methodref 42 178), (0, .nameAndType 45 179), (0, u "([CII)[B"), (154, u "()I"), (0, .methodref 10 336), (0, .nameAndType 17 337), (0, u "()B"), (25, u "([BI)C"), (27, u "(II)V"), (35, u "(I)C"), (64, .methodref 10 493), (0, .nameAndType 494 142), (0, u "isLatin1"), (0, .methodref 107 496), (0, .nameAndType 497 363), (0, u "charAt"), (3, u "checkIndex"), (5, u "length"), (67, .class_ 576), (0, u "java/lang/CharSequence"), (22, u "CASE_INSENSITIVE_ORDER"), (0, u "Ljava/util/Comparator;"), (91, u "isEmpty"), (317, u "([C)V"), (42, .fieldref 1054 1055), (0, .class_ 1056), (0, .nameAndType 1057 1058), (0, u "jdk/internal/util/Preconditions"), (0, u "SIOOBE_FORMATTER"), (0, u "Ljava/util/function/BiFunction;"), (0, .methodref 1054 1060), (0, .nameAndType 501 1061), (0, u "(IILjava/util/function/BiFunction;)I"), (39, u "serialPersistentFields"), (0, u "[Ljava/io/ObjectStreamField;"), (0, .class_ 1104), (0, u "java/lang/String$CaseInsensitiveComparator"), (1, .class_ 1107), (0, u "java/io/Serializable"), (0, .class_ 1109), (0, u "java/lang/Comparable"), (0, .class_ 1111), (0, u "java/lang/constant/Constable"), (0, .class_ 1113), (0, u "java/lang/constant/ConstantDesc"), (2, u "serialVersionUID"), (0, u "J"), (3, u "REPL"), (0, u "C"), (2, u "LATIN1"), (1, u "UTF16")] 323

def k7m0 : Method := { name := "<init>", desc := "()V", sig := { parameters := [], returnType := none }, accessFlags := 1, code := none }
def k7c1 : Code := { maxStack := 5, maxLocals := 2, code := jdk_42_method_3_code, exceptionTable := #[], attributes := #[] }
def k7m1 : Method := { name := "<init>", desc := "([C)V", sig := { parameters := [(.array .char)], returnType := none }, accessFlags := 1, code := some k7c1 }
def k7c2 : Code := { maxStack := 2, maxLocals := 1, code := jdk_42_method_54_code, exceptionTable := #[], attributes := #[] }
def k7m2 : Method := { name := "length", desc := "()I", sig := { parameters := [], returnType := some .int }, accessFlags := 1, code := some k7c2 }
def k7c3 : Code := { maxStack := 1, maxLocals := 1, code := jdk_42_method_55_code, exceptionTable := #[], attributes := #[] }
def k7m3 : Method := { name := "isEmpty", desc := "()Z", sig := { parameters := [], returnType := some .boolean }, accessFlags := 1, code := some k7c3 }
def k7c4 : Code := { maxStack := 2, maxLocals := 2, code := jdk_42_method_56_code, exceptionTable := #[], attributes := #[] }
def k7m4 : Method := { name := "charAt", desc := "(I)C", sig := { parameters := [.int], returnType := some .char }, accessFlags := 1, code := some k7c4 }
def k7c5 : Code := { maxStack := 4, maxLocals := 6, code := jdk_42_method_149_code, exceptionTable := #[], attributes := #[] }
def k7m5 : Method := { name := "<init>", desc := "([CIILjava/lang/Void;)V", sig := { parameters := [(.array .char), .int, .int, (.object "java/lang/Void")], returnType := none }, accessFlags := 2, code := some k7c5 }
def k7c6 : Code := { maxStack := 1, maxLocals := 1, code := jdk_42_method_152_code, exceptionTable := #[], attributes := #[] }
def k7m6 : Method := { name := "coder", desc := "()B", sig := { parameters := [], returnType := some .byte }, accessFlags := 0, code := some k7c6 }
def k7c7 : Code := { maxStack := 1, maxLocals := 1, code := jdk_42_method_154_code, exceptionTable := #[], attributes := #[] }
def k7m7 : Method := { name := "isLatin1", desc := "()Z", sig := { parameters := [], returnType := some .boolean }, accessFlags := 0, code := some k7c7 }
def k7c8 : Code := { maxStack := 3, maxLocals := 2, code := jdk_42_method_155_code, exceptionTable := #[], attributes := #[] }
def k7m8 : Method := { name := "checkIndex", desc := "(II)V", sig := { parameters := [.int, .int], returnType := none }, accessFlags := 8, code := some k7c8 }
/-- java/lang/String -/
def k7 : Class := { plain "java/lang/String" (some 0) with
  accessFlags := 49
  interfaces := #[2, 3, 4, 5, 6]
  cf := some (fileOf pool7 10 #[.nestMembers #[1103]] #[{ accessFlags := 1, nameIndex := 5, descriptorIndex := 6, attributes := #[] }, { accessFlags := 1, nameIndex := 5, descriptorIndex := 1010, attributes := #[] }, { accessFlags := 1, nameIndex := 507, descriptorIndex := 334, attributes := #[] }, { accessFlags := 1, nameIndex := 692, descriptorIndex := 142, attributes := #[] }, { accessFlags := 1, nameIndex := 497, descriptorIndex := 427, attributes := #[] }, { accessFlags := 2, nameIndex := 5, descriptorIndex := 29, attributes := #[] }, { accessFlags := 0, nameIndex := 17, descriptorIndex := 337, attributes := #[] }, { accessFlags := 0, nameIndex := 494, descriptorIndex := 142, attributes := #[] }, { accessFlags := 8, nameIndex := 501, descriptorIndex := 391, attributes := #[] }] 49 2 #[1106, 1108, 575, 1110, 1112] #[{ accessFlags := 18, nameIndex := 13, descriptorIndex := 14, attributes := #[] }, { accessFlags := 18, nameIndex := 17, descriptorIndex := 18, attributes := #[] }, { accessFlags := 2, nameIndex := 21, descriptorIndex := 22, attributes := #[] }, { accessFlags := 2, nameIndex := 25, descriptorIndex := 26, attributes := #[] }, { accessFlags := 26, nameIndex := 1116, descriptorIndex := 1117, attributes := #[] }, { accessFlags := 24, nameIndex := 40, descriptorIndex := 26, attributes := #[] }, { accessFlags := 26, nameIndex := 1101, descriptorIndex := 1102, attributes := #[] }, { accessFlags := 26, nameIndex := 1121, descriptorIndex := 1122, attributes := #[] }, { accessFlags := 25, nameIndex := 599, descriptorIndex := 600, attributes := #[] }, { accessFlags := 24, nameIndex := 1125, descriptorIndex := 18, attributes := #[] }, { accessFlags := 24, nameIndex := 1127, descriptorIndex := 18, attributes := #[] }])
  fields := #[{ name := "value", type := (.array .byte), accessFlags := 18, slot := 0, constantValue := 0 }, { name := "coder", type := .byte, accessFlags := 18, slot := 1, constantValue := 0 }, { name := "hash", type := .int, accessFlags := 2, slot := 2, constantValue := 0 }, { name := "hashIsZero", type := .boolean, accessFlags := 2, slot := 3, constantValue := 0 }, { name := "serialVersionUID", type := .long, accessFlags := 26, slot := 0, constantValue := 0 }, { name := "COMPACT_STRINGS", type := .boolean, accessFlags := 24, slot := 1, constantValue := 0 }, { name := "serialPersistentFields", type := (.array (.object "java/io/ObjectStreamField")), accessFlags := 26, slot := 2, constantValue := 0 }, { name := "REPL", type := .char, accessFlags := 26, slot := 3, constantValue := 0 }, { name := "CASE_INSENSITIVE_ORDER", type := (.object "java/util/Comparator"), accessFlags := 25, slot := 4, constantValue := 0 }, { name := "LATIN1", type := .byte, accessFlags := 24, slot := 5, constantValue := 0 }, { name := "UTF16", type := .byte, accessFlags := 24, slot := 6, constantValue := 0 }]
  methods := #[k7m0, k7m1, k7m2, k7m3, k7m4, k7m5, k7m6, k7m7, k7m8]
  instanceTypes := #[(.array .byte), .byte, .int, .boolean]
  staticTypes := #[.long, .boolean, (.array (.object "java/io/ObjectStreamField")), .char, (.object "java/util/Comparator"), .byte, .byte]
  resolved := Array.replicate 1451 none
  statics := some 0 }

def pool8 : Array CpInfo := pool [(6, .class_ 8), (1, u "java/lang/Object"), (0, u "<init>"), (0, u "()V"), (1, .class_ 14), (1, u "java/lang/StringUTF16"), (31, u "$assertionsDisabled"), (0, u "Z"), (13, u "HI_BYTE_SHIFT"), (0, u "I"), (2, u "LO_BYTE_SHIFT"), (49, .methodref 12 116), (0, .nameAndType 117 118), (0, u "compress"), (0, u "([CI[BII)I"), (3, u "([CII)[B"), (138, u "coderFromArrayLen"), (0, u "([BI)B"), (106, .class_ 371), (1, u "java/lang/StringUTF16$LinesSpliterator"), (58, u "MAX_LENGTH"), (196, .class_ 628), (0, u "java/lang/StringUTF16$CodePointsSpliterator"), (0, .class_ 630), (0, u "java/lang/StringUTF16$CharsSpliterator")] 4

def k8m0 : Method := { name := "<init>", desc := "()V", sig := { parameters := [], returnType := none }, accessFlags := 0, code := none }
def k8c1 : Code := { maxStack := 2, maxLocals := 2, code := jdk_52_method_15_code, exceptionTable := #[], attributes := #[] }
def k8m1 : Method := { name := "coderFromArrayLen", desc := "([BI)B", sig := { parameters := [(.array .byte), .int], returnType := some .byte }, accessFlags := 8, code := some k8c1 }
def k8c2 : Code := { maxStack := 5, maxLocals := 6, code := jdk_52_method_16_code, exceptionTable := #[], attributes := #[] }
def k8m2 : Method := { name := "compress", desc := "([CII)[B", sig := { parameters := [(.array .char), .int, .int], returnType := some (.array .byte) }, accessFlags := 9, code := some k8c2 }
def k8c3 : Code := { maxStack := 3, maxLocals := 7, code := jdk_52_method_21_code, exceptionTable := #[], attributes := #[] }
def k8m3 : Method := { name := "compress", desc := "([CI[BII)I", sig := { parameters := [(.array .char), .int, (.array .byte), .int, .int], returnType := some .int }, accessFlags := 9, code := some k8c3 }
/-- java/lang/StringUTF16 -/
def k8 : Class := { plain "java/lang/StringUTF16" (some 0) with
  accessFlags := 48
  interfaces := #[]
  cf := some (fileOf pool8 12 #[.nestMembers #[627, 629, 369]] #[{ accessFlags := 0, nameIndex := 9, descriptorIndex := 10, attributes := #[] }, { accessFlags := 8, nameIndex := 261, descriptorIndex := 262, attributes := #[] }, { accessFlags := 9, nameIndex := 117, descriptorIndex := 122, attributes := #[] }, { accessFlags := 9, nameIndex := 117, descriptorIndex := 118, attributes := #[] }] 48 6 #[] #[{ accessFlags := 26, nameIndex := 61, descriptorIndex := 62, attributes := #[] }, { accessFlags := 26, nameIndex := 65, descriptorIndex := 62, attributes := #[] }, { accessFlags := 24, nameIndex := 430, descriptorIndex := 62, attributes := #[] }, { accessFlags := 4120, nameIndex := 46, descriptorIndex := 47, attributes := #[] }])
  fields := #[{ name := "HI_BYTE_SHIFT", type := .int, accessFlags := 26, slot := 0, constantValue := 0 }, { name := "LO_BYTE_SHIFT", type := .int, accessFlags := 26, slot := 1, constantValue := 0 }, { name := "MAX_LENGTH", type := .int, accessFlags := 24, slot := 2, constantValue := 0 }, { name := "$assertionsDisabled", type := .boolean, accessFlags := 4120, slot := 3, constantValue := 0 }]
  methods := #[k8m0, k8m1, k8m2, k8m3]
  instanceTypes := #[]
  staticTypes := #[.int, .int, .int, .boolean]
  resolved := Array.replicate 635 none
  statics := none }

def pool9 : Array CpInfo := pool [(2, .class_ 4), (1, u "java/lang/Object"), (0, u "<init>"), (0, u "()V"), (0, .string 8), (0, u "name"), (0, .methodref 10 11), (0, .class_ 12), (0, .nameAndType 13 14), (0, u "java/util/Objects"), (0, u "requireNonNull"), (0, u "(Ljava/lang/Object;Ljava/lang/String;)Ljava/lang/Object;"), (0, .methodref 16 17), (0, .class_ 18), (0, .nameAndType 19 20), (0, u "java/lang/String"), (0, u "isEmpty"), (0, u "()Z"), (0, .methodref 16 22), (0, .nameAndType 23 24), (0, u "length"), (0, u "()I"), (0, .class_ 26), (0, u "com/example/rigid_tally/rigidtally/CounterNames"), (9, .methodref 16 37), (0, .nameAndType 38 39), (0, u "charAt"), (0, u "(I)C"), (0, .methodref 25 41), (0, .nameAndType 42 43), (0, u "isAllowed"), (0, u "(C)Z"), (22, u "MAX_LENGTH"), (0, u "I"), (4, u "requireValid"), (0, u "(Ljava/lang/String;)Ljava/lang/String;")] 18

def k9m0 : Method := { name := "<init>", desc := "()V", sig := { parameters := [], returnType := none }, accessFlags := 2, code := none }
def k9c1 : Code := { maxStack := 9, maxLocals := 2, code := prog_3_method_2_code, exceptionTable := #[], attributes := #[] }
def k9m1 : Method := { name := "requireValid", desc := "(Ljava/lang/String;)Ljava/lang/String;", sig := { parameters := [(.object "java/lang/String")], returnType := some (.object "java/lang/String") }, accessFlags := 8, code := some k9c1 }
def k9c2 : Code := { maxStack := 2, maxLocals := 1, code := prog_3_method_3_code, exceptionTable := #[], attributes := #[] }
def k9m2 : Method := { name := "isAllowed", desc := "(C)Z", sig := { parameters := [.char], returnType := some .boolean }, accessFlags := 10, code := some k9c2 }
/-- com/example/rigid_tally/rigidtally/CounterNames -/
def k9 : Class := { plain "com/example/rigid_tally/rigidtally/CounterNames" (some 0) with
  accessFlags := 32
  interfaces := #[]
  cf := some (fileOf pool9 25 #[] #[{ accessFlags := 2, nameIndex := 5, descriptorIndex := 6, attributes := #[] }, { accessFlags := 8, nameIndex := 72, descriptorIndex := 73, attributes := #[] }, { accessFlags := 10, nameIndex := 42, descriptorIndex := 43, attributes := #[] }] 32 2 #[] #[{ accessFlags := 24, nameIndex := 66, descriptorIndex := 67, attributes := #[] }])
  fields := #[{ name := "MAX_LENGTH", type := .int, accessFlags := 24, slot := 0, constantValue := 0 }]
  methods := #[k9m0, k9m1, k9m2]
  instanceTypes := #[]
  staticTypes := #[.int]
  resolved := Array.replicate 92 none
  statics := none }

def pool10 : Array CpInfo := pool [(2, .class_ 4), (1, u "java/lang/Object"), (0, u "<init>"), (0, u "()V"), (35, .class_ 44), (1, u "java/util/Objects"), (0, u "requireNonNull"), (48, u "(Ljava/lang/Object;Ljava/lang/String;)Ljava/lang/Object;")] 89

def k10m0 : Method := { name := "<init>", desc := "()V", sig := { parameters := [], returnType := none }, accessFlags := 2, code := none }
def k10c1 : Code := { maxStack := 3, maxLocals := 2, code := jdk_31_method_11_code, exceptionTable := #[], attributes := #[] }
def k10m1 : Method := { name := "requireNonNull", desc := "(Ljava/lang/Object;Ljava/lang/String;)Ljava/lang/Object;", sig := { parameters := [(.object "java/lang/Object"), (.object "java/lang/String")], returnType := some (.object "java/lang/Object") }, accessFlags := 9, code := some k10c1 }
/-- java/util/Objects -/
def k10 : Class := { plain "java/util/Objects" (some 0) with
  accessFlags := 49
  interfaces := #[]
  cf := some (fileOf pool10 42 #[] #[{ accessFlags := 2, nameIndex := 5, descriptorIndex := 6, attributes := #[] }, { accessFlags := 9, nameIndex := 45, descriptorIndex := 94, attributes := #[] }] 49 2 #[] #[])
  fields := #[]
  methods := #[k10m0, k10m1]
  instanceTypes := #[]
  staticTypes := #[]
  resolved := Array.replicate 184 none
  statics := none }

def pool11 : Array CpInfo := pool [(1, .class_ 2), (0, u "java/lang/String"), (1, .class_ 6), (1, u "java/lang/Object"), (0, u "<init>"), (0, u "()V"), (0, .methodref 1 10), (0, .nameAndType 11 12), (0, u "checkIndex"), (0, u "(II)V"), (1, .class_ 16), (1, u "java/lang/StringLatin1"), (36, u "([BI)C"), (67, u "$assertionsDisabled"), (0, u "Z"), (98, .class_ 223), (1, u "java/lang/StringLatin1$LinesSpliterator"), (28, u "charAt"), (137, .class_ 391), (0, u "java/lang/StringLatin1$CharsSpliterator")] 3

def k11m0 : Method := { name := "<init>", desc := "()V", sig := { parameters := [], returnType := none }, accessFlags := 0, code := none }
def k11c1 : Code := { maxStack := 2, maxLocals := 2, code := jdk_43_method_2_code, exceptionTable := #[], attributes := #[] }
def k11m1 : Method := { name := "charAt", desc := "([BI)C", sig := { parameters := [(.array .byte), .int], returnType := some .char }, accessFlags := 9, code := some k11c1 }
/-- java/lang/StringLatin1 -/
def k11 : Class := { plain "java/lang/StringLatin1" (some 0) with
  accessFlags := 48
  interfaces := #[]
  cf := some (fileOf pool11 14 #[.nestMembers #[390, 221]] #[{ accessFlags := 0, nameIndex := 7, descriptorIndex := 8, attributes := #[] }, { accessFlags := 9, nameIndex := 252, descriptorIndex := 53, attributes := #[] }] 48 4 #[] #[{ accessFlags := 4120, nameIndex := 121, descriptorIndex := 122, attributes := #[] }])
  fields := #[{ name := "$assertionsDisabled", type := .boolean, accessFlags := 4120, slot := 0, constantValue := 0 }]
  methods := #[k11m0, k11m1]
  instanceTypes := #[]
  staticTypes := #[.boolean]
  resolved := Array.replicate 395 none
  statics := none }

def pool12 : Array CpInfo := pool [(2, .class_ 4), (1, u "java/lang/Object"), (0, u "<init>"), (0, u "()V"), (17, .class_ 26), (1, u "jdk/internal/util/Preconditions"), (6, u "checkIndex"), (21, .class_ 56), (0, u "jdk/internal/util/Preconditions$4"), (57, .class_ 115), (0, u "jdk/internal/util/Preconditions$1"), (7, u "SIOOBE_FORMATTER"), (0, u "Ljava/util/function/BiFunction;"), (0, .class_ 126), (0, u "jdk/internal/util/Preconditions$2"), (3, u "AIOOBE_FORMATTER"), (0, .class_ 132), (0, u "jdk/internal/util/Preconditions$3"), (3, u "IOOBE_FORMATTER"), (41, u "(IILjava/util/function/BiFunction;)I")] 15

def k12m0 : Method := { name := "<init>", desc := "()V", sig := { parameters := [], returnType := none }, accessFlags := 1, code := none }
def k12c1 : Code := { maxStack := 3, maxLocals := 3, code := jdk_41_method_11_code, exceptionTable := #[], attributes := #[] }
def k12m1 : Method := { name := "checkIndex", desc := "(IILjava/util/function/BiFunction;)I", sig := { parameters := [.int, .int, (.object "java/util/function/BiFunction")], returnType := some .int }, accessFlags := 9, code := some k12c1 }
/-- jdk/internal/util/Preconditions -/
def k12 : Class := { plain "jdk/internal/util/Preconditions" (some 0) with
  accessFlags := 33
  interfaces := #[]
  cf := some (fileOf pool12 24 #[.nestMembers #[55, 131, 125, 114]] #[{ accessFlags := 1, nameIndex := 5, descriptorIndex := 6, attributes := #[] }, { accessFlags := 9, nameIndex := 33, descriptorIndex := 178, attributes := #[] }] 33 2 #[] #[{ accessFlags := 25, nameIndex := 123, descriptorIndex := 124, attributes := #[] }, { accessFlags := 25, nameIndex := 130, descriptorIndex := 124, attributes := #[] }, { accessFlags := 25, nameIndex := 136, descriptorIndex := 124, attributes := #[] }])
  fields := #[{ name := "SIOOBE_FORMATTER", type := (.object "java/util/function/BiFunction"), accessFlags := 25, slot := 0, constantValue := 0 }, { name := "AIOOBE_FORMATTER", type := (.object "java/util/function/BiFunction"), accessFlags := 25, slot := 1, constantValue := 0 }, { name := "IOOBE_FORMATTER", type := (.object "java/util/function/BiFunction"), accessFlags := 25, slot := 2, constantValue := 0 }]
  methods := #[k12m0, k12m1]
  instanceTypes := #[]
  staticTypes := #[(.object "java/util/function/BiFunction"), (.object "java/util/function/BiFunction"), (.object "java/util/function/BiFunction")]
  resolved := Array.replicate 194 none
  statics := some 1 }

def pool13 : Array CpInfo := pool [(9, u "<init>"), (6, .class_ 18), (1, u "java/lang/Object"), (0, u "()V"), (1, .class_ 23), (1, u "jdk/internal/util/ArraysSupport"), (0, u "LOG2_ARRAY_LONG_INDEX_SCALE"), (0, u "I"), (2, u "U"), (0, u "Ljdk/internal/misc/Unsafe;"), (8, u "BIG_ENDIAN"), (0, u "Z"), (8, u "LOG2_BYTE_BIT_SIZE"), (4, u "LOG2_ARRAY_INT_INDEX_SCALE"), (54, u "JLA"), (0, u "Ljdk/internal/access/JavaLangAccess;"), (11, u "LOG2_ARRAY_BOOLEAN_INDEX_SCALE"), (9, u "LOG2_ARRAY_BYTE_INDEX_SCALE"), (5, u "LOG2_ARRAY_CHAR_INDEX_SCALE"), (5, u "LOG2_ARRAY_SHORT_INDEX_SCALE"), (18, u "LOG2_ARRAY_FLOAT_INDEX_SCALE"), (24, u "LOG2_ARRAY_DOUBLE_INDEX_SCALE"), (89, u "T_BOOLEAN"), (2, u "T_CHAR"), (1, u "T_FLOAT"), (1, u "T_DOUBLE"), (1, u "T_BYTE"), (1, u "T_SHORT"), (1, u "T_INT"), (1, u "T_LONG"), (1, u "SOFT_MAX_ARRAY_LENGTH")] 83

def k13m0 : Method := { name := "<init>", desc := "()V", sig := { parameters := [], returnType := none }, accessFlags := 2, code := none }
/-- jdk/internal/util/ArraysSupport -/
def k13 : Class := { plain "jdk/internal/util/ArraysSupport" (some 0) with
  accessFlags := 33
  interfaces := #[]
  cf := some (fileOf pool13 21 #[] #[{ accessFlags := 2, nameIndex := 9, descriptorIndex := 19, attributes := #[] }] 33 16 #[] #[{ accessFlags := 24, nameIndex := 28, descriptorIndex := 29, attributes := #[] }, { accessFlags := 26, nameIndex := 38, descriptorIndex := 39, attributes := #[] }, { accessFlags := 25, nameIndex := 121, descriptorIndex := 25, attributes := #[] }, { accessFlags := 25, nameIndex := 131, descriptorIndex := 25, attributes := #[] }, { accessFlags := 25, nameIndex := 137, descriptorIndex := 25, attributes := #[] }, { accessFlags := 25, nameIndex := 143, descriptorIndex := 25, attributes := #[] }, { accessFlags := 25, nameIndex := 53, descriptorIndex := 25, attributes := #[] }, { accessFlags := 25, nameIndex := 24, descriptorIndex := 25, attributes := #[] }, { accessFlags := 25, nameIndex := 162, descriptorIndex := 25, attributes := #[] }, { accessFlags := 25, nameIndex := 187, descriptorIndex := 25, attributes := #[] }, { accessFlags := 26, nameIndex := 48, descriptorIndex := 25, attributes := #[] }, { accessFlags := 25, nameIndex := 277, descriptorIndex := 25, attributes := #[] }, { accessFlags := 25, nameIndex := 280, descriptorIndex := 25, attributes := #[] }, { accessFlags := 25, nameIndex := 282, descriptorIndex := 25, attributes := #[] }, { accessFlags := 25, nameIndex := 284, descriptorIndex := 25, attributes := #[] }, { accessFlags := 25, nameIndex := 286, descriptorIndex := 25, attributes := #[] }, { accessFlags := 25, nameIndex := 288, descriptorIndex := 25, attributes := #[] }, { accessFlags := 25, nameIndex := 290, descriptorIndex := 25, attributes := #[] }, { accessFlags := 25, nameIndex := 292, descriptorIndex := 25, attributes := #[] }, { accessFlags := 26, nameIndex := 108, descriptorIndex := 109, attributes := #[] }, { accessFlags := 25, nameIndex := 294, descriptorIndex := 25, attributes := #[] }])
  fields := #[{ name := "U", type := (.object "jdk/internal/misc/Unsafe"), accessFlags := 24, slot := 0, constantValue := 0 }, { name := "BIG_ENDIAN", type := .boolean, accessFlags := 26, slot := 1, constantValue := 0 }, { name := "LOG2_ARRAY_BOOLEAN_INDEX_SCALE", type := .int, accessFlags := 25, slot := 2, constantValue := 0 }, { name := "LOG2_ARRAY_BYTE_INDEX_SCALE", type := .int, accessFlags := 25, slot := 3, constantValue := 0 }, { name := "LOG2_ARRAY_CHAR_INDEX_SCALE", type := .int, accessFlags := 25, slot := 4, constantValue := 0 }, { name := "LOG2_ARRAY_SHORT_INDEX_SCALE", type := .int, accessFlags := 25, slot := 5, constantValue := 0 }, { name := "LOG2_ARRAY_INT_INDEX_SCALE", type := .int, accessFlags := 25, slot := 6, constantValue := 0 }, { name := "LOG2_ARRAY_LONG_INDEX_SCALE", type := .int, accessFlags := 25, slot := 7, constantValue := 0 }, { name := "LOG2_ARRAY_FLOAT_INDEX_SCALE", type := .int, accessFlags := 25, slot := 8, constantValue := 0 }, { name := "LOG2_ARRAY_DOUBLE_INDEX_SCALE", type := .int, accessFlags := 25, slot := 9, constantValue := 0 }, { name := "LOG2_BYTE_BIT_SIZE", type := .int, accessFlags := 26, slot := 10, constantValue := 0 }, { name := "T_BOOLEAN", type := .int, accessFlags := 25, slot := 11, constantValue := 0 }, { name := "T_CHAR", type := .int, accessFlags := 25, slot := 12, constantValue := 0 }, { name := "T_FLOAT", type := .int, accessFlags := 25, slot := 13, constantValue := 0 }, { name := "T_DOUBLE", type := .int, accessFlags := 25, slot := 14, constantValue := 0 }, { name := "T_BYTE", type := .int, accessFlags := 25, slot := 15, constantValue := 0 }, { name := "T_SHORT", type := .int, accessFlags := 25, slot := 16, constantValue := 0 }, { name := "T_INT", type := .int, accessFlags := 25, slot := 17, constantValue := 0 }, { name := "T_LONG", type := .int, accessFlags := 25, slot := 18, constantValue := 0 }, { name := "JLA", type := (.object "jdk/internal/access/JavaLangAccess"), accessFlags := 26, slot := 19, constantValue := 0 }, { name := "SOFT_MAX_ARRAY_LENGTH", type := .int, accessFlags := 25, slot := 20, constantValue := 0 }]
  methods := #[k13m0]
  instanceTypes := #[]
  staticTypes := #[(.object "jdk/internal/misc/Unsafe"), .boolean, .int, .int, .int, .int, .int, .int, .int, .int, .int, .int, .int, .int, .int, .int, .int, .int, .int, (.object "jdk/internal/access/JavaLangAccess"), .int]
  resolved := Array.replicate 378 none
  statics := none }

def pool14 : Array CpInfo := pool [(1, u "java/lang/Cloneable"), (0, .class_ 1), (0, u "java/lang/Object"), (0, .class_ 3)] 3

/-- java/lang/Cloneable -/
def k14 : Class := { plain "java/lang/Cloneable" (some 0) with
  accessFlags := 1537
  interfaces := #[]
  cf := some (fileOf pool14 2 #[] #[] 1537 4 #[] #[])
  fields := #[]
  methods := #[]
  instanceTypes := #[]
  staticTypes := #[]
  resolved := Array.replicate 8 none
  statics := none }

/-- the primitive byte -/
def k15 : Class := { plain "byte" none with kind := .primitive 'B', accessFlags := 0x411 }
/-- [B -/
def k16 : Class := { plain "[B" (some 0) with kind := .array 15 .byte, interfaces := #[14, 2], accessFlags := 1041 }

/-- the primitive char -/
def k17 : Class := { plain "char" none with kind := .primitive 'C', accessFlags := 0x411 }
/-- [C -/
def k18 : Class := { plain "[C" (some 0) with kind := .array 17 .char, interfaces := #[14, 2], accessFlags := 1041 }

/-- the primitive int -/
def k19 : Class := { plain "int" none with kind := .primitive 'I', accessFlags := 0x411 }
/-- [I -/
def k20 : Class := { plain "[I" (some 0) with kind := .array 19 .int, interfaces := #[14, 2], accessFlags := 1041 }

def heap : Heap := #[{ cls := 7, slots := #[.long 0, .int 1, .null, .int 0, .null, .int 0, .int 0], vm := .statics 7 },
  { cls := 12, slots := #[.null, .null, .null], vm := .statics 12 }]
def classes : Array Class := #[k0, k1, k2, k3, k4, k5, k6, k7, k8, k9, k10, k11, k12, k13, k14, k15, k16, k17, k18, k19, k20]
def interned : List (Array UInt16 × Addr) := []
def slotsUsed : Nat := 10
def theMethod : MethodId := ⟨1, 2⟩
def args0 : Array Value := #[.int 5, .int 7, .int 9, .int 3, .int 4, .int 1]
def aboutOver (below : List Frame) : State where
  vm := { classes := classes, interned := interned.toArray }
  heap := heap
  slotsUsed := slotsUsed
  threads := #[{ frames := .invoking theMethod args0 :: below }]
def below0 : List Frame := [.native { method := ⟨0, 0⟩, args := #[] }]
def about1 : State := aboutOver below0
def p0 : Program := .bare "" "" ""
def e0 : Env := launch0.env 0 0 0
theorem w_frames : about1.frames = Frame.invoking theMethod args0 :: below0 := rfl
set_option maxRecDepth 65536 in
theorem w_args : argsFit about1.vm theMethod args0 = true := by decide +kernel
set_option maxRecDepth 65536 in
theorem w_heap : heapFits about1 = true := by decide +kernel
set_option maxRecDepth 65536 in
theorem w_runnable : about1.curStatus? = some .runnable := by decide +kernel
set_option maxRecDepth 65536 in
theorem w_alone : about1.alone = true := by decide +kernel
set_option maxRecDepth 65536 in
theorem w_named : about1.methodNamed? x = some theMethod := by decide +kernel
set_option maxRecDepth 65536 in
theorem w_hears : about1.hears theMethod below0 = true := by decide +kernel
set_option maxRecDepth 65536 in
theorem w_ripe : about1.ripe theMethod args0 below0 = true := by decide +kernel
theorem w_running : about1.status = .running := rfl
set_option maxRecDepth 65536 in
theorem w_room : about1.hasRoom e0.platform room_1 = true :=
  launch0.hasRoom_least _ room_1 (by decide +kernel) (by decide +kernel) (by decide +kernel) (by decide +kernel) (by decide +kernel) (by decide +kernel)
theorem allAtoms_all (ts : List Jvm.Cond) (a : Array Jvm.Value) (st : Jvm.State) : (allAtoms ts).before a st = ts.all (fun c => c.before a st) := by
  induction ts with
  | nil => rfl
  | cons c t ih =>
    show (Jvm.Cond.and c (allAtoms t)).before a st = _
    rw [Jvm.Cond.before_and, ih, List.all_cons]
def words1 : List Jvm.Cond := Jvm.Cond.code x code maxLocals ret :: tables_1
/-- a 'code' word, met by the world's own term for the bytes: nothing is compared byte by byte -/
theorem code_word {y : MethodName} {bytes : ByteArray} {mx : Nat} {rt : Option FieldType} {a : Array Value} {s : State} {m : MethodId} {meth : Method} {c : Code} (h1 : s.methodNamed? y = some m) (h2 : s.vm.method? m = some meth) (h3 : meth.code = some c) (h4 : c.code = bytes)
    (h5 : (c.maxLocals == mx && c.exceptionTable.isEmpty && decide (c.maxStack ≤ mostOperands) && decide (meth.sig.returnType = rt) && !meth.locks && decide (parseMethodDescriptor y.desc = some meth.sig)) = true) : (Jvm.Cond.code y bytes mx rt).before a s = true := by
  simp only [Bool.and_eq_true, beq_iff_eq, Bool.not_eq_true', decide_eq_true_eq] at h5
  obtain ⟨⟨⟨⟨⟨g1, g2⟩, g3⟩, g4⟩, g5⟩, g6⟩ := h5
  simp [Cond.before, Cond.holds, Cond.value, h1, h2, h3, h4, g1, g2, g3, g4, g5, g6]
def isCode : Jvm.Cond → Bool
  | .code _ _ _ _ => true
  | _ => false
theorem all_split {L : List Jvm.Cond} {P : Jvm.Cond → Bool} (h1 : L.all (fun c => isCode c || P c) = true) (h2 : ∀ c ∈ L.filter isCode, P c = true) : L.all P = true := by
  refine List.all_eq_true.mpr fun c hc => ?_
  have h := List.all_eq_true.mp h1 c hc
  rcases Bool.eq_false_or_eq_true (isCode c) with hi | hi
  · exact h2 c (List.mem_filter.mpr ⟨hc, hi⟩)
  · simpa [hi] using h
set_option maxRecDepth 65536 in
theorem w_c0 : (Jvm.Cond.code x code maxLocals ret).before args0 about1 = true := code_word (m := ⟨1, 2⟩) (meth := k1m2) (c := k1c2) (by decide +kernel) rfl rfl rfl (by decide +kernel)
set_option maxRecDepth 65536 in
theorem w_c1 : (Jvm.Cond.code ({ cls := "com/example/rigid_tally/rigidtally/CounterNamesRequireValidPinLaw", name := "allowed", desc := "(I)C" } : Jvm.MethodName) method_2_code (2 : Nat) (Option.some Jvm.ClassFile.FieldType.char)).before args0 about1 = true := code_word (m := ⟨1, 1⟩) (meth := k1m1) (c := k1c1) (by decide +kernel) rfl rfl rfl (by decide +kernel)
set_option maxRecDepth 65536 in
theorem w_c2 : (Jvm.Cond.code ({ cls := "java/lang/String", name := "<init>", desc := "([C)V" } : Jvm.MethodName) jdk_42_method_3_code (2 : Nat) (Option.none : Option Jvm.ClassFile.FieldType)).before args0 about1 = true := code_word (m := ⟨7, 1⟩) (meth := k7m1) (c := k7c1) (by decide +kernel) rfl rfl rfl (by decide +kernel)
set_option maxRecDepth 65536 in
theorem w_c3 : (Jvm.Cond.code ({ cls := "java/lang/String", name := "<init>", desc := "([CIILjava/lang/Void;)V" } : Jvm.MethodName) jdk_42_method_149_code (6 : Nat) (Option.none : Option Jvm.ClassFile.FieldType)).before args0 about1 = true := code_word (m := ⟨7, 5⟩) (meth := k7m5) (c := k7c5) (by decide +kernel) rfl rfl rfl (by decide +kernel)
set_option maxRecDepth 65536 in
theorem w_c4 : (Jvm.Cond.code ({ cls := "java/lang/Object", name := "<init>", desc := "()V" } : Jvm.MethodName) object_method_1_code (1 : Nat) (Option.none : Option Jvm.ClassFile.FieldType)).before args0 about1 = true := code_word (m := ⟨0, 0⟩) (meth := k0m0) (c := k0c0) (by decide +kernel) rfl rfl rfl (by decide +kernel)
set_option maxRecDepth 65536 in
theorem w_c5 : (Jvm.Cond.code ({ cls := "java/lang/StringUTF16", name := "compress", desc := "([CII)[B" } : Jvm.MethodName) jdk_52_method_16_code (6 : Nat) (Option.some (Jvm.ClassFile.FieldType.array Jvm.ClassFile.FieldType.byte))).before args0 about1 = true := code_word (m := ⟨8, 2⟩) (meth := k8m2) (c := k8c2) (by decide +kernel) rfl rfl rfl (by decide +kernel)
set_option maxRecDepth 65536 in
theorem w_c6 : (Jvm.Cond.code ({ cls := "java/lang/StringUTF16", name := "compress", desc := "([CI[BII)I" } : Jvm.MethodName) jdk_52_method_21_code (7 : Nat) (Option.some Jvm.ClassFile.FieldType.int)).before args0 about1 = true := code_word (m := ⟨8, 3⟩) (meth := k8m3) (c := k8c3) (by decide +kernel) rfl rfl rfl (by decide +kernel)
set_option maxRecDepth 65536 in
theorem w_c7 : (Jvm.Cond.code ({ cls := "java/lang/StringUTF16", name := "coderFromArrayLen", desc := "([BI)B" } : Jvm.MethodName) jdk_52_method_15_code (2 : Nat) (Option.some Jvm.ClassFile.FieldType.byte)).before args0 about1 = true := code_word (m := ⟨8, 1⟩) (meth := k8m1) (c := k8c1) (by decide +kernel) rfl rfl rfl (by decide +kernel)
set_option maxRecDepth 65536 in
theorem w_c8 : (Jvm.Cond.code ({ cls := "java/lang/String", name := "length", desc := "()I" } : Jvm.MethodName) jdk_42_method_54_code (1 : Nat) (Option.some Jvm.ClassFile.FieldType.int)).before args0 about1 = true := code_word (m := ⟨7, 2⟩) (meth := k7m2) (c := k7c2) (by decide +kernel) rfl rfl rfl (by decide +kernel)
set_option maxRecDepth 65536 in
theorem w_c9 : (Jvm.Cond.code ({ cls := "java/lang/String", name := "coder", desc := "()B" } : Jvm.MethodName) jdk_42_method_152_code (1 : Nat) (Option.some Jvm.ClassFile.FieldType.byte)).before args0 about1 = true := code_word (m := ⟨7, 6⟩) (meth := k7m6) (c := k7c6) (by decide +kernel) rfl rfl rfl (by decide +kernel)
set_option maxRecDepth 65536 in
theorem w_c10 : (Jvm.Cond.code ({ cls := "com/example/rigid_tally/rigidtally/CounterNames", name := "requireValid", desc := "(Ljava/lang/String;)Ljava/lang/String;" } : Jvm.MethodName) prog_3_method_2_code (2 : Nat) (Option.some (Jvm.ClassFile.FieldType.object "java/lang/String"))).before args0 about1 = true := code_word (m := ⟨9, 1⟩) (meth := k9m1) (c := k9c1) (by decide +kernel) rfl rfl rfl (by decide +kernel)
set_option maxRecDepth 65536 in
theorem w_c11 : (Jvm.Cond.code ({ cls := "java/util/Objects", name := "requireNonNull", desc := "(Ljava/lang/Object;Ljava/lang/String;)Ljava/lang/Object;" } : Jvm.MethodName) jdk_31_method_11_code (2 : Nat) (Option.some (Jvm.ClassFile.FieldType.object "java/lang/Object"))).before args0 about1 = true := code_word (m := ⟨10, 1⟩) (meth := k10m1) (c := k10c1) (by decide +kernel) rfl rfl rfl (by decide +kernel)
set_option maxRecDepth 65536 in
theorem w_c12 : (Jvm.Cond.code ({ cls := "java/lang/String", name := "isEmpty", desc := "()Z" } : Jvm.MethodName) jdk_42_method_55_code (1 : Nat) (Option.some Jvm.ClassFile.FieldType.boolean)).before args0 about1 = true := code_word (m := ⟨7, 3⟩) (meth := k7m3) (c := k7c3) (by decide +kernel) rfl rfl rfl (by decide +kernel)
set_option maxRecDepth 65536 in
theorem w_c13 : (Jvm.Cond.code ({ cls := "java/lang/String", name := "charAt", desc := "(I)C" } : Jvm.MethodName) jdk_42_method_56_code (2 : Nat) (Option.some Jvm.ClassFile.FieldType.char)).before args0 about1 = true := code_word (m := ⟨7, 4⟩) (meth := k7m4) (c := k7c4) (by decide +kernel) rfl rfl rfl (by decide +kernel)
set_option maxRecDepth 65536 in
theorem w_c14 : (Jvm.Cond.code ({ cls := "java/lang/String", name := "isLatin1", desc := "()Z" } : Jvm.MethodName) jdk_42_method_154_code (1 : Nat) (Option.some Jvm.ClassFile.FieldType.boolean)).before args0 about1 = true := code_word (m := ⟨7, 7⟩) (meth := k7m7) (c := k7c7) (by decide +kernel) rfl rfl rfl (by decide +kernel)
set_option maxRecDepth 65536 in
theorem w_c15 : (Jvm.Cond.code ({ cls := "java/lang/StringLatin1", name := "charAt", desc := "([BI)C" } : Jvm.MethodName) jdk_43_method_2_code (2 : Nat) (Option.some Jvm.ClassFile.FieldType.char)).before args0 about1 = true := code_word (m := ⟨11, 1⟩) (meth := k11m1) (c := k11c1) (by decide +kernel) rfl rfl rfl (by decide +kernel)
set_option maxRecDepth 65536 in
theorem w_c16 : (Jvm.Cond.code ({ cls := "java/lang/String", name := "checkIndex", desc := "(II)V" } : Jvm.MethodName) jdk_42_method_155_code (2 : Nat) (Option.none : Option Jvm.ClassFile.FieldType)).before args0 about1 = true := code_word (m := ⟨7, 8⟩) (meth := k7m8) (c := k7c8) (by decide +kernel) rfl rfl rfl (by decide +kernel)
set_option maxRecDepth 65536 in
theorem w_c17 : (Jvm.Cond.code ({ cls := "jdk/internal/util/Preconditions", name := "checkIndex", desc := "(IILjava/util/function/BiFunction;)I" } : Jvm.MethodName) jdk_41_method_11_code (3 : Nat) (Option.some Jvm.ClassFile.FieldType.int)).before args0 about1 = true := code_word (m := ⟨12, 1⟩) (meth := k12m1) (c := k12c1) (by decide +kernel) rfl rfl rfl (by decide +kernel)
set_option maxRecDepth 65536 in
theorem w_c18 : (Jvm.Cond.code ({ cls := "com/example/rigid_tally/rigidtally/CounterNames", name := "isAllowed", desc := "(C)Z" } : Jvm.MethodName) prog_3_method_3_code (1 : Nat) (Option.some Jvm.ClassFile.FieldType.boolean)).before args0 about1 = true := code_word (m := ⟨9, 2⟩) (meth := k9m2) (c := k9c2) (by decide +kernel) rfl rfl rfl (by decide +kernel)
def codes1 : List Jvm.Cond := [Jvm.Cond.code x code maxLocals ret, Jvm.Cond.code ({ cls := "com/example/rigid_tally/rigidtally/CounterNamesRequireValidPinLaw", name := "allowed", desc := "(I)C" } : Jvm.MethodName) method_2_code (2 : Nat) (Option.some Jvm.ClassFile.FieldType.char), Jvm.Cond.code ({ cls := "java/lang/String", name := "<init>", desc := "([C)V" } : Jvm.MethodName) jdk_42_method_3_code (2 : Nat) (Option.none : Option Jvm.ClassFile.FieldType), Jvm.Cond.code ({ cls := "java/lang/String", name := "<init>", desc := "([CIILjava/lang/Void;)V" } : Jvm.MethodName) jdk_42_method_149_code (6 : Nat) (Option.none : Option Jvm.ClassFile.FieldType), Jvm.Cond.code ({ cls := "java/lang/Object", name := "<init>", desc := "()V" } : Jvm.MethodName) object_method_1_code (1 : Nat) (Option.none : Option Jvm.ClassFile.FieldType), Jvm.Cond.code ({ cls := "java/lang/StringUTF16", name := "compress", desc := "([CII)[B" } : Jvm.MethodName) jdk_52_method_16_code (6 : Nat) (Option.some (Jvm.ClassFile.FieldType.array Jvm.ClassFile.FieldType.byte)), Jvm.Cond.code ({ cls := "java/lang/StringUTF16", name := "compress", desc := "([CI[BII)I" } : Jvm.MethodName) jdk_52_method_21_code (7 : Nat) (Option.some Jvm.ClassFile.FieldType.int), Jvm.Cond.code ({ cls := "java/lang/StringUTF16", name := "coderFromArrayLen", desc := "([BI)B" } : Jvm.MethodName) jdk_52_method_15_code (2 : Nat) (Option.some Jvm.ClassFile.FieldType.byte), Jvm.Cond.code ({ cls := "java/lang/String", name := "length", desc := "()I" } : Jvm.MethodName) jdk_42_method_54_code (1 : Nat) (Option.some Jvm.ClassFile.FieldType.int), Jvm.Cond.code ({ cls := "java/lang/String", name := "coder", desc := "()B" } : Jvm.MethodName) jdk_42_method_152_code (1 : Nat) (Option.some Jvm.ClassFile.FieldType.byte), Jvm.Cond.code ({ cls := "com/example/rigid_tally/rigidtally/CounterNames", name := "requireValid", desc := "(Ljava/lang/String;)Ljava/lang/String;" } : Jvm.MethodName) prog_3_method_2_code (2 : Nat) (Option.some (Jvm.ClassFile.FieldType.object "java/lang/String")), Jvm.Cond.code ({ cls := "java/util/Objects", name := "requireNonNull", desc := "(Ljava/lang/Object;Ljava/lang/String;)Ljava/lang/Object;" } : Jvm.MethodName) jdk_31_method_11_code (2 : Nat) (Option.some (Jvm.ClassFile.FieldType.object "java/lang/Object")), Jvm.Cond.code ({ cls := "java/lang/String", name := "isEmpty", desc := "()Z" } : Jvm.MethodName) jdk_42_method_55_code (1 : Nat) (Option.some Jvm.ClassFile.FieldType.boolean), Jvm.Cond.code ({ cls := "java/lang/String", name := "charAt", desc := "(I)C" } : Jvm.MethodName) jdk_42_method_56_code (2 : Nat) (Option.some Jvm.ClassFile.FieldType.char), Jvm.Cond.code ({ cls := "java/lang/String", name := "isLatin1", desc := "()Z" } : Jvm.MethodName) jdk_42_method_154_code (1 : Nat) (Option.some Jvm.ClassFile.FieldType.boolean), Jvm.Cond.code ({ cls := "java/lang/StringLatin1", name := "charAt", desc := "([BI)C" } : Jvm.MethodName) jdk_43_method_2_code (2 : Nat) (Option.some Jvm.ClassFile.FieldType.char), Jvm.Cond.code ({ cls := "java/lang/String", name := "checkIndex", desc := "(II)V" } : Jvm.MethodName) jdk_42_method_155_code (2 : Nat) (Option.none : Option Jvm.ClassFile.FieldType), Jvm.Cond.code ({ cls := "jdk/internal/util/Preconditions", name := "checkIndex", desc := "(IILjava/util/function/BiFunction;)I" } : Jvm.MethodName) jdk_41_method_11_code (3 : Nat) (Option.some Jvm.ClassFile.FieldType.int), Jvm.Cond.code ({ cls := "com/example/rigid_tally/rigidtally/CounterNames", name := "isAllowed", desc := "(C)Z" } : Jvm.MethodName) prog_3_method_3_code (1 : Nat) (Option.some Jvm.ClassFile.FieldType.boolean)]
set_option maxRecDepth 65536 in
theorem codes_eq : words1.filter isCode = codes1 := rfl
theorem w_codes : ∀ c ∈ words1.filter isCode, c.before args0 about1 = true := by
  rw [codes_eq]
  intro c hc
  simp only [codes1, List.mem_cons, List.not_mem_nil, or_false] at hc
  rcases hc with rfl | rfl | rfl | rfl | rfl | rfl | rfl | rfl | rfl | rfl | rfl | rfl | rfl | rfl | rfl | rfl | rfl | rfl | rfl
  · exact w_c0
  · exact w_c1
  · exact w_c2
  · exact w_c3
  · exact w_c4
  · exact w_c5
  · exact w_c6
  · exact w_c7
  · exact w_c8
  · exact w_c9
  · exact w_c10
  · exact w_c11
  · exact w_c12
  · exact w_c13
  · exact w_c14
  · exact w_c15
  · exact w_c16
  · exact w_c17
  · exact w_c18
set_option maxRecDepth 65536 in
theorem w_t1 : (words1.take 24).all (fun c => isCode c || c.before args0 about1) = true := by decide +kernel
set_option maxRecDepth 65536 in
theorem w_t2 : ((words1.drop 24).take 24).all (fun c => isCode c || c.before args0 about1) = true := by decide +kernel
set_option maxRecDepth 65536 in
theorem w_t3 : (((words1.drop 24).drop 24).take 24).all (fun c => isCode c || c.before args0 about1) = true := by decide +kernel
set_option maxRecDepth 65536 in
theorem w_t4 : (((words1.drop 24).drop 24).drop 24).all (fun c => isCode c || c.before args0 about1) = true := by decide +kernel
theorem w_tables : (allAtoms (Jvm.Cond.code x code maxLocals ret :: tables_1)).before args0 about1 = true := by
  rw [allAtoms_all]
  show words1.all (fun c => c.before args0 about1) = true
  refine all_split ?_ w_codes
  rw [← List.take_append_drop 24 words1, List.all_append, w_t1, ← List.take_append_drop 24 (words1.drop 24), List.all_append, w_t2, ← List.take_append_drop 24 ((words1.drop 24).drop 24), List.all_append, w_t3, w_t4]
  rfl
set_option maxRecDepth 65536 in
theorem w_rest : rest_1_c.before args0 about1 = true := by decide +kernel
set_option maxRecDepth 65536 in
theorem w_case : (Jvm.Cond.and given_1 narrow_1).before args0 about1 = true := by decide +kernel
theorem w_applies : (headSpec (Jvm.Cond.code x code maxLocals ret :: tables_1) room_1).applies x e0.platform about1 = true :=
  (Spec.applies_iff w_frames).mpr ⟨w_running, w_runnable, w_alone, w_named, w_hears, w_ripe, w_room, w_tables⟩
theorem atStart : AtStart classFile x code maxLocals ret World_1 tables_1 room_1 Calls_1 rest_1 Pre_1 launch0 p0 e0 about1 theMethod args0 below0 :=
  ⟨lists_1, trivial, launch0.admits_env _ _ _, launch0.least_env, fairChoices_fair.cas, fairChoices_fair.clock, w_frames, w_args, w_heap, w_applies, trivial, w_rest, w_case⟩
end start1
theorem witness_1 : WitnessClaimed_1 := ⟨start1.p0, start1.e0, start1.about1, start1.theMethod, start1.args0, start1.below0, start1.atStart⟩
end Jvm.Pilot.@@N@@

