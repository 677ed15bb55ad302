import JvmDerived
import JvmDerived.Pilot.@@N@@Statement
import JvmDerived.Pilot.@@N@@Code
set_option linter.unusedVariables false
set_option linter.unusedSimpArgs false
/- laws to paste: Road.backV (cut by pick.py; bodies as the Statement names them) -/
namespace Jvm.Pilot.@@N@@
namespace StrChars
open Jvm Sem ClassFile Op Lib Jvm.Stand Jvm.Free.XT Jvm.Free.ALB Jvm.Free.JM Jvm.Free
open Jvm.Lib.Cold (StaticIs)
/-- a char array whose places are chars -/
def Ch (a : Addr) (A : Cell) (U : State) : Prop := Arr .char a A U ∧ Typed .char A
theorem Ch.mv {a : Addr} {A : Cell} {U U' : State} (h : Ch a A U) (hal : U.vm.Alike U'.vm) (hh : U'.heap = U.heap) : Ch a A U' := ⟨h.1.mv hal hh, h.2⟩
theorem Ch.keep {a : Addr} {A : Cell} {U U' : State} (h : Ch a A U) (hal : U.vm.Alike U'.vm) (hk : U'.heap[a]? = some A) : Ch a A U' := ⟨h.1.keep hal hk, h.2⟩
/-- what place i of a char[]'s cell holds -/
def cv (A : Cell) (i : Nat) : Int32 := match A.slots[i]? with | some (.int x) => x | _ => 0
theorem Ch.get {a : Addr} {A : Cell} {U : State} (h : Ch a A U) {i : Nat} (hi : i < A.slots.size) : A.slots[i]? = some (.int (cv A i)) := by
  have e := Array.getElem?_eq_getElem hi
  have f := h.2 i _ e
  unfold cv; rw [e]
  generalize A.slots[i] = v at f
  cases v <;> simp [fits] at f ⊢
/-- the byte that i2b leaves of a char -/
def lo8 (x : Int32) : Int32 := x.toInt8.toInt32
theorem fits_lo8 (y : Int32) : fits .byte (.int (lo8 y)) = true := by
  have h1 := y.toInt8.le_toInt
  have h2 := y.toInt8.toInt_lt
  simp only [lo8, fits, Bool.and_eq_true, decide_eq_true_eq, Int32.le_iff_toInt_le, Int8.toInt_toInt32, show (-128 : Int32).toInt = -128 from by decide, show (127 : Int32).toInt = 127 from by decide]
  omega
/-- A' is A but that each place j of lo .. hi - 1 holds f j -/
def Laid (A A' : Cell) (lo hi : Nat) (f : Nat → Value) : Prop := A'.cls = A.cls ∧ A'.vm = A.vm ∧ A'.slots.size = A.slots.size ∧ ∀ i, A'.slots[i]? = if lo ≤ i ∧ i < hi then some (f i) else A.slots[i]?
theorem Laid.zero (A : Cell) (lo : Nat) (f : Nat → Value) : Laid A A lo (lo + 0) f := ⟨rfl, rfl, rfl, fun i => by rw [if_neg (by omega)]⟩
theorem Laid.step {A Ak : Cell} {lo k : Nat} {f : Nat → Value} {v : Value} (h : Laid A Ak lo k f) (hlo : lo ≤ k) (hk : k < Ak.slots.size) (hv : v = f k) : Laid A (Ak.setSlot k v) lo (k + 1) f := by
  refine ⟨h.1, h.2.1, by simpa [Cell.setSlot] using h.2.2.1, fun i => ?_⟩
  by_cases e : k = i
  · subst e; rw [Cell.slots_setSlot_self v hk, if_pos (by omega), hv]
  · rw [Cell.slots_setSlot_ne v e, h.2.2.2 i]
    by_cases q : lo ≤ i ∧ i < k
    · rw [if_pos q, if_pos (by omega)]
    · rw [if_neg q, if_neg (by omega)]
def U16 : String := "java/lang/StringUTF16"
namespace Cmp5
def yN : MethodName := ⟨"java/lang/StringUTF16", "compress", "([CI[BII)I"⟩
abbrev yB : ByteArray := jdk_52_method_21_code
theorem d0 : decode yB 0 = .ok (.iconst 0, 1) := by decide +kernel
theorem d1 : decode yB 1 = .ok (.istore 5, 2) := by decide +kernel
theorem d3 : decode yB 3 = .ok (.iload 5, 2) := by decide +kernel
theorem d5 : decode yB 5 = .ok (.iload 4, 2) := by decide +kernel
theorem d7 : decode yB 7 = .ok (.if_icmp (.ge) 37, 3) := by decide +kernel
theorem d10 : decode yB 10 = .ok (.aload_n 0, 1) := by decide +kernel
theorem d11 : decode yB 11 = .ok (.iload_n 1, 1) := by decide +kernel
theorem d12 : decode yB 12 = .ok (.caload, 1) := by decide +kernel
theorem d13 : decode yB 13 = .ok (.istore 6, 2) := by decide +kernel
theorem d15 : decode yB 15 = .ok (.iload 6, 2) := by decide +kernel
theorem d17 : decode yB 17 = .ok (.sipush 255, 3) := by decide +kernel
theorem d20 : decode yB 20 = .ok (.if_icmp (.le) 6, 3) := by decide +kernel
theorem d26 : decode yB 26 = .ok (.aload_n 2, 1) := by decide +kernel
theorem d27 : decode yB 27 = .ok (.iload_n 3, 1) := by decide +kernel
theorem d28 : decode yB 28 = .ok (.iload 6, 2) := by decide +kernel
theorem d30 : decode yB 30 = .ok (.i2b, 1) := by decide +kernel
theorem d31 : decode yB 31 = .ok (.bastore, 1) := by decide +kernel
theorem d32 : decode yB 32 = .ok (.iinc 1 1, 3) := by decide +kernel
theorem d35 : decode yB 35 = .ok (.iinc 3 1, 3) := by decide +kernel
theorem d38 : decode yB 38 = .ok (.iinc 5 1, 3) := by decide +kernel
theorem d41 : decode yB 41 = .ok (.goto (-38), 3) := by decide +kernel
theorem d44 : decode yB 44 = .ok (.iload 4, 2) := by decide +kernel
theorem d46 : decode yB 46 = .ok (.ireturn, 1) := by decide +kernel
def site : List Cond := []
def tab : Cond := tabOf yN yB 7 (some .int) site
def P (b : Addr) (A : Cell) (d : Addr) (B : Cell) (o q len : Nat) (args : Array Value) (s : State) : Prop := args = #[.ref b, .int (Int32.ofNat o), .ref d, .int (Int32.ofNat q), .int (Int32.ofNat len)] ∧ Ch b A s ∧ Arr .byte d B s ∧ b ≠ d ∧ o + len ≤ A.slots.size ∧ q + len ≤ B.slots.size ∧ ∀ i, i < len → ¬ 255 < cv A (o + i)
def E (b : Addr) (A : Cell) (d : Addr) (B : Cell) (o q len : Nat) (r : Option Value) (s u : State) : Prop := r = some (.int (Int32.ofNat len)) ∧ ∃ B', Put d B' s u ∧ Laid B B' q (q + len) (fun j => Value.int (lo8 (cv A (o + (j - q)))))
/-- no char of the range above 255: len; the places written hold each char's low byte -/
theorem law (l : Launch) (b : Addr) (A : Cell) (d : Addr) (B : Cell) (o q len : Nat) : Law l yN 5 5 0 0 yB 7 (some .int) site (P b A d B o q len) (E b A d B o q len) (copyLocs d q len) 0 0 := by
  refine Law.of_walk (plainFor_of_name (by decide +kernel)) (by decide +kernel) (by decide +kernel) (by decide) (fun _ _ h => by rw [h.1]; rfl) (fun _ U U' hal hh h => ⟨h.1, h.2.1.mv hal hh, h.2.2.1.mv hal hh, h.2.2.2⟩) (fun r U U' V V' h1 hal h2 h => ⟨h.1, h.2.elim fun B' q => ⟨B', q.1.mv h1 h2, q.2⟩⟩) ?_
  intro p e s m args below meth c s₁ X0 hexec hbytes hml hret hlk hnm hown hh0 W hP
  obtain ⟨rfl, hA, hB, hne, l1, l2, hp⟩ := hP
  have c1 : Steps p.tables e below (s₁.setTop (entryFrame m #[.ref b, .int (Int32.ofNat o), .ref d, .int (Int32.ofNat q), .int (Int32.ofNat len)] 7)) (s₁.setTop (mkF m 0 #[.val (.ref b), .val (.int (Int32.ofNat o)), .val (.ref d), .val (.int (Int32.ofNat q)), .val (.int (Int32.ofNat len)), .unset, .unset] [])) := entry rfl
  have hA0 := hA.1.mv X0.warmed.alike hh0
  have hB0 := hB.mv X0.warmed.alike hh0
  have a31 := hA.1.2.2.2
  have c2 : Steps p.tables e below (s₁.setTop (entryFrame m #[.ref b, .int (Int32.ofNat o), .ref d, .int (Int32.ofNat q), .int (Int32.ofNat len)] 7)) (s₁.setTop (mkF m 3 #[.val (.ref b), .val (.int (Int32.ofNat o)), .val (.ref d), .val (.int (Int32.ofNat q)), .val (.int (Int32.ofNat len)), .val (.int 0), .unset] [])) := c1.trans (by
    refine iconstV X0.here hexec rfl 0 (hb hbytes d0) (by decide) ?_
    refine XS.istore X0.here hexec rfl (hb hbytes d1) rfl rfl ?_
    exact Steps.refl _)
  have loop : ∀ (r i : Nat), i + r = len → ∀ (z : Slot), (z = .unset ∨ ∃ w, z = .val w ∧ w.category = 1) → ∀ (Tl : State) (Bk : Cell), Stand p l e { frames := 0, locals := 0, cells := 0, slots := 0 } s m #[.ref b, .int (Int32.ofNat o), .ref d, .int (Int32.ofNat q), .int (Int32.ofNat len)] below meth c Tl ([] ++ copyLocs d q i) 0 0 → Put d Bk s₁ Tl → Laid B Bk q (q + i) (fun j => Value.int (lo8 (cv A (o + (j - q))))) →
      Steps p.tables e below (s₁.setTop (entryFrame m #[.ref b, .int (Int32.ofNat o), .ref d, .int (Int32.ofNat q), .int (Int32.ofNat len)] 7)) (Tl.setTop (mkF m 3 #[.val (.ref b), .val (.int (Int32.ofNat (o + i))), .val (.ref d), .val (.int (Int32.ofNat (q + i))), .val (.int (Int32.ofNat len)), .val (.int (Int32.ofNat i)), z] [])) → ∃ (T' : State) (B' : Cell) (z' : Slot), Stand p l e { frames := 0, locals := 0, cells := 0, slots := 0 } s m #[.ref b, .int (Int32.ofNat o), .ref d, .int (Int32.ofNat q), .int (Int32.ofNat len)] below meth c T' ([] ++ copyLocs d q len) 0 0 ∧ Put d B' s₁ T' ∧ Laid B B' q (q + len) (fun j => Value.int (lo8 (cv A (o + (j - q))))) ∧
      Steps p.tables e below (s₁.setTop (entryFrame m #[.ref b, .int (Int32.ofNat o), .ref d, .int (Int32.ofNat q), .int (Int32.ofNat len)] 7)) (T'.setTop (mkF m 3 #[.val (.ref b), .val (.int (Int32.ofNat (o + len))), .val (.ref d), .val (.int (Int32.ofNat (q + len))), .val (.int (Int32.ofNat len)), .val (.int (Int32.ofNat len)), z'] [])) := by
    intro r
    induction r with
    | zero =>
      intro i hi z hz Tl Bk Xl pl fl cl
      have hil : i = len := by omega
      rw [hil] at Xl fl cl
      exact ⟨Tl, Bk, z, Xl, pl, fl, cl⟩
    | succ r ih =>
      intro i hi z hz Tl Bk Xl pl fl cl
      have all := X0.warmed.alike.symm.trans Xl.warmed.alike
      have hAl := hA0.keep all (pl.other hne hA0.1)
      have hBk := hB0.like all pl.1 fl.1 fl.2.1 fl.2.2.1
      have hlt : q + i < Bk.slots.size := by rw [fl.2.2.1]; omega
      have c3 : Steps p.tables e below (s₁.setTop (entryFrame m #[.ref b, .int (Int32.ofNat o), .ref d, .int (Int32.ofNat q), .int (Int32.ofNat len)] 7)) (Tl.setTop (mkF m 12 #[.val (.ref b), .val (.int (Int32.ofNat (o + i))), .val (.ref d), .val (.int (Int32.ofNat (q + i))), .val (.int (Int32.ofNat len)), .val (.int (Int32.ofNat i)), z] [.int (Int32.ofNat (o + i)), .ref b])) := cl.trans (by
        refine XS.iload Xl.here hexec rfl (hb hbytes d3) rfl ?_
        refine XS.iload Xl.here hexec rfl (hb hbytes d5) rfl ?_
        refine XS.icmpNo Xl.here hexec rfl (hb hbytes d7) rfl (ii_ge_f (lt32 (by omega) (by omega))) ?_
        refine XS.aloadN Xl.here hexec rfl (hb hbytes d10) rfl rfl ?_
        refine XS.iloadN Xl.here hexec rfl (hb hbytes d11) rfl ?_
        exact Steps.refl _)
      have c4 : Steps p.tables e below (s₁.setTop (entryFrame m #[.ref b, .int (Int32.ofNat o), .ref d, .int (Int32.ofNat q), .int (Int32.ofNat len)] 7)) (Tl.setTop (mkF m 13 #[.val (.ref b), .val (.int (Int32.ofNat (o + i))), .val (.ref d), .val (.int (Int32.ofNat (q + i))), .val (.int (Int32.ofNat len)), .val (.int (Int32.ofNat i)), z] [.int (cv A (o + i))])) := c3.trans (by
        refine Xl.aget hexec hAl rfl (hA.get (i := o + i) (by omega)) rfl rfl (hb hbytes d12) ?_
        exact Steps.refl _)
      have c5 : Steps p.tables e below (s₁.setTop (entryFrame m #[.ref b, .int (Int32.ofNat o), .ref d, .int (Int32.ofNat q), .int (Int32.ofNat len)] 7)) (Tl.setTop (mkF m 15 #[.val (.ref b), .val (.int (Int32.ofNat (o + i))), .val (.ref d), .val (.int (Int32.ofNat (q + i))), .val (.int (Int32.ofNat len)), .val (.int (Int32.ofNat i)), .val (.int (cv A (o + i)))] [])) := c4.trans (by
        refine XS.istoreS Xl.here hexec rfl (hb hbytes d13) rfl rfl hz ?_
        exact Steps.refl _)
      have c6 : Steps p.tables e below (s₁.setTop (entryFrame m #[.ref b, .int (Int32.ofNat o), .ref d, .int (Int32.ofNat q), .int (Int32.ofNat len)] 7)) (Tl.setTop (mkF m 31 #[.val (.ref b), .val (.int (Int32.ofNat (o + i))), .val (.ref d), .val (.int (Int32.ofNat (q + i))), .val (.int (Int32.ofNat len)), .val (.int (Int32.ofNat i)), .val (.int (cv A (o + i)))] [.int (lo8 (cv A (o + i))), .int (Int32.ofNat (q + i)), .ref d])) := c5.trans (by
        refine XS.iload Xl.here hexec rfl (hb hbytes d15) rfl ?_
        refine sipushV Xl.here hexec rfl 255 (hb hbytes d17) (by decide) ?_
        refine XS.icmpYes Xl.here hexec rfl (pc0 := 20) rfl (hb hbytes d20) rfl (ii_le_t (hp i (by omega))) (by decide) rfl ?_
        refine XS.aloadN Xl.here hexec rfl (hb hbytes d26) rfl rfl ?_
        refine XS.iloadN Xl.here hexec rfl (hb hbytes d27) rfl ?_
        refine XS.iload Xl.here hexec rfl (hb hbytes d28) rfl ?_
        refine i2b Xl.here hexec rfl (hb hbytes d30) rfl ?_
        exact Steps.refl _)
      obtain ⟨T7, X7, p7, st7⟩ := Xl.aput hexec hBk rfl hlt rfl (fits_lo8 (cv A (o + i))) (g := (mkF m 31 #[.val (.ref b), .val (.int (Int32.ofNat (o + i))), .val (.ref d), .val (.int (Int32.ofNat (q + i))), .val (.int (Int32.ofNat len)), .val (.int (Int32.ofNat i)), .val (.int (cv A (o + i)))] [.int (lo8 (cv A (o + i))), .int (Int32.ofNat (q + i)), .ref d])) rfl (rest := []) rfl (hb hbytes d31)
      have c8 : Steps p.tables e below (s₁.setTop (entryFrame m #[.ref b, .int (Int32.ofNat o), .ref d, .int (Int32.ofNat q), .int (Int32.ofNat len)] 7)) (T7.setTop (mkF m 32 #[.val (.ref b), .val (.int (Int32.ofNat (o + i))), .val (.ref d), .val (.int (Int32.ofNat (q + i))), .val (.int (Int32.ofNat len)), .val (.int (Int32.ofNat i)), .val (.int (cv A (o + i)))] [])) := c6.trans (st7 _ (Steps.refl _))
      have c9 : Steps p.tables e below (s₁.setTop (entryFrame m #[.ref b, .int (Int32.ofNat o), .ref d, .int (Int32.ofNat q), .int (Int32.ofNat len)] 7)) (T7.setTop (mkF m 3 #[.val (.ref b), .val (.int (Int32.ofNat (o + i) + 1)), .val (.ref d), .val (.int (Int32.ofNat (q + i) + 1)), .val (.int (Int32.ofNat len)), .val (.int (Int32.ofNat i + 1)), .val (.int (cv A (o + i)))] [])) := c8.trans (by
        refine iincV X7.here hexec rfl 1 (hb hbytes d32) (by decide) rfl rfl ?_
        refine iincV X7.here hexec rfl 1 (hb hbytes d35) (by decide) rfl rfl ?_
        refine iincV X7.here hexec rfl 1 (hb hbytes d38) (by decide) rfl rfl ?_
        refine XS.goto X7.here hexec rfl (pc0 := 41) rfl (hb hbytes d41) (by decide) rfl ?_
        exact Steps.refl _)
      have c10 : Steps p.tables e below (s₁.setTop (entryFrame m #[.ref b, .int (Int32.ofNat o), .ref d, .int (Int32.ofNat q), .int (Int32.ofNat len)] 7)) (T7.setTop (mkF m 3 #[.val (.ref b), .val (.int (Int32.ofNat (o + (i + 1)))), .val (.ref d), .val (.int (Int32.ofNat (q + (i + 1)))), .val (.int (Int32.ofNat len)), .val (.int (Int32.ofNat (i + 1))), .val (.int (cv A (o + i)))] [])) := by
        have := c9
        rw [succ32, succ32, succ32] at this
        exact this
      exact ih (i + 1) (by omega) _ (Or.inr ⟨_, rfl, rfl⟩) T7 _ (by rw [copyLocs_step, ← List.append_assoc]; exact X7) (pl.trans p7) (fl.step (by omega) hlt (by simp)) c10
  obtain ⟨T9, B9, z9, X9, p9, f9, g9⟩ := loop len 0 (by omega) .unset (Or.inl rfl) s₁ B (by simpa [copyLocs] using X0) ⟨hB0.1, fun _ _ => rfl, rfl⟩ (Laid.zero _ _ _) c2
  have c11 : Steps p.tables e below (s₁.setTop (entryFrame m #[.ref b, .int (Int32.ofNat o), .ref d, .int (Int32.ofNat q), .int (Int32.ofNat len)] 7)) (T9.setTop (mkF m 46 #[.val (.ref b), .val (.int (Int32.ofNat (o + len))), .val (.ref d), .val (.int (Int32.ofNat (q + len))), .val (.int (Int32.ofNat len)), .val (.int (Int32.ofNat len)), z9] [.int (Int32.ofNat len)])) := g9.trans (by
    refine XS.iload X9.here hexec rfl (hb hbytes d3) rfl ?_
    refine XS.iload X9.here hexec rfl (hb hbytes d5) rfl ?_
    refine XS.icmpYes X9.here hexec rfl (pc0 := 7) rfl (hb hbytes d7) rfl (ii_ge_t (nlt32 (by omega) (Nat.le_refl _))) (by decide) rfl ?_
    refine XS.iload X9.here hexec rfl (hb hbytes d44) rfl ?_
    exact Steps.refl _)
  exact ⟨T9, some (.int (Int32.ofNat len)), _, _, _, X9, by simp, rfl, rfl, (fun h => by cases h), ⟨rfl, B9, p9.from hh0, f9⟩, fun fs hl => c11.trans (X9.ireturnOut hexec hret rfl (Or.inl rfl) (hb hbytes d46) hl)⟩
end Cmp5
namespace Cmp3
def yN : MethodName := ⟨"java/lang/StringUTF16", "compress", "([CII)[B"⟩
abbrev yB : ByteArray := jdk_52_method_16_code
theorem d0 : decode yB 0 = .ok (.iload_n 2, 1) := by decide +kernel
theorem d1 : decode yB 1 = .ok (.newarray .byte, 2) := by decide +kernel
theorem d3 : decode yB 3 = .ok (.astore_n 3, 1) := by decide +kernel
theorem d4 : decode yB 4 = .ok (.aload_n 0, 1) := by decide +kernel
theorem d5 : decode yB 5 = .ok (.iload_n 1, 1) := by decide +kernel
theorem d6 : decode yB 6 = .ok (.aload_n 3, 1) := by decide +kernel
theorem d7 : decode yB 7 = .ok (.iconst 0, 1) := by decide +kernel
theorem d8 : decode yB 8 = .ok (.iload_n 2, 1) := by decide +kernel
theorem d9 : decode yB 9 = .ok (.invokestatic 115, 3) := by decide +kernel
theorem d12 : decode yB 12 = .ok (.istore 4, 2) := by decide +kernel
theorem d14 : decode yB 14 = .ok (.iload 4, 2) := by decide +kernel
theorem d16 : decode yB 16 = .ok (.iload_n 2, 1) := by decide +kernel
theorem d17 : decode yB 17 = .ok (.if_icmp (.eq) 40, 3) := by decide +kernel
theorem d57 : decode yB 57 = .ok (.aload_n 3, 1) := by decide +kernel
theorem d58 : decode yB 58 = .ok (.areturn, 1) := by decide +kernel
def site : List Cond := [.arrayClass .byte, Cmp5.tab] ++ staticW U16 115 Cmp5.yN
def tab : Cond := tabOf yN yB 6 (some (.array .byte)) site
def P (b : Addr) (A : Cell) (o len : Nat) (args : Array Value) (s : State) : Prop := args = #[.ref b, .int (Int32.ofNat o), .int (Int32.ofNat len)] ∧ Ch b A s ∧ o + len ≤ A.slots.size ∧ len ≤ 536870912 ∧ ∀ i, i < len → ¬ 255 < cv A (o + i)
def E (b : Addr) (A : Cell) (o len : Nat) (r : Option Value) (s u : State) : Prop := NewArr .byte "[B" len (fun j => .int (lo8 (cv A (o + j)))) r s u ∧ u.heap.size = s.heap.size + 1
/-- no char of the range above 255: a new byte[] of their low bytes -/
theorem law (l : Launch) (b : Addr) (A : Cell) (o len : Nat) : Law l yN 3 3 1 18 yB 6 (some (.array .byte)) site (P b A o len) (E b A o len) [] 1 len := by
  refine Law.of_walk (plainFor_of_name (by decide +kernel)) (by decide +kernel) (by decide +kernel) (by decide) (fun _ _ h => by rw [h.1]; rfl) (fun _ U U' hal hh h => ⟨h.1, h.2.1.mv hal hh, h.2.2⟩) (fun r U U' V V' h1 hal h2 h => ⟨NewArr.mv r U U' V V' h1 hal h2 h.1, by rw [h1, h2]; exact h.2⟩) ?_
  intro p e s m args below meth c s₁ X0 hexec hbytes hml hret hlk hnm hown hh0 W hP
  obtain ⟨rfl, hA, l1, l2, hp⟩ := hP
  have a31 := hA.1.2.2.2
  have c1 : Steps p.tables e below (s₁.setTop (entryFrame m #[.ref b, .int (Int32.ofNat o), .int (Int32.ofNat len)] 6)) (s₁.setTop (mkF m 0 #[.val (.ref b), .val (.int (Int32.ofNat o)), .val (.int (Int32.ofNat len)), .unset, .unset, .unset] [])) := entry rfl
  have c2 : Steps p.tables e below (s₁.setTop (entryFrame m #[.ref b, .int (Int32.ofNat o), .int (Int32.ofNat len)] 6)) (s₁.setTop (mkF m 1 #[.val (.ref b), .val (.int (Int32.ofNat o)), .val (.int (Int32.ofNat len)), .unset, .unset, .unset] [.int (Int32.ofNat len)])) := c1.trans (by
    refine XS.iloadN X0.here hexec rfl (hb hbytes d0) rfl ?_
    exact Steps.refl _)
  obtain ⟨T3, B3, X3, ba3, bs3, bv3, bh3, bf3, st3⟩ := X0.anew hexec (atype := .byte) (wk W (.arrayClass .byte)) rfl (by show len * 1 ≤ _; omega) (by omega) (g := (mkF m 1 #[.val (.ref b), .val (.int (Int32.ofNat o)), .val (.int (Int32.ofNat len)), .unset, .unset, .unset] [.int (Int32.ofNat len)])) rfl (hb hbytes d1) (rest := []) rfl (Nat.le_refl _) (by show 0 + len ≤ len; omega)
  rw [hh0] at ba3 st3
  have kp3 : XT.Kept s T3 := (XT.Kept.of_eq hh0).push bh3
  have hA3 := hA.keep X3.warmed.alike (kp3 _ _ hA.1.1)
  have hne : b ≠ s.heap.size := hA.1.ne
  have c4 : Steps p.tables e below (s₁.setTop (entryFrame m #[.ref b, .int (Int32.ofNat o), .int (Int32.ofNat len)] 6)) (T3.setTop (mkF m 3 #[.val (.ref b), .val (.int (Int32.ofNat o)), .val (.int (Int32.ofNat len)), .unset, .unset, .unset] [.ref s.heap.size])) := c2.trans (st3 _ (Steps.refl _))
  have c5 : Steps p.tables e below (s₁.setTop (entryFrame m #[.ref b, .int (Int32.ofNat o), .int (Int32.ofNat len)] 6)) (T3.setTop (mkF m 9 #[.val (.ref b), .val (.int (Int32.ofNat o)), .val (.int (Int32.ofNat len)), .val (.ref s.heap.size), .unset, .unset] [.int (Int32.ofNat len), .int 0, .ref s.heap.size, .int (Int32.ofNat o), .ref b])) := c4.trans (by
    refine XS.astoreN X3.here hexec rfl (hb hbytes d3) rfl rfl rfl ?_
    refine XS.aloadN X3.here hexec rfl (hb hbytes d4) rfl rfl ?_
    refine XS.iloadN X3.here hexec rfl (hb hbytes d5) rfl ?_
    refine XS.aloadN X3.here hexec rfl (hb hbytes d6) rfl rfl ?_
    refine iconstV X3.here hexec rfl 0 (hb hbytes d7) (by decide) ?_
    refine XS.iloadN X3.here hexec rfl (hb hbytes d8) rfl ?_
    exact Steps.refl _)
  obtain ⟨v6, T6, X6, E6, g6⟩ := X3.callS hexec (Cmp5.law l b A s.heap.size B3 o 0 len) hown (wks W (staticW U16 115 Cmp5.yN)) (wk W Cmp5.tab) (W := 0) (Nat.le_of_ble_eq_true rfl) (Nat.le_of_ble_eq_true rfl) (Nat.le_refl _) (by show 0 + len + 0 ≤ len; omega) (g := (mkF m 9 #[.val (.ref b), .val (.int (Int32.ofNat o)), .val (.int (Int32.ofNat len)), .val (.ref s.heap.size), .unset, .unset] [.int (Int32.ofNat len), .int (Int32.ofNat 0), .ref s.heap.size, .int (Int32.ofNat o), .ref b])) rfl (by rw [hml]; rfl) c5 (argsL := [.ref b, .int (Int32.ofNat o), .ref s.heap.size, .int (Int32.ofNat 0), .int (Int32.ofNat len)]) (rest := []) rfl rfl (by show 2 * 0 + 0 ≤ _; decide) (hb hbytes d9) (⟨rfl, hA3, ba3, hne, l1, by rw [bs3]; simp, hp⟩)
  obtain ⟨rfl, B6, p6, f6⟩ := E6
  have c7 : Steps p.tables e below (s₁.setTop (entryFrame m #[.ref b, .int (Int32.ofNat o), .int (Int32.ofNat len)] 6)) (T6.setTop (mkF m 12 #[.val (.ref b), .val (.int (Int32.ofNat o)), .val (.int (Int32.ofNat len)), .val (.ref s.heap.size), .unset, .unset] [.int (Int32.ofNat len)])) := g6
  have c8 : Steps p.tables e below (s₁.setTop (entryFrame m #[.ref b, .int (Int32.ofNat o), .int (Int32.ofNat len)] 6)) (T6.setTop (mkF m 58 #[.val (.ref b), .val (.int (Int32.ofNat o)), .val (.int (Int32.ofNat len)), .val (.ref s.heap.size), .val (.int (Int32.ofNat len)), .unset] [.ref s.heap.size])) := c7.trans (by
    refine XS.istore X6.here hexec rfl (hb hbytes d12) rfl rfl ?_
    refine XS.iload X6.here hexec rfl (hb hbytes d14) rfl ?_
    refine XS.iloadN X6.here hexec rfl (hb hbytes d16) rfl ?_
    refine XS.icmpYes X6.here hexec rfl (pc0 := 17) rfl (hb hbytes d17) rfl (ii_eq_t rfl) (by decide) rfl ?_
    refine XS.aloadN X6.here hexec rfl (hb hbytes d57) rfl rfl ?_
    exact Steps.refl _)
  have X8 := X6.wide (L' := []) (cells' := 1) (slots' := len) (fun x hx hlt => by
    simp only [List.nil_append, copyLocs, List.mem_map, List.mem_range] at hx
    obtain ⟨i, -, rfl⟩ := hx
    exact absurd hlt (Nat.lt_irrefl _)) (Nat.le_refl _) (by omega)
  exact ⟨T6, some (.ref s.heap.size), _, _, _, X8, rfl, rfl, rfl, (fun h => by cases h), ⟨⟨rfl, B6, ba3.like (X3.warmed.alike.symm.trans X6.warmed.alike) p6.1 f6.1 f6.2.1 f6.2.2.1, f6.2.1.trans bv3, by rw [X6.warmed.alike.findClass, f6.1]; exact bf3, by rw [f6.2.2.1, bs3]; simp, fun j hj => by rw [f6.2.2.2 j, if_pos (by omega)]; rfl, kp3.put p6 (Nat.le_refl _)⟩, by rw [p6.2.2, bh3, hh0]; simp⟩, fun fs hl => c8.trans (X8.areturnOut hexec rfl hret rfl (hb hbytes d58) hl)⟩
end Cmp3
namespace CodL
def yN : MethodName := ⟨"java/lang/StringUTF16", "coderFromArrayLen", "([BI)B"⟩
abbrev yB : ByteArray := jdk_52_method_15_code
theorem d0 : decode yB 0 = .ok (.iload_n 1, 1) := by decide +kernel
theorem d1 : decode yB 1 = .ok (.aload_n 0, 1) := by decide +kernel
theorem d2 : decode yB 2 = .ok (.arraylength, 1) := by decide +kernel
theorem d3 : decode yB 3 = .ok (.isub, 1) := by decide +kernel
theorem d4 : decode yB 4 = .ok (.bipush 31, 2) := by decide +kernel
theorem d6 : decode yB 6 = .ok (.iushr, 1) := by decide +kernel
theorem d7 : decode yB 7 = .ok (.i2b, 1) := by decide +kernel
theorem d8 : decode yB 8 = .ok (.ireturn, 1) := by decide +kernel
def site : List Cond := []
def tab : Cond := tabOf yN yB 2 (some .byte) site
def P (d : Addr) (B : Cell) (args : Array Value) (s : State) : Prop := args = #[.ref d, .int (Int32.ofNat B.slots.size)] ∧ Arr .byte d B s
def E (r : Option Value) (s u : State) : Prop := XT.PureE (some (.int 0)) r s u
/-- an array as long as the number of chars: LATIN1 -/
theorem law (l : Launch) (d : Addr) (B : Cell) : Law l yN 2 2 0 0 yB 2 (some .byte) site (P d B) E [] 0 0 := by
  refine Law.of_walk (plainFor_of_name (by decide +kernel)) (by decide +kernel) (by decide +kernel) (by decide) (fun _ _ h => by rw [h.1]; rfl) (fun _ U U' hal hh h => ⟨h.1, h.2.mv hal hh⟩) (fun r U U' V V' h1 hal h2 h => XT.PureE.mv r U U' V V' h1 hal h2 h) ?_
  intro p e s m args below meth c s₁ X0 hexec hbytes hml hret hlk hnm hown hh0 W hP
  obtain ⟨rfl, hB⟩ := hP
  have hB0 := hB.mv X0.warmed.alike hh0
  have c1 : Steps p.tables e below (s₁.setTop (entryFrame m #[.ref d, .int (Int32.ofNat B.slots.size)] 2)) (s₁.setTop (mkF m 0 #[.val (.ref d), .val (.int (Int32.ofNat B.slots.size))] [])) := entry rfl
  have c2 : Steps p.tables e below (s₁.setTop (entryFrame m #[.ref d, .int (Int32.ofNat B.slots.size)] 2)) (s₁.setTop (mkF m 2 #[.val (.ref d), .val (.int (Int32.ofNat B.slots.size))] [.ref d, .int (Int32.ofNat B.slots.size)])) := c1.trans (by
    refine XS.iloadN X0.here hexec rfl (hb hbytes d0) rfl ?_
    refine XS.aloadN X0.here hexec rfl (hb hbytes d1) rfl rfl ?_
    exact Steps.refl _)
  have c3 : Steps p.tables e below (s₁.setTop (entryFrame m #[.ref d, .int (Int32.ofNat B.slots.size)] 2)) (s₁.setTop (mkF m 8 #[.val (.ref d), .val (.int (Int32.ofNat B.slots.size))] [.int (lo8 (ushr (Int32.ofNat B.slots.size - Int32.ofNat B.slots.size) 31))])) := c2.trans (by
    refine X0.alen hexec hB0 rfl rfl (hb hbytes d2) ?_
    refine XS.isub X0.here hexec rfl (hb hbytes d3) rfl ?_
    refine bipushV X0.here hexec rfl 31 (hb hbytes d4) (by decide) ?_
    refine iushr X0.here hexec rfl (hb hbytes d6) rfl ?_
    refine i2b X0.here hexec rfl (hb hbytes d7) rfl ?_
    exact Steps.refl _)
  have e0 : lo8 (ushr (Int32.ofNat B.slots.size - Int32.ofNat B.slots.size) 31) = 0 := by rw [Int32.sub_self]; decide
  rw [e0] at c3
  exact ⟨s₁, some (.int 0), _, _, _, X0, rfl, rfl, rfl, (fun h => by cases h), ⟨rfl, hh0⟩, fun fs hl => c3.trans (X0.ireturnOut hexec hret rfl (Or.inr (Or.inr (Or.inl rfl))) (hb hbytes d8) hl)⟩
end CodL
/-- the String at a is Latin-1 over a new byte[] (the heap's one new cell): the low bytes of the len chars of A from o on; every cell but a is kept -/
def Got (a : Addr) (D : Cell) (fV fC : Field) (A : Cell) (o len : Nat) (r : Option Value) (s u : State) : Prop := r = none ∧ ∃ D' V : Cell, Blank "java/lang/String" a D' u ∧ Same D D' [fV.slot, fC.slot] ∧ D'.slots[fV.slot]? = some (.ref s.heap.size) ∧ D'.slots[fC.slot]? = some (.int 0) ∧ Arr .byte s.heap.size V u ∧ V.vm = .none ∧ u.vm.findClass "[B" = some V.cls ∧ V.slots.size = len ∧ (∀ j, j < len → V.slots[j]? = some (.int (lo8 (cv A (o + j))))) ∧ (∀ (y : Addr) (c : Cell), y ≠ a → s.heap[y]? = some c → u.heap[y]? = some c) ∧ u.heap.size = s.heap.size + 1
theorem Got.mv {a : Addr} {D A : Cell} {fV fC : Field} {o len : Nat} : ∀ r (U U' V V' : State), U'.heap = U.heap → V.vm.Alike V'.vm → V'.heap = V.heap → Got a D fV fC A o len r U V → Got a D fV fC A o len r U' V' :=
  fun r U U' V V' h1 hal h2 ⟨e0, D', X, a1, a2, a3, a4, a5, a6, a7, a8, a9, a10, a11⟩ => ⟨e0, D', X, a1.mv hal h2, a2, by rw [h1]; exact a3, a4, by rw [h1]; exact a5.mv hal h2, a6, by rw [hal.findClass]; exact a7, a8, a9, by rw [h1, h2]; exact a10, by rw [h1, h2]; exact a11⟩
namespace New4
def yN : MethodName := ⟨"java/lang/String", "<init>", "([CIILjava/lang/Void;)V"⟩
abbrev yB : ByteArray := jdk_42_method_149_code
theorem d0 : decode yB 0 = .ok (.aload_n 0, 1) := by decide +kernel
theorem d1 : decode yB 1 = .ok (.invokespecial 1, 3) := by decide +kernel
theorem d4 : decode yB 4 = .ok (.iload_n 3, 1) := by decide +kernel
theorem d5 : decode yB 5 = .ok (.ifCond (.ne) 22, 3) := by decide +kernel
theorem d27 : decode yB 27 = .ok (.getstatic 38, 3) := by decide +kernel
theorem d30 : decode yB 30 = .ok (.ifCond (.eq) 28, 3) := by decide +kernel
theorem d33 : decode yB 33 = .ok (.aload_n 1, 1) := by decide +kernel
theorem d34 : decode yB 34 = .ok (.iload_n 2, 1) := by decide +kernel
theorem d35 : decode yB 35 = .ok (.iload_n 3, 1) := by decide +kernel
theorem d36 : decode yB 36 = .ok (.invokestatic 177, 3) := by decide +kernel
theorem d39 : decode yB 39 = .ok (.astore 5, 2) := by decide +kernel
theorem d41 : decode yB 41 = .ok (.aload_n 0, 1) := by decide +kernel
theorem d42 : decode yB 42 = .ok (.aload 5, 2) := by decide +kernel
theorem d44 : decode yB 44 = .ok (.iload_n 3, 1) := by decide +kernel
theorem d45 : decode yB 45 = .ok (.invokestatic 47, 3) := by decide +kernel
theorem d48 : decode yB 48 = .ok (.putfield 15, 3) := by decide +kernel
theorem d51 : decode yB 51 = .ok (.aload_n 0, 1) := by decide +kernel
theorem d52 : decode yB 52 = .ok (.aload 5, 2) := by decide +kernel
theorem d54 : decode yB 54 = .ok (.putfield 9, 3) := by decide +kernel
theorem d57 : decode yB 57 = .ok (.return_, 1) := by decide +kernel
def site : List Cond := [.fieldLink "java/lang/String" 38 "java/lang/String" "COMPACT_STRINGS" "Z", Cmp3.tab, CodL.tab, .laysFinal "java/lang/String" "java/lang/String" "value" "[B", .fieldLink "java/lang/String" 9 "java/lang/String" "value" "[B", .laysFinal "java/lang/String" "java/lang/String" "coder" "B", .fieldLink "java/lang/String" 15 "java/lang/String" "coder" "B"] ++ objW "java/lang/String" 1 ++ staticW "java/lang/String" 177 Cmp3.yN ++ staticW "java/lang/String" 47 CodL.yN
def tab : Cond := tabOf yN yB 6 none site
def P (a : Addr) (D : Cell) (fV fC : Field) (b : Addr) (A : Cell) (z : Int32) (o len : Nat) (args : Array Value) (s : State) : Prop := args = #[.ref a, .ref b, .int (Int32.ofNat o), .int (Int32.ofNat len), .null] ∧ Blank "java/lang/String" a D s ∧ Found "java/lang/String" "value" "[B" fV s ∧ Found "java/lang/String" "coder" "B" fC s ∧ Ch b A s ∧ StaticIs s "java/lang/String" "COMPACT_STRINGS" "Z" (.int z) ∧ ¬ z = 0 ∧ 0 < len ∧ o + len ≤ A.slots.size ∧ len ≤ 536870912 ∧ ∀ i, i < len → ¬ 255 < cv A (o + i)
def E (a : Addr) (D : Cell) (fV fC : Field) (A : Cell) (o len : Nat) (r : Option Value) (s u : State) : Prop := Got a D fV fC A o len r s u
/-- len > 0, no char of the range above 255: a Latin-1 String of their low bytes -/
theorem law (l : Launch) (a : Addr) (D : Cell) (fV fC : Field) (b : Addr) (A : Cell) (z : Int32) (o len : Nat) : Law l yN 5 4 2 35 yB 6 none site (P a D fV fC b A z o len) (E a D fV fC A o len) [⟨a, fC.slot⟩, ⟨a, fV.slot⟩] 1 len := by
  refine Law.of_walk (plainFor_of_name (by decide +kernel)) (by decide +kernel) (by decide +kernel) (by decide) (fun _ _ h => by rw [h.1]; rfl) (fun _ U U' hal hh h => ⟨h.1, h.2.1.mv hal hh, h.2.2.1.al hal, h.2.2.2.1.al hal, h.2.2.2.2.1.mv hal hh, h.2.2.2.2.2.1.there hal hh, h.2.2.2.2.2.2⟩) (fun r U U' V V' h1 hal h2 h => Got.mv r U U' V V' h1 hal h2 h) ?_
  intro p e s m args below meth c s₁ X0 hexec hbytes hml hret hlk hnm hown hh0 W hP
  obtain ⟨rfl, hB, f1, f2, hA, s1, hz, l0, l1, l2, hp⟩ := hP
  have a31 := hA.1.2.2.2
  have c1 : Steps p.tables e below (s₁.setTop (entryFrame m #[.ref a, .ref b, .int (Int32.ofNat o), .int (Int32.ofNat len), .null] 6)) (s₁.setTop (mkF m 0 #[.val (.ref a), .val (.ref b), .val (.int (Int32.ofNat o)), .val (.int (Int32.ofNat len)), .val .null, .unset] [])) := entry rfl
  have c2 : Steps p.tables e below (s₁.setTop (entryFrame m #[.ref a, .ref b, .int (Int32.ofNat o), .int (Int32.ofNat len), .null] 6)) (s₁.setTop (mkF m 1 #[.val (.ref a), .val (.ref b), .val (.int (Int32.ofNat o)), .val (.int (Int32.ofNat len)), .val .null, .unset] [.ref a])) := c1.trans (by
    refine XS.aloadN X0.here hexec rfl (hb hbytes d0) rfl rfl ?_
    exact Steps.refl _)
  obtain ⟨T3, X3, q3, st3⟩ := X0.oinit hexec hown (wks W (objW "java/lang/String" 1)) (g := (mkF m 1 #[.val (.ref a), .val (.ref b), .val (.int (Int32.ofNat o)), .val (.int (Int32.ofNat len)), .val .null, .unset] [.ref a])) rfl (by rw [hml]; rfl) (rest := []) rfl (hb hbytes d1) (W := 0) (by show 2 * 0 + 0 ≤ _; decide) (Nat.le_of_ble_eq_true rfl) (Nat.le_of_ble_eq_true rfl)
  have hh3 := q3.trans hh0
  have c4 : Steps p.tables e below (s₁.setTop (entryFrame m #[.ref a, .ref b, .int (Int32.ofNat o), .int (Int32.ofNat len), .null] 6)) (T3.setTop (mkF m 27 #[.val (.ref a), .val (.ref b), .val (.int (Int32.ofNat o)), .val (.int (Int32.ofNat len)), .val .null, .unset] [])) := (c2.trans (st3 _ (Steps.refl _))).trans (by
    refine XS.iloadN X3.here hexec rfl (hb hbytes d4) rfl ?_
    refine XS.ifYes X3.here hexec rfl (pc0 := 5) rfl (hb hbytes d5) rfl (i0_ne_t (nz32 (by omega) l0)) (by decide) rfl ?_
    exact Steps.refl _)
  obtain ⟨T5, X5, q5, st5⟩ := X3.sget hexec hown (wk W (.fieldLink "java/lang/String" 38 "java/lang/String" "COMPACT_STRINGS" "Z")) s1 (fun _ _ h => by rw [hh3]; exact h) (g := (mkF m 27 #[.val (.ref a), .val (.ref b), .val (.int (Int32.ofNat o)), .val (.int (Int32.ofNat len)), .val .null, .unset] [])) rfl (hb hbytes d27)
  have hh5 := q5.trans hh3
  have c6 : Steps p.tables e below (s₁.setTop (entryFrame m #[.ref a, .ref b, .int (Int32.ofNat o), .int (Int32.ofNat len), .null] 6)) (T5.setTop (mkF m 30 #[.val (.ref a), .val (.ref b), .val (.int (Int32.ofNat o)), .val (.int (Int32.ofNat len)), .val .null, .unset] [.int z])) := c4.trans (st5 _ (Steps.refl _))
  have c7 : Steps p.tables e below (s₁.setTop (entryFrame m #[.ref a, .ref b, .int (Int32.ofNat o), .int (Int32.ofNat len), .null] 6)) (T5.setTop (mkF m 36 #[.val (.ref a), .val (.ref b), .val (.int (Int32.ofNat o)), .val (.int (Int32.ofNat len)), .val .null, .unset] [.int (Int32.ofNat len), .int (Int32.ofNat o), .ref b])) := c6.trans (by
    refine XS.ifNo X5.here hexec rfl (hb hbytes d30) rfl (i0_eq_f hz) ?_
    refine XS.aloadN X5.here hexec rfl (hb hbytes d33) rfl rfl ?_
    refine XS.iloadN X5.here hexec rfl (hb hbytes d34) rfl ?_
    refine XS.iloadN X5.here hexec rfl (hb hbytes d35) rfl ?_
    exact Steps.refl _)
  obtain ⟨v8, T8, X8, E8, g8⟩ := X5.callS hexec (Cmp3.law l b A o len) hown (wks W (staticW "java/lang/String" 177 Cmp3.yN)) (wk W Cmp3.tab) (W := 0) (Nat.le_of_ble_eq_true rfl) (Nat.le_of_ble_eq_true rfl) (Nat.le_refl _) (by show 0 + len ≤ len; omega) (g := (mkF m 36 #[.val (.ref a), .val (.ref b), .val (.int (Int32.ofNat o)), .val (.int (Int32.ofNat len)), .val .null, .unset] [.int (Int32.ofNat len), .int (Int32.ofNat o), .ref b])) rfl (by rw [hml]; rfl) c7 (argsL := [.ref b, .int (Int32.ofNat o), .int (Int32.ofNat len)]) (rest := []) rfl rfl (by show 2 * 0 + 0 ≤ _; decide) (hb hbytes d36) (⟨rfl, hA.mv X5.warmed.alike hh5, l1, l2, hp⟩)
  obtain ⟨e8, z8⟩ := E8
  obtain ⟨rfl, N, n1, n2, n3, n4, n5, n6⟩ := NewArr.mv _ T5 s _ _ hh5.symm (Vm.Alike.refl _) rfl e8
  rw [hh5] at z8
  have hB1 := hB.keep X8.warmed.alike (n6 _ _ hB.1)
  have hne : s.heap.size ≠ a := (Nat.ne_of_lt (Array.getElem?_eq_some_iff.mp hB.1).1).symm
  have c9 : Steps p.tables e below (s₁.setTop (entryFrame m #[.ref a, .ref b, .int (Int32.ofNat o), .int (Int32.ofNat len), .null] 6)) (T8.setTop (mkF m 39 #[.val (.ref a), .val (.ref b), .val (.int (Int32.ofNat o)), .val (.int (Int32.ofNat len)), .val .null, .unset] [.ref s.heap.size])) := g8
  have c10 : Steps p.tables e below (s₁.setTop (entryFrame m #[.ref a, .ref b, .int (Int32.ofNat o), .int (Int32.ofNat len), .null] 6)) (T8.setTop (mkF m 45 #[.val (.ref a), .val (.ref b), .val (.int (Int32.ofNat o)), .val (.int (Int32.ofNat len)), .val .null, .val (.ref s.heap.size)] [.int (Int32.ofNat N.slots.size), .ref s.heap.size, .ref a])) := by
    have hc : Steps p.tables e below (s₁.setTop (entryFrame m #[.ref a, .ref b, .int (Int32.ofNat o), .int (Int32.ofNat len), .null] 6)) (T8.setTop (mkF m 45 #[.val (.ref a), .val (.ref b), .val (.int (Int32.ofNat o)), .val (.int (Int32.ofNat len)), .val .null, .val (.ref s.heap.size)] [.int (Int32.ofNat len), .ref s.heap.size, .ref a])) := c9.trans (by
      refine XS.astore X8.here hexec rfl (hb hbytes d39) rfl rfl rfl ?_
      refine XS.aloadN X8.here hexec rfl (hb hbytes d41) rfl rfl ?_
      refine XS.aload X8.here hexec rfl (hb hbytes d42) rfl rfl ?_
      refine XS.iloadN X8.here hexec rfl (hb hbytes d44) rfl ?_
      exact Steps.refl _)
    rw [n4]; exact hc
  obtain ⟨v11, T11, X11, E11, g11⟩ := X8.callS hexec (CodL.law l s.heap.size N) hown (wks W (staticW "java/lang/String" 47 CodL.yN)) (wk W CodL.tab) (W := 1) (Nat.le_of_ble_eq_true rfl) (Nat.le_of_ble_eq_true rfl) (Nat.le_refl _) (by show 0 + len + 0 ≤ len; omega) (g := (mkF m 45 #[.val (.ref a), .val (.ref b), .val (.int (Int32.ofNat o)), .val (.int (Int32.ofNat len)), .val .null, .val (.ref s.heap.size)] [.int (Int32.ofNat N.slots.size), .ref s.heap.size, .ref a])) rfl (by rw [hml]; rfl) c10 (argsL := [.ref s.heap.size, .int (Int32.ofNat N.slots.size)]) (rest := [.ref a]) rfl rfl (by show 2 * 0 + (1 + 0) ≤ _; decide) (hb hbytes d45) (⟨rfl, n1⟩)
  obtain ⟨rfl, q11⟩ := E11
  have hB11 := hB1.mv (X8.warmed.alike.symm.trans X11.warmed.alike) q11
  have c12 : Steps p.tables e below (s₁.setTop (entryFrame m #[.ref a, .ref b, .int (Int32.ofNat o), .int (Int32.ofNat len), .null] 6)) (T11.setTop (mkF m 48 #[.val (.ref a), .val (.ref b), .val (.int (Int32.ofNat o)), .val (.int (Int32.ofNat len)), .val .null, .val (.ref s.heap.size)] [.int 0, .ref a])) := g11
  obtain ⟨T13, X13, p13, bl13, sl13, st13⟩ := X11.finit hexec hown (wk W (.fieldLink "java/lang/String" 15 "java/lang/String" "coder" "B")) (Or.inr ⟨_, (wk W (.laysFinal "java/lang/String" "java/lang/String" "coder" "B"))⟩) (Or.inl ⟨rfl, hnm⟩) f2 (Or.inl rfl) hB11 (t := .byte) (by decide +kernel) rfl (g := (mkF m 48 #[.val (.ref a), .val (.ref b), .val (.int (Int32.ofNat o)), .val (.int (Int32.ofNat len)), .val .null, .val (.ref s.heap.size)] [.int 0, .ref a])) rfl (rest := []) rfl (hb hbytes d48)
  have c14 : Steps p.tables e below (s₁.setTop (entryFrame m #[.ref a, .ref b, .int (Int32.ofNat o), .int (Int32.ofNat len), .null] 6)) (T13.setTop (mkF m 54 #[.val (.ref a), .val (.ref b), .val (.int (Int32.ofNat o)), .val (.int (Int32.ofNat len)), .val .null, .val (.ref s.heap.size)] [.ref s.heap.size, .ref a])) := (c12.trans (st13 _ (Steps.refl _))).trans (by
    refine XS.aloadN X13.here hexec rfl (hb hbytes d51) rfl rfl ?_
    refine XS.aload X13.here hexec rfl (hb hbytes d52) rfl rfl ?_
    exact Steps.refl _)
  obtain ⟨T15, X15, p15, bl15, sl15, st15⟩ := X13.finit hexec hown (wk W (.fieldLink "java/lang/String" 9 "java/lang/String" "value" "[B")) (Or.inr ⟨_, (wk W (.laysFinal "java/lang/String" "java/lang/String" "value" "[B"))⟩) (Or.inl ⟨rfl, hnm⟩) f1 (Or.inl rfl) bl13 (t := (.array .byte)) (by decide +kernel) rfl (g := (mkF m 54 #[.val (.ref a), .val (.ref b), .val (.int (Int32.ofNat o)), .val (.int (Int32.ofNat len)), .val .null, .val (.ref s.heap.size)] [.ref s.heap.size, .ref a])) rfl (rest := []) rfl (hb hbytes d54)
  have c16 : Steps p.tables e below (s₁.setTop (entryFrame m #[.ref a, .ref b, .int (Int32.ofNat o), .int (Int32.ofNat len), .null] 6)) (T15.setTop (mkF m 57 #[.val (.ref a), .val (.ref b), .val (.int (Int32.ofNat o)), .val (.int (Int32.ofNat len)), .val .null, .val (.ref s.heap.size)] [])) := c14.trans (st15 _ (Steps.refl _))
  have ap := apart (Or.inr ⟨_, (wk W (.laysFinal "java/lang/String" "java/lang/String" "value" "[B"))⟩) (Or.inr ⟨_, (wk W (.laysFinal "java/lang/String" "java/lang/String" "coder" "B"))⟩) f1 f2 (t₁ := .array .byte) (t₂ := .byte) (by decide +kernel) (by decide +kernel) (by decide)
  have al := X8.warmed.alike.symm.trans X15.warmed.alike
  have n7 : T11.heap[s.heap.size]? = some N := by rw [q11]; exact n1.1
  exact ⟨T15, none, _, _, _, X15, by simp, rfl, by omega, (fun _ => rfl), ⟨rfl, _, N, bl15, ((Same.refl D _).set _ (by simp)).set _ (by simp), sl15, (Cell.slots_setSlot_ne _ ap).trans sl13, n1.keep al (p15.other hne (p13.other hne n7)), n2, by rw [al.findClass]; exact n3, n4, n5, fun y c h1 h2 => p15.other h1 (p13.other h1 (by rw [q11]; exact n6 y c h2)), by rw [p15.2.2, p13.2.2, q11]; exact z8⟩, fun fs hl => c16.trans (X15.returnOut hexec hret (hb hbytes d57) hl)⟩
end New4
namespace New1
def yN : MethodName := ⟨"java/lang/String", "<init>", "([C)V"⟩
abbrev yB : ByteArray := jdk_42_method_3_code
theorem d0 : decode yB 0 = .ok (.aload_n 0, 1) := by decide +kernel
theorem d1 : decode yB 1 = .ok (.aload_n 1, 1) := by decide +kernel
theorem d2 : decode yB 2 = .ok (.iconst 0, 1) := by decide +kernel
theorem d3 : decode yB 3 = .ok (.aload_n 1, 1) := by decide +kernel
theorem d4 : decode yB 4 = .ok (.arraylength, 1) := by decide +kernel
theorem d5 : decode yB 5 = .ok (.aconst_null, 1) := by decide +kernel
theorem d6 : decode yB 6 = .ok (.invokespecial 27, 3) := by decide +kernel
theorem d9 : decode yB 9 = .ok (.return_, 1) := by decide +kernel
def site : List Cond := [New4.tab] ++ initW "java/lang/String" 27 New4.yN
def tab : Cond := tabOf yN yB 2 none site
def P (a : Addr) (D : Cell) (fV fC : Field) (b : Addr) (A : Cell) (z : Int32) (args : Array Value) (s : State) : Prop := args = #[.ref a, .ref b] ∧ Blank "java/lang/String" a D s ∧ Found "java/lang/String" "value" "[B" fV s ∧ Found "java/lang/String" "coder" "B" fC s ∧ Ch b A s ∧ StaticIs s "java/lang/String" "COMPACT_STRINGS" "Z" (.int z) ∧ ¬ z = 0 ∧ 0 < A.slots.size ∧ A.slots.size ≤ 536870912 ∧ ∀ i, i < A.slots.size → ¬ 255 < cv A i
def E (a : Addr) (D : Cell) (fV fC : Field) (A : Cell) (r : Option Value) (s u : State) : Prop := Got a D fV fC A 0 A.slots.size r s u
/-- new String(chars), not empty, no char above 255: a Latin-1 String of their low bytes -/
theorem law (l : Launch) (a : Addr) (D : Cell) (fV fC : Field) (b : Addr) (A : Cell) (z : Int32) : Law l yN 2 1 3 52 yB 2 none site (P a D fV fC b A z) (E a D fV fC A) [⟨a, fC.slot⟩, ⟨a, fV.slot⟩] 1 A.slots.size := by
  refine Law.of_walk (plainFor_of_name (by decide +kernel)) (by decide +kernel) (by decide +kernel) (by decide) (fun _ _ h => by rw [h.1]; rfl) (fun _ U U' hal hh h => ⟨h.1, h.2.1.mv hal hh, h.2.2.1.al hal, h.2.2.2.1.al hal, h.2.2.2.2.1.mv hal hh, h.2.2.2.2.2.1.there hal hh, h.2.2.2.2.2.2⟩) (fun r U U' V V' h1 hal h2 h => Got.mv r U U' V V' h1 hal h2 h) ?_
  intro p e s m args below meth c s₁ X0 hexec hbytes hml hret hlk hnm hown hh0 W hP
  obtain ⟨rfl, hB, f1, f2, hA, s1, hz, l0, l2, hp⟩ := hP
  have c1 : Steps p.tables e below (s₁.setTop (entryFrame m #[.ref a, .ref b] 2)) (s₁.setTop (mkF m 0 #[.val (.ref a), .val (.ref b)] [])) := entry rfl
  have c2 : Steps p.tables e below (s₁.setTop (entryFrame m #[.ref a, .ref b] 2)) (s₁.setTop (mkF m 6 #[.val (.ref a), .val (.ref b)] [.null, .int (Int32.ofNat A.slots.size), .int 0, .ref b, .ref a])) := c1.trans (by
    refine XS.aloadN X0.here hexec rfl (hb hbytes d0) rfl rfl ?_
    refine XS.aloadN X0.here hexec rfl (hb hbytes d1) rfl rfl ?_
    refine iconstV X0.here hexec rfl 0 (hb hbytes d2) (by decide) ?_
    refine XS.aloadN X0.here hexec rfl (hb hbytes d3) rfl rfl ?_
    refine X0.alen hexec (hA.1.mv X0.warmed.alike hh0) rfl rfl (hb hbytes d4) ?_
    refine XS.aconstNull X0.here hexec rfl (hb hbytes d5) ?_
    exact Steps.refl _)
  obtain ⟨v3, T3, X3, E3, g3⟩ := X0.callN hexec (New4.law l a D fV fC b A z 0 A.slots.size) rfl hown (wks W (initW "java/lang/String" 27 New4.yN)) (W New4.tab (by simp only [site, List.mem_cons, List.mem_append, true_or, or_true])) (W := 0) (Nat.le_of_ble_eq_true rfl) (Nat.le_of_ble_eq_true rfl) (Nat.le_refl _) (by show 0 + A.slots.size ≤ A.slots.size; omega) (g := (mkF m 6 #[.val (.ref a), .val (.ref b)] [.null, .int (Int32.ofNat A.slots.size), .int (Int32.ofNat 0), .ref b, .ref a])) rfl (by rw [hml]; rfl) c2 (argsL := [.ref b, .int (Int32.ofNat 0), .int (Int32.ofNat A.slots.size), .null]) (rest := []) rfl rfl (by show 2 * 0 + 0 ≤ _; decide) (hb hbytes d6) (⟨rfl, hB.mv X0.warmed.alike hh0, f1.al X0.warmed.alike, f2.al X0.warmed.alike, hA.mv X0.warmed.alike hh0, s1.there X0.warmed.alike hh0, hz, l0, by omega, l2, fun i hi => by rw [Nat.zero_add]; exact hp i hi⟩)
  have e0 := Got.mv _ s₁ s _ _ hh0.symm (Vm.Alike.refl _) rfl E3
  obtain rfl := e0.1
  have c4 : Steps p.tables e below (s₁.setTop (entryFrame m #[.ref a, .ref b] 2)) (T3.setTop (mkF m 9 #[.val (.ref a), .val (.ref b)] [])) := g3
  exact ⟨T3, none, _, _, _, X3, by simp, rfl, by omega, (fun _ => rfl), e0, fun fs hl => c4.trans (X3.returnOut hexec hret (hb hbytes d9) hl)⟩
theorem pays {l : Launch} {R : Room} {p : Program} {e : Env} {below : List Frame} {s : State} {sargs : Array Value} {len W : Nat} (a : Addr) (D : Cell) (fV fC : Field) (b : Addr) (A : Cell) (z : Int32) (htab : tab.before sargs s = true) (hfr : 4 ≤ R.frames) (hlo : W + 65 ≤ R.locals) :
    Back l R p e below s sargs yN len W (fun A₁ a₁ => A₁.cells + 1 ≤ R.cells ∧ A₁.slots + A.slots.size ≤ R.slots ∧ P a D fV fC b A z a₁ A₁.U) (fun A₁ _ v₁ B₁ => E a D fV fC A v₁ A₁.U B₁.U ∧ B₁.locs = A₁.locs ++ [⟨a, fC.slot⟩, ⟨a, fV.slot⟩] ∧ B₁.cells = A₁.cells + 1 ∧ B₁.slots = A₁.slots + A.slots.size) :=
  (law l a D fV fC b A z).pays htab hfr (by omega)
end New1
end StrChars
namespace StrChars.Road
open Jvm Sem ClassFile Op Lib Jvm.Stand Jvm.Free Jvm.Free.XT
open Jvm.Lib.Cold (StaticIs)
abbrev ST : String := "java/lang/String"
/-- every table word that New1's law asks, flat -/
abbrev words : List Jvm.Cond := [.code New1.yN New1.yB 2 none, .initialized ST, .methodLink ST 27 New4.yN, .instanceMethod New4.yN,
  .code New4.yN New4.yB 6 none, .fieldLink ST 38 ST "COMPACT_STRINGS" "Z", .laysFinal ST ST "value" "[B", .fieldLink ST 9 ST "value" "[B", .laysFinal ST ST "coder" "B", .fieldLink ST 15 ST "coder" "B",
  .methodLink ST 1 Lib.objectInit, .instanceMethod Lib.objectInit, .code Lib.objectInit ⟨#[0xb1]⟩ 1 none, .methodLink ST 177 Cmp3.yN, .static Cmp3.yN, .methodLink ST 47 CodL.yN, .static CodL.yN,
  .code Cmp3.yN Cmp3.yB 6 (some (.array .byte)), .initialized U16, .arrayClass .byte, .methodLink U16 115 Cmp5.yN, .static Cmp5.yN, .code Cmp5.yN Cmp5.yB 7 (some .int), .code CodL.yN CodL.yB 2 (some .byte)]
theorem tab_of {a : Array Value} {s : State} (h : ∀ w ∈ words, w.before a s = true) : New1.tab.before a s = true := by
  have h5 : Cmp5.tab.before a s = true := unparts (wk h (.code Cmp5.yN Cmp5.yB 7 (some .int))) (wks h (.initialized Cmp5.yN.cls :: Cmp5.site))
  have hc : CodL.tab.before a s = true := unparts (wk h (.code CodL.yN CodL.yB 2 (some .byte))) (wks h (.initialized CodL.yN.cls :: CodL.site))
  have q5 : ∀ w ∈ Cmp5.tab :: words, w.before a s = true := fun w hw => (List.mem_cons.mp hw).elim (fun e => e ▸ h5) (h w)
  have h3 : Cmp3.tab.before a s = true := unparts (wk q5 (.code Cmp3.yN Cmp3.yB 6 (some (.array .byte)))) (wks q5 (.initialized Cmp3.yN.cls :: Cmp3.site))
  have q3 : ∀ w ∈ Cmp3.tab :: CodL.tab :: words, w.before a s = true := fun w hw => (List.mem_cons.mp hw).elim (fun e => e ▸ h3) fun hw => (List.mem_cons.mp hw).elim (fun e => e ▸ hc) (h w)
  have h4 : New4.tab.before a s = true := unparts (wk q3 (.code New4.yN New4.yB 6 none)) (wks q3 (.initialized New4.yN.cls :: New4.site))
  have q4 : ∀ w ∈ New4.tab :: words, w.before a s = true := fun w hw => (List.mem_cons.mp hw).elim (fun e => e ▸ h4) (h w)
  exact unparts (wk q4 (.code New1.yN New1.yB 2 none)) (wks q4 (.initialized New1.yN.cls :: New1.site))
/-- the words ride from the start Z to the walk's own state -/
theorem moved {Z s : State} {a0 args : Array Value} (hZ : Z.Warmed39 s.vm) (hw : ∀ d ∈ words, d.before a0 Z = true) : ∀ d ∈ words, d.before args s = true := fun d hd => by
  have q := hw d hd
  have t : ∀ d ∈ words, d = .arrayClass .byte ∨ (d.onTables && d.keepsFace) = true := by decide +kernel
  rcases t d hd with rfl | t
  · exact RoadKit.mvA hZ q
  · exact RoadKit.mv hZ q t
/-- WHAT COMES BACK, over the tables of the start Z: h the heap at the call, h' behind it -/
def Q (Z : State) (x : Addr) (A : Cell) (h : Heap) (v : Option Value) (h' : Heap) (L : List Loc) : Prop := v = none ∧ (∀ y ∈ L, y.base = x) ∧ RoadKit.Keep h h' [x] ∧ h'.size = h.size + 1 ∧ RoadKit.Exa Z h' x ST ∧ RoadKit.Fld Z h' x ST "value" "[B" (.ref h.size) ∧ RoadKit.Fld Z h' x ST "coder" "B" (.int 0) ∧
  (∃ V : Cell, RoadKit.Arr Z h' h.size V .byte ∧ V.vm = .none ∧ Z.vm.findClass "[B" = some V.cls ∧ V.slots.size = A.slots.size ∧ ∀ j, j < A.slots.size → V.slots[j]? = some (.int (lo8 (cv A j)))) ∧
  ∀ (O n d : String) (w : Value), RoadKit.Fld Z h x O n d w → RoadKit.slotOf Z O n d ≠ RoadKit.slotOf Z ST "value" "[B" → RoadKit.slotOf Z O n d ≠ RoadKit.slotOf Z ST "coder" "B" → RoadKit.Fld Z h' x O n d w
/-- **new String(chars) AT A CALL, IN THE ROAD'S FORM**: for specialBack behind newO: x the fresh String, b the char[] with the cell A -/
theorem back {p : Program} {l : Launch} {e : Env} {R : Room} {s : State} {args : Array Value} {below : List Frame} {len W : Nat} {Z : State} {a0 : Array Value} {h : Heap} (hZ : Z.Warmed39 s.vm) (hw : ∀ d ∈ words, d.before a0 Z = true) {kI : Nat} (wi : (Jvm.Cond.instantiable ST kI).before a0 Z = true)
    {x b : Addr} {A : Cell} {z : Int32} {v0 c0 : Value} (E : RoadKit.Exa Z h x ST) (V : RoadKit.Fld Z h x ST "value" "[B" v0) (C : RoadKit.Fld Z h x ST "coder" "B" c0) (K : RoadKit.Arr Z h b A .char) (hty : Typed .char A) (S : RoadKit.Sta Z h ST "COMPACT_STRINGS" "Z" (.int z)) (hz : ¬ z = 0)
    (l0 : 0 < A.slots.size) (l2 : A.slots.size ≤ 536870912) (hp : ∀ i, i < A.slots.size → ¬ 255 < cv A i) (hfr : 4 ≤ R.frames) (hlo : W + 65 ≤ R.locals) :
    Back l R p e below s args New1.yN len W (fun P a => a = #[.ref x, .ref b] ∧ P.U.heap = h ∧ P.cells + 1 ≤ R.cells ∧ P.slots + A.slots.size ≤ R.slots)
      (fun P _ v B => ∃ L, Q Z x A h v B.U.heap L ∧ B.locs = P.locs ++ L ∧ B.cells = P.cells + 1 ∧ B.slots = P.slots + A.slots.size) := by
  intro m meth c P g ig mk a X hg hsize hdg hW hn hp'
  obtain ⟨rfl, rfl, r1, r2⟩ := hp'
  have al : Z.vm.Alike P.U.vm := hZ.alike.trans X.warmed.alike
  obtain ⟨D, cfV, kV, iV, fV, hD, gV, stV, knV, obV, asV, slV⟩ := id V
  obtain ⟨D', cfC, kC, iC, fC, hD', gC, stC, -, -, asC, slC⟩ := id C
  cases hD.symm.trans hD'
  obtain ⟨D2, kD, e1, e2, e3, e4, e5⟩ := id E
  cases hD.symm.trans e1
  obtain ⟨c2, k2, i1, i2, i3, -⟩ := Cond.instantiable_spec wi
  cases e2.symm.trans i1
  cases e3.symm.trans i2
  obtain ⟨kU, u1, u2⟩ := al.2.2 _ _ e3
  have hB : Blank ST x D P.U := ⟨hD, ⟨knV, fun q hq => by rw [hq] at obV; cases obV⟩, by rw [al.findClass]; exact e2, kU, u1, by rw [u2]; exact i3, by rw [u2]; exact e5 i3⟩
  have F1 : Found ST "value" "[B" fV P.U := ⟨SBG.found_only al ⟨cfV, kV, iV, gV⟩, stV⟩
  have F2 : Found ST "coder" "B" fC P.U := ⟨SBG.found_only al ⟨cfC, kC, iC, gC⟩, stC⟩
  have hA : Ch b A P.U := ⟨⟨K.1, State.isArrayOf_alike al K.2.1, K.2.2, by omega⟩, hty⟩
  have hS : StaticIs P.U ST "COMPACT_STRINGS" "Z" (.int z) := by
    obtain ⟨cfS, iS, kS, fS, st, cS, t1, t2, t3, t4, t5, t6, t7⟩ := S
    exact StaticIs.there (s := { Z with heap := P.U.heap }) ⟨cfS, iS, kS, fS, st, cS, t1, t2, t3, t4, t5, (fun q => by rw [q] at t6; cases t6), t7⟩ al rfl
  obtain ⟨v, B, X', ⟨⟨hv, E', V', q1, q2, q3, q4, q5, q6, q7, q8, q9, q10, q11⟩, hl, hc, hs⟩, st⟩ := New1.pays x D fV fC b A z (tab_of (moved hZ hw)) hfr hlo m meth c P g ig mk _ X hg hsize hdg hW hn ⟨r1, r2, rfl, hB, F1, F2, hA, hS, hz, l0, l2, hp⟩
  have al' : Z.vm.Alike B.U.vm := hZ.alike.trans X'.warmed.alike
  have hsz : E'.slots.size = D.slots.size := by
    obtain ⟨-, -, -, kB, w1, w2, w3⟩ := q1
    obtain ⟨kB', y1, y2⟩ := al'.2.2 _ _ e3
    rw [q2.2.1] at w1
    cases w1.symm.trans y1
    rw [w3, e5 i3, y2]
  refine ⟨v, B, X', ⟨_, ⟨hv, ?_, ⟨by omega, fun y cy hy hn' => q10 y cy (by simpa using hn') hy, fun y cy hy => ?_⟩, q11, ⟨E', _, q1.1, by rw [q2.2.1]; exact e2, by rw [q2.2.1]; exact e3, by rw [q2.1]; exact obV, fun _ => by rw [hsz]; exact e5 i3⟩,
    ⟨E', cfV, kV, iV, fV, q1.1, gV, stV, by rw [q2.1]; exact knV, by rw [q2.1]; exact obV, by rw [q2.2.1]; exact asV, q3⟩, ⟨E', cfC, kC, iC, fC, q1.1, gC, stC, by rw [q2.1]; exact knV, by rw [q2.1]; exact obV, by rw [q2.2.1]; exact asC, q4⟩,
    ⟨V', ⟨q5.1, State.isArrayOf_alike al'.symm q5.2.1, q5.2.2.1⟩, q6, by rw [← al'.findClass]; exact q7, q8, fun j hj => by have := q9 j hj; rwa [Nat.zero_add] at this⟩, fun O n d w F n1 n2 => ?_⟩, hl, hc, hs⟩, st⟩
  · intro y hy
    simp only [List.mem_cons, List.not_mem_nil, or_false] at hy
    rcases hy with rfl | rfl <;> rfl
  · by_cases q : y = x
    · subst q
      cases hD.symm.trans hy
      exact ⟨E', q1.1, q2.2.1, q2.1, hsz⟩
    · exact ⟨cy, q10 y cy q hy, rfl, rfl, rfl⟩
  · obtain ⟨D3, cf, k, i, f, g1, g2, g3, g4, g5, g6, g7⟩ := F
    cases hD.symm.trans g1
    simp only [RoadKit.slotOf, g2, gV, gC, Option.map_some, Option.getD_some] at n1 n2
    exact ⟨E', cf, k, i, f, q1.1, g2, g3, by rw [q2.1]; exact g4, by rw [q2.1]; exact g5, by rw [q2.2.1]; exact g6, by rw [q2.2.2 f.slot (by simp [n1, n2])]; exact g7⟩
end StrChars.Road
namespace StrChars.Road
open Jvm Sem ClassFile Op Lib Jvm.Stand Jvm.Free Jvm.Free.XT
/-- WHAT COMES BACK, the byte[] as a list of values -/
def QA (Z : State) (x : Addr) (zn : Int32) (cs : List Int32) (h : Heap) (v : Option Value) (h' : Heap) (L : List Loc) : Prop := v = none ∧ (∀ y ∈ L, y.base = x) ∧ RoadKit.Keep h h' [x] ∧ h'.size = h.size + 1 ∧ RoadKit.Exa Z h' x ST ∧ RoadKit.Fld Z h' x ST "value" "[B" (.ref h.size) ∧ RoadKit.Fld Z h' x ST "coder" "B" (.int 0) ∧
  (∃ kb, Z.vm.findClass "[B" = some kb ∧ RoadKit.Arv Z h' h.size kb .byte zn (cs.map fun c => .int (lo8 c)) (.int 0)) ∧
  ∀ (O n d : String) (w : Value), RoadKit.Fld Z h x O n d w → RoadKit.slotOf Z O n d ≠ RoadKit.slotOf Z ST "value" "[B" → RoadKit.slotOf Z O n d ≠ RoadKit.slotOf Z ST "coder" "B" → RoadKit.Fld Z h' x O n d w
/-- **new String(chars) AT A CALL, THE ARRAYS AS LISTS**: the char[] at b holds cs, not empty, no char above 255 -/
theorem backArv {p : Program} {l : Launch} {e : Env} {R : Room} {s : State} {args : Array Value} {below : List Frame} {len W : Nat} {Z : State} {a0 : Array Value} {h : Heap} (hZ : Z.Warmed39 s.vm) (hw : ∀ d ∈ words, d.before a0 Z = true) {kI : Nat} (wi : (Jvm.Cond.instantiable ST kI).before a0 Z = true)
    {x b : Addr} {k : ClassId} {zn z : Int32} {cs : List Int32} {dv v0 c0 : Value} (E : RoadKit.Exa Z h x ST) (V : RoadKit.Fld Z h x ST "value" "[B" v0) (C : RoadKit.Fld Z h x ST "coder" "B" c0) (K : RoadKit.Arv Z h b k .char zn (cs.map Value.int) dv) (S : RoadKit.Sta Z h ST "COMPACT_STRINGS" "Z" (.int z)) (hz : ¬ z = 0)
    (hlen : zn.toNatClampNeg = cs.length) (h0 : 0 < cs.length) (hbig : cs.length ≤ 536870912) (hall : ∀ c ∈ cs, ¬ 255 < c) (hfr : 4 ≤ R.frames) (hlo : W + 65 ≤ R.locals) :
    Back l R p e below s args New1.yN len W (fun P a => a = #[.ref x, .ref b] ∧ P.U.heap = h ∧ P.cells + 1 ≤ R.cells ∧ P.slots + cs.length ≤ R.slots)
      (fun P _ v B => ∃ L, QA Z x zn cs h v B.U.heap L ∧ B.locs = P.locs ++ L ∧ B.cells = P.cells + 1 ∧ B.slots = P.slots + cs.length) := by
  obtain ⟨A, K1, K2, K3, K4, K5, K6⟩ := K
  have e : A.slots.size = cs.length := K3.trans hlen
  have hat : ∀ (i : Nat) (hi : i < cs.length), A.slots[i]? = some (.int cs[i]) := fun i hi => by rw [K5 i (by omega)]; simp [List.getD_eq_getElem?_getD, hi]
  have hcv : ∀ (i : Nat) (hi : i < cs.length), cv A i = cs[i] := fun i hi => by unfold cv; rw [hat i hi]
  have hty : Typed .char A := fun i v hv => by
    have hi : i < A.slots.size := (Array.getElem?_eq_some_iff.mp hv).1
    have q := K5 i hi
    rw [hv] at q
    rw [Option.some.inj q]
    exact K6 i hi
  refine Back.mono (back hZ hw wi E V C K1 hty S hz (by omega) (by omega) (fun i hi => by rw [hcv i (by omega)]; exact hall _ (List.getElem_mem _)) hfr hlo) (fun P a hp => ⟨hp.1, hp.2.1, hp.2.2.1, by rw [e]; exact hp.2.2.2⟩) (fun P a v B hp hq => ?_)
  obtain ⟨L, ⟨q1, q2, q3, q4, q5, q6, q7, ⟨V', v1, v2, v3, v4, v5⟩, q9⟩, hl, hc, hs⟩ := hq
  refine ⟨L, ⟨q1, q2, q3, q4, q5, q6, q7, ⟨V'.cls, v3, V', v1, rfl, by rw [v4, e, hlen], K4, fun i hi => ?_, fun i hi => ?_⟩, q9⟩, hl, hc, by rw [hs, e]⟩
  · have hi' : i < cs.length := by omega
    rw [v5 i (by omega), hcv i hi']; simp [List.getD_eq_getElem?_getD, hi']
  · have hi' : i < cs.length := by omega
    simp only [List.getD_eq_getElem?_getD, List.getElem?_map, List.getElem?_eq_getElem hi', Option.map_some, Option.getD_some]
    exact fits_lo8 _
end StrChars.Road
namespace StrChars.Road
open Jvm Sem ClassFile Op Lib Jvm.Stand Jvm.Free Jvm.Free.XT
/-- WHAT COMES BACK, in the writer's own shape -/
def QV (Z : State) (x : Addr) (N : Int32) (bs : List Int32) (h : Heap) (n0 : Nat) (v : Option Value) (h' : Heap) (L : List Loc) : Prop := v = none ∧ RoadKit.Fr n0 L ∧ RoadKit.Keep h h' [x] ∧ RoadKit.Exa Z h' x ST ∧ RoadKit.Fld Z h' x ST "coder" "B" (.int 0) ∧
  ∃ (t : Addr) (kb : ClassId), n0 ≤ t ∧ h.size ≤ t ∧ ¬ t = x ∧ RoadKit.Fld Z h' x ST "value" "[B" (.ref t) ∧ RoadKit.Arv Z h' t kb .byte N (bs.map Value.int) (.int 0)
/-- **new String(chars) AT A CALL, FOR THE WRITER**: a char[] of n known ints, each 0 to 255 -/
theorem backV {p : Program} {l : Launch} {e : Env} {R : Room} {s : State} {args : Array Value} {below : List Frame} {len W : Nat} {Z : State} {a0 : Array Value} {h : Heap} (hZ : Z.Warmed39 s.vm) (hw : ∀ d ∈ words, d.before a0 Z = true) {kI : Nat} (wi : (Jvm.Cond.instantiable ST kI).before a0 Z = true)
    {x b : Addr} {kC : ClassId} {cs bs : List Int32} {d v0 c0 : Value} {z N : Int32} {n n0 : Nat} (hx0 : n0 ≤ x) (hh0 : n0 ≤ h.size) (E : RoadKit.Exa Z h x ST) (V : RoadKit.Fld Z h x ST "value" "[B" v0) (C : RoadKit.Fld Z h x ST "coder" "B" c0) (K : RoadKit.Arv Z h b kC .char N (cs.map Value.int) d) (S : RoadKit.Sta Z h ST "COMPACT_STRINGS" "Z" (.int z)) (hz : ¬ z = 0)
    (hn : cs.length = n) (hN : N = Int32.ofNat n) (l0 : 0 < n) (l2 : n ≤ 4000) (hp : ∀ c ∈ cs, ¬ c < 0 ∧ ¬ (255 : Int32) < c) (hb : bs = cs.map (fun c => c.toInt8.toInt32)) (hfr : 4 ≤ R.frames) (hlo : W + 65 ≤ R.locals) :
    Back l R p e below s args (⟨"java/lang/String", "<init>", "([C)V"⟩ : MethodName) len W (fun P a => a = #[.ref x, .ref b] ∧ P.U.heap = h ∧ P.cells + 1 ≤ R.cells ∧ P.slots + n ≤ R.slots)
      (fun P _ v B => ∃ L, QV Z x N bs h n0 v B.U.heap L ∧ B.locs = P.locs ++ L ∧ B.cells = P.cells + 1 ∧ B.slots = P.slots + n) := by
  subst hn hN hb
  refine Back.mono (backArv hZ hw wi E V C K S hz (n32 (by omega)) l0 (by omega) (fun c hc => (hp c hc).2) hfr hlo) (fun P a hp => hp) (fun P a v B hp hq => ?_)
  obtain ⟨L, ⟨q1, q2, q3, q4, q5, q6, q7, ⟨kb, v1, v2⟩, q9⟩, hl, hc, hs⟩ := hq
  exact ⟨L, ⟨q1, fun y hy => by rw [q2 y hy]; exact hx0, q3, q5, q7, h.size, kb, hh0, Nat.le_refl _, Nat.ne_of_gt E.lt, q6, by rw [List.map_map]; exact v2⟩, hl, hc, hs⟩
end StrChars.Road
end Jvm.Pilot.@@N@@
namespace Jvm.Pilot.@@N@@
open Jvm Jvm.ClassFile Sem Op Lib Jvm.Free Jvm.Stand Jvm.LawKit Jvm.RoadKit Bundle Jvm.Pilot.@@N@@.Jvm.D
theorem own_k {Z : State} {a0 : Array Value} (hw : ∀ d ∈ tables_1, d.before a0 Z = true) {d : Jvm.Cond} (i : Nat) (h : tables_1[i]? = some d) : d.before a0 Z = true := hw d (List.mem_of_getElem? h)
theorem own_nn32 {n : Nat} (h : n < 2147483648) : ¬ Int32.ofNat n < 0 := by
  rw [Int32.lt_iff_toInt_lt, Int32.toInt_ofNat_of_lt (by omega), show (0 : Int32).toInt = 0 from rfl]
  omega
/-- from here the run ends as F says -/
def own_G (p : Program) (e : Env) (below : List Frame) (T : State) (g : JFrame) (F : State → Prop) : Prop := ∃ s₂, Steps p.tables e below (T.setTop g) s₂ ∧ F s₂
theorem own_st {p : Program} {e : Env} {below : List Frame} {T T' : State} {g g' : JFrame} {F : State → Prop} (h : ∀ target, Steps p.tables e below (T'.setTop g') target → Steps p.tables e below (T.setTop g) target) (k : own_G p e below T' g' F) : own_G p e below T g F := by
  obtain ⟨s2, a, b⟩ := k
  exact ⟨s2, h _ a, b⟩
theorem own_tr {p : Program} {e : Env} {below : List Frame} {T T' : State} {g g' : JFrame} {F : State → Prop} (h : Steps p.tables e below (T.setTop g) (T'.setTop g')) (k : own_G p e below T' g' F) : own_G p e below T g F := by
  obtain ⟨s2, a, b⟩ := k
  exact ⟨s2, h.trans a, b⟩
theorem own_end {p : Program} {e : Env} {below : List Frame} {T s2 : State} {g : JFrame} {F : State → Prop} (h : Steps p.tables e below (T.setTop g) s2) (k : F s2) : own_G p e below T g F := ⟨s2, h, k⟩
theorem own_join {α : Type} {p : Program} {e : Env} {below : List Frame} {T : State} {g : JFrame} {gj : α → JFrame} {P : α → Prop} {F : State → Prop} (k : ∀ q, P q → own_G p e below T (gj q) F) (h : (∀ q, P q → own_G p e below T (gj q) F) → own_G p e below T g F) : own_G p e below T g F := h k
abbrev own_E (s : State) (below : List Frame) (R : Room) (Q : Option Value → Heap → List Loc → Prop) : State → Prop := fun s₂ => ∃ o, s₂.status = .running ∧ Ended s₂ below o ∧ ∃ v L, o = .returned v ∧ Q v s₂.heap L ∧ FrameEnd s o s₂ L R.cells R.slots
abbrev own_EndW (s : State) (below : List Frame) (R : Room) (Q : Option Value → Heap → List Loc → Prop) : State → Prop := fun s₂ => ∃ o, s₂.status = .running ∧ Ended s₂ below o ∧ ∃ v L, o = .returned v ∧ Q v s₂.heap L ∧ ReturnedEndW s o s₂ L R.cells R.slots
abbrev own_EndH (Z : State) (EL : List (String × Nat)) (s : State) (below : List Frame) (R : Room) (Q : Option Value → Heap → List Loc → Prop) : State → Prop := fun s₂ => ∃ o, s₂.status = .running ∧ Ended s₂ below o ∧ ∃ v L, o = .returned v ∧ Q v s₂.heap L ∧ CHr Z EL s.vm s.heap s₂.vm s₂.heap ∧ ReturnedEndW s o s₂ L R.cells R.slots
abbrev own_M (l : Launch) (y : MethodName) (bs : ByteArray) (ml : Nat) (rt : Option FieldType) (ws : List Jvm.Cond) (R : Room) (as' : Array Value) (Z : State) (h0 : Heap) (Q : Option Value → Heap → List Loc → Prop) : Prop :=
  MetFree l y (head1 (Jvm.Cond.code y bs ml rt :: ws) R) (fun av U => av = as' ∧ Z.Warmed39 U.vm ∧ U.heap = h0) (fun _ _ _ _ _ => True) (fun _ U o U' => ∃ v L, o = .returned v ∧ Q v U'.heap L ∧ FrameEnd U o U' L R.cells R.slots)
abbrev own_MW (l : Launch) (y : MethodName) (bs : ByteArray) (ml : Nat) (rt : Option FieldType) (ws : List Jvm.Cond) (R : Room) (as' : Array Value) (Z : State) (h0 : Heap) (Q : Option Value → Heap → List Loc → Prop) : Prop :=
  MetFree l y (head1 (Jvm.Cond.code y bs ml rt :: ws) R) (fun av U => av = as' ∧ Z.Warmed39 U.vm ∧ U.heap = h0) (fun _ _ _ _ _ => True) (fun _ U o U' => ∃ v L, o = .returned v ∧ Q v U'.heap L ∧ ReturnedEndW U o U' L R.cells R.slots)
abbrev own_MH (EL : List (String × Nat)) (l : Launch) (y : MethodName) (bs : ByteArray) (ml : Nat) (rt : Option FieldType) (ws : List Jvm.Cond) (R : Room) (as' : Array Value) (Z : State) (h0 : Heap) (Q : Option Value → Heap → List Loc → Prop) : Prop :=
  MetFree l y (head1 (Jvm.Cond.code y bs ml rt :: ws) R) (fun av U => av = as' ∧ Z.Warmed39 U.vm ∧ U.heap = h0 ∧ CHv Z EL U.vm h0) (fun _ _ _ _ _ => True) (fun _ U o U' => ∃ v L, o = .returned v ∧ Q v U'.heap L ∧ CHr Z EL U.vm U.heap U'.vm U'.heap ∧ ReturnedEndW U o U' L R.cells R.slots)
theorem own_go {l : Launch} {y : MethodName} {bs : ByteArray} {ml : Nat} {rt : Option FieldType} {ws : List Jvm.Cond} {R : Room} {as' : Array Value} {Z : State} {h0 : Heap} {Q : Option Value → Heap → List Loc → Prop} (hpn : plainFor y = true) {ff : MethodId → JFrame} (hff : ∀ m, entryFrame m as' ml = ff m)
    (body : ∀ p e s m below meth c s₁, BodyLoose p l y (head1 (Jvm.Cond.code y bs ml rt :: ws) R) bs ml rt e s m as' below meth c s₁ → p.tables.exec = Jvm.exec → c.code = bs → c.maxLocals = ml → Z.Warmed39 s.vm → s.heap = h0 → s.vm.findClass y.cls = some m.cls → meth.name = y.name → Stand p l e R s m as' below meth c s₁ [] 0 0 → s₁.heap = h0 → own_G p e below s₁ (ff m) (own_E s below R Q)) : own_M l y bs ml rt ws R as' Z h0 Q := by
  refine MetFree.of_bodySF hpn hisR ?_
  intro p e s m args below meth c s₁ Bd hml0 hP hK
  obtain ⟨rfl, hZ, hh⟩ := hP
  obtain ⟨s2, g1, o, g2⟩ := body p e s m below meth c s₁ Bd Bd.exec Bd.bytes hml0 hZ hh (findClass_of_methodNamed Bd.named) (name_of_methodNamed Bd.named Bd.method).1 (Stand.of_body Bd) (by rw [← hh, Bd.state]; rfl)
  exact ⟨s2, o, castTop (hff m) g1, g2⟩
theorem own_goW {l : Launch} {y : MethodName} {bs : ByteArray} {ml : Nat} {rt : Option FieldType} {ws : List Jvm.Cond} {R : Room} {as' : Array Value} {Z : State} {h0 : Heap} {Q : Option Value → Heap → List Loc → Prop} (hpn : plainFor y = true) {ff : MethodId → JFrame} (hff : ∀ m, entryFrame m as' ml = ff m)
    (body : ∀ p e s m below meth c s₁, BodyLoose p l y (head1 (Jvm.Cond.code y bs ml rt :: ws) R) bs ml rt e s m as' below meth c s₁ → p.tables.exec = Jvm.exec → c.code = bs → c.maxLocals = ml → Z.Warmed39 s.vm → s.heap = h0 → s.vm.findClass y.cls = some m.cls → meth.name = y.name → Stand p l e R (s.setVm s.vm) m as' below meth c s₁ [] 0 0 → s₁.heap = h0 → s.Since s.vm h0.size → own_G p e below s₁ (ff m) (own_EndW s below R Q)) : own_MW l y bs ml rt ws R as' Z h0 Q := by
  refine MetFree.of_bodySF hpn hisR ?_
  intro p e s m args below meth c s₁ Bd hml0 hP hK
  obtain ⟨rfl, hZ, hh⟩ := hP
  obtain ⟨s2, g1, o, g2⟩ := body p e s m below meth c s₁ Bd Bd.exec Bd.bytes hml0 hZ hh (findClass_of_methodNamed Bd.named) (name_of_methodNamed Bd.named Bd.method).1 (Stand.of_body Bd) (by rw [← hh, Bd.state]; rfl) ((State.WarmedH.refl s).since _)
  exact ⟨s2, o, castTop (hff m) g1, g2⟩
theorem own_goH {EL : List (String × Nat)} {l : Launch} {y : MethodName} {bs : ByteArray} {ml : Nat} {rt : Option FieldType} {ws : List Jvm.Cond} {R : Room} {as' : Array Value} {Z : State} {h0 : Heap} {Q : Option Value → Heap → List Loc → Prop} (hpn : plainFor y = true) {ff : MethodId → JFrame} (hff : ∀ m, entryFrame m as' ml = ff m)
    (body : ∀ p e s m below meth c s₁, BodyLoose p l y (head1 (Jvm.Cond.code y bs ml rt :: ws) R) bs ml rt e s m as' below meth c s₁ → p.tables.exec = Jvm.exec → c.code = bs → c.maxLocals = ml → Z.Warmed39 s.vm → s.heap = h0 → s.vm.findClass y.cls = some m.cls → meth.name = y.name → Stand p l e R (s.setVm s.vm) m as' below meth c s₁ [] 0 0 → s₁.heap = h0 → s.Since s.vm h0.size → CHr Z EL s.vm h0 s.vm h0 → own_G p e below s₁ (ff m) (own_EndH Z EL s below R Q)) : own_MH EL l y bs ml rt ws R as' Z h0 Q := by
  refine MetFree.of_bodySF hpn hisR ?_
  intro p e s m args below meth c s₁ Bd hml0 hP hK
  obtain ⟨rfl, hZ, hh, hCH⟩ := hP
  obtain ⟨s2, g1, o, g2⟩ := body p e s m below meth c s₁ Bd Bd.exec Bd.bytes hml0 hZ hh (findClass_of_methodNamed Bd.named) (name_of_methodNamed Bd.named Bd.method).1 (Stand.of_body Bd) (by rw [← hh, Bd.state]; rfl) ((State.WarmedH.refl s).since _) (CHr.refl hCH)
  exact ⟨s2, o, castTop (hff m) g1, g2⟩
theorem own_pop2 {tb : Tables} [Ours tb] {e : Env} {below : List Frame} {T target : State} {m : MethodId} {c : Code} {g : JFrame} (h : At T m c below) (hx : tb.exec = Jvm.exec) (hg : g.method = m) {x : Value} {rest : List Value} (hd : decode c.code g.pc = .ok (.pop2, 1)) (hs : g.stack = x :: rest) (hc : x.category = 2)
    (hr : Steps tb e below (T.setTop { g with pc := g.pc + 1, stack := rest }) target) : Steps tb e below (T.setTop g) target := by
  subst hg
  jvm_step h [h.top, hx, hd, hs, hc]
  exact hr
section Own
variable {p : Program} {l : Launch} {e : Env} {R : Room} {s : State} {m : MethodId} {args : Array Value} {below : List Frame} {meth : Method} {c : Code} {T : State} {locs : List Loc} {cells slots : Nat} {Z : State} {h h' : Heap} {a : Addr} {k : ClassId} {ty : FieldType} {z j : Int32} {vs : List Value} {d v : Value} {g : JFrame} {rest : List Value}
theorem own_joinT {α : Type} {gj : α → JFrame} {P : α → Prop} {F : State → Prop} (X : Stand p l e R s m args below meth c T locs cells slots) (eT : T.heap = h)
    (k : ∀ T' q, P q → Stand p l e R s m args below meth c T' locs cells slots → T'.heap = h → own_G p e below T' (gj q) F) (r : (∀ T' q, P q → Stand p l e R s m args below meth c T' locs cells slots → T'.heap = h → own_G p e below T' (gj q) F) → own_G p e below T g F) : own_G p e below T g F := r k
theorem own_loop {α : Type} {gj : α → JFrame} {P : Nat → α → Prop} {F : State → Prop} (X : Stand p l e R s m args below meth c T locs cells slots) (eT : T.heap = h)
    (k : ∀ n, (∀ i, i < n → ∀ T' q, P i q → Stand p l e R s m args below meth c T' locs cells slots → T'.heap = h → own_G p e below T' (gj q) F) → ∀ T' q, P n q → Stand p l e R s m args below meth c T' locs cells slots → T'.heap = h → own_G p e below T' (gj q) F)
    (r : (∀ n T' q, P n q → Stand p l e R s m args below meth c T' locs cells slots → T'.heap = h → own_G p e below T' (gj q) F) → own_G p e below T g F) : own_G p e below T g F :=
  r fun n => Nat.strongRecOn n fun n ih => k n ih
theorem own_joinH {α : Type} {gj : α → JFrame} {P : List Loc → Heap → α → Prop} {F : State → Prop} {cells' slots' : Nat} (X : Stand p l e R s m args below meth c T locs cells slots)
    (k : ∀ T' L h' q, P L h' q → Stand p l e R s m args below meth c T' L cells' slots' → T'.heap = h' → own_G p e below T' (gj q) F) (r : (∀ T' L h' q, P L h' q → Stand p l e R s m args below meth c T' L cells' slots' → T'.heap = h' → own_G p e below T' (gj q) F) → own_G p e below T g F) : own_G p e below T g F := r k
theorem own_joinHV {α : Type} {gj : α → JFrame} {P : Vm → Nat → List Loc → Heap → α → Prop} {F : State → Prop} {cells' slots' : Nat} {vm0 : Vm} (X : Stand p l e R (s.setVm vm0) m args below meth c T locs cells slots)
    (k : ∀ vm1 k1 T' L h' q, P vm1 k1 L h' q → Stand p l e R (s.setVm vm1) m args below meth c T' L cells' slots' → T'.heap = h' → own_G p e below T' (gj q) F) (r : (∀ vm1 k1 T' L h' q, P vm1 k1 L h' q → Stand p l e R (s.setVm vm1) m args below meth c T' L cells' slots' → T'.heap = h' → own_G p e below T' (gj q) F) → own_G p e below T g F) : own_G p e below T g F := r k
theorem own_alen (X : Stand p l e R s m args below meth c T locs cells slots) (hx : p.tables.exec = Jvm.exec) (hZ : Z.Warmed39 s.vm) (eT : T.heap = h) (F : Arv Z h a k ty z vs d) (hg : g.method = m) (hs : g.stack = .ref a :: rest) (hd : decode c.code g.pc = .ok (.arraylength, 1)) :
    ∀ target, Steps p.tables e below (T.setTop { g with pc := g.pc + 1, stack := .int z :: rest }) target → Steps p.tables e below (T.setTop g) target := by
  obtain ⟨cl, A, -, S, M, -⟩ := F
  intro target hr
  refine X.arraylength hx (cell := cl) (by rw [eT]; exact A.1) (State.isArrayOf_alike hZ.alike A.2.1) hg hs hd target ?_
  rw [len_of S M]; exact hr
theorem own_ial (X : Stand p l e R s m args below meth c T locs cells slots) (hx : p.tables.exec = Jvm.exec) (hZ : Z.Warmed39 s.vm) (eT : T.heap = h) (F : Arv Z h a k .int z vs d) (hj : ¬ j < 0 ∧ j < z) (hv : vs.getD j.toNatClampNeg d = v) (hg : g.method = m) (hs : g.stack = .int j :: .ref a :: rest) (hd : decode c.code g.pc = .ok (.iaload, 1)) :
    ∀ target, Steps p.tables e below (T.setTop { g with pc := g.pc + 1, stack := v :: rest }) target → Steps p.tables e below (T.setTop g) target := by
  obtain ⟨cl, A, -, S, M, H, -⟩ := F
  intro target hr
  exact X.iaload hx (by rw [eT]; exact A.1) (State.isArrayOf_alike hZ.alike A.2.1) A.2.2 (inb_of S hj) (H.at (inb_of S hj) hv) hg hs hd target hr
theorem own_cal (X : Stand p l e R s m args below meth c T locs cells slots) (hx : p.tables.exec = Jvm.exec) (hZ : Z.Warmed39 s.vm) (eT : T.heap = h) (F : Arv Z h a k .char z vs d) (hj : ¬ j < 0 ∧ j < z) (hv : vs.getD j.toNatClampNeg d = v) (hg : g.method = m) (hs : g.stack = .int j :: .ref a :: rest) (hd : decode c.code g.pc = .ok (.caload, 1)) :
    ∀ target, Steps p.tables e below (T.setTop { g with pc := g.pc + 1, stack := v :: rest }) target → Steps p.tables e below (T.setTop g) target := by
  obtain ⟨cl, A, -, S, M, H, -⟩ := F
  intro target hr
  exact X.caload hx (by rw [eT]; exact A.1) (State.isArrayOf_alike hZ.alike A.2.1) A.2.2 (inb_of S hj) (H.at (inb_of S hj) hv) hg hs hd target hr
theorem own_bal (X : Stand p l e R s m args below meth c T locs cells slots) (hx : p.tables.exec = Jvm.exec) (hZ : Z.Warmed39 s.vm) (eT : T.heap = h) (F : Arv Z h a k .byte z vs d) (hj : ¬ j < 0 ∧ j < z) (hv : vs.getD j.toNatClampNeg d = v) (hg : g.method = m) (hs : g.stack = .int j :: .ref a :: rest) (hd : decode c.code g.pc = .ok (.baload, 1)) :
    ∀ target, Steps p.tables e below (T.setTop { g with pc := g.pc + 1, stack := v :: rest }) target → Steps p.tables e below (T.setTop g) target := by
  obtain ⟨cl, A, -, S, M, H, -⟩ := F
  intro target hr
  exact X.baloadBytes hx (by rw [eT]; exact A.1) (State.isArrayOf_alike hZ.alike A.2.1) A.2.2 (inb_of S hj) (H.at (inb_of S hj) hv) hg hs hd target hr
theorem own_lal (X : Stand p l e R s m args below meth c T locs cells slots) (hx : p.tables.exec = Jvm.exec) (hZ : Z.Warmed39 s.vm) (eT : T.heap = h) (F : Arv Z h a k .long z vs d) (hj : ¬ j < 0 ∧ j < z) (hv : vs.getD j.toNatClampNeg d = v) (hg : g.method = m) (hs : g.stack = .int j :: .ref a :: rest) (hd : decode c.code g.pc = .ok (.laload, 1)) :
    ∀ target, Steps p.tables e below (T.setTop { g with pc := g.pc + 1, stack := v :: rest }) target → Steps p.tables e below (T.setTop g) target := by
  obtain ⟨cl, A, -, S, M, H, -⟩ := F
  intro target hr
  exact X.laload hx (by rw [eT]; exact A.1) (State.isArrayOf_alike hZ.alike A.2.1) A.2.2 (inb_of S hj) (H.at (inb_of S hj) hv) hg hs hd target hr
theorem own_dal (X : Stand p l e R s m args below meth c T locs cells slots) (hx : p.tables.exec = Jvm.exec) (hZ : Z.Warmed39 s.vm) (eT : T.heap = h) (F : Arv Z h a k .double z vs d) (hj : ¬ j < 0 ∧ j < z) (hv : vs.getD j.toNatClampNeg d = v) (hg : g.method = m) (hs : g.stack = .int j :: .ref a :: rest) (hd : decode c.code g.pc = .ok (.daload, 1)) :
    ∀ target, Steps p.tables e below (T.setTop { g with pc := g.pc + 1, stack := v :: rest }) target → Steps p.tables e below (T.setTop g) target := by
  obtain ⟨cl, A, -, S, M, H, -⟩ := F
  intro target hr
  exact X.daload hx (by rw [eT]; exact A.1) (State.isArrayOf_alike hZ.alike A.2.1) A.2.2 (inb_of S hj) (H.at (inb_of S hj) hv) hg hs hd target hr
theorem own_aal (X : Stand p l e R s m args below meth c T locs cells slots) (hx : p.tables.exec = Jvm.exec) (hZ : Z.Warmed39 s.vm) (eT : T.heap = h) (F : Arv Z h a k ty z vs d) (hty : ty.isReference = true) (hj : ¬ j < 0 ∧ j < z) (hv : vs.getD j.toNatClampNeg d = v) (hg : g.method = m) (hs : g.stack = .int j :: .ref a :: rest) (hd : decode c.code g.pc = .ok (.aaload, 1)) :
    ∀ target, Steps p.tables e below (T.setTop { g with pc := g.pc + 1, stack := v :: rest }) target → Steps p.tables e below (T.setTop g) target := by
  obtain ⟨cl, A, -, S, M, H, -⟩ := F
  intro target hr
  exact X.aaload hx (by rw [eT]; exact A.1) (State.isArrayOf_alike hZ.alike A.2.1) hty A.2.2 (inb_of S hj) (H.at (inb_of S hj) hv) hg hs hd target hr
theorem own_ist (X : Stand p l e R s m args below meth c T locs cells slots) (hx : p.tables.exec = Jvm.exec) (hZ : Z.Warmed39 s.vm) (eT : T.heap = h) (F : Arv Z h a k .int z vs d) (hj : ¬ j < 0 ∧ j < z) {i : Nat} (hi : j.toNatClampNeg = i) (hl : i < vs.length) {x : Int32} (hg : g.method = m) (hs : g.stack = .int x :: .int j :: .ref a :: rest) (hd : decode c.code g.pc = .ok (.iastore, 1)) :
    ∃ T' h', Stand p l e R s m args below meth c T' (locs ++ [⟨a, j.toNatClampNeg⟩]) cells slots ∧ T'.heap = h' ∧ Wr h h' a j.toNatClampNeg (.int x) ∧ Arv Z h' a k .int z (vs.set i (.int x)) d ∧ ∀ target, Steps p.tables e below (T'.setTop { g with pc := g.pc + 1, stack := rest }) target → Steps p.tables e below (T.setTop g) target := by
  obtain ⟨cl, A, q, S, M, H, G⟩ := F
  obtain ⟨T', h', X', e', W, st⟩ := stI X hx hZ eT A (inb_of S hj) hg hs hd
  exact ⟨T', h', X', e', W, Arv.set A q S M H G rfl W i hi hl, st⟩
theorem own_lst (X : Stand p l e R s m args below meth c T locs cells slots) (hx : p.tables.exec = Jvm.exec) (hZ : Z.Warmed39 s.vm) (eT : T.heap = h) (F : Arv Z h a k .long z vs d) (hj : ¬ j < 0 ∧ j < z) {i : Nat} (hi : j.toNatClampNeg = i) (hl : i < vs.length) {x : Int64} (hg : g.method = m) (hs : g.stack = .long x :: .int j :: .ref a :: rest) (hd : decode c.code g.pc = .ok (.lastore, 1)) :
    ∃ T' h', Stand p l e R s m args below meth c T' (locs ++ [⟨a, j.toNatClampNeg⟩]) cells slots ∧ T'.heap = h' ∧ Wr h h' a j.toNatClampNeg (.long x) ∧ Arv Z h' a k .long z (vs.set i (.long x)) d ∧ ∀ target, Steps p.tables e below (T'.setTop { g with pc := g.pc + 1, stack := rest }) target → Steps p.tables e below (T.setTop g) target := by
  obtain ⟨cl, A, q, S, M, H, G⟩ := F
  obtain ⟨T', h', X', e', W, st⟩ := stJ X hx hZ eT A (inb_of S hj) hg hs hd
  exact ⟨T', h', X', e', W, Arv.set A q S M H G rfl W i hi hl, st⟩
theorem own_dst (X : Stand p l e R s m args below meth c T locs cells slots) (hx : p.tables.exec = Jvm.exec) (hZ : Z.Warmed39 s.vm) (eT : T.heap = h) (F : Arv Z h a k .double z vs d) (hj : ¬ j < 0 ∧ j < z) {i : Nat} (hi : j.toNatClampNeg = i) (hl : i < vs.length) {x : UInt64} (hg : g.method = m) (hs : g.stack = .double x :: .int j :: .ref a :: rest) (hd : decode c.code g.pc = .ok (.dastore, 1)) :
    ∃ T' h', Stand p l e R s m args below meth c T' (locs ++ [⟨a, j.toNatClampNeg⟩]) cells slots ∧ T'.heap = h' ∧ Wr h h' a j.toNatClampNeg (.double x) ∧ Arv Z h' a k .double z (vs.set i (.double x)) d ∧ ∀ target, Steps p.tables e below (T'.setTop { g with pc := g.pc + 1, stack := rest }) target → Steps p.tables e below (T.setTop g) target := by
  obtain ⟨cl, A, q, S, M, H, G⟩ := F
  obtain ⟨T', h', X', e', W, st⟩ := stD X hx hZ eT A (inb_of S hj) hg hs hd
  exact ⟨T', h', X', e', W, Arv.set A q S M H G rfl W i hi hl, st⟩
theorem own_cst (X : Stand p l e R s m args below meth c T locs cells slots) (hx : p.tables.exec = Jvm.exec) (hZ : Z.Warmed39 s.vm) (eT : T.heap = h) (F : Arv Z h a k .char z vs d) (hj : ¬ j < 0 ∧ j < z) {i : Nat} (hi : j.toNatClampNeg = i) (hl : i < vs.length) {x y : Int32} (hn : nar .char x = y) (hg : g.method = m) (hs : g.stack = .int x :: .int j :: .ref a :: rest) (hd : decode c.code g.pc = .ok (.castore, 1)) :
    ∃ T' h', Stand p l e R s m args below meth c T' (locs ++ [⟨a, j.toNatClampNeg⟩]) cells slots ∧ T'.heap = h' ∧ Wr h h' a j.toNatClampNeg (.int y) ∧ Arv Z h' a k .char z (vs.set i (.int y)) d ∧ ∀ target, Steps p.tables e below (T'.setTop { g with pc := g.pc + 1, stack := rest }) target → Steps p.tables e below (T.setTop g) target := by
  obtain ⟨cl, A, q, S, M, H, G⟩ := F
  obtain ⟨T', h', X', e', W, st⟩ := stC X hx hZ eT A (inb_of S hj) hg hs hd
  rw [hn] at W
  exact ⟨T', h', X', e', W, Arv.set A q S M H G (by rw [← hn]; exact fits_nar_char x) W i hi hl, st⟩
theorem own_bst (X : Stand p l e R s m args below meth c T locs cells slots) (hx : p.tables.exec = Jvm.exec) (hZ : Z.Warmed39 s.vm) (eT : T.heap = h) (F : Arv Z h a k .byte z vs d) (hj : ¬ j < 0 ∧ j < z) {i : Nat} (hi : j.toNatClampNeg = i) (hl : i < vs.length) {x y : Int32} (hn : nar .byte x = y) (hg : g.method = m) (hs : g.stack = .int x :: .int j :: .ref a :: rest) (hd : decode c.code g.pc = .ok (.bastore, 1)) :
    ∃ T' h', Stand p l e R s m args below meth c T' (locs ++ [⟨a, j.toNatClampNeg⟩]) cells slots ∧ T'.heap = h' ∧ Wr h h' a j.toNatClampNeg (.int y) ∧ Arv Z h' a k .byte z (vs.set i (.int y)) d ∧ ∀ target, Steps p.tables e below (T'.setTop { g with pc := g.pc + 1, stack := rest }) target → Steps p.tables e below (T.setTop g) target := by
  obtain ⟨cl, A, q, S, M, H, G⟩ := F
  obtain ⟨T', h', X', e', W, st⟩ := stB X hx hZ eT A (inb_of S hj) hg hs hd
  rw [hn] at W
  exact ⟨T', h', X', e', W, Arv.set A q S M H G (by rw [← hn]; exact fits_nar_byte x) W i hi hl, st⟩
theorem own_ast (X : Stand p l e R s m args below meth c T locs cells slots) (hx : p.tables.exec = Jvm.exec) (hZ : Z.Warmed39 s.vm) (eT : T.heap = h) (F : Arv Z h a k ty z vs d) (hty : ty.isReference = true) (hj : ¬ j < 0 ∧ j < z) {i : Nat} (hi : j.toNatClampNeg = i) (hl : i < vs.length) (hv : fits ty v = true) (Q : Sto Z h a v) (hg : g.method = m) (hs : g.stack = v :: .int j :: .ref a :: rest) (hd : decode c.code g.pc = .ok (.aastore, 1)) :
    ∃ T' h', Stand p l e R s m args below meth c T' (locs ++ [⟨a, j.toNatClampNeg⟩]) cells slots ∧ T'.heap = h' ∧ Wr h h' a j.toNatClampNeg v ∧ Arv Z h' a k ty z (vs.set i v) d ∧ ∀ target, Steps p.tables e below (T'.setTop { g with pc := g.pc + 1, stack := rest }) target → Steps p.tables e below (T.setTop g) target := by
  obtain ⟨cl, A, q, S, M, H, G⟩ := F
  obtain ⟨T', h', X', e', W, st⟩ := stR X hx hZ eT A (inb_of S hj) hty Q hg hs hd
  exact ⟨T', h', X', e', W, Arv.set A q S M H G hv W i hi hl, st⟩
theorem own_retJ (X : Stand p l e R s m args below meth c T locs cells slots) (hx : p.tables.exec = Jvm.exec) {pc : Nat} {Ls : Array Slot} {w : Int64} (hret : meth.sig.returnType = some .long) (hd : decode c.code pc = .ok (.lreturn, 1)) {fs : List Frame}
    (hl : ∀ (f : JFrame) (acts : List Action), f.method = m → f.locked = none → f.entered = [] → (doReturn e (T.setTop f) acts (some (.long w))).1 = T.setFrames fs) : Steps p.tables e below (T.setTop (mkF m pc Ls (.long w :: rest))) (T.setFrames fs) :=
  retOut X hx hret rfl (Or.inr (Or.inl ⟨rfl, rfl, w, rfl⟩)) hd hl
theorem own_retD (X : Stand p l e R s m args below meth c T locs cells slots) (hx : p.tables.exec = Jvm.exec) {pc : Nat} {Ls : Array Slot} {w : UInt64} (hret : meth.sig.returnType = some .double) (hd : decode c.code pc = .ok (.dreturn, 1)) {fs : List Frame}
    (hl : ∀ (f : JFrame) (acts : List Action), f.method = m → f.locked = none → f.entered = [] → (doReturn e (T.setTop f) acts (some (.double w))).1 = T.setFrames fs) : Steps p.tables e below (T.setTop (mkF m pc Ls (.double w :: rest))) (T.setFrames fs) :=
  retOut X hx hret rfl (Or.inr (Or.inr (Or.inl ⟨rfl, rfl, w, rfl⟩))) hd hl
theorem own_retI (X : Stand p l e R s m args below meth c T locs cells slots) (hx : p.tables.exec = Jvm.exec) {pc : Nat} {Ls : Array Slot} {w : Int32} (hret : meth.sig.returnType = some .int) (hd : decode c.code pc = .ok (.ireturn, 1)) {fs : List Frame}
    (hl : ∀ (f : JFrame) (acts : List Action), f.method = m → f.locked = none → f.entered = [] → (doReturn e (T.setTop f) acts (some (.int w))).1 = T.setFrames fs) : Steps p.tables e below (T.setTop (mkF m pc Ls (.int w :: rest))) (T.setFrames fs) :=
  retOut X hx hret rfl (Or.inl ⟨rfl, Or.inl rfl, w, rfl⟩) hd hl
theorem own_retA (X : Stand p l e R s m args below meth c T locs cells slots) (hx : p.tables.exec = Jvm.exec) {pc : Nat} {Ls : Array Slot} {w : Value} {t : FieldType} (hret : meth.sig.returnType = some t) (ht : t.isReference = true) (hn : narrow t w = w) (hw : w.isRef = true) (hd : decode c.code pc = .ok (.areturn, 1)) {fs : List Frame}
    (hl : ∀ (f : JFrame) (acts : List Action), f.method = m → f.locked = none → f.entered = [] → (doReturn e (T.setTop f) acts (some w)).1 = T.setFrames fs) : Steps p.tables e below (T.setTop (mkF m pc Ls (w :: rest))) (T.setFrames fs) :=
  retOut X hx hret hn (Or.inr (Or.inr (Or.inr (Or.inr ⟨rfl, ht, hw⟩)))) hd hl
end Own
theorem own_wS {Z : State} {a0 : Array Value} (hw : ∀ d ∈ tables_1, d.before a0 Z = true) : ∀ d ∈ Bundle.stringAtoms, d.before a0 Z = true := by
  intro d hd
  simp only [Bundle.stringAtoms, Bundle.sN, List.mem_cons, List.not_mem_nil, or_false] at hd
  rcases hd with rfl | rfl | rfl | rfl | rfl | rfl | rfl
  · exact own_k hw 6 rfl
  · exact own_k hw 5 rfl
  · exact own_k hw 19 rfl
  · exact own_k hw 20 rfl
  · exact own_k hw 21 rfl
  · exact own_k hw 22 rfl
  · exact own_k hw 23 rfl
def own_EL : List (String × Nat) := [("java/lang/String", 7)]
theorem own_EW {Z : State} {a0 : Array Value} (hw : ∀ d ∈ tables_1, d.before a0 Z = true) : EW Z a0 own_EL := (EW.cons (own_k hw 18 rfl) (by decide +kernel) EW.nil)
theorem own_safeStr {Z : State} {EL : List (String × Nat)} {vm : Vm} {h : Heap} {x : Addr} (hal : Z.vm.Alike vm) (E : Exa Z h x "java/lang/String") (V : Fld Z h x "java/lang/String" "value" "[B" .null) : Safe Z EL vm h x := fun B => by
  obtain ⟨p, hp, u, a, hb, q, qa, S, hy⟩ := B
  obtain ⟨cS, ⟨⟨s1, s2, s3, ⟨cv, kv, iv, s4, s4'⟩, ⟨cc, kc, ic, s5, s5'⟩, s6, s7, s8, s9, s10, s11, s12, s13, s14, s15, s16⟩, hfS, hcS⟩, -, hB, -⟩ := S
  rcases hy with rfl | rfl
  · obtain ⟨cell, cf, k, i, f, h1, h2, -, -, -, -, h7⟩ := V
    obtain ⟨kv', z4⟩ := ff_back hal s4
    have s1' : h[q.sa]? = some q.sC := s1
    cases h1.symm.trans s1'
    cases h2.symm.trans z4
    cases h7.symm.trans s8
  · obtain ⟨cell, k, h1, h2, h3, -, -⟩ := E
    have s10' : h[q.sd]? = some q.SA := s10
    cases h1.symm.trans s10'
    have hB' : Z.vm.findClass "[B" = some q.SA.cls := by rw [← hal.findClass]; exact hB
    obtain ⟨k1, a1, a2⟩ := Vm.findClass_spec h2
    obtain ⟨k2, b1, b2⟩ := Vm.findClass_spec hB'
    cases a1.symm.trans b1
    exact absurd (a2.symm.trans b2) (by decide)
theorem own_and255 (x : Int32) : ∃ n : Nat, n ≤ 255 ∧ x &&& 255 = Int32.ofNat n := by
  refine ⟨(x &&& 255).toBitVec.toNat, ?_, ?_⟩
  · simp only [Int32.toBitVec_and, BitVec.toNat_and]
    exact Nat.and_le_right
  · apply Int32.toBitVec_inj.mp
    show _ = BitVec.ofNat 32 _
    rw [BitVec.ofNat_toNat]; simp
theorem own_ch (x : Int32) : ¬ (x &&& (255 : Int32)).toUInt32.toUInt16.toUInt32.toInt32 < 0 ∧ ¬ (255 : Int32) < (x &&& (255 : Int32)).toUInt32.toUInt16.toUInt32.toInt32 := by
  rw [i2c_mask]
  obtain ⟨n, h, e⟩ := own_and255 x
  rw [e]
  simp only [Int32.lt_iff_toInt_lt, Int32.toInt_ofNat_of_lt (show n < 2 ^ 31 by omega)]
  have : (255 : Int32).toInt = 255 := rfl; have : (0 : Int32).toInt = 0 := rfl
  omega
theorem own_and3 (x : Int32) : x &&& 3 = 0 ∨ x &&& 3 = 1 ∨ x &&& 3 = 2 ∨ x &&& 3 = 3 := by
  have h : (x &&& 3).toBitVec.toNat ≤ 3 := by
    simp only [Int32.toBitVec_and, BitVec.toNat_and]
    exact Nat.and_le_right
  have e : x &&& 3 = Int32.ofNat (x &&& 3).toBitVec.toNat := by
    apply Int32.toBitVec_inj.mp
    show _ = BitVec.ofNat 32 _
    rw [BitVec.ofNat_toNat]; simp
  rw [e]
  generalize (x &&& 3).toBitVec.toNat = n at h
  match n, h with
  | 0, _ => exact Or.inl rfl
  | 1, _ => exact Or.inr (Or.inl rfl)
  | 2, _ => exact Or.inr (Or.inr (Or.inl rfl))
  | 3, _ => exact Or.inr (Or.inr (Or.inr rfl))
theorem own_three {x : Int32} (h0 : ¬ x &&& 3 = 0) (h1 : ¬ x &&& 3 = 1) (h2 : ¬ x &&& 3 = 2) : x &&& 3 = 3 := by
  rcases own_and3 x with h | h | h | h
  · exact absurd h h0
  · exact absurd h h1
  · exact absurd h h2
  · exact h
theorem own_hws {Z : State} {a0 : Array Value} (hw : ∀ d ∈ tables_1, d.before a0 Z = true) : ∀ d ∈ StrChars.Road.words, d.before a0 Z = true := fun d hd => hw d ((by decide +kernel : ∀ d ∈ StrChars.Road.words, d ∈ tables_1) d hd)
theorem d3_0 : decode jdk_42_method_149_code 0 = .ok (.aload_n 0, 1) := by decide +kernel
theorem d3_1 : decode jdk_42_method_149_code 1 = .ok (.invokespecial 1, 3) := by decide +kernel
theorem d3_4 : decode jdk_42_method_149_code 4 = .ok (.iload_n 3, 1) := by decide +kernel
theorem d3_5 : decode jdk_42_method_149_code 5 = .ok (.ifCond .ne 22, 3) := by decide +kernel
theorem d3_8 : decode jdk_42_method_149_code 8 = .ok (.aload_n 0, 1) := by decide +kernel
theorem d3_9 : decode jdk_42_method_149_code 9 = .ok (.ldc 7, 2) := by decide +kernel
theorem d3_11 : decode jdk_42_method_149_code 11 = .ok (.getfield 9, 3) := by decide +kernel
theorem d3_14 : decode jdk_42_method_149_code 14 = .ok (.putfield 9, 3) := by decide +kernel
theorem d3_17 : decode jdk_42_method_149_code 17 = .ok (.aload_n 0, 1) := by decide +kernel
theorem d3_18 : decode jdk_42_method_149_code 18 = .ok (.ldc 7, 2) := by decide +kernel
theorem d3_20 : decode jdk_42_method_149_code 20 = .ok (.getfield 15, 3) := by decide +kernel
theorem d3_23 : decode jdk_42_method_149_code 23 = .ok (.putfield 15, 3) := by decide +kernel
theorem d3_26 : decode jdk_42_method_149_code 26 = .ok (.return_, 1) := by decide +kernel
set_option maxHeartbeats 4000000 in
theorem own_ef1 (m : MethodId) (x0 : Addr) (x1 : Addr) (x2 : Int32) (x3 : Int32) : entryFrame m #[(.ref x0), (.ref x1), (.int x2), (.int x3), .null] 6 = mkF m 0 #[.val (.ref x0), .val (.ref x1), .val (.int x2), .val (.int x3), .val .null, .unset] [] := by first | (simp [entryFrame, mkF, argsToLocals, Value.category]; done) | rfl
def own_e4Q (Z : State) (x0 : Addr) (b0 : Addr) (h0 : Heap) (n0 : Nat) (v : Option Value) (h : Heap) (L : List Loc) : Prop := ∃ (t : Addr), ∃ (kb : ClassId), v = none ∧ Fr n0 L ∧ Keep h0 h [x0] ∧ (Exa Z h x0 "java/lang/String") ∧ (Fld Z h x0 "java/lang/String" "coder" "B" (.int (0 : Int32))) ∧ (Fld Z h x0 "java/lang/String" "value" "[B" (.ref t)) ∧ (Arv Z h t kb .byte (0 : Int32) [] (.int (0 : Int32)))
theorem own_pn1 : plainName "java/lang/String" = true := by first | (simp [plainName, overriddenIn]; done) | decide +kernel
abbrev own_e4R : Room := { frames := 1, cells := 4, slots := 8, locals := 20 }
set_option maxRecDepth 65536 in
set_option maxHeartbeats 40000000 in
theorem own_e4 (l : Launch) (Z : State) (a0 : Array Value) (hw : ∀ d ∈ tables_1, d.before a0 Z = true) (ws : List Jvm.Cond) (x0 : Addr) (b0 : Addr) (h0 : Heap) (n0 : Nat) (Z0 : n0 ≤ h0.size) (pr1 : Exa Z h0 x0 "java/lang/String") (pr2 : n0 ≤ x0) (pr3 : Fld Z h0 x0 "java/lang/String" "value" "[B" .null) (pr4 : Fld Z h0 x0 "java/lang/String" "coder" "B" (.int (0 : Int32))) :
    own_MH own_EL l (⟨"java/lang/String", "<init>", "([CIILjava/lang/Void;)V"⟩ : MethodName) jdk_42_method_149_code 6 none ws own_e4R #[(.ref x0), (.ref b0), (.int (0 : Int32)), (.int (0 : Int32)), .null] Z h0 (own_e4Q Z x0 b0 h0 n0) := by
  refine own_goH (plainFor_of_name own_pn1) (fun m => own_ef1 m x0 b0 (0 : Int32) (0 : Int32) ) ?_
  intro p e s m below meth c s₁ Bd hx hby hml hZ hh hown hnm X0 e0 hS CR0
  have N0 := Fr.nil n0
  have K0 : Keep h0 h0 [x0] := Keep.refl h0 _
  have hk : h0.size ≤ h0.size := Nat.le_refl _
  refine own_st (T' := s₁) (g' := (mkF m 1 #[.val (.ref x0), .val (.ref b0), .val (.int (0 : Int32)), .val (.int (0 : Int32)), .val .null, .unset] [(.ref x0)])) (fun _ kt => XS.aloadN X0.here hx rfl (hb hby d3_0) rfl rfl kt) ?_
  obtain ⟨T1, X1, e1, st1⟩ := initO X0 hx hZ hown (own_k hw 15 rfl) (own_k hw 16 rfl) (own_k hw 17 rfl) e0 (g := (mkF m 1 #[.val (.ref x0), .val (.ref b0), .val (.int (0 : Int32)), .val (.int (0 : Int32)), .val .null, .unset] [(.ref x0)])) rfl hml.symm rfl (hb hby d3_1) (by decide) (W := 0) (by show 2 * 0 + _ ≤ _; exact Nat.le_of_eq rfl) (by decide)
  refine own_st (T' := T1) (g' := (mkF m 4 #[.val (.ref x0), .val (.ref b0), .val (.int (0 : Int32)), .val (.int (0 : Int32)), .val .null, .unset] [])) st1 ?_
  refine own_st (T' := T1) (g' := (mkF m 9 #[.val (.ref x0), .val (.ref b0), .val (.int (0 : Int32)), .val (.int (0 : Int32)), .val .null, .unset] [(.ref x0)])) (fun _ kt => XS.iloadN X1.here hx rfl (hb hby d3_4) rfl (XS.ifNo X1.here hx rfl (hb hby d3_5) rfl (XT.i0_ne_f (by decide)) (XS.aloadN X1.here hx rfl (hb hby d3_8) rfl rfl kt))) ?_
  obtain ⟨b2, T2, h2, k2, d2, kd2, X2, e2, E2, hS2, hk2, hZ2, hown2, gE2, gC2, gV2, gA2, la2, lb2, hC2, -, hsf2, st2⟩ := ldcCH X1 hx hZ hown (own_k hw 18 rfl) (own_wS hw) e1 hS hk (own_EW hw) (show ("java/lang/String", 7) ∈ own_EL by simp [own_EL]) CR0.1 (vs := []) (z := (0 : Int32)) ⟨by decide +kernel, by first | rfl | decide +kernel⟩ (by decide) rfl (g := (mkF m 9 #[.val (.ref x0), .val (.ref b0), .val (.int (0 : Int32)), .val (.int (0 : Int32)), .val .null, .unset] [(.ref x0)])) rfl (hb hby d3_9) (n := 0) (by decide +kernel) (by decide) (by decide) (by decide)
  have CR3 : CHr Z own_EL s.vm h0 T2.vm h2 := CHr.trans CR0 hC2
  have Z4 : n0 ≤ h2.size := Nat.le_trans Z0 E2.1
  have hk4 := Nat.le_trans hk E2.1
  have K4 : Keep h0 h2 [x0] := (Keep.ext K0 E2)
  have F5 : Exa Z h2 x0 "java/lang/String" := (Exa.ext E2 pr1)
  have F6 : Fld Z h2 x0 "java/lang/String" "value" "[B" .null := (Fld.ext E2 pr3)
  have S7 : Safe Z own_EL T2.vm h2 x0 := (own_safeStr (State.Warmed39.alike hZ2) F5 F6)
  have ne8 := hsf2 x0 S7
  refine own_st (T' := T2) (g' := (mkF m 11 #[.val (.ref x0), .val (.ref b0), .val (.int (0 : Int32)), .val (.int (0 : Int32)), .val .null, .unset] [(.ref b2), (.ref x0)])) st2 ?_
  obtain ⟨T9, X9, e9, st9⟩ := getF X2 hx hZ2 hown2 (host := "") (Or.inl (own_k hw 24 rfl)) Via.refl e2 gV2 (g := (mkF m 11 #[.val (.ref x0), .val (.ref b0), .val (.int (0 : Int32)), .val (.int (0 : Int32)), .val .null, .unset] [(.ref b2), (.ref x0)])) rfl rfl (hb hby d3_11)
  refine own_st (T' := T9) (g' := (mkF m 14 #[.val (.ref x0), .val (.ref b0), .val (.int (0 : Int32)), .val (.int (0 : Int32)), .val .null, .unset] [(.ref d2), (.ref x0)])) st9 ?_
  obtain ⟨T10, h10, X10, e10, W10, st10⟩ := putF X9 hx hZ2 hown2 (host := "") (Or.inl (own_k hw 24 rfl)) Via.refl e9 F6 F5 (Or.inr ⟨(own_k hw 20 rfl), rfl, hnm⟩) (own_k hw 5 rfl) (ty := (.array .byte)) (by decide) rfl rfl (g := (mkF m 14 #[.val (.ref x0), .val (.ref b0), .val (.int (0 : Int32)), .val (.int (0 : Int32)), .val .null, .unset] [(.ref d2), (.ref x0)])) rfl rfl (hb hby d3_14)
  have N10 := Fr.snoc X10 N0 pr2
  have CR11 : CHr Z own_EL s.vm h0 T2.vm h10 := CHr.trans CR3 (CHr.wr W10 S7 CR3.1)
  have Z12 : n0 ≤ h10.size := Nat.le_trans Z4 (Nat.le_of_eq (Wr.size W10).symm)
  have hk12 := Nat.le_trans hk2 (Nat.le_of_eq (Wr.size W10).symm)
  have K12 : Keep h0 h10 [x0] := (Keep.wr K4 W10 (Or.inl (List.mem_of_getElem? (i := 0) rfl)))
  have F13 : Fld Z h10 x0 "java/lang/String" "value" "[B" (.ref d2) := Fld.same W10 F6
  refine own_st (T' := T10) (g' := (mkF m 17 #[.val (.ref x0), .val (.ref b0), .val (.int (0 : Int32)), .val (.int (0 : Int32)), .val .null, .unset] [])) st10 ?_
  refine own_st (T' := T10) (g' := (mkF m 18 #[.val (.ref x0), .val (.ref b0), .val (.int (0 : Int32)), .val (.int (0 : Int32)), .val .null, .unset] [(.ref x0)])) (fun _ kt => XS.aloadN X10.here hx rfl (hb hby d3_17) rfl rfl kt) ?_
  obtain ⟨b14, T14, h14, k14, d14, kd14, X14, e14, E14, hS14, hk14, hZ14, hown14, gE14, gC14, gV14, gA14, la14, lb14, hC14, -, hsf14, st14⟩ := ldcCH X10 hx hZ2 hown2 (own_k hw 18 rfl) (own_wS hw) e10 hS2 hk12 (own_EW hw) (show ("java/lang/String", 7) ∈ own_EL by simp [own_EL]) CR11.1 (vs := []) (z := (0 : Int32)) ⟨by decide +kernel, by first | rfl | decide +kernel⟩ (by decide) rfl (g := (mkF m 18 #[.val (.ref x0), .val (.ref b0), .val (.int (0 : Int32)), .val (.int (0 : Int32)), .val .null, .unset] [(.ref x0)])) rfl (hb hby d3_18) (n := 0) (by decide +kernel) (by decide) (by decide) (by decide)
  have CR15 : CHr Z own_EL s.vm h0 T14.vm h14 := CHr.trans CR11 hC14
  have Z16 : n0 ≤ h14.size := Nat.le_trans Z12 E14.1
  have hk16 := Nat.le_trans hk12 E14.1
  have K16 : Keep h0 h14 [x0] := (Keep.ext K12 E14)
  have F17 : Exa Z h10 x0 "java/lang/String" := (Exa.wr W10 F5)
  have F18 : Safe Z own_EL T14.vm h14 x0 := (CHr.safe hC14 F17.lt (Safe.wr W10 S7 CR3.1 S7))
  have ne19 := hsf14 x0 F18
  have F20 : Exa Z h14 b2 "java/lang/String" := (Exa.ext E14 (Exa.wr W10 gE2))
  have F21 : Fld Z h14 b2 "java/lang/String" "value" "[B" (.ref d2) := (Fld.ext E14 (Fld.other W10 gV2 (Or.inl (Ne.symm ne8.1))))
  have F22 : Arv Z h14 d2 kd2 .byte (0 : Int32) [] (.int (0 : Int32)) := ((Arv.other gA2 W10 (Ne.symm ne8.2)).ext E14)
  refine own_st (T' := T14) (g' := (mkF m 20 #[.val (.ref x0), .val (.ref b0), .val (.int (0 : Int32)), .val (.int (0 : Int32)), .val .null, .unset] [(.ref b14), (.ref x0)])) st14 ?_
  obtain ⟨T23, X23, e23, st23⟩ := getF X14 hx hZ14 hown14 (host := "") (Or.inl (own_k hw 25 rfl)) Via.refl e14 gC14 (g := (mkF m 20 #[.val (.ref x0), .val (.ref b0), .val (.int (0 : Int32)), .val (.int (0 : Int32)), .val .null, .unset] [(.ref b14), (.ref x0)])) rfl rfl (hb hby d3_20)
  refine own_st (T' := T23) (g' := (mkF m 23 #[.val (.ref x0), .val (.ref b0), .val (.int (0 : Int32)), .val (.int (0 : Int32)), .val .null, .unset] [(.int (0 : Int32)), (.ref x0)])) st23 ?_
  have F24 : Fld Z h14 x0 "java/lang/String" "coder" "B" (.int (0 : Int32)) := (Fld.ext E14 (Fld.other W10 (Fld.ext E2 pr4) (Or.inr (slot_ne (Or.inr (own_k hw 21 rfl)) (Or.inr (own_k hw 20 rfl)) (by decide) (t := .byte) (t' := (.array .byte)) (by decide) (by decide)))))
  have F25 : Exa Z h14 x0 "java/lang/String" := (Exa.ext E14 (Exa.wr W10 F5))
  obtain ⟨T26, h26, X26, e26, W26, st26⟩ := putF X23 hx hZ14 hown14 (host := "") (Or.inl (own_k hw 25 rfl)) Via.refl e23 F24 F25 (Or.inr ⟨(own_k hw 21 rfl), rfl, hnm⟩) (own_k hw 5 rfl) (ty := .byte) (by decide) rfl rfl (g := (mkF m 23 #[.val (.ref x0), .val (.ref b0), .val (.int (0 : Int32)), .val (.int (0 : Int32)), .val .null, .unset] [(.int (0 : Int32)), (.ref x0)])) rfl rfl (hb hby d3_23)
  have N26 := Fr.snoc X26 N10 pr2
  have CR27 : CHr Z own_EL s.vm h0 T14.vm h26 := CHr.trans CR15 (CHr.wr W26 F18 CR15.1)
  have Z28 : n0 ≤ h26.size := Nat.le_trans Z16 (Nat.le_of_eq (Wr.size W26).symm)
  have hk28 := Nat.le_trans hk14 (Nat.le_of_eq (Wr.size W26).symm)
  have K28 : Keep h0 h26 [x0] := (Keep.wr K16 W26 (Or.inl (List.mem_of_getElem? (i := 0) rfl)))
  have F29 : Fld Z h26 x0 "java/lang/String" "coder" "B" (.int (0 : Int32)) := Fld.same W26 F24
  refine own_st (T' := T26) (g' := (mkF m 26 #[.val (.ref x0), .val (.ref b0), .val (.int (0 : Int32)), .val (.int (0 : Int32)), .val .null, .unset] [])) st26 ?_
  obtain ⟨fs, hr, hrun, hended, hE⟩ := Stand.leaveW X26 hS14 (by rw [e26]; exact hk28) (v := none) (fun _ => rfl)
  refine own_end (X26.returnOut hx Bd.returns (hb hby d3_26) hr) ⟨_, hrun, hended, _, _, rfl, ?_, (by rw [hh]; show CHr Z own_EL s.vm h0 T26.vm T26.heap; rw [e26]; exact CHr.trans CR27 (CHv.at X26 hZ14 (own_EW hw) CR27.1)), ⟨hE.1, hE.2.1, hE.2.2.1, hE.2.2.2.mono (by decide) (by decide)⟩⟩
  have F30 : Fld Z h26 x0 "java/lang/String" "value" "[B" (.ref d2) := (Fld.other W26 (Fld.ext E14 F13) (Or.inr (slot_ne (Or.inr (own_k hw 20 rfl)) (Or.inr (own_k hw 21 rfl)) (by decide) (t := (.array .byte)) (t' := .byte) (by decide) (by decide))))
  have F31 : Arv Z h26 d2 kd2 .byte (0 : Int32) [] (.int (0 : Int32)) := (Arv.other F22 W26 (Ne.symm ne8.2))
  have F32 : Exa Z h26 x0 "java/lang/String" := (Exa.wr W26 F25)
  show own_e4Q Z x0 b0 h0 n0 _ T26.heap _
  rw [e26]
  exact ⟨d2, kd2, rfl, N26, K28, F32, F29, F30, F31⟩
theorem d2_0 : decode jdk_42_method_3_code 0 = .ok (.aload_n 0, 1) := by decide +kernel
theorem d2_1 : decode jdk_42_method_3_code 1 = .ok (.aload_n 1, 1) := by decide +kernel
theorem d2_2 : decode jdk_42_method_3_code 2 = .ok (.iconst 0, 1) := by decide +kernel
theorem d2_3 : decode jdk_42_method_3_code 3 = .ok (.aload_n 1, 1) := by decide +kernel
theorem d2_4 : decode jdk_42_method_3_code 4 = .ok (.arraylength, 1) := by decide +kernel
theorem d2_5 : decode jdk_42_method_3_code 5 = .ok (.aconst_null, 1) := by decide +kernel
theorem d2_6 : decode jdk_42_method_3_code 6 = .ok (.invokespecial 27, 3) := by decide +kernel
theorem own_pd1 : parseMethodDescriptor "([CIILjava/lang/Void;)V" = some ⟨[(.array .char), .int, .int, (.object "java/lang/Void")], none⟩ := by decide +kernel
theorem d2_9 : decode jdk_42_method_3_code 9 = .ok (.return_, 1) := by decide +kernel
set_option maxHeartbeats 4000000 in
theorem own_ef2 (m : MethodId) (x0 : Addr) (x1 : Addr) : entryFrame m #[(.ref x0), (.ref x1)] 2 = mkF m 0 #[.val (.ref x0), .val (.ref x1)] [] := by first | (simp [entryFrame, mkF, argsToLocals, Value.category]; done) | rfl
def own_e1Q (Z : State) (x0 : Addr) (b0 : Addr) (kc : ClassId) (vl : List Value) (dd : Value) (h0 : Heap) (n0 : Nat) (v : Option Value) (h : Heap) (L : List Loc) : Prop := ∃ (t : Addr), ∃ (kb : ClassId), v = none ∧ Fr n0 L ∧ Keep h0 h [x0] ∧ (Exa Z h x0 "java/lang/String") ∧ (Fld Z h x0 "java/lang/String" "coder" "B" (.int (0 : Int32))) ∧ (Fld Z h x0 "java/lang/String" "value" "[B" (.ref t)) ∧ (Arv Z h t kb .byte (0 : Int32) [] (.int (0 : Int32)))
abbrev own_e1R : Room := { frames := 2, cells := 4, slots := 8, locals := 60 }
set_option maxRecDepth 65536 in
set_option maxHeartbeats 40000000 in
theorem own_e1 (l : Launch) (Z : State) (a0 : Array Value) (hw : ∀ d ∈ tables_1, d.before a0 Z = true) (ws : List Jvm.Cond) (x0 : Addr) (b0 : Addr) (kc : ClassId) (vl : List Value) (dd : Value) (h0 : Heap) (n0 : Nat) (Z0 : n0 ≤ h0.size) (pr1 : Exa Z h0 x0 "java/lang/String") (pr2 : n0 ≤ x0) (pr3 : Fld Z h0 x0 "java/lang/String" "value" "[B" .null) (pr4 : Fld Z h0 x0 "java/lang/String" "coder" "B" (.int (0 : Int32))) (pr5 : Arv Z h0 b0 kc .char (0 : Int32) vl dd) :
    own_MH own_EL l (⟨"java/lang/String", "<init>", "([C)V"⟩ : MethodName) jdk_42_method_3_code 2 none ws own_e1R #[(.ref x0), (.ref b0)] Z h0 (own_e1Q Z x0 b0 kc vl dd h0 n0) := by
  refine own_goH (plainFor_of_name own_pn1) (fun m => own_ef2 m x0 b0 ) ?_
  intro p e s m below meth c s₁ Bd hx hby hml hZ hh hown hnm X0 e0 hS CR0
  have N0 := Fr.nil n0
  have K0 : Keep h0 h0 [x0] := Keep.refl h0 _
  have hk : h0.size ≤ h0.size := Nat.le_refl _
  refine own_st (T' := s₁) (g' := (mkF m 4 #[.val (.ref x0), .val (.ref b0)] [(.ref b0), (.int (0 : Int32)), (.ref b0), (.ref x0)])) (fun _ kt => XS.aloadN X0.here hx rfl (hb hby d2_0) rfl rfl (XS.aloadN X0.here hx rfl (hb hby d2_1) rfl rfl (XS.iconst X0.here hx rfl (hb hby d2_2) (XS.aloadN X0.here hx rfl (hb hby d2_3) rfl rfl kt)))) ?_
  refine own_st (T' := s₁) (g' := (mkF m 5 #[.val (.ref x0), .val (.ref b0)] [(.int (0 : Int32)), (.int (0 : Int32)), (.ref b0), (.ref x0)])) (own_alen X0 hx hZ e0 pr5 (g := (mkF m 4 #[.val (.ref x0), .val (.ref b0)] [(.ref b0), (.int (0 : Int32)), (.ref b0), (.ref x0)])) rfl rfl (hb hby d2_4)) ?_
  refine own_st (T' := s₁) (g' := (mkF m 6 #[.val (.ref x0), .val (.ref b0)] [.null, (.int (0 : Int32)), (.int (0 : Int32)), (.ref b0), (.ref x0)])) (fun _ kt => XS.aconstNull X0.here hx rfl (hb hby d2_5) kt) ?_
  obtain ⟨_, _, ⟨T33, L33, k33, n33⟩, -, X33, hS33, hG33, ⟨Lc33, hQ33, l33, y33, z33, hC33⟩, st33⟩ := X0.specialBackS hx (y := (⟨"java/lang/String", "<init>", "([CIILjava/lang/Void;)V"⟩ : MethodName)) rfl hown (mvT hZ (own_k hw 11 rfl)) (mvT hZ (own_k hw 12 rfl)) (mvT hZ (own_k hw 14 rfl)) (by decide) (backOfSH (W := 0) (own_e4 l Z a0 hw [] x0 b0 h0 n0 Z0 pr1 pr2 pr3 pr4) hZ (own_k hw 14 rfl) (own_k hw 6 rfl) (by decide) (by decide) (own_EW hw) CR0.1) (g := (mkF m 6 #[.val (.ref x0), .val (.ref b0)] [.null, (.int (0 : Int32)), (.int (0 : Int32)), (.ref b0), (.ref x0)])) rfl hml.symm (Steps.refl _) (a := x0) (argsL := [(.ref b0), (.int (0 : Int32)), (.int (0 : Int32)), .null]) (rest := []) (lenOf own_pd1 rfl) rfl (by show 2 * 0 + _ ≤ _; exact Nat.le_of_eq rfl) (hb hby d2_6) (fun _ _ => ⟨rfl, e0, (by decide : 0 + 4 ≤ 4), (by decide : 0 + 8 ≤ 8)⟩)
  dsimp only [Pt.U, Pt.locs, Pt.cells, Pt.slots] at X33 l33 y33 z33 st33 hQ33 hS33 hG33 hC33
  subst l33 y33 z33
  obtain ⟨t_33, kb_33, rfl, N33, K33_, P34, P35, P36, P37⟩ := hQ33
  have N38 := Fr.app N0 N33
  obtain ⟨X39, hS39, hZ39, hown39⟩ := rebS hS (by rw [e0]; exact hk) X33 hS33 hG33 hZ hown
  have CR40 : CHr Z own_EL s.vm h0 T33.vm T33.heap := CHr.trans CR0 hC33
  have Z41 : n0 ≤ T33.heap.size := Nat.le_trans Z0 K33_.1
  have hk41 := Nat.le_trans hk K33_.1
  have K41 : Keep h0 T33.heap [x0] := (Keep.trans K0 K33_ (allS (Or.inl (List.mem_of_getElem? (i := 0) rfl)) all0))
  have hk39 : T33.heap.size ≤ T33.heap.size := Nat.le_refl _
  refine own_tr (T' := T33) (g' := (mkF m 9 #[.val (.ref x0), .val (.ref b0)] [])) st33 ?_
  obtain ⟨fs, hr, hrun, hended, hE⟩ := Stand.leaveW X39 hS39 hk39 (v := none) (fun _ => rfl)
  refine own_end (X39.returnOut hx Bd.returns (hb hby d2_9) hr) ⟨_, hrun, hended, _, _, rfl, ?_, (by rw [hh]; show CHr Z own_EL s.vm h0 T33.vm T33.heap; exact CHr.trans CR40 (CHv.at X39 hZ39 (own_EW hw) CR40.1)), ⟨hE.1, hE.2.1, hE.2.2.1, hE.2.2.2.mono (by decide) (by decide)⟩⟩
  show own_e1Q Z x0 b0 kc vl dd h0 n0 _ T33.heap _
  show own_e1Q Z x0 b0 kc vl dd h0 n0 _ T33.heap _
  exact ⟨t_33, kb_33, rfl, N38, K41, P34, P35, P36, P37⟩
theorem d13_0 : decode jdk_42_method_152_code 0 = .ok (.getstatic 38, 3) := by decide +kernel
theorem d13_3 : decode jdk_42_method_152_code 3 = .ok (.ifCond .eq 10, 3) := by decide +kernel
theorem d13_6 : decode jdk_42_method_152_code 6 = .ok (.aload_n 0, 1) := by decide +kernel
theorem d13_7 : decode jdk_42_method_152_code 7 = .ok (.getfield 15, 3) := by decide +kernel
theorem d13_10 : decode jdk_42_method_152_code 10 = .ok (.goto 4, 3) := by decide +kernel
theorem d13_14 : decode jdk_42_method_152_code 14 = .ok (.ireturn, 1) := by decide +kernel
set_option maxHeartbeats 4000000 in
theorem own_ef3 (m : MethodId) (x0 : Addr) : entryFrame m #[(.ref x0)] 1 = mkF m 0 #[.val (.ref x0)] [] := by first | (simp [entryFrame, mkF, argsToLocals, Value.category]; done) | rfl
def own_codQ (Z : State) (x0 : Addr) (zc : Int32) (h0 : Heap) (n0 : Nat) (v : Option Value) (h : Heap) (L : List Loc) : Prop := v = some (.int (0 : Int32)) ∧ Fr n0 L ∧ h = h0
abbrev own_codR : Room := { frames := 0, cells := 0, slots := 0, locals := 0 }
set_option maxRecDepth 65536 in
set_option maxHeartbeats 40000000 in
theorem own_cod (l : Launch) (Z : State) (a0 : Array Value) (hw : ∀ d ∈ tables_1, d.before a0 Z = true) (ws : List Jvm.Cond) (x0 : Addr) (zc : Int32) (h0 : Heap) (n0 : Nat) (Z0 : n0 ≤ h0.size) (pr1 : Old Z n0 h0) (pr2 : Sta Z Z.heap "java/lang/String" "COMPACT_STRINGS" "Z" (.int zc)) (pr3 : ¬ zc = 0) (pr4 : Fld Z h0 x0 "java/lang/String" "coder" "B" (.int (0 : Int32))) :
    own_M l (⟨"java/lang/String", "coder", "()B"⟩ : MethodName) jdk_42_method_152_code 1 (some .byte) ws own_codR #[(.ref x0)] Z h0 (own_codQ Z x0 zc h0 n0) := by
  refine own_go (plainFor_of_name own_pn1) (fun m => own_ef3 m x0 ) ?_
  intro p e s m below meth c s₁ Bd hx hby hml hZ hh hown hnm X0 e0
  have N0 := Fr.nil n0
  obtain ⟨T42, X42, e42, st42⟩ := getS2 X0 hx hZ hown (host := "") (Or.inl (own_k hw 81 rfl)) Via.refl e0 (Sta.ext pr1.2 pr2) (g := (mkF m 0 #[.val (.ref x0)] [])) rfl (hb hby d13_0)
  refine own_st (T' := T42) (g' := (mkF m 3 #[.val (.ref x0)] [(.int zc)])) st42 ?_
  refine own_st (T' := T42) (g' := (mkF m 7 #[.val (.ref x0)] [(.ref x0)])) (fun _ kt => XS.ifNo X42.here hx rfl (hb hby d13_3) rfl (XT.i0_eq_f pr3) (XS.aloadN X42.here hx rfl (hb hby d13_6) rfl rfl kt)) ?_
  obtain ⟨T43, X43, e43, st43⟩ := getF X42 hx hZ hown (host := "") (Or.inl (own_k hw 25 rfl)) Via.refl e42 pr4 (g := (mkF m 7 #[.val (.ref x0)] [(.ref x0)])) rfl rfl (hb hby d13_7)
  refine own_st (T' := T43) (g' := (mkF m 10 #[.val (.ref x0)] [(.int (0 : Int32))])) st43 ?_
  refine own_st (T' := T43) (g' := (mkF m 14 #[.val (.ref x0)] [(.int (0 : Int32))])) (fun _ kt => XS.goto X43.here hx rfl (pc0 := 10) (pc' := 14) rfl (hb hby d13_10) (by decide) (by decide) kt) ?_
  obtain ⟨fs, hr, hrun, hended, hW, hsame⟩ := X43.leave (v := some (.int (0 : Int32))) (fun h => by rw [Bd.returns] at h; cases h)
  refine own_end (retN X43 hx (t := .byte) Bd.returns (by simp) (hb hby d13_14) hr) ⟨_, hrun, hended, _, _, rfl, ?_, ⟨_, rfl⟩, hW, hsame.mono (by decide) (by decide)⟩
  show own_codQ Z x0 zc h0 n0 _ T43.heap _
  rw [e43]
  exact ⟨rfl, N0, rfl⟩
theorem own_shr0 (x : Int32) : x >>> ((0 : Int32) &&& 31) = x := by
  apply Int32.toBitVec_inj.mp
  simp
theorem d12_0 : decode jdk_42_method_54_code 0 = .ok (.aload_n 0, 1) := by decide +kernel
theorem d12_1 : decode jdk_42_method_54_code 1 = .ok (.getfield 9, 3) := by decide +kernel
theorem d12_4 : decode jdk_42_method_54_code 4 = .ok (.arraylength, 1) := by decide +kernel
theorem d12_5 : decode jdk_42_method_54_code 5 = .ok (.aload_n 0, 1) := by decide +kernel
theorem d12_6 : decode jdk_42_method_54_code 6 = .ok (.invokevirtual 335, 3) := by decide +kernel
theorem own_pd2 : parseMethodDescriptor "()B" = some ⟨[], some .byte⟩ := by decide +kernel
theorem d12_9 : decode jdk_42_method_54_code 9 = .ok (.ishr, 1) := by decide +kernel
theorem d12_10 : decode jdk_42_method_54_code 10 = .ok (.ireturn, 1) := by decide +kernel
def own_lenQ (Z : State) (x0 : Addr) (zc : Int32) (t : Addr) (kb : ClassId) (zz : Int32) (vl : List Value) (dd : Value) (h0 : Heap) (n0 : Nat) (v : Option Value) (h : Heap) (L : List Loc) : Prop := v = some (.int zz) ∧ Fr n0 L ∧ h = h0
abbrev own_lenR : Room := { frames := 1, cells := 0, slots := 0, locals := 13 }
set_option maxRecDepth 65536 in
set_option maxHeartbeats 40000000 in
theorem own_len (l : Launch) (Z : State) (a0 : Array Value) (hw : ∀ d ∈ tables_1, d.before a0 Z = true) (ws : List Jvm.Cond) (x0 : Addr) (zc : Int32) (t : Addr) (kb : ClassId) (zz : Int32) (vl : List Value) (dd : Value) (h0 : Heap) (n0 : Nat) (Z0 : n0 ≤ h0.size) (pr1 : Old Z n0 h0) (pr2 : Sta Z Z.heap "java/lang/String" "COMPACT_STRINGS" "Z" (.int zc)) (pr3 : ¬ zc = 0) (pr4 : Exa Z h0 x0 "java/lang/String") (pr5 : Fld Z h0 x0 "java/lang/String" "coder" "B" (.int (0 : Int32))) (pr6 : Fld Z h0 x0 "java/lang/String" "value" "[B" (.ref t)) (pr7 : Arv Z h0 t kb .byte zz vl dd) :
    own_M l (⟨"java/lang/String", "length", "()I"⟩ : MethodName) jdk_42_method_54_code 1 (some .int) ws own_lenR #[(.ref x0)] Z h0 (own_lenQ Z x0 zc t kb zz vl dd h0 n0) := by
  refine own_go (plainFor_of_name own_pn1) (fun m => own_ef3 m x0 ) ?_
  intro p e s m below meth c s₁ Bd hx hby hml hZ hh hown hnm X0 e0
  have N0 := Fr.nil n0
  refine own_st (T' := s₁) (g' := (mkF m 1 #[.val (.ref x0)] [(.ref x0)])) (fun _ kt => XS.aloadN X0.here hx rfl (hb hby d12_0) rfl rfl kt) ?_
  obtain ⟨T44, X44, e44, st44⟩ := getF X0 hx hZ hown (host := "") (Or.inl (own_k hw 24 rfl)) Via.refl e0 pr6 (g := (mkF m 1 #[.val (.ref x0)] [(.ref x0)])) rfl rfl (hb hby d12_1)
  refine own_st (T' := T44) (g' := (mkF m 4 #[.val (.ref x0)] [(.ref t)])) st44 ?_
  refine own_st (T' := T44) (g' := (mkF m 5 #[.val (.ref x0)] [(.int zz)])) (own_alen X44 hx hZ e44 pr7 (g := (mkF m 4 #[.val (.ref x0)] [(.ref t)])) rfl rfl (hb hby d12_4)) ?_
  refine own_st (T' := T44) (g' := (mkF m 6 #[.val (.ref x0)] [(.ref x0), (.int zz)])) (fun _ kt => XS.aloadN X44.here hx rfl (hb hby d12_5) rfl rfl kt) ?_
  obtain ⟨cq46, kq46, qa46, qb46, qc46⟩ := isOf hZ e44 pr4
  obtain ⟨_, _, ⟨T45, L45, k45, n45⟩, -, X45, ⟨Lc45, hQ45, l45, y45, z45⟩, st45⟩ := X44.virtualBack hx (y := (⟨"java/lang/String", "coder", "()B"⟩ : MethodName)) (z := (⟨"java/lang/String", "coder", "()B"⟩ : MethodName)) hown (mvT hZ (own_k hw 76 rfl)) (mvT hZ (own_k hw 77 rfl)) (notFace_of_selects (args := #[]) (mvT hZ (own_k hw 79 rfl))) (mvT hZ (own_k hw 79 rfl)) (mvT hZ (own_k hw 78 rfl)) (by decide) (backOf (W := 1) (own_cod l Z a0 hw [] x0 zc h0 n0 Z0 pr1 pr2 pr3 pr5) hZ (own_k hw 80 rfl) (own_k hw 6 rfl) (by decide) (by decide)) qa46 qc46 (g := (mkF m 6 #[.val (.ref x0)] [(.ref x0), (.int zz)])) rfl hml.symm (Steps.refl _) (argsL := []) (rest := [(.int zz)]) (lenOf own_pd2 rfl) rfl (by show 2 * 0 + _ ≤ _; exact Nat.le_of_eq rfl) (hb hby d12_6) (fun _ _ => ⟨rfl, e44, (by decide : 0 + 0 ≤ 0), (by decide : 0 + 0 ≤ 0)⟩)
  dsimp only [Pt.U, Pt.locs, Pt.cells, Pt.slots] at X45 l45 y45 z45 st45 hQ45
  subst l45 y45 z45
  obtain ⟨rfl, N45, e45⟩ := hQ45
  have N47 := Fr.app N0 N45
  refine own_tr (T' := T45) (g' := (mkF m 9 #[.val (.ref x0)] [(.int (0 : Int32)), (.int zz)])) st45 ?_
  refine own_st (T' := T45) (g' := (mkF m 10 #[.val (.ref x0)] [(.int (zz >>> ((0 : Int32) &&& 31)))])) (fun _ kt => XT.ishr X45.here hx rfl (hb hby d12_9) rfl kt) ?_
  obtain ⟨fs, hr, hrun, hended, hW, hsame⟩ := X45.leave (v := some (.int (zz >>> ((0 : Int32) &&& 31)))) (fun h => by rw [Bd.returns] at h; cases h)
  refine own_end (own_retI X45 hx Bd.returns (hb hby d12_10) hr) ⟨_, hrun, hended, _, _, rfl, ?_, ⟨_, rfl⟩, hW, hsame.mono (by decide) (by decide)⟩
  show own_lenQ Z x0 zc t kb zz vl dd h0 n0 _ T45.heap _
  rw [e45]
  exact ⟨(by rw [own_shr0]), N47, rfl⟩
theorem d7_0 : decode jdk_30_method_1_code 0 = .ok (.aload_n 0, 1) := by decide +kernel
theorem d7_1 : decode jdk_30_method_1_code 1 = .ok (.invokespecial 1, 3) := by decide +kernel
theorem d7_4 : decode jdk_30_method_1_code 4 = .ok (.return_, 1) := by decide +kernel
def own_r5Q (Z : State) (a : Addr) (h0 : Heap) (n0 : Nat) (v : Option Value) (h : Heap) (L : List Loc) : Prop := v = none ∧ Fr n0 L ∧ h = h0
theorem own_pn2 : plainName "java/lang/Record" = true := by first | (simp [plainName, overriddenIn]; done) | decide +kernel
abbrev own_r5R : Room := { frames := 1, cells := 0, slots := 0, locals := 12 }
set_option maxRecDepth 65536 in
set_option maxHeartbeats 40000000 in
theorem own_r5 (l : Launch) (Z : State) (a0 : Array Value) (hw : ∀ d ∈ tables_1, d.before a0 Z = true) (ws : List Jvm.Cond) (a : Addr) (h0 : Heap) (n0 : Nat) (Z0 : n0 ≤ h0.size)  :
    own_M l (⟨"java/lang/Record", "<init>", "()V"⟩ : MethodName) jdk_30_method_1_code 1 none ws own_r5R #[(.ref a)] Z h0 (own_r5Q Z a h0 n0) := by
  refine own_go (plainFor_of_name own_pn2) (fun m => own_ef3 m a ) ?_
  intro p e s m below meth c s₁ Bd hx hby hml hZ hh hown hnm X0 e0
  have N0 := Fr.nil n0
  refine own_st (T' := s₁) (g' := (mkF m 1 #[.val (.ref a)] [(.ref a)])) (fun _ kt => XS.aloadN X0.here hx rfl (hb hby d7_0) rfl rfl kt) ?_
  obtain ⟨T48, X48, e48, st48⟩ := initO X0 hx hZ hown (own_k hw 43 rfl) (own_k hw 16 rfl) (own_k hw 17 rfl) e0 (g := (mkF m 1 #[.val (.ref a)] [(.ref a)])) rfl hml.symm rfl (hb hby d7_1) (by decide) (W := 0) (by show 2 * 0 + _ ≤ _; exact Nat.le_of_eq rfl) (by decide)
  refine own_st (T' := T48) (g' := (mkF m 4 #[.val (.ref a)] [])) st48 ?_
  obtain ⟨fs, hr, hrun, hended, hW, hsame⟩ := X48.leave (v := none) (fun _ => rfl)
  refine own_end (X48.returnOut hx Bd.returns (hb hby d7_4) hr) ⟨_, hrun, hended, _, _, rfl, ?_, ⟨_, rfl⟩, hW, hsame.mono (by decide) (by decide)⟩
  show own_r5Q Z a h0 n0 _ T48.heap _
  rw [e48]
  exact ⟨rfl, N0, rfl⟩
theorem d11_0 : decode jdk_42_method_66_code 0 = .ok (.aload_n 0, 1) := by decide +kernel
theorem d11_1 : decode jdk_42_method_66_code 1 = .ok (.aload_n 1, 1) := by decide +kernel
theorem d11_2 : decode jdk_42_method_66_code 2 = .ok (.if_acmp .ne 5, 3) := by decide +kernel
theorem d11_5 : decode jdk_42_method_66_code 5 = .ok (.iconst 1, 1) := by decide +kernel
theorem d11_6 : decode jdk_42_method_66_code 6 = .ok (.ireturn, 1) := by decide +kernel
set_option maxHeartbeats 4000000 in
theorem own_ef4 (m : MethodId) (x0 : Addr) (x1 : Addr) : entryFrame m #[(.ref x0), (.ref x1)] 3 = mkF m 0 #[.val (.ref x0), .val (.ref x1), .unset] [] := by first | (simp [entryFrame, mkF, argsToLocals, Value.category]; done) | rfl
def own_sameQ (Z : State) (x0 : Addr) (h0 : Heap) (n0 : Nat) (v : Option Value) (h : Heap) (L : List Loc) : Prop := v = some (.int (1 : Int32)) ∧ Fr n0 L ∧ h = h0
abbrev own_sameR : Room := { frames := 0, cells := 0, slots := 0, locals := 0 }
set_option maxRecDepth 65536 in
set_option maxHeartbeats 40000000 in
theorem own_same (l : Launch) (Z : State) (a0 : Array Value) (hw : ∀ d ∈ tables_1, d.before a0 Z = true) (ws : List Jvm.Cond) (x0 : Addr) (h0 : Heap) (n0 : Nat) (Z0 : n0 ≤ h0.size)  :
    own_M l (⟨"java/lang/String", "equals", "(Ljava/lang/Object;)Z"⟩ : MethodName) jdk_42_method_66_code 3 (some .boolean) ws own_sameR #[(.ref x0), (.ref x0)] Z h0 (own_sameQ Z x0 h0 n0) := by
  refine own_go (plainFor_of_name own_pn1) (fun m => own_ef4 m x0 x0 ) ?_
  intro p e s m below meth c s₁ Bd hx hby hml hZ hh hown hnm X0 e0
  have N0 := Fr.nil n0
  refine own_st (T' := s₁) (g' := (mkF m 6 #[.val (.ref x0), .val (.ref x0), .unset] [(.int (1 : Int32))])) (fun _ kt => XS.aloadN X0.here hx rfl (hb hby d11_0) rfl rfl (XS.aloadN X0.here hx rfl (hb hby d11_1) rfl rfl (XT.acmpNo X0.here hx rfl (hb hby d11_2) rfl rfl rfl (XT.aa_ne_f rfl) (XS.iconst X0.here hx rfl (hb hby d11_5) kt)))) ?_
  obtain ⟨fs, hr, hrun, hended, hW, hsame⟩ := X0.leave (v := some (.int (1 : Int32))) (fun h => by rw [Bd.returns] at h; cases h)
  refine own_end (retN X0 hx (t := .boolean) Bd.returns (by simp) (hb hby d11_6) hr) ⟨_, hrun, hended, _, _, rfl, ?_, ⟨_, rfl⟩, hW, hsame.mono (by decide) (by decide)⟩
  show own_sameQ Z x0 h0 n0 _ s₁.heap _
  rw [e0]
  exact ⟨rfl, N0, rfl⟩
theorem d1_0 : decode method_2_code 0 = .ok (.iload_n 0, 1) := by decide +kernel
theorem d1_1 : decode method_2_code 1 = .ok (.iconst 3, 1) := by decide +kernel
theorem d1_2 : decode method_2_code 2 = .ok (.iand, 1) := by decide +kernel
theorem d1_3 : decode method_2_code 3 = .ok (.istore 4, 2) := by decide +kernel
theorem d1_5 : decode method_2_code 5 = .ok (.iload_n 1, 1) := by decide +kernel
theorem d1_6 : decode method_2_code 6 = .ok (.sipush 255, 3) := by decide +kernel
theorem d1_9 : decode method_2_code 9 = .ok (.iand, 1) := by decide +kernel
theorem d1_10 : decode method_2_code 10 = .ok (.i2c, 1) := by decide +kernel
theorem d1_11 : decode method_2_code 11 = .ok (.istore 5, 2) := by decide +kernel
theorem d1_13 : decode method_2_code 13 = .ok (.iload_n 2, 1) := by decide +kernel
theorem d1_14 : decode method_2_code 14 = .ok (.sipush 255, 3) := by decide +kernel
theorem d1_17 : decode method_2_code 17 = .ok (.iand, 1) := by decide +kernel
theorem d1_18 : decode method_2_code 18 = .ok (.i2c, 1) := by decide +kernel
theorem d1_19 : decode method_2_code 19 = .ok (.istore 6, 2) := by decide +kernel
theorem d1_21 : decode method_2_code 21 = .ok (.iload_n 3, 1) := by decide +kernel
theorem d1_22 : decode method_2_code 22 = .ok (.sipush 255, 3) := by decide +kernel
theorem d1_25 : decode method_2_code 25 = .ok (.iand, 1) := by decide +kernel
theorem d1_26 : decode method_2_code 26 = .ok (.i2c, 1) := by decide +kernel
theorem d1_27 : decode method_2_code 27 = .ok (.istore 7, 2) := by decide +kernel
theorem d1_29 : decode method_2_code 29 = .ok (.iload 4, 2) := by decide +kernel
theorem d1_31 : decode method_2_code 31 = .ok (.ifCond .ne 14, 3) := by decide +kernel
theorem d1_34 : decode method_2_code 34 = .ok (.new 7, 3) := by decide +kernel
theorem d1_37 : decode method_2_code 37 = .ok (.dup, 1) := by decide +kernel
theorem d1_38 : decode method_2_code 38 = .ok (.iconst 0, 1) := by decide +kernel
theorem d1_39 : decode method_2_code 39 = .ok (.newarray .char, 2) := by decide +kernel
theorem d1_41 : decode method_2_code 41 = .ok (.invokespecial 9, 3) := by decide +kernel
theorem own_pd3 : parseMethodDescriptor "([C)V" = some ⟨[(.array .char)], none⟩ := by decide +kernel
theorem d1_44 : decode method_2_code 44 = .ok (.areturn, 1) := by decide +kernel
theorem d1_45 : decode method_2_code 45 = .ok (.iload 4, 2) := by decide +kernel
theorem d1_47 : decode method_2_code 47 = .ok (.iconst 1, 1) := by decide +kernel
theorem d1_48 : decode method_2_code 48 = .ok (.if_icmp .ne 24, 3) := by decide +kernel
theorem d1_51 : decode method_2_code 51 = .ok (.iconst 1, 1) := by decide +kernel
theorem d1_52 : decode method_2_code 52 = .ok (.newarray .char, 2) := by decide +kernel
theorem d1_54 : decode method_2_code 54 = .ok (.astore 8, 2) := by decide +kernel
theorem d1_56 : decode method_2_code 56 = .ok (.aload 8, 2) := by decide +kernel
theorem d1_58 : decode method_2_code 58 = .ok (.iconst 0, 1) := by decide +kernel
theorem d1_59 : decode method_2_code 59 = .ok (.iload 5, 2) := by decide +kernel
theorem d1_61 : decode method_2_code 61 = .ok (.castore, 1) := by decide +kernel
theorem d1_62 : decode method_2_code 62 = .ok (.new 7, 3) := by decide +kernel
theorem d1_65 : decode method_2_code 65 = .ok (.dup, 1) := by decide +kernel
theorem d1_66 : decode method_2_code 66 = .ok (.aload 8, 2) := by decide +kernel
theorem d1_68 : decode method_2_code 68 = .ok (.invokespecial 9, 3) := by decide +kernel
theorem d1_71 : decode method_2_code 71 = .ok (.areturn, 1) := by decide +kernel
theorem d1_72 : decode method_2_code 72 = .ok (.iload 4, 2) := by decide +kernel
theorem d1_74 : decode method_2_code 74 = .ok (.iconst 2, 1) := by decide +kernel
theorem d1_75 : decode method_2_code 75 = .ok (.if_icmp .ne 30, 3) := by decide +kernel
theorem d1_78 : decode method_2_code 78 = .ok (.iconst 2, 1) := by decide +kernel
theorem d1_79 : decode method_2_code 79 = .ok (.newarray .char, 2) := by decide +kernel
theorem d1_81 : decode method_2_code 81 = .ok (.astore 8, 2) := by decide +kernel
theorem d1_83 : decode method_2_code 83 = .ok (.aload 8, 2) := by decide +kernel
theorem d1_85 : decode method_2_code 85 = .ok (.iconst 0, 1) := by decide +kernel
theorem d1_86 : decode method_2_code 86 = .ok (.iload 5, 2) := by decide +kernel
theorem d1_88 : decode method_2_code 88 = .ok (.castore, 1) := by decide +kernel
theorem d1_89 : decode method_2_code 89 = .ok (.aload 8, 2) := by decide +kernel
theorem d1_91 : decode method_2_code 91 = .ok (.iconst 1, 1) := by decide +kernel
theorem d1_92 : decode method_2_code 92 = .ok (.iload 6, 2) := by decide +kernel
theorem d1_94 : decode method_2_code 94 = .ok (.castore, 1) := by decide +kernel
theorem d1_95 : decode method_2_code 95 = .ok (.new 7, 3) := by decide +kernel
theorem d1_98 : decode method_2_code 98 = .ok (.dup, 1) := by decide +kernel
theorem d1_99 : decode method_2_code 99 = .ok (.aload 8, 2) := by decide +kernel
theorem d1_101 : decode method_2_code 101 = .ok (.invokespecial 9, 3) := by decide +kernel
theorem d1_104 : decode method_2_code 104 = .ok (.areturn, 1) := by decide +kernel
theorem d1_105 : decode method_2_code 105 = .ok (.iconst 3, 1) := by decide +kernel
theorem d1_106 : decode method_2_code 106 = .ok (.newarray .char, 2) := by decide +kernel
theorem d1_108 : decode method_2_code 108 = .ok (.astore 8, 2) := by decide +kernel
theorem d1_110 : decode method_2_code 110 = .ok (.aload 8, 2) := by decide +kernel
theorem d1_112 : decode method_2_code 112 = .ok (.iconst 0, 1) := by decide +kernel
theorem d1_113 : decode method_2_code 113 = .ok (.iload 5, 2) := by decide +kernel
theorem d1_115 : decode method_2_code 115 = .ok (.castore, 1) := by decide +kernel
theorem d1_116 : decode method_2_code 116 = .ok (.aload 8, 2) := by decide +kernel
theorem d1_118 : decode method_2_code 118 = .ok (.iconst 1, 1) := by decide +kernel
theorem d1_119 : decode method_2_code 119 = .ok (.iload 6, 2) := by decide +kernel
theorem d1_121 : decode method_2_code 121 = .ok (.castore, 1) := by decide +kernel
theorem d1_122 : decode method_2_code 122 = .ok (.aload 8, 2) := by decide +kernel
theorem d1_124 : decode method_2_code 124 = .ok (.iconst 2, 1) := by decide +kernel
theorem d1_125 : decode method_2_code 125 = .ok (.iload 7, 2) := by decide +kernel
theorem d1_127 : decode method_2_code 127 = .ok (.castore, 1) := by decide +kernel
theorem d1_128 : decode method_2_code 128 = .ok (.new 7, 3) := by decide +kernel
theorem d1_131 : decode method_2_code 131 = .ok (.dup, 1) := by decide +kernel
theorem d1_132 : decode method_2_code 132 = .ok (.aload 8, 2) := by decide +kernel
theorem d1_134 : decode method_2_code 134 = .ok (.invokespecial 9, 3) := by decide +kernel
theorem d1_137 : decode method_2_code 137 = .ok (.areturn, 1) := by decide +kernel
set_option maxHeartbeats 4000000 in
theorem own_ef5 (m : MethodId) (x0 : Int32) (x1 : Int32) (x2 : Int32) (x3 : Int32) : entryFrame m #[(.int x0), (.int x1), (.int x2), (.int x3)] 9 = mkF m 0 #[.val (.int x0), .val (.int x1), .val (.int x2), .val (.int x3), .unset, .unset, .unset, .unset, .unset] [] := by first | (simp [entryFrame, mkF, argsToLocals, Value.category]; done) | rfl
def own_drawnQ (Z : State) (u1 : Int32) (u2 : Int32) (u3 : Int32) (u4 : Int32) (zc : Int32) (h0 : Heap) (n0 : Nat) (v : Option Value) (h : Heap) (L : List Loc) : Prop := ∃ (b : Addr), ∃ (t : Addr), ∃ (kb : ClassId), ∃ (vl : List Value), v = some (.ref b) ∧ Fr n0 L ∧ Keep h0 h [] ∧ (Exa Z h b "java/lang/String") ∧ (Fld Z h b "java/lang/String" "coder" "B" (.int (0 : Int32))) ∧ (Fld Z h b "java/lang/String" "value" "[B" (.ref t)) ∧ (Arv Z h t kb .byte (u1 &&& (3 : Int32)) vl (.int (0 : Int32)))
theorem own_pn3 : plainName "com/example/zorgbrug/zorgbrug/auth/TokenVerdictNotGrantedPinLaw" = true := by first | (simp [plainName, overriddenIn]; done) | decide +kernel
abbrev own_drawnR : Room := { frames := 5, cells := 6, slots := 16, locals := 160 }
set_option maxRecDepth 65536 in
set_option maxHeartbeats 40000000 in
theorem own_drawn (l : Launch) (Z : State) (a0 : Array Value) (hw : ∀ d ∈ tables_1, d.before a0 Z = true) (ws : List Jvm.Cond) (u1 : Int32) (u2 : Int32) (u3 : Int32) (u4 : Int32) (zc : Int32) (h0 : Heap) (n0 : Nat) (Z0 : n0 ≤ h0.size) (pr1 : Old Z n0 h0) (pr2 : Sta Z Z.heap "java/lang/String" "COMPACT_STRINGS" "Z" (.int zc)) (pr3 : ¬ zc = 0) :
    own_MH own_EL l (⟨"com/example/zorgbrug/zorgbrug/auth/TokenVerdictNotGrantedPinLaw", "drawn", "(IIII)Ljava/lang/String;"⟩ : MethodName) method_2_code 9 (some (.object "java/lang/String")) ws own_drawnR #[(.int u1), (.int u2), (.int u3), (.int u4)] Z h0 (own_drawnQ Z u1 u2 u3 u4 zc h0 n0) := by
  refine own_goH (plainFor_of_name own_pn3) (fun m => own_ef5 m u1 u2 u3 u4 ) ?_
  intro p e s m below meth c s₁ Bd hx hby hml hZ hh hown hnm X0 e0 hS CR0
  have N0 := Fr.nil n0
  have K0 : Keep h0 h0 [] := Keep.refl h0 _
  have hk : h0.size ≤ h0.size := Nat.le_refl _
  refine own_st (T' := s₁) (g' := (mkF m 18 #[.val (.int u1), .val (.int u2), .val (.int u3), .val (.int u4), .val (.int (u1 &&& (3 : Int32))), .val (.int ((u2 &&& (255 : Int32)).toUInt32.toUInt16.toUInt32.toInt32)), .unset, .unset, .unset] [(.int (u3 &&& (255 : Int32)))])) (fun _ kt => XS.iloadN X0.here hx rfl (hb hby d1_0) rfl (XS.iconst X0.here hx rfl (hb hby d1_1) (XS.iand X0.here hx rfl (hb hby d1_2) rfl (XS.istore X0.here hx rfl (hb hby d1_3) rfl (l' := #[.val (.int u1), .val (.int u2), .val (.int u3), .val (.int u4), .val (.int (u1 &&& (3 : Int32))), .unset, .unset, .unset, .unset]) rfl (XS.iloadN X0.here hx rfl (hb hby d1_5) rfl (XS.sipush X0.here hx rfl (hb hby d1_6) (XS.iand X0.here hx rfl (hb hby d1_9) rfl (XT.i2c X0.here hx rfl (hb hby d1_10) rfl (XS.istore X0.here hx rfl (hb hby d1_11) rfl (l' := #[.val (.int u1), .val (.int u2), .val (.int u3), .val (.int u4), .val (.int (u1 &&& (3 : Int32))), .val (.int ((u2 &&& (255 : Int32)).toUInt32.toUInt16.toUInt32.toInt32)), .unset, .unset, .unset]) rfl (XS.iloadN X0.here hx rfl (hb hby d1_13) rfl (XS.sipush X0.here hx rfl (hb hby d1_14) (XS.iand X0.here hx rfl (hb hby d1_17) rfl kt)))))))))))) ?_
  refine own_st (T' := s₁) (g' := (mkF m 31 #[.val (.int u1), .val (.int u2), .val (.int u3), .val (.int u4), .val (.int (u1 &&& (3 : Int32))), .val (.int ((u2 &&& (255 : Int32)).toUInt32.toUInt16.toUInt32.toInt32)), .val (.int ((u3 &&& (255 : Int32)).toUInt32.toUInt16.toUInt32.toInt32)), .val (.int ((u4 &&& (255 : Int32)).toUInt32.toUInt16.toUInt32.toInt32)), .unset] [(.int (u1 &&& (3 : Int32)))])) (fun _ kt => XT.i2c X0.here hx rfl (hb hby d1_18) rfl (XS.istore X0.here hx rfl (hb hby d1_19) rfl (l' := #[.val (.int u1), .val (.int u2), .val (.int u3), .val (.int u4), .val (.int (u1 &&& (3 : Int32))), .val (.int ((u2 &&& (255 : Int32)).toUInt32.toUInt16.toUInt32.toInt32)), .val (.int ((u3 &&& (255 : Int32)).toUInt32.toUInt16.toUInt32.toInt32)), .unset, .unset]) rfl (XS.iloadN X0.here hx rfl (hb hby d1_21) rfl (XS.sipush X0.here hx rfl (hb hby d1_22) (XS.iand X0.here hx rfl (hb hby d1_25) rfl (XT.i2c X0.here hx rfl (hb hby d1_26) rfl (XS.istore X0.here hx rfl (hb hby d1_27) rfl (l' := #[.val (.int u1), .val (.int u2), .val (.int u3), .val (.int u4), .val (.int (u1 &&& (3 : Int32))), .val (.int ((u2 &&& (255 : Int32)).toUInt32.toUInt16.toUInt32.toInt32)), .val (.int ((u3 &&& (255 : Int32)).toUInt32.toUInt16.toUInt32.toInt32)), .val (.int ((u4 &&& (255 : Int32)).toUInt32.toUInt16.toUInt32.toInt32)), .unset]) rfl (XS.iload X0.here hx rfl (hb hby d1_29) rfl kt)))))))) ?_
  by_cases hc49 : (u1 &&& (3 : Int32)) = 0
  · -- pc 31: (u1 &&& (3 : Int32)) = 0
    refine own_st (T' := s₁) (g' := (mkF m 34 #[.val (.int u1), .val (.int u2), .val (.int u3), .val (.int u4), .val (.int (u1 &&& (3 : Int32))), .val (.int ((u2 &&& (255 : Int32)).toUInt32.toUInt16.toUInt32.toInt32)), .val (.int ((u3 &&& (255 : Int32)).toUInt32.toUInt16.toUInt32.toInt32)), .val (.int ((u4 &&& (255 : Int32)).toUInt32.toUInt16.toUInt32.toInt32)), .unset] [])) (fun _ kt => XS.ifNo X0.here hx rfl (hb hby d1_31) rfl (XT.i0_ne_f hc49) kt) ?_
    obtain ⟨T50, h50, X50, e50, E50, A50, D50, -, st50⟩ := newO X0 hx hZ hown (own_k hw 4 rfl) (own_k hw 5 rfl) (own_k hw 6 rfl) e0 (g := (mkF m 34 #[.val (.int u1), .val (.int u2), .val (.int u3), .val (.int u4), .val (.int (u1 &&& (3 : Int32))), .val (.int ((u2 &&& (255 : Int32)).toUInt32.toUInt16.toUInt32.toInt32)), .val (.int ((u3 &&& (255 : Int32)).toUInt32.toUInt16.toUInt32.toInt32)), .val (.int ((u4 &&& (255 : Int32)).toUInt32.toUInt16.toUInt32.toInt32)), .unset] [])) rfl (hb hby d1_34) (by decide) (by decide)
    obtain ⟨b50, g50⟩ : ∃ z, z = h0.size := ⟨_, rfl⟩
    rw [← g50] at A50 D50 st50
    have CR51 : CHr Z own_EL s.vm h0 s.vm h50 := CHr.trans CR0 (CHr.ext E50 CR0.1)
    have Z52 : n0 ≤ h50.size := Nat.le_trans Z0 E50.1
    have hk52 := Nat.le_trans hk E50.1
    have K52 : Keep h0 h50 [] := (Keep.ext K0 E50)
    have ge_b50 : n0 ≤ b50 := Nat.le_trans Z0 (Nat.le_of_eq g50.symm)
    have S53 : Safe Z own_EL s.vm h50 b50 := (Safe.ext E50 CR0.1 (Safe.new (Nat.le_of_eq g50.symm)))
    have F54 : Fld Z h50 b50 "java/lang/String" "value" "[B" .null := D50 (Or.inr (own_k hw 20 rfl)) (ty := (.array .byte)) (by decide)
    have F55 : Fld Z h50 b50 "java/lang/String" "coder" "B" (.int (0 : Int32)) := D50 (Or.inr (own_k hw 21 rfl)) (ty := .byte) (by decide)
    refine own_st (T' := T50) (g' := (mkF m 37 #[.val (.int u1), .val (.int u2), .val (.int u3), .val (.int u4), .val (.int (u1 &&& (3 : Int32))), .val (.int ((u2 &&& (255 : Int32)).toUInt32.toUInt16.toUInt32.toInt32)), .val (.int ((u3 &&& (255 : Int32)).toUInt32.toUInt16.toUInt32.toInt32)), .val (.int ((u4 &&& (255 : Int32)).toUInt32.toUInt16.toUInt32.toInt32)), .unset] [(.ref b50)])) st50 ?_
    refine own_st (T' := T50) (g' := (mkF m 39 #[.val (.int u1), .val (.int u2), .val (.int u3), .val (.int u4), .val (.int (u1 &&& (3 : Int32))), .val (.int ((u2 &&& (255 : Int32)).toUInt32.toUInt16.toUInt32.toInt32)), .val (.int ((u3 &&& (255 : Int32)).toUInt32.toUInt16.toUInt32.toInt32)), .val (.int ((u4 &&& (255 : Int32)).toUInt32.toUInt16.toUInt32.toInt32)), .unset] [(.int (0 : Int32)), (.ref b50), (.ref b50)])) (fun _ kt => XS.dup X50.here hx rfl (hb hby d1_37) rfl rfl (XS.iconst X50.here hx rfl (hb hby d1_38) kt)) ?_
    obtain ⟨T56, h56, k56, X56, e56, E56, A56, st56⟩ := newP X50 hx hZ (aty := .char) (own_k hw 7 rfl) e50 (g := (mkF m 39 #[.val (.int u1), .val (.int u2), .val (.int u3), .val (.int u4), .val (.int (u1 &&& (3 : Int32))), .val (.int ((u2 &&& (255 : Int32)).toUInt32.toUInt16.toUInt32.toInt32)), .val (.int ((u3 &&& (255 : Int32)).toUInt32.toUInt16.toUInt32.toInt32)), .val (.int ((u4 &&& (255 : Int32)).toUInt32.toUInt16.toUInt32.toInt32)), .unset] [(.int (0 : Int32)), (.ref b50), (.ref b50)])) rfl (hb hby d1_39) rfl (by decide) (cap := 0) (by decide) (by decide) (by decide) (by decide)
    obtain ⟨b56, g56⟩ : ∃ z, z = h50.size := ⟨_, rfl⟩
    rw [← g56] at A56 st56
    have ne57 : b50 ≠ b56 := by rw [g56]; exact Nat.ne_of_lt A50.lt
    have CR58 : CHr Z own_EL s.vm h0 s.vm h56 := CHr.trans CR51 (CHr.ext E56 CR51.1)
    have Z59 : n0 ≤ h56.size := Nat.le_trans Z52 E56.1
    have hk59 := Nat.le_trans hk52 E56.1
    have K59 : Keep h0 h56 [] := (Keep.ext K52 E56)
    have ge_b56 : n0 ≤ b56 := Nat.le_trans Z52 (Nat.le_of_eq g56.symm)
    have S60 : Safe Z own_EL s.vm h56 b56 := (Safe.ext E56 CR51.1 (Safe.new (Nat.le_of_eq g56.symm)))
    have F61 : Arv Z h56 b56 k56 .char (0 : Int32) [] (.int (0 : Int32)) := (Arv.new A56 (by decide)).pad (pad_rep [] (.int (0 : Int32)) 0)
    refine own_st (T' := T56) (g' := (mkF m 41 #[.val (.int u1), .val (.int u2), .val (.int u3), .val (.int u4), .val (.int (u1 &&& (3 : Int32))), .val (.int ((u2 &&& (255 : Int32)).toUInt32.toUInt16.toUInt32.toInt32)), .val (.int ((u3 &&& (255 : Int32)).toUInt32.toUInt16.toUInt32.toInt32)), .val (.int ((u4 &&& (255 : Int32)).toUInt32.toUInt16.toUInt32.toInt32)), .unset] [(.ref b56), (.ref b50), (.ref b50)])) st56 ?_
    have F62 : Exa Z h56 b50 "java/lang/String" := (Exa.ext E56 A50)
    have F63 : Fld Z h56 b50 "java/lang/String" "value" "[B" .null := (Fld.ext E56 F54)
    have F64 : Fld Z h56 b50 "java/lang/String" "coder" "B" (.int (0 : Int32)) := (Fld.ext E56 F55)
    obtain ⟨_, _, ⟨T65, L65, k65, n65⟩, -, X65, hS65, hG65, ⟨Lc65, hQ65, l65, y65, z65, hC65⟩, st65⟩ := X56.specialBackS hx (y := (⟨"java/lang/String", "<init>", "([C)V"⟩ : MethodName)) rfl hown (mvT hZ (own_k hw 8 rfl)) (mvT hZ (own_k hw 9 rfl)) (mvT hZ (own_k hw 10 rfl)) (by decide) (backOfSH (W := 1) (own_e1 l Z a0 hw [] b50 b56 k56 [] (.int (0 : Int32)) h56 n0 Z59 F62 ge_b50 F63 F64 F61) hZ (own_k hw 10 rfl) (own_k hw 6 rfl) (by decide) (by decide) (own_EW hw) CR58.1) (g := (mkF m 41 #[.val (.int u1), .val (.int u2), .val (.int u3), .val (.int u4), .val (.int (u1 &&& (3 : Int32))), .val (.int ((u2 &&& (255 : Int32)).toUInt32.toUInt16.toUInt32.toInt32)), .val (.int ((u3 &&& (255 : Int32)).toUInt32.toUInt16.toUInt32.toInt32)), .val (.int ((u4 &&& (255 : Int32)).toUInt32.toUInt16.toUInt32.toInt32)), .unset] [(.ref b56), (.ref b50), (.ref b50)])) rfl hml.symm (Steps.refl _) (a := b50) (argsL := [(.ref b56)]) (rest := [(.ref b50)]) (lenOf own_pd3 rfl) rfl (by show 2 * 0 + _ ≤ _; exact Nat.le_of_eq rfl) (hb hby d1_41) (fun _ _ => ⟨rfl, e56, (by decide : 2 + 4 ≤ 6), (by decide : 4 + 8 ≤ 16)⟩)
    dsimp only [Pt.U, Pt.locs, Pt.cells, Pt.slots] at X65 l65 y65 z65 st65 hQ65 hS65 hG65 hC65
    subst l65 y65 z65
    obtain ⟨t_65, kb_65, rfl, N65, K65_, P66, P67, P68, P69⟩ := hQ65
    have N70 := Fr.app N0 N65
    obtain ⟨X71, hS71, hZ71, hown71⟩ := rebS hS (by rw [e56]; exact hk59) X65 hS65 hG65 hZ hown
    have CR72 : CHr Z own_EL s.vm h0 T65.vm T65.heap := CHr.trans CR58 hC65
    have Z73 : n0 ≤ T65.heap.size := Nat.le_trans Z59 K65_.1
    have hk73 := Nat.le_trans hk59 K65_.1
    have K73 : Keep h0 T65.heap [] := (Keep.trans K59 K65_ (allS (Or.inr (Nat.le_trans K0.1 (Nat.le_of_eq g50.symm))) all0))
    have hk71 : T65.heap.size ≤ T65.heap.size := Nat.le_refl _
    refine own_tr (T' := T65) (g' := (mkF m 44 #[.val (.int u1), .val (.int u2), .val (.int u3), .val (.int u4), .val (.int (u1 &&& (3 : Int32))), .val (.int ((u2 &&& (255 : Int32)).toUInt32.toUInt16.toUInt32.toInt32)), .val (.int ((u3 &&& (255 : Int32)).toUInt32.toUInt16.toUInt32.toInt32)), .val (.int ((u4 &&& (255 : Int32)).toUInt32.toUInt16.toUInt32.toInt32)), .unset] [(.ref b50)])) st65 ?_
    obtain ⟨fs, hr, hrun, hended, hE⟩ := Stand.leaveW X71 hS71 hk71 (v := some (.ref b50)) (fun h => by rw [Bd.returns] at h; cases h)
    refine own_end (own_retA X71 hx Bd.returns rfl rfl rfl (hb hby d1_44) hr) ⟨_, hrun, hended, _, _, rfl, ?_, (by rw [hh]; show CHr Z own_EL s.vm h0 T65.vm T65.heap; exact CHr.trans CR72 (CHv.at X71 hZ71 (own_EW hw) CR72.1)), ⟨hE.1, hE.2.1, hE.2.2.1, hE.2.2.2.mono (by decide) (by decide)⟩⟩
    show own_drawnQ Z u1 u2 u3 u4 zc h0 n0 _ T65.heap _
    show own_drawnQ Z u1 u2 u3 u4 zc h0 n0 _ T65.heap _
    exact ⟨b50, t_65, kb_65, [], rfl, N70, K73, P66, P67, P68, (by rw [hc49]; exact P69)⟩
  · -- pc 31: not (u1 &&& (3 : Int32)) = 0
    refine own_st (T' := s₁) (g' := (mkF m 48 #[.val (.int u1), .val (.int u2), .val (.int u3), .val (.int u4), .val (.int (u1 &&& (3 : Int32))), .val (.int ((u2 &&& (255 : Int32)).toUInt32.toUInt16.toUInt32.toInt32)), .val (.int ((u3 &&& (255 : Int32)).toUInt32.toUInt16.toUInt32.toInt32)), .val (.int ((u4 &&& (255 : Int32)).toUInt32.toUInt16.toUInt32.toInt32)), .unset] [(.int (1 : Int32)), (.int (u1 &&& (3 : Int32)))])) (fun _ kt => XS.ifYes X0.here hx rfl (pc0 := 31) (pc' := 45) rfl (hb hby d1_31) rfl (XT.i0_ne_t hc49) (by decide) (by decide) (XS.iload X0.here hx rfl (hb hby d1_45) rfl (XS.iconst X0.here hx rfl (hb hby d1_47) kt))) ?_
    by_cases hc74 : (u1 &&& (3 : Int32)) = (1 : Int32)
    · -- pc 48: (u1 &&& (3 : Int32)) = (1 : Int32)
      refine own_st (T' := s₁) (g' := (mkF m 52 #[.val (.int u1), .val (.int u2), .val (.int u3), .val (.int u4), .val (.int (u1 &&& (3 : Int32))), .val (.int ((u2 &&& (255 : Int32)).toUInt32.toUInt16.toUInt32.toInt32)), .val (.int ((u3 &&& (255 : Int32)).toUInt32.toUInt16.toUInt32.toInt32)), .val (.int ((u4 &&& (255 : Int32)).toUInt32.toUInt16.toUInt32.toInt32)), .unset] [(.int (1 : Int32))])) (fun _ kt => XS.icmpNo X0.here hx rfl (hb hby d1_48) rfl (XT.ii_ne_f hc74) (XS.iconst X0.here hx rfl (hb hby d1_51) kt)) ?_
      obtain ⟨T75, h75, k75, X75, e75, E75, A75, st75⟩ := newP X0 hx hZ (aty := .char) (own_k hw 7 rfl) e0 (g := (mkF m 52 #[.val (.int u1), .val (.int u2), .val (.int u3), .val (.int u4), .val (.int (u1 &&& (3 : Int32))), .val (.int ((u2 &&& (255 : Int32)).toUInt32.toUInt16.toUInt32.toInt32)), .val (.int ((u3 &&& (255 : Int32)).toUInt32.toUInt16.toUInt32.toInt32)), .val (.int ((u4 &&& (255 : Int32)).toUInt32.toUInt16.toUInt32.toInt32)), .unset] [(.int (1 : Int32))])) rfl (hb hby d1_52) rfl (by decide) (cap := 1) (by decide) (by decide) (by decide) (by decide)
      obtain ⟨b75, g75⟩ : ∃ z, z = h0.size := ⟨_, rfl⟩
      rw [← g75] at A75 st75
      have CR76 : CHr Z own_EL s.vm h0 s.vm h75 := CHr.trans CR0 (CHr.ext E75 CR0.1)
      have Z77 : n0 ≤ h75.size := Nat.le_trans Z0 E75.1
      have hk77 := Nat.le_trans hk E75.1
      have K77 : Keep h0 h75 [] := (Keep.ext K0 E75)
      have ge_b75 : n0 ≤ b75 := Nat.le_trans Z0 (Nat.le_of_eq g75.symm)
      have S78 : Safe Z own_EL s.vm h75 b75 := (Safe.ext E75 CR0.1 (Safe.new (Nat.le_of_eq g75.symm)))
      have F79 : Arv Z h75 b75 k75 .char (1 : Int32) [(.int (0 : Int32))] (.int (0 : Int32)) := (Arv.new A75 (by decide)).pad (pad_rep [] (.int (0 : Int32)) 1)
      refine own_st (T' := T75) (g' := (mkF m 54 #[.val (.int u1), .val (.int u2), .val (.int u3), .val (.int u4), .val (.int (u1 &&& (3 : Int32))), .val (.int ((u2 &&& (255 : Int32)).toUInt32.toUInt16.toUInt32.toInt32)), .val (.int ((u3 &&& (255 : Int32)).toUInt32.toUInt16.toUInt32.toInt32)), .val (.int ((u4 &&& (255 : Int32)).toUInt32.toUInt16.toUInt32.toInt32)), .unset] [(.ref b75)])) st75 ?_
      refine own_st (T' := T75) (g' := (mkF m 61 #[.val (.int u1), .val (.int u2), .val (.int u3), .val (.int u4), .val (.int (u1 &&& (3 : Int32))), .val (.int ((u2 &&& (255 : Int32)).toUInt32.toUInt16.toUInt32.toInt32)), .val (.int ((u3 &&& (255 : Int32)).toUInt32.toUInt16.toUInt32.toInt32)), .val (.int ((u4 &&& (255 : Int32)).toUInt32.toUInt16.toUInt32.toInt32)), .val (.ref b75)] [(.int ((u2 &&& (255 : Int32)).toUInt32.toUInt16.toUInt32.toInt32)), (.int (0 : Int32)), (.ref b75)])) (fun _ kt => XS.astore X75.here hx rfl (hb hby d1_54) rfl rfl (l' := #[.val (.int u1), .val (.int u2), .val (.int u3), .val (.int u4), .val (.int (u1 &&& (3 : Int32))), .val (.int ((u2 &&& (255 : Int32)).toUInt32.toUInt16.toUInt32.toInt32)), .val (.int ((u3 &&& (255 : Int32)).toUInt32.toUInt16.toUInt32.toInt32)), .val (.int ((u4 &&& (255 : Int32)).toUInt32.toUInt16.toUInt32.toInt32)), .val (.ref b75)]) rfl (XS.aload X75.here hx rfl (hb hby d1_56) rfl rfl (XS.iconst X75.here hx rfl (hb hby d1_58) (XS.iload X75.here hx rfl (hb hby d1_59) rfl kt)))) ?_
      obtain ⟨T80, h80, X80, e80, W80, V80, st80⟩ := own_cst X75 hx hZ e75 F79 ⟨by decide, by decide⟩ (i := 0) rfl (by simp) (y := ((u2 &&& (255 : Int32)).toUInt32.toUInt16.toUInt32.toInt32)) (by simp only [nar, UInt32.toUInt32_toInt32, UInt16.toUInt16_toUInt32]) (g := (mkF m 61 #[.val (.int u1), .val (.int u2), .val (.int u3), .val (.int u4), .val (.int (u1 &&& (3 : Int32))), .val (.int ((u2 &&& (255 : Int32)).toUInt32.toUInt16.toUInt32.toInt32)), .val (.int ((u3 &&& (255 : Int32)).toUInt32.toUInt16.toUInt32.toInt32)), .val (.int ((u4 &&& (255 : Int32)).toUInt32.toUInt16.toUInt32.toInt32)), .val (.ref b75)] [(.int ((u2 &&& (255 : Int32)).toUInt32.toUInt16.toUInt32.toInt32)), (.int (0 : Int32)), (.ref b75)])) rfl rfl (hb hby d1_61)
      have N80 := Fr.snoc X80 N0 ge_b75
      have CR81 : CHr Z own_EL s.vm h0 s.vm h80 := CHr.trans CR76 (CHr.wr W80 S78 CR76.1)
      have Z82 : n0 ≤ h80.size := Nat.le_trans Z77 (Nat.le_of_eq (Wr.size W80).symm)
      have hk82 := Nat.le_trans hk77 (Nat.le_of_eq (Wr.size W80).symm)
      have K82 : Keep h0 h80 [] := (Keep.wr K77 W80 (Or.inr (Nat.le_trans K0.1 (Nat.le_of_eq g75.symm))))
      have F83 : Arv Z h80 b75 k75 .char (1 : Int32) [(.int ((u2 &&& (255 : Int32)).toUInt32.toUInt16.toUInt32.toInt32))] (.int (0 : Int32)) := V80
      refine own_st (T' := T80) (g' := (mkF m 62 #[.val (.int u1), .val (.int u2), .val (.int u3), .val (.int u4), .val (.int (u1 &&& (3 : Int32))), .val (.int ((u2 &&& (255 : Int32)).toUInt32.toUInt16.toUInt32.toInt32)), .val (.int ((u3 &&& (255 : Int32)).toUInt32.toUInt16.toUInt32.toInt32)), .val (.int ((u4 &&& (255 : Int32)).toUInt32.toUInt16.toUInt32.toInt32)), .val (.ref b75)] [])) st80 ?_
      obtain ⟨T84, h84, X84, e84, E84, A84, D84, -, st84⟩ := newO X80 hx hZ hown (own_k hw 4 rfl) (own_k hw 5 rfl) (own_k hw 6 rfl) e80 (g := (mkF m 62 #[.val (.int u1), .val (.int u2), .val (.int u3), .val (.int u4), .val (.int (u1 &&& (3 : Int32))), .val (.int ((u2 &&& (255 : Int32)).toUInt32.toUInt16.toUInt32.toInt32)), .val (.int ((u3 &&& (255 : Int32)).toUInt32.toUInt16.toUInt32.toInt32)), .val (.int ((u4 &&& (255 : Int32)).toUInt32.toUInt16.toUInt32.toInt32)), .val (.ref b75)] [])) rfl (hb hby d1_62) (by decide) (by decide)
      obtain ⟨b84, g84⟩ : ∃ z, z = h80.size := ⟨_, rfl⟩
      rw [← g84] at A84 D84 st84
      have ne85 : b75 ≠ b84 := by rw [g84]; exact Nat.ne_of_lt F83.lt
      have CR86 : CHr Z own_EL s.vm h0 s.vm h84 := CHr.trans CR81 (CHr.ext E84 CR81.1)
      have Z87 : n0 ≤ h84.size := Nat.le_trans Z82 E84.1
      have hk87 := Nat.le_trans hk82 E84.1
      have K87 : Keep h0 h84 [] := (Keep.ext K82 E84)
      have ge_b84 : n0 ≤ b84 := Nat.le_trans Z82 (Nat.le_of_eq g84.symm)
      have S88 : Safe Z own_EL s.vm h84 b84 := (Safe.ext E84 CR81.1 (Safe.new (Nat.le_of_eq g84.symm)))
      have F89 : Fld Z h84 b84 "java/lang/String" "value" "[B" .null := D84 (Or.inr (own_k hw 20 rfl)) (ty := (.array .byte)) (by decide)
      have F90 : Fld Z h84 b84 "java/lang/String" "coder" "B" (.int (0 : Int32)) := D84 (Or.inr (own_k hw 21 rfl)) (ty := .byte) (by decide)
      refine own_st (T' := T84) (g' := (mkF m 65 #[.val (.int u1), .val (.int u2), .val (.int u3), .val (.int u4), .val (.int (u1 &&& (3 : Int32))), .val (.int ((u2 &&& (255 : Int32)).toUInt32.toUInt16.toUInt32.toInt32)), .val (.int ((u3 &&& (255 : Int32)).toUInt32.toUInt16.toUInt32.toInt32)), .val (.int ((u4 &&& (255 : Int32)).toUInt32.toUInt16.toUInt32.toInt32)), .val (.ref b75)] [(.ref b84)])) st84 ?_
      refine own_st (T' := T84) (g' := (mkF m 68 #[.val (.int u1), .val (.int u2), .val (.int u3), .val (.int u4), .val (.int (u1 &&& (3 : Int32))), .val (.int ((u2 &&& (255 : Int32)).toUInt32.toUInt16.toUInt32.toInt32)), .val (.int ((u3 &&& (255 : Int32)).toUInt32.toUInt16.toUInt32.toInt32)), .val (.int ((u4 &&& (255 : Int32)).toUInt32.toUInt16.toUInt32.toInt32)), .val (.ref b75)] [(.ref b75), (.ref b84), (.ref b84)])) (fun _ kt => XS.dup X84.here hx rfl (hb hby d1_65) rfl rfl (XS.aload X84.here hx rfl (hb hby d1_66) rfl rfl kt)) ?_
      have F91 : Arv Z h84 b75 k75 .char (1 : Int32) [(.int ((u2 &&& (255 : Int32)).toUInt32.toUInt16.toUInt32.toInt32))] (.int (0 : Int32)) := (F83.ext E84)
      have F92 : Old Z n0 h84 := (Old.ext (Old.wr (Old.ext pr1 E75) W80 ge_b75) E84)
      obtain ⟨_, _, ⟨T93, L93, k93, n93⟩, -, X93, ⟨Lc93, hQ93, l93, y93, z93⟩, st93⟩ := X84.specialBack hx (y := (⟨"java/lang/String", "<init>", "([C)V"⟩ : MethodName)) rfl hown (mvT hZ (own_k hw 8 rfl)) (mvT hZ (own_k hw 9 rfl)) (mvT hZ (own_k hw 10 rfl)) (by decide) (StrChars.Road.backV (W := 1) hZ (own_hws hw) (kI := 4) (own_k hw 5 rfl) (cs := ([((u2 &&& (255 : Int32)).toUInt32.toUInt16.toUInt32.toInt32)] : List Int32)) (bs := (([((u2 &&& (255 : Int32)).toUInt32.toUInt16.toUInt32.toInt32)] : List Int32)).map (fun c => c.toInt8.toInt32)) (n := 1) ge_b84 Z87 A84 F89 F90 F91 (Sta.ext F92.2 pr2) pr3 rfl rfl (by decide) (by decide) (by intro c hc; simp only [List.mem_cons, List.not_mem_nil, or_false] at hc; rcases hc with rfl <;> exact own_ch _) rfl (by decide) (by decide)) (g := (mkF m 68 #[.val (.int u1), .val (.int u2), .val (.int u3), .val (.int u4), .val (.int (u1 &&& (3 : Int32))), .val (.int ((u2 &&& (255 : Int32)).toUInt32.toUInt16.toUInt32.toInt32)), .val (.int ((u3 &&& (255 : Int32)).toUInt32.toUInt16.toUInt32.toInt32)), .val (.int ((u4 &&& (255 : Int32)).toUInt32.toUInt16.toUInt32.toInt32)), .val (.ref b75)] [(.ref b75), (.ref b84), (.ref b84)])) rfl hml.symm (Steps.refl _) (a := b84) (argsL := [(.ref b75)]) (rest := [(.ref b84)]) (lenOf own_pd3 rfl) rfl (by show 2 * 0 + _ ≤ _; exact Nat.le_of_eq rfl) (hb hby d1_68) (fun _ _ => ⟨rfl, e84, (by decide : 2 + 1 ≤ 6), (by decide : 5 + 1 ≤ 16)⟩)
      dsimp only [Pt.U, Pt.locs, Pt.cells, Pt.slots] at X93 l93 y93 z93 st93 hQ93
      subst l93 y93 z93
      obtain ⟨rfl, N93, K93_, gE93, gC93, t93, kb93, gt93, hz93, ht93, gV93, gA93⟩ := hQ93
      have N94 := Fr.app N80 N93
      have CR95 : CHr Z own_EL s.vm h0 s.vm T93.heap := CHr.trans CR86 (CHr.keep K93_ (sfS S88 sf0) CR86.1)
      have Z96 : n0 ≤ T93.heap.size := Nat.le_trans Z87 K93_.1
      have hk96 := Nat.le_trans hk87 K93_.1
      have K96 : Keep h0 T93.heap [] := (Keep.trans K87 K93_ (allS (Or.inr (Nat.le_trans K82.1 (Nat.le_of_eq g84.symm))) all0))
      have ne97 : b75 ≠ t93 := Nat.ne_of_lt (Nat.lt_of_lt_of_le F91.lt hz93)
      have ne98 : b84 ≠ t93 := Nat.ne_of_lt (Nat.lt_of_lt_of_le A84.lt hz93)
      refine own_tr (T' := T93) (g' := (mkF m 71 #[.val (.int u1), .val (.int u2), .val (.int u3), .val (.int u4), .val (.int (u1 &&& (3 : Int32))), .val (.int ((u2 &&& (255 : Int32)).toUInt32.toUInt16.toUInt32.toInt32)), .val (.int ((u3 &&& (255 : Int32)).toUInt32.toUInt16.toUInt32.toInt32)), .val (.int ((u4 &&& (255 : Int32)).toUInt32.toUInt16.toUInt32.toInt32)), .val (.ref b75)] [(.ref b84)])) st93 ?_
      obtain ⟨fs, hr, hrun, hended, hE⟩ := Stand.leaveW X93 hS hk96 (v := some (.ref b84)) (fun h => by rw [Bd.returns] at h; cases h)
      refine own_end (own_retA X93 hx Bd.returns rfl rfl rfl (hb hby d1_71) hr) ⟨_, hrun, hended, _, _, rfl, ?_, (by rw [hh]; show CHr Z own_EL s.vm h0 T93.vm T93.heap; exact CHr.trans CR95 (CHv.at X93 hZ (own_EW hw) CR95.1)), ⟨hE.1, hE.2.1, hE.2.2.1, hE.2.2.2.mono (by decide) (by decide)⟩⟩
      show own_drawnQ Z u1 u2 u3 u4 zc h0 n0 _ T93.heap _
      show own_drawnQ Z u1 u2 u3 u4 zc h0 n0 _ T93.heap _
      exact ⟨b84, t93, kb93, [(.int ((u2 &&& (255 : Int32)).toUInt32.toUInt16.toUInt32.toInt32).toInt8.toInt32)], rfl, N94, K96, gE93, gC93, gV93, (by rw [hc74]; exact gA93)⟩
    · -- pc 48: not (u1 &&& (3 : Int32)) = (1 : Int32)
      refine own_st (T' := s₁) (g' := (mkF m 75 #[.val (.int u1), .val (.int u2), .val (.int u3), .val (.int u4), .val (.int (u1 &&& (3 : Int32))), .val (.int ((u2 &&& (255 : Int32)).toUInt32.toUInt16.toUInt32.toInt32)), .val (.int ((u3 &&& (255 : Int32)).toUInt32.toUInt16.toUInt32.toInt32)), .val (.int ((u4 &&& (255 : Int32)).toUInt32.toUInt16.toUInt32.toInt32)), .unset] [(.int (2 : Int32)), (.int (u1 &&& (3 : Int32)))])) (fun _ kt => XS.icmpYes X0.here hx rfl (pc0 := 48) (pc' := 72) rfl (hb hby d1_48) rfl (XT.ii_ne_t hc74) (by decide) (by decide) (XS.iload X0.here hx rfl (hb hby d1_72) rfl (XS.iconst X0.here hx rfl (hb hby d1_74) kt))) ?_
      by_cases hc99 : (u1 &&& (3 : Int32)) = (2 : Int32)
      · -- pc 75: (u1 &&& (3 : Int32)) = (2 : Int32)
        refine own_st (T' := s₁) (g' := (mkF m 79 #[.val (.int u1), .val (.int u2), .val (.int u3), .val (.int u4), .val (.int (u1 &&& (3 : Int32))), .val (.int ((u2 &&& (255 : Int32)).toUInt32.toUInt16.toUInt32.toInt32)), .val (.int ((u3 &&& (255 : Int32)).toUInt32.toUInt16.toUInt32.toInt32)), .val (.int ((u4 &&& (255 : Int32)).toUInt32.toUInt16.toUInt32.toInt32)), .unset] [(.int (2 : Int32))])) (fun _ kt => XS.icmpNo X0.here hx rfl (hb hby d1_75) rfl (XT.ii_ne_f hc99) (XS.iconst X0.here hx rfl (hb hby d1_78) kt)) ?_
        obtain ⟨T100, h100, k100, X100, e100, E100, A100, st100⟩ := newP X0 hx hZ (aty := .char) (own_k hw 7 rfl) e0 (g := (mkF m 79 #[.val (.int u1), .val (.int u2), .val (.int u3), .val (.int u4), .val (.int (u1 &&& (3 : Int32))), .val (.int ((u2 &&& (255 : Int32)).toUInt32.toUInt16.toUInt32.toInt32)), .val (.int ((u3 &&& (255 : Int32)).toUInt32.toUInt16.toUInt32.toInt32)), .val (.int ((u4 &&& (255 : Int32)).toUInt32.toUInt16.toUInt32.toInt32)), .unset] [(.int (2 : Int32))])) rfl (hb hby d1_79) rfl (by decide) (cap := 2) (by decide) (by decide) (by decide) (by decide)
        obtain ⟨b100, g100⟩ : ∃ z, z = h0.size := ⟨_, rfl⟩
        rw [← g100] at A100 st100
        have CR101 : CHr Z own_EL s.vm h0 s.vm h100 := CHr.trans CR0 (CHr.ext E100 CR0.1)
        have Z102 : n0 ≤ h100.size := Nat.le_trans Z0 E100.1
        have hk102 := Nat.le_trans hk E100.1
        have K102 : Keep h0 h100 [] := (Keep.ext K0 E100)
        have ge_b100 : n0 ≤ b100 := Nat.le_trans Z0 (Nat.le_of_eq g100.symm)
        have S103 : Safe Z own_EL s.vm h100 b100 := (Safe.ext E100 CR0.1 (Safe.new (Nat.le_of_eq g100.symm)))
        have F104 : Arv Z h100 b100 k100 .char (2 : Int32) [(.int (0 : Int32)), (.int (0 : Int32))] (.int (0 : Int32)) := (Arv.new A100 (by decide)).pad (pad_rep [] (.int (0 : Int32)) 2)
        refine own_st (T' := T100) (g' := (mkF m 81 #[.val (.int u1), .val (.int u2), .val (.int u3), .val (.int u4), .val (.int (u1 &&& (3 : Int32))), .val (.int ((u2 &&& (255 : Int32)).toUInt32.toUInt16.toUInt32.toInt32)), .val (.int ((u3 &&& (255 : Int32)).toUInt32.toUInt16.toUInt32.toInt32)), .val (.int ((u4 &&& (255 : Int32)).toUInt32.toUInt16.toUInt32.toInt32)), .unset] [(.ref b100)])) st100 ?_
        refine own_st (T' := T100) (g' := (mkF m 88 #[.val (.int u1), .val (.int u2), .val (.int u3), .val (.int u4), .val (.int (u1 &&& (3 : Int32))), .val (.int ((u2 &&& (255 : Int32)).toUInt32.toUInt16.toUInt32.toInt32)), .val (.int ((u3 &&& (255 : Int32)).toUInt32.toUInt16.toUInt32.toInt32)), .val (.int ((u4 &&& (255 : Int32)).toUInt32.toUInt16.toUInt32.toInt32)), .val (.ref b100)] [(.int ((u2 &&& (255 : Int32)).toUInt32.toUInt16.toUInt32.toInt32)), (.int (0 : Int32)), (.ref b100)])) (fun _ kt => XS.astore X100.here hx rfl (hb hby d1_81) rfl rfl (l' := #[.val (.int u1), .val (.int u2), .val (.int u3), .val (.int u4), .val (.int (u1 &&& (3 : Int32))), .val (.int ((u2 &&& (255 : Int32)).toUInt32.toUInt16.toUInt32.toInt32)), .val (.int ((u3 &&& (255 : Int32)).toUInt32.toUInt16.toUInt32.toInt32)), .val (.int ((u4 &&& (255 : Int32)).toUInt32.toUInt16.toUInt32.toInt32)), .val (.ref b100)]) rfl (XS.aload X100.here hx rfl (hb hby d1_83) rfl rfl (XS.iconst X100.here hx rfl (hb hby d1_85) (XS.iload X100.here hx rfl (hb hby d1_86) rfl kt)))) ?_
        obtain ⟨T105, h105, X105, e105, W105, V105, st105⟩ := own_cst X100 hx hZ e100 F104 ⟨by decide, by decide⟩ (i := 0) rfl (by simp) (y := ((u2 &&& (255 : Int32)).toUInt32.toUInt16.toUInt32.toInt32)) (by simp only [nar, UInt32.toUInt32_toInt32, UInt16.toUInt16_toUInt32]) (g := (mkF m 88 #[.val (.int u1), .val (.int u2), .val (.int u3), .val (.int u4), .val (.int (u1 &&& (3 : Int32))), .val (.int ((u2 &&& (255 : Int32)).toUInt32.toUInt16.toUInt32.toInt32)), .val (.int ((u3 &&& (255 : Int32)).toUInt32.toUInt16.toUInt32.toInt32)), .val (.int ((u4 &&& (255 : Int32)).toUInt32.toUInt16.toUInt32.toInt32)), .val (.ref b100)] [(.int ((u2 &&& (255 : Int32)).toUInt32.toUInt16.toUInt32.toInt32)), (.int (0 : Int32)), (.ref b100)])) rfl rfl (hb hby d1_88)
        have N105 := Fr.snoc X105 N0 ge_b100
        have CR106 : CHr Z own_EL s.vm h0 s.vm h105 := CHr.trans CR101 (CHr.wr W105 S103 CR101.1)
        have Z107 : n0 ≤ h105.size := Nat.le_trans Z102 (Nat.le_of_eq (Wr.size W105).symm)
        have hk107 := Nat.le_trans hk102 (Nat.le_of_eq (Wr.size W105).symm)
        have K107 : Keep h0 h105 [] := (Keep.wr K102 W105 (Or.inr (Nat.le_trans K0.1 (Nat.le_of_eq g100.symm))))
        have F108 : Arv Z h105 b100 k100 .char (2 : Int32) [(.int ((u2 &&& (255 : Int32)).toUInt32.toUInt16.toUInt32.toInt32)), (.int (0 : Int32))] (.int (0 : Int32)) := V105
        refine own_st (T' := T105) (g' := (mkF m 89 #[.val (.int u1), .val (.int u2), .val (.int u3), .val (.int u4), .val (.int (u1 &&& (3 : Int32))), .val (.int ((u2 &&& (255 : Int32)).toUInt32.toUInt16.toUInt32.toInt32)), .val (.int ((u3 &&& (255 : Int32)).toUInt32.toUInt16.toUInt32.toInt32)), .val (.int ((u4 &&& (255 : Int32)).toUInt32.toUInt16.toUInt32.toInt32)), .val (.ref b100)] [])) st105 ?_
        refine own_st (T' := T105) (g' := (mkF m 94 #[.val (.int u1), .val (.int u2), .val (.int u3), .val (.int u4), .val (.int (u1 &&& (3 : Int32))), .val (.int ((u2 &&& (255 : Int32)).toUInt32.toUInt16.toUInt32.toInt32)), .val (.int ((u3 &&& (255 : Int32)).toUInt32.toUInt16.toUInt32.toInt32)), .val (.int ((u4 &&& (255 : Int32)).toUInt32.toUInt16.toUInt32.toInt32)), .val (.ref b100)] [(.int ((u3 &&& (255 : Int32)).toUInt32.toUInt16.toUInt32.toInt32)), (.int (1 : Int32)), (.ref b100)])) (fun _ kt => XS.aload X105.here hx rfl (hb hby d1_89) rfl rfl (XS.iconst X105.here hx rfl (hb hby d1_91) (XS.iload X105.here hx rfl (hb hby d1_92) rfl kt))) ?_
        obtain ⟨T109, h109, X109, e109, W109, V109, st109⟩ := own_cst X105 hx hZ e105 F108 ⟨by decide, by decide⟩ (i := 1) rfl (by simp) (y := ((u3 &&& (255 : Int32)).toUInt32.toUInt16.toUInt32.toInt32)) (by simp only [nar, UInt32.toUInt32_toInt32, UInt16.toUInt16_toUInt32]) (g := (mkF m 94 #[.val (.int u1), .val (.int u2), .val (.int u3), .val (.int u4), .val (.int (u1 &&& (3 : Int32))), .val (.int ((u2 &&& (255 : Int32)).toUInt32.toUInt16.toUInt32.toInt32)), .val (.int ((u3 &&& (255 : Int32)).toUInt32.toUInt16.toUInt32.toInt32)), .val (.int ((u4 &&& (255 : Int32)).toUInt32.toUInt16.toUInt32.toInt32)), .val (.ref b100)] [(.int ((u3 &&& (255 : Int32)).toUInt32.toUInt16.toUInt32.toInt32)), (.int (1 : Int32)), (.ref b100)])) rfl rfl (hb hby d1_94)
        have N109 := Fr.snoc X109 N105 ge_b100
        have F110 : Safe Z own_EL s.vm h105 b100 := (Safe.wr W105 S103 CR101.1 S103)
        have CR111 : CHr Z own_EL s.vm h0 s.vm h109 := CHr.trans CR106 (CHr.wr W109 F110 CR106.1)
        have Z112 : n0 ≤ h109.size := Nat.le_trans Z107 (Nat.le_of_eq (Wr.size W109).symm)
        have hk112 := Nat.le_trans hk107 (Nat.le_of_eq (Wr.size W109).symm)
        have K112 : Keep h0 h109 [] := (Keep.wr K107 W109 (Or.inr (Nat.le_trans K0.1 (Nat.le_of_eq g100.symm))))
        have F113 : Arv Z h109 b100 k100 .char (2 : Int32) [(.int ((u2 &&& (255 : Int32)).toUInt32.toUInt16.toUInt32.toInt32)), (.int ((u3 &&& (255 : Int32)).toUInt32.toUInt16.toUInt32.toInt32))] (.int (0 : Int32)) := V109
        refine own_st (T' := T109) (g' := (mkF m 95 #[.val (.int u1), .val (.int u2), .val (.int u3), .val (.int u4), .val (.int (u1 &&& (3 : Int32))), .val (.int ((u2 &&& (255 : Int32)).toUInt32.toUInt16.toUInt32.toInt32)), .val (.int ((u3 &&& (255 : Int32)).toUInt32.toUInt16.toUInt32.toInt32)), .val (.int ((u4 &&& (255 : Int32)).toUInt32.toUInt16.toUInt32.toInt32)), .val (.ref b100)] [])) st109 ?_
        obtain ⟨T114, h114, X114, e114, E114, A114, D114, -, st114⟩ := newO X109 hx hZ hown (own_k hw 4 rfl) (own_k hw 5 rfl) (own_k hw 6 rfl) e109 (g := (mkF m 95 #[.val (.int u1), .val (.int u2), .val (.int u3), .val (.int u4), .val (.int (u1 &&& (3 : Int32))), .val (.int ((u2 &&& (255 : Int32)).toUInt32.toUInt16.toUInt32.toInt32)), .val (.int ((u3 &&& (255 : Int32)).toUInt32.toUInt16.toUInt32.toInt32)), .val (.int ((u4 &&& (255 : Int32)).toUInt32.toUInt16.toUInt32.toInt32)), .val (.ref b100)] [])) rfl (hb hby d1_95) (by decide) (by decide)
        obtain ⟨b114, g114⟩ : ∃ z, z = h109.size := ⟨_, rfl⟩
        rw [← g114] at A114 D114 st114
        have ne115 : b100 ≠ b114 := by rw [g114]; exact Nat.ne_of_lt F113.lt
        have CR116 : CHr Z own_EL s.vm h0 s.vm h114 := CHr.trans CR111 (CHr.ext E114 CR111.1)
        have Z117 : n0 ≤ h114.size := Nat.le_trans Z112 E114.1
        have hk117 := Nat.le_trans hk112 E114.1
        have K117 : Keep h0 h114 [] := (Keep.ext K112 E114)
        have ge_b114 : n0 ≤ b114 := Nat.le_trans Z112 (Nat.le_of_eq g114.symm)
        have S118 : Safe Z own_EL s.vm h114 b114 := (Safe.ext E114 CR111.1 (Safe.new (Nat.le_of_eq g114.symm)))
        have F119 : Fld Z h114 b114 "java/lang/String" "value" "[B" .null := D114 (Or.inr (own_k hw 20 rfl)) (ty := (.array .byte)) (by decide)
        have F120 : Fld Z h114 b114 "java/lang/String" "coder" "B" (.int (0 : Int32)) := D114 (Or.inr (own_k hw 21 rfl)) (ty := .byte) (by decide)
        refine own_st (T' := T114) (g' := (mkF m 98 #[.val (.int u1), .val (.int u2), .val (.int u3), .val (.int u4), .val (.int (u1 &&& (3 : Int32))), .val (.int ((u2 &&& (255 : Int32)).toUInt32.toUInt16.toUInt32.toInt32)), .val (.int ((u3 &&& (255 : Int32)).toUInt32.toUInt16.toUInt32.toInt32)), .val (.int ((u4 &&& (255 : Int32)).toUInt32.toUInt16.toUInt32.toInt32)), .val (.ref b100)] [(.ref b114)])) st114 ?_
        refine own_st (T' := T114) (g' := (mkF m 101 #[.val (.int u1), .val (.int u2), .val (.int u3), .val (.int u4), .val (.int (u1 &&& (3 : Int32))), .val (.int ((u2 &&& (255 : Int32)).toUInt32.toUInt16.toUInt32.toInt32)), .val (.int ((u3 &&& (255 : Int32)).toUInt32.toUInt16.toUInt32.toInt32)), .val (.int ((u4 &&& (255 : Int32)).toUInt32.toUInt16.toUInt32.toInt32)), .val (.ref b100)] [(.ref b100), (.ref b114), (.ref b114)])) (fun _ kt => XS.dup X114.here hx rfl (hb hby d1_98) rfl rfl (XS.aload X114.here hx rfl (hb hby d1_99) rfl rfl kt)) ?_
        have F121 : Arv Z h114 b100 k100 .char (2 : Int32) [(.int ((u2 &&& (255 : Int32)).toUInt32.toUInt16.toUInt32.toInt32)), (.int ((u3 &&& (255 : Int32)).toUInt32.toUInt16.toUInt32.toInt32))] (.int (0 : Int32)) := (F113.ext E114)
        have F122 : Old Z n0 h114 := (Old.ext (Old.wr (Old.wr (Old.ext pr1 E100) W105 ge_b100) W109 ge_b100) E114)
        obtain ⟨_, _, ⟨T123, L123, k123, n123⟩, -, X123, ⟨Lc123, hQ123, l123, y123, z123⟩, st123⟩ := X114.specialBack hx (y := (⟨"java/lang/String", "<init>", "([C)V"⟩ : MethodName)) rfl hown (mvT hZ (own_k hw 8 rfl)) (mvT hZ (own_k hw 9 rfl)) (mvT hZ (own_k hw 10 rfl)) (by decide) (StrChars.Road.backV (W := 1) hZ (own_hws hw) (kI := 4) (own_k hw 5 rfl) (cs := ([((u2 &&& (255 : Int32)).toUInt32.toUInt16.toUInt32.toInt32), ((u3 &&& (255 : Int32)).toUInt32.toUInt16.toUInt32.toInt32)] : List Int32)) (bs := (([((u2 &&& (255 : Int32)).toUInt32.toUInt16.toUInt32.toInt32), ((u3 &&& (255 : Int32)).toUInt32.toUInt16.toUInt32.toInt32)] : List Int32)).map (fun c => c.toInt8.toInt32)) (n := 2) ge_b114 Z117 A114 F119 F120 F121 (Sta.ext F122.2 pr2) pr3 rfl rfl (by decide) (by decide) (by intro c hc; simp only [List.mem_cons, List.not_mem_nil, or_false] at hc; rcases hc with rfl | rfl <;> exact own_ch _) rfl (by decide) (by decide)) (g := (mkF m 101 #[.val (.int u1), .val (.int u2), .val (.int u3), .val (.int u4), .val (.int (u1 &&& (3 : Int32))), .val (.int ((u2 &&& (255 : Int32)).toUInt32.toUInt16.toUInt32.toInt32)), .val (.int ((u3 &&& (255 : Int32)).toUInt32.toUInt16.toUInt32.toInt32)), .val (.int ((u4 &&& (255 : Int32)).toUInt32.toUInt16.toUInt32.toInt32)), .val (.ref b100)] [(.ref b100), (.ref b114), (.ref b114)])) rfl hml.symm (Steps.refl _) (a := b114) (argsL := [(.ref b100)]) (rest := [(.ref b114)]) (lenOf own_pd3 rfl) rfl (by show 2 * 0 + _ ≤ _; exact Nat.le_of_eq rfl) (hb hby d1_101) (fun _ _ => ⟨rfl, e114, (by decide : 2 + 1 ≤ 6), (by decide : 6 + 2 ≤ 16)⟩)
        dsimp only [Pt.U, Pt.locs, Pt.cells, Pt.slots] at X123 l123 y123 z123 st123 hQ123
        subst l123 y123 z123
        obtain ⟨rfl, N123, K123_, gE123, gC123, t123, kb123, gt123, hz123, ht123, gV123, gA123⟩ := hQ123
        have N124 := Fr.app N109 N123
        have CR125 : CHr Z own_EL s.vm h0 s.vm T123.heap := CHr.trans CR116 (CHr.keep K123_ (sfS S118 sf0) CR116.1)
        have Z126 : n0 ≤ T123.heap.size := Nat.le_trans Z117 K123_.1
        have hk126 := Nat.le_trans hk117 K123_.1
        have K126 : Keep h0 T123.heap [] := (Keep.trans K117 K123_ (allS (Or.inr (Nat.le_trans K112.1 (Nat.le_of_eq g114.symm))) all0))
        have ne127 : b100 ≠ t123 := Nat.ne_of_lt (Nat.lt_of_lt_of_le F121.lt hz123)
        have ne128 : b114 ≠ t123 := Nat.ne_of_lt (Nat.lt_of_lt_of_le A114.lt hz123)
        refine own_tr (T' := T123) (g' := (mkF m 104 #[.val (.int u1), .val (.int u2), .val (.int u3), .val (.int u4), .val (.int (u1 &&& (3 : Int32))), .val (.int ((u2 &&& (255 : Int32)).toUInt32.toUInt16.toUInt32.toInt32)), .val (.int ((u3 &&& (255 : Int32)).toUInt32.toUInt16.toUInt32.toInt32)), .val (.int ((u4 &&& (255 : Int32)).toUInt32.toUInt16.toUInt32.toInt32)), .val (.ref b100)] [(.ref b114)])) st123 ?_
        obtain ⟨fs, hr, hrun, hended, hE⟩ := Stand.leaveW X123 hS hk126 (v := some (.ref b114)) (fun h => by rw [Bd.returns] at h; cases h)
        refine own_end (own_retA X123 hx Bd.returns rfl rfl rfl (hb hby d1_104) hr) ⟨_, hrun, hended, _, _, rfl, ?_, (by rw [hh]; show CHr Z own_EL s.vm h0 T123.vm T123.heap; exact CHr.trans CR125 (CHv.at X123 hZ (own_EW hw) CR125.1)), ⟨hE.1, hE.2.1, hE.2.2.1, hE.2.2.2.mono (by decide) (by decide)⟩⟩
        show own_drawnQ Z u1 u2 u3 u4 zc h0 n0 _ T123.heap _
        show own_drawnQ Z u1 u2 u3 u4 zc h0 n0 _ T123.heap _
        exact ⟨b114, t123, kb123, [(.int ((u2 &&& (255 : Int32)).toUInt32.toUInt16.toUInt32.toInt32).toInt8.toInt32), (.int ((u3 &&& (255 : Int32)).toUInt32.toUInt16.toUInt32.toInt32).toInt8.toInt32)], rfl, N124, K126, gE123, gC123, gV123, (by rw [hc99]; exact gA123)⟩
      · -- pc 75: not (u1 &&& (3 : Int32)) = (2 : Int32)
        refine own_st (T' := s₁) (g' := (mkF m 106 #[.val (.int u1), .val (.int u2), .val (.int u3), .val (.int u4), .val (.int (u1 &&& (3 : Int32))), .val (.int ((u2 &&& (255 : Int32)).toUInt32.toUInt16.toUInt32.toInt32)), .val (.int ((u3 &&& (255 : Int32)).toUInt32.toUInt16.toUInt32.toInt32)), .val (.int ((u4 &&& (255 : Int32)).toUInt32.toUInt16.toUInt32.toInt32)), .unset] [(.int (3 : Int32))])) (fun _ kt => XS.icmpYes X0.here hx rfl (pc0 := 75) (pc' := 105) rfl (hb hby d1_75) rfl (XT.ii_ne_t hc99) (by decide) (by decide) (XS.iconst X0.here hx rfl (hb hby d1_105) kt)) ?_
        obtain ⟨T129, h129, k129, X129, e129, E129, A129, st129⟩ := newP X0 hx hZ (aty := .char) (own_k hw 7 rfl) e0 (g := (mkF m 106 #[.val (.int u1), .val (.int u2), .val (.int u3), .val (.int u4), .val (.int (u1 &&& (3 : Int32))), .val (.int ((u2 &&& (255 : Int32)).toUInt32.toUInt16.toUInt32.toInt32)), .val (.int ((u3 &&& (255 : Int32)).toUInt32.toUInt16.toUInt32.toInt32)), .val (.int ((u4 &&& (255 : Int32)).toUInt32.toUInt16.toUInt32.toInt32)), .unset] [(.int (3 : Int32))])) rfl (hb hby d1_106) rfl (by decide) (cap := 3) (by decide) (by decide) (by decide) (by decide)
        obtain ⟨b129, g129⟩ : ∃ z, z = h0.size := ⟨_, rfl⟩
        rw [← g129] at A129 st129
        have CR130 : CHr Z own_EL s.vm h0 s.vm h129 := CHr.trans CR0 (CHr.ext E129 CR0.1)
        have Z131 : n0 ≤ h129.size := Nat.le_trans Z0 E129.1
        have hk131 := Nat.le_trans hk E129.1
        have K131 : Keep h0 h129 [] := (Keep.ext K0 E129)
        have ge_b129 : n0 ≤ b129 := Nat.le_trans Z0 (Nat.le_of_eq g129.symm)
        have S132 : Safe Z own_EL s.vm h129 b129 := (Safe.ext E129 CR0.1 (Safe.new (Nat.le_of_eq g129.symm)))
        have F133 : Arv Z h129 b129 k129 .char (3 : Int32) [(.int (0 : Int32)), (.int (0 : Int32)), (.int (0 : Int32))] (.int (0 : Int32)) := (Arv.new A129 (by decide)).pad (pad_rep [] (.int (0 : Int32)) 3)
        refine own_st (T' := T129) (g' := (mkF m 108 #[.val (.int u1), .val (.int u2), .val (.int u3), .val (.int u4), .val (.int (u1 &&& (3 : Int32))), .val (.int ((u2 &&& (255 : Int32)).toUInt32.toUInt16.toUInt32.toInt32)), .val (.int ((u3 &&& (255 : Int32)).toUInt32.toUInt16.toUInt32.toInt32)), .val (.int ((u4 &&& (255 : Int32)).toUInt32.toUInt16.toUInt32.toInt32)), .unset] [(.ref b129)])) st129 ?_
        refine own_st (T' := T129) (g' := (mkF m 115 #[.val (.int u1), .val (.int u2), .val (.int u3), .val (.int u4), .val (.int (u1 &&& (3 : Int32))), .val (.int ((u2 &&& (255 : Int32)).toUInt32.toUInt16.toUInt32.toInt32)), .val (.int ((u3 &&& (255 : Int32)).toUInt32.toUInt16.toUInt32.toInt32)), .val (.int ((u4 &&& (255 : Int32)).toUInt32.toUInt16.toUInt32.toInt32)), .val (.ref b129)] [(.int ((u2 &&& (255 : Int32)).toUInt32.toUInt16.toUInt32.toInt32)), (.int (0 : Int32)), (.ref b129)])) (fun _ kt => XS.astore X129.here hx rfl (hb hby d1_108) rfl rfl (l' := #[.val (.int u1), .val (.int u2), .val (.int u3), .val (.int u4), .val (.int (u1 &&& (3 : Int32))), .val (.int ((u2 &&& (255 : Int32)).toUInt32.toUInt16.toUInt32.toInt32)), .val (.int ((u3 &&& (255 : Int32)).toUInt32.toUInt16.toUInt32.toInt32)), .val (.int ((u4 &&& (255 : Int32)).toUInt32.toUInt16.toUInt32.toInt32)), .val (.ref b129)]) rfl (XS.aload X129.here hx rfl (hb hby d1_110) rfl rfl (XS.iconst X129.here hx rfl (hb hby d1_112) (XS.iload X129.here hx rfl (hb hby d1_113) rfl kt)))) ?_
        obtain ⟨T134, h134, X134, e134, W134, V134, st134⟩ := own_cst X129 hx hZ e129 F133 ⟨by decide, by decide⟩ (i := 0) rfl (by simp) (y := ((u2 &&& (255 : Int32)).toUInt32.toUInt16.toUInt32.toInt32)) (by simp only [nar, UInt32.toUInt32_toInt32, UInt16.toUInt16_toUInt32]) (g := (mkF m 115 #[.val (.int u1), .val (.int u2), .val (.int u3), .val (.int u4), .val (.int (u1 &&& (3 : Int32))), .val (.int ((u2 &&& (255 : Int32)).toUInt32.toUInt16.toUInt32.toInt32)), .val (.int ((u3 &&& (255 : Int32)).toUInt32.toUInt16.toUInt32.toInt32)), .val (.int ((u4 &&& (255 : Int32)).toUInt32.toUInt16.toUInt32.toInt32)), .val (.ref b129)] [(.int ((u2 &&& (255 : Int32)).toUInt32.toUInt16.toUInt32.toInt32)), (.int (0 : Int32)), (.ref b129)])) rfl rfl (hb hby d1_115)
        have N134 := Fr.snoc X134 N0 ge_b129
        have CR135 : CHr Z own_EL s.vm h0 s.vm h134 := CHr.trans CR130 (CHr.wr W134 S132 CR130.1)
        have Z136 : n0 ≤ h134.size := Nat.le_trans Z131 (Nat.le_of_eq (Wr.size W134).symm)
        have hk136 := Nat.le_trans hk131 (Nat.le_of_eq (Wr.size W134).symm)
        have K136 : Keep h0 h134 [] := (Keep.wr K131 W134 (Or.inr (Nat.le_trans K0.1 (Nat.le_of_eq g129.symm))))
        have F137 : Arv Z h134 b129 k129 .char (3 : Int32) [(.int ((u2 &&& (255 : Int32)).toUInt32.toUInt16.toUInt32.toInt32)), (.int (0 : Int32)), (.int (0 : Int32))] (.int (0 : Int32)) := V134
        refine own_st (T' := T134) (g' := (mkF m 116 #[.val (.int u1), .val (.int u2), .val (.int u3), .val (.int u4), .val (.int (u1 &&& (3 : Int32))), .val (.int ((u2 &&& (255 : Int32)).toUInt32.toUInt16.toUInt32.toInt32)), .val (.int ((u3 &&& (255 : Int32)).toUInt32.toUInt16.toUInt32.toInt32)), .val (.int ((u4 &&& (255 : Int32)).toUInt32.toUInt16.toUInt32.toInt32)), .val (.ref b129)] [])) st134 ?_
        refine own_st (T' := T134) (g' := (mkF m 121 #[.val (.int u1), .val (.int u2), .val (.int u3), .val (.int u4), .val (.int (u1 &&& (3 : Int32))), .val (.int ((u2 &&& (255 : Int32)).toUInt32.toUInt16.toUInt32.toInt32)), .val (.int ((u3 &&& (255 : Int32)).toUInt32.toUInt16.toUInt32.toInt32)), .val (.int ((u4 &&& (255 : Int32)).toUInt32.toUInt16.toUInt32.toInt32)), .val (.ref b129)] [(.int ((u3 &&& (255 : Int32)).toUInt32.toUInt16.toUInt32.toInt32)), (.int (1 : Int32)), (.ref b129)])) (fun _ kt => XS.aload X134.here hx rfl (hb hby d1_116) rfl rfl (XS.iconst X134.here hx rfl (hb hby d1_118) (XS.iload X134.here hx rfl (hb hby d1_119) rfl kt))) ?_
        obtain ⟨T138, h138, X138, e138, W138, V138, st138⟩ := own_cst X134 hx hZ e134 F137 ⟨by decide, by decide⟩ (i := 1) rfl (by simp) (y := ((u3 &&& (255 : Int32)).toUInt32.toUInt16.toUInt32.toInt32)) (by simp only [nar, UInt32.toUInt32_toInt32, UInt16.toUInt16_toUInt32]) (g := (mkF m 121 #[.val (.int u1), .val (.int u2), .val (.int u3), .val (.int u4), .val (.int (u1 &&& (3 : Int32))), .val (.int ((u2 &&& (255 : Int32)).toUInt32.toUInt16.toUInt32.toInt32)), .val (.int ((u3 &&& (255 : Int32)).toUInt32.toUInt16.toUInt32.toInt32)), .val (.int ((u4 &&& (255 : Int32)).toUInt32.toUInt16.toUInt32.toInt32)), .val (.ref b129)] [(.int ((u3 &&& (255 : Int32)).toUInt32.toUInt16.toUInt32.toInt32)), (.int (1 : Int32)), (.ref b129)])) rfl rfl (hb hby d1_121)
        have N138 := Fr.snoc X138 N134 ge_b129
        have F139 : Safe Z own_EL s.vm h134 b129 := (Safe.wr W134 S132 CR130.1 S132)
        have CR140 : CHr Z own_EL s.vm h0 s.vm h138 := CHr.trans CR135 (CHr.wr W138 F139 CR135.1)
        have Z141 : n0 ≤ h138.size := Nat.le_trans Z136 (Nat.le_of_eq (Wr.size W138).symm)
        have hk141 := Nat.le_trans hk136 (Nat.le_of_eq (Wr.size W138).symm)
        have K141 : Keep h0 h138 [] := (Keep.wr K136 W138 (Or.inr (Nat.le_trans K0.1 (Nat.le_of_eq g129.symm))))
        have F142 : Arv Z h138 b129 k129 .char (3 : Int32) [(.int ((u2 &&& (255 : Int32)).toUInt32.toUInt16.toUInt32.toInt32)), (.int ((u3 &&& (255 : Int32)).toUInt32.toUInt16.toUInt32.toInt32)), (.int (0 : Int32))] (.int (0 : Int32)) := V138
        refine own_st (T' := T138) (g' := (mkF m 122 #[.val (.int u1), .val (.int u2), .val (.int u3), .val (.int u4), .val (.int (u1 &&& (3 : Int32))), .val (.int ((u2 &&& (255 : Int32)).toUInt32.toUInt16.toUInt32.toInt32)), .val (.int ((u3 &&& (255 : Int32)).toUInt32.toUInt16.toUInt32.toInt32)), .val (.int ((u4 &&& (255 : Int32)).toUInt32.toUInt16.toUInt32.toInt32)), .val (.ref b129)] [])) st138 ?_
        refine own_st (T' := T138) (g' := (mkF m 127 #[.val (.int u1), .val (.int u2), .val (.int u3), .val (.int u4), .val (.int (u1 &&& (3 : Int32))), .val (.int ((u2 &&& (255 : Int32)).toUInt32.toUInt16.toUInt32.toInt32)), .val (.int ((u3 &&& (255 : Int32)).toUInt32.toUInt16.toUInt32.toInt32)), .val (.int ((u4 &&& (255 : Int32)).toUInt32.toUInt16.toUInt32.toInt32)), .val (.ref b129)] [(.int ((u4 &&& (255 : Int32)).toUInt32.toUInt16.toUInt32.toInt32)), (.int (2 : Int32)), (.ref b129)])) (fun _ kt => XS.aload X138.here hx rfl (hb hby d1_122) rfl rfl (XS.iconst X138.here hx rfl (hb hby d1_124) (XS.iload X138.here hx rfl (hb hby d1_125) rfl kt))) ?_
        obtain ⟨T143, h143, X143, e143, W143, V143, st143⟩ := own_cst X138 hx hZ e138 F142 ⟨by decide, by decide⟩ (i := 2) rfl (by simp) (y := ((u4 &&& (255 : Int32)).toUInt32.toUInt16.toUInt32.toInt32)) (by simp only [nar, UInt32.toUInt32_toInt32, UInt16.toUInt16_toUInt32]) (g := (mkF m 127 #[.val (.int u1), .val (.int u2), .val (.int u3), .val (.int u4), .val (.int (u1 &&& (3 : Int32))), .val (.int ((u2 &&& (255 : Int32)).toUInt32.toUInt16.toUInt32.toInt32)), .val (.int ((u3 &&& (255 : Int32)).toUInt32.toUInt16.toUInt32.toInt32)), .val (.int ((u4 &&& (255 : Int32)).toUInt32.toUInt16.toUInt32.toInt32)), .val (.ref b129)] [(.int ((u4 &&& (255 : Int32)).toUInt32.toUInt16.toUInt32.toInt32)), (.int (2 : Int32)), (.ref b129)])) rfl rfl (hb hby d1_127)
        have N143 := Fr.snoc X143 N138 ge_b129
        have F144 : Safe Z own_EL s.vm h138 b129 := (Safe.wr W138 F139 CR135.1 F139)
        have CR145 : CHr Z own_EL s.vm h0 s.vm h143 := CHr.trans CR140 (CHr.wr W143 F144 CR140.1)
        have Z146 : n0 ≤ h143.size := Nat.le_trans Z141 (Nat.le_of_eq (Wr.size W143).symm)
        have hk146 := Nat.le_trans hk141 (Nat.le_of_eq (Wr.size W143).symm)
        have K146 : Keep h0 h143 [] := (Keep.wr K141 W143 (Or.inr (Nat.le_trans K0.1 (Nat.le_of_eq g129.symm))))
        have F147 : Arv Z h143 b129 k129 .char (3 : Int32) [(.int ((u2 &&& (255 : Int32)).toUInt32.toUInt16.toUInt32.toInt32)), (.int ((u3 &&& (255 : Int32)).toUInt32.toUInt16.toUInt32.toInt32)), (.int ((u4 &&& (255 : Int32)).toUInt32.toUInt16.toUInt32.toInt32))] (.int (0 : Int32)) := V143
        refine own_st (T' := T143) (g' := (mkF m 128 #[.val (.int u1), .val (.int u2), .val (.int u3), .val (.int u4), .val (.int (u1 &&& (3 : Int32))), .val (.int ((u2 &&& (255 : Int32)).toUInt32.toUInt16.toUInt32.toInt32)), .val (.int ((u3 &&& (255 : Int32)).toUInt32.toUInt16.toUInt32.toInt32)), .val (.int ((u4 &&& (255 : Int32)).toUInt32.toUInt16.toUInt32.toInt32)), .val (.ref b129)] [])) st143 ?_
        obtain ⟨T148, h148, X148, e148, E148, A148, D148, -, st148⟩ := newO X143 hx hZ hown (own_k hw 4 rfl) (own_k hw 5 rfl) (own_k hw 6 rfl) e143 (g := (mkF m 128 #[.val (.int u1), .val (.int u2), .val (.int u3), .val (.int u4), .val (.int (u1 &&& (3 : Int32))), .val (.int ((u2 &&& (255 : Int32)).toUInt32.toUInt16.toUInt32.toInt32)), .val (.int ((u3 &&& (255 : Int32)).toUInt32.toUInt16.toUInt32.toInt32)), .val (.int ((u4 &&& (255 : Int32)).toUInt32.toUInt16.toUInt32.toInt32)), .val (.ref b129)] [])) rfl (hb hby d1_128) (by decide) (by decide)
        obtain ⟨b148, g148⟩ : ∃ z, z = h143.size := ⟨_, rfl⟩
        rw [← g148] at A148 D148 st148
        have ne149 : b129 ≠ b148 := by rw [g148]; exact Nat.ne_of_lt F147.lt
        have CR150 : CHr Z own_EL s.vm h0 s.vm h148 := CHr.trans CR145 (CHr.ext E148 CR145.1)
        have Z151 : n0 ≤ h148.size := Nat.le_trans Z146 E148.1
        have hk151 := Nat.le_trans hk146 E148.1
        have K151 : Keep h0 h148 [] := (Keep.ext K146 E148)
        have ge_b148 : n0 ≤ b148 := Nat.le_trans Z146 (Nat.le_of_eq g148.symm)
        have S152 : Safe Z own_EL s.vm h148 b148 := (Safe.ext E148 CR145.1 (Safe.new (Nat.le_of_eq g148.symm)))
        have F153 : Fld Z h148 b148 "java/lang/String" "value" "[B" .null := D148 (Or.inr (own_k hw 20 rfl)) (ty := (.array .byte)) (by decide)
        have F154 : Fld Z h148 b148 "java/lang/String" "coder" "B" (.int (0 : Int32)) := D148 (Or.inr (own_k hw 21 rfl)) (ty := .byte) (by decide)
        refine own_st (T' := T148) (g' := (mkF m 131 #[.val (.int u1), .val (.int u2), .val (.int u3), .val (.int u4), .val (.int (u1 &&& (3 : Int32))), .val (.int ((u2 &&& (255 : Int32)).toUInt32.toUInt16.toUInt32.toInt32)), .val (.int ((u3 &&& (255 : Int32)).toUInt32.toUInt16.toUInt32.toInt32)), .val (.int ((u4 &&& (255 : Int32)).toUInt32.toUInt16.toUInt32.toInt32)), .val (.ref b129)] [(.ref b148)])) st148 ?_
        refine own_st (T' := T148) (g' := (mkF m 134 #[.val (.int u1), .val (.int u2), .val (.int u3), .val (.int u4), .val (.int (u1 &&& (3 : Int32))), .val (.int ((u2 &&& (255 : Int32)).toUInt32.toUInt16.toUInt32.toInt32)), .val (.int ((u3 &&& (255 : Int32)).toUInt32.toUInt16.toUInt32.toInt32)), .val (.int ((u4 &&& (255 : Int32)).toUInt32.toUInt16.toUInt32.toInt32)), .val (.ref b129)] [(.ref b129), (.ref b148), (.ref b148)])) (fun _ kt => XS.dup X148.here hx rfl (hb hby d1_131) rfl rfl (XS.aload X148.here hx rfl (hb hby d1_132) rfl rfl kt)) ?_
        have F155 : Arv Z h148 b129 k129 .char (3 : Int32) [(.int ((u2 &&& (255 : Int32)).toUInt32.toUInt16.toUInt32.toInt32)), (.int ((u3 &&& (255 : Int32)).toUInt32.toUInt16.toUInt32.toInt32)), (.int ((u4 &&& (255 : Int32)).toUInt32.toUInt16.toUInt32.toInt32))] (.int (0 : Int32)) := (F147.ext E148)
        have F156 : Old Z n0 h148 := (Old.ext (Old.wr (Old.wr (Old.wr (Old.ext pr1 E129) W134 ge_b129) W138 ge_b129) W143 ge_b129) E148)
        obtain ⟨_, _, ⟨T157, L157, k157, n157⟩, -, X157, ⟨Lc157, hQ157, l157, y157, z157⟩, st157⟩ := X148.specialBack hx (y := (⟨"java/lang/String", "<init>", "([C)V"⟩ : MethodName)) rfl hown (mvT hZ (own_k hw 8 rfl)) (mvT hZ (own_k hw 9 rfl)) (mvT hZ (own_k hw 10 rfl)) (by decide) (StrChars.Road.backV (W := 1) hZ (own_hws hw) (kI := 4) (own_k hw 5 rfl) (cs := ([((u2 &&& (255 : Int32)).toUInt32.toUInt16.toUInt32.toInt32), ((u3 &&& (255 : Int32)).toUInt32.toUInt16.toUInt32.toInt32), ((u4 &&& (255 : Int32)).toUInt32.toUInt16.toUInt32.toInt32)] : List Int32)) (bs := (([((u2 &&& (255 : Int32)).toUInt32.toUInt16.toUInt32.toInt32), ((u3 &&& (255 : Int32)).toUInt32.toUInt16.toUInt32.toInt32), ((u4 &&& (255 : Int32)).toUInt32.toUInt16.toUInt32.toInt32)] : List Int32)).map (fun c => c.toInt8.toInt32)) (n := 3) ge_b148 Z151 A148 F153 F154 F155 (Sta.ext F156.2 pr2) pr3 rfl rfl (by decide) (by decide) (by intro c hc; simp only [List.mem_cons, List.not_mem_nil, or_false] at hc; rcases hc with rfl | rfl | rfl <;> exact own_ch _) rfl (by decide) (by decide)) (g := (mkF m 134 #[.val (.int u1), .val (.int u2), .val (.int u3), .val (.int u4), .val (.int (u1 &&& (3 : Int32))), .val (.int ((u2 &&& (255 : Int32)).toUInt32.toUInt16.toUInt32.toInt32)), .val (.int ((u3 &&& (255 : Int32)).toUInt32.toUInt16.toUInt32.toInt32)), .val (.int ((u4 &&& (255 : Int32)).toUInt32.toUInt16.toUInt32.toInt32)), .val (.ref b129)] [(.ref b129), (.ref b148), (.ref b148)])) rfl hml.symm (Steps.refl _) (a := b148) (argsL := [(.ref b129)]) (rest := [(.ref b148)]) (lenOf own_pd3 rfl) rfl (by show 2 * 0 + _ ≤ _; exact Nat.le_of_eq rfl) (hb hby d1_134) (fun _ _ => ⟨rfl, e148, (by decide : 2 + 1 ≤ 6), (by decide : 7 + 3 ≤ 16)⟩)
        dsimp only [Pt.U, Pt.locs, Pt.cells, Pt.slots] at X157 l157 y157 z157 st157 hQ157
        subst l157 y157 z157
        obtain ⟨rfl, N157, K157_, gE157, gC157, t157, kb157, gt157, hz157, ht157, gV157, gA157⟩ := hQ157
        have N158 := Fr.app N143 N157
        have CR159 : CHr Z own_EL s.vm h0 s.vm T157.heap := CHr.trans CR150 (CHr.keep K157_ (sfS S152 sf0) CR150.1)
        have Z160 : n0 ≤ T157.heap.size := Nat.le_trans Z151 K157_.1
        have hk160 := Nat.le_trans hk151 K157_.1
        have K160 : Keep h0 T157.heap [] := (Keep.trans K151 K157_ (allS (Or.inr (Nat.le_trans K146.1 (Nat.le_of_eq g148.symm))) all0))
        have ne161 : b129 ≠ t157 := Nat.ne_of_lt (Nat.lt_of_lt_of_le F155.lt hz157)
        have ne162 : b148 ≠ t157 := Nat.ne_of_lt (Nat.lt_of_lt_of_le A148.lt hz157)
        refine own_tr (T' := T157) (g' := (mkF m 137 #[.val (.int u1), .val (.int u2), .val (.int u3), .val (.int u4), .val (.int (u1 &&& (3 : Int32))), .val (.int ((u2 &&& (255 : Int32)).toUInt32.toUInt16.toUInt32.toInt32)), .val (.int ((u3 &&& (255 : Int32)).toUInt32.toUInt16.toUInt32.toInt32)), .val (.int ((u4 &&& (255 : Int32)).toUInt32.toUInt16.toUInt32.toInt32)), .val (.ref b129)] [(.ref b148)])) st157 ?_
        obtain ⟨fs, hr, hrun, hended, hE⟩ := Stand.leaveW X157 hS hk160 (v := some (.ref b148)) (fun h => by rw [Bd.returns] at h; cases h)
        refine own_end (own_retA X157 hx Bd.returns rfl rfl rfl (hb hby d1_137) hr) ⟨_, hrun, hended, _, _, rfl, ?_, (by rw [hh]; show CHr Z own_EL s.vm h0 T157.vm T157.heap; exact CHr.trans CR159 (CHv.at X157 hZ (own_EW hw) CR159.1)), ⟨hE.1, hE.2.1, hE.2.2.1, hE.2.2.2.mono (by decide) (by decide)⟩⟩
        show own_drawnQ Z u1 u2 u3 u4 zc h0 n0 _ T157.heap _
        show own_drawnQ Z u1 u2 u3 u4 zc h0 n0 _ T157.heap _
        exact ⟨b148, t157, kb157, [(.int ((u2 &&& (255 : Int32)).toUInt32.toUInt16.toUInt32.toInt32).toInt8.toInt32), (.int ((u3 &&& (255 : Int32)).toUInt32.toUInt16.toUInt32.toInt32).toInt8.toInt32), (.int ((u4 &&& (255 : Int32)).toUInt32.toUInt16.toUInt32.toInt32).toInt8.toInt32)], rfl, N158, K160, gE157, gC157, gV157, (by rw [own_three hc49 hc74 hc99]; exact gA157)⟩
theorem d6_0 : decode prog_7_method_1_code 0 = .ok (.aload_n 0, 1) := by decide +kernel
theorem d6_1 : decode prog_7_method_1_code 1 = .ok (.invokespecial 1, 3) := by decide +kernel
theorem own_pd4 : parseMethodDescriptor "()V" = some ⟨[], none⟩ := by decide +kernel
theorem d6_4 : decode prog_7_method_1_code 4 = .ok (.aload_n 0, 1) := by decide +kernel
theorem d6_5 : decode prog_7_method_1_code 5 = .ok (.aload_n 1, 1) := by decide +kernel
theorem d6_6 : decode prog_7_method_1_code 6 = .ok (.putfield 7, 3) := by decide +kernel
theorem d6_9 : decode prog_7_method_1_code 9 = .ok (.aload_n 0, 1) := by decide +kernel
theorem d6_10 : decode prog_7_method_1_code 10 = .ok (.aload_n 2, 1) := by decide +kernel
theorem d6_11 : decode prog_7_method_1_code 11 = .ok (.putfield 13, 3) := by decide +kernel
theorem d6_14 : decode prog_7_method_1_code 14 = .ok (.aload_n 0, 1) := by decide +kernel
theorem d6_15 : decode prog_7_method_1_code 15 = .ok (.aload_n 3, 1) := by decide +kernel
theorem d6_16 : decode prog_7_method_1_code 16 = .ok (.putfield 17, 3) := by decide +kernel
theorem d6_19 : decode prog_7_method_1_code 19 = .ok (.return_, 1) := by decide +kernel
set_option maxHeartbeats 4000000 in
theorem own_ef6 (m : MethodId) (x0 : Addr) (x1 : Addr) (x3 : Addr) : entryFrame m #[(.ref x0), (.ref x1), .null, (.ref x3)] 4 = mkF m 0 #[.val (.ref x0), .val (.ref x1), .val .null, .val (.ref x3)] [] := by first | (simp [entryFrame, mkF, argsToLocals, Value.category]; done) | rfl
def own_r8Q (Z : State) (a : Addr) (kd : Addr) (sc : Addr) (h0 : Heap) (n0 : Nat) (v : Option Value) (h : Heap) (L : List Loc) : Prop := v = none ∧ Fr n0 L ∧ Keep h0 h [a] ∧ (Exa Z h a "com/example/zorgbrug/zorgbrug/auth/TokenVerdict") ∧ (Fld Z h a "com/example/zorgbrug/zorgbrug/auth/TokenVerdict" "kind" "Lcom/example/zorgbrug/zorgbrug/auth/TokenVerdict$Kind;" (.ref kd)) ∧ (Fld Z h a "com/example/zorgbrug/zorgbrug/auth/TokenVerdict" "patientId" "Ljava/lang/String;" .null) ∧ (Fld Z h a "com/example/zorgbrug/zorgbrug/auth/TokenVerdict" "scope" "Ljava/lang/String;" (.ref sc))
theorem own_pn4 : plainName "com/example/zorgbrug/zorgbrug/auth/TokenVerdict" = true := by first | (simp [plainName, overriddenIn]; done) | decide +kernel
abbrev own_r8R : Room := { frames := 2, cells := 0, slots := 0, locals := 24 }
set_option maxRecDepth 65536 in
set_option maxHeartbeats 40000000 in
theorem own_r8 (l : Launch) (Z : State) (a0 : Array Value) (hw : ∀ d ∈ tables_1, d.before a0 Z = true) (ws : List Jvm.Cond) (a : Addr) (kd : Addr) (sc : Addr) (h0 : Heap) (n0 : Nat) (Z0 : n0 ≤ h0.size) (pr1 : Exa Z h0 a "com/example/zorgbrug/zorgbrug/auth/TokenVerdict") (pr2 : n0 ≤ a) (pr3 : Fld Z h0 a "com/example/zorgbrug/zorgbrug/auth/TokenVerdict" "kind" "Lcom/example/zorgbrug/zorgbrug/auth/TokenVerdict$Kind;" .null) (pr4 : Fld Z h0 a "com/example/zorgbrug/zorgbrug/auth/TokenVerdict" "patientId" "Ljava/lang/String;" .null) (pr5 : Fld Z h0 a "com/example/zorgbrug/zorgbrug/auth/TokenVerdict" "scope" "Ljava/lang/String;" .null) :
    own_M l (⟨"com/example/zorgbrug/zorgbrug/auth/TokenVerdict", "<init>", "(Lcom/example/zorgbrug/zorgbrug/auth/TokenVerdict$Kind;Ljava/lang/String;Ljava/lang/String;)V"⟩ : MethodName) prog_7_method_1_code 4 none ws own_r8R #[(.ref a), (.ref kd), .null, (.ref sc)] Z h0 (own_r8Q Z a kd sc h0 n0) := by
  refine own_go (plainFor_of_name own_pn4) (fun m => own_ef6 m a kd sc ) ?_
  intro p e s m below meth c s₁ Bd hx hby hml hZ hh hown hnm X0 e0
  have N0 := Fr.nil n0
  have K0 : Keep h0 h0 [a] := Keep.refl h0 _
  refine own_st (T' := s₁) (g' := (mkF m 1 #[.val (.ref a), .val (.ref kd), .val .null, .val (.ref sc)] [(.ref a)])) (fun _ kt => XS.aloadN X0.here hx rfl (hb hby d6_0) rfl rfl kt) ?_
  obtain ⟨_, _, ⟨T163, L163, k163, n163⟩, -, X163, ⟨Lc163, hQ163, l163, y163, z163⟩, st163⟩ := X0.specialBack hx (y := (⟨"java/lang/Record", "<init>", "()V"⟩ : MethodName)) rfl hown (mvT hZ (own_k hw 38 rfl)) (mvT hZ (own_k hw 39 rfl)) (mvT hZ (own_k hw 42 rfl)) (by decide) (backOf (W := 0) (own_r5 l Z a0 hw [] a h0 n0 Z0 ) hZ (own_k hw 42 rfl) (own_k hw 41 rfl) (by decide) (by decide)) (g := (mkF m 1 #[.val (.ref a), .val (.ref kd), .val .null, .val (.ref sc)] [(.ref a)])) rfl hml.symm (Steps.refl _) (a := a) (argsL := []) (rest := []) (lenOf own_pd4 rfl) rfl (by show 2 * 0 + _ ≤ _; exact Nat.le_of_eq rfl) (hb hby d6_1) (fun _ _ => ⟨rfl, e0, (by decide : 0 + 0 ≤ 0), (by decide : 0 + 0 ≤ 0)⟩)
  dsimp only [Pt.U, Pt.locs, Pt.cells, Pt.slots] at X163 l163 y163 z163 st163 hQ163
  subst l163 y163 z163
  obtain ⟨rfl, N163, e163⟩ := hQ163
  have N164 := Fr.app N0 N163
  refine own_tr (T' := T163) (g' := (mkF m 4 #[.val (.ref a), .val (.ref kd), .val .null, .val (.ref sc)] [])) st163 ?_
  refine own_st (T' := T163) (g' := (mkF m 6 #[.val (.ref a), .val (.ref kd), .val .null, .val (.ref sc)] [(.ref kd), (.ref a)])) (fun _ kt => XS.aloadN X163.here hx rfl (hb hby d6_4) rfl rfl (XS.aloadN X163.here hx rfl (hb hby d6_5) rfl rfl kt)) ?_
  obtain ⟨T165, h165, X165, e165, W165, st165⟩ := putF X163 hx hZ hown (host := "") (Or.inl (own_k hw 44 rfl)) Via.refl e163 pr3 pr1 (Or.inr ⟨(own_k hw 45 rfl), rfl, hnm⟩) (own_k hw 31 rfl) (ty := (.object "com/example/zorgbrug/zorgbrug/auth/TokenVerdict$Kind")) (by decide) rfl rfl (g := (mkF m 6 #[.val (.ref a), .val (.ref kd), .val .null, .val (.ref sc)] [(.ref kd), (.ref a)])) rfl rfl (hb hby d6_6)
  have N165 := Fr.snoc X165 N164 pr2
  have Z166 : n0 ≤ h165.size := Nat.le_trans Z0 (Nat.le_of_eq (Wr.size W165).symm)
  have K166 : Keep h0 h165 [a] := (Keep.wr K0 W165 (Or.inl (List.mem_of_getElem? (i := 0) rfl)))
  have F167 : Fld Z h165 a "com/example/zorgbrug/zorgbrug/auth/TokenVerdict" "kind" "Lcom/example/zorgbrug/zorgbrug/auth/TokenVerdict$Kind;" (.ref kd) := Fld.same W165 pr3
  refine own_st (T' := T165) (g' := (mkF m 9 #[.val (.ref a), .val (.ref kd), .val .null, .val (.ref sc)] [])) st165 ?_
  refine own_st (T' := T165) (g' := (mkF m 11 #[.val (.ref a), .val (.ref kd), .val .null, .val (.ref sc)] [.null, (.ref a)])) (fun _ kt => XS.aloadN X165.here hx rfl (hb hby d6_9) rfl rfl (XS.aloadN X165.here hx rfl (hb hby d6_10) rfl rfl kt)) ?_
  have F168 : Fld Z h165 a "com/example/zorgbrug/zorgbrug/auth/TokenVerdict" "patientId" "Ljava/lang/String;" .null := (Fld.other W165 pr4 (Or.inr (slot_ne (Or.inr (own_k hw 47 rfl)) (Or.inr (own_k hw 45 rfl)) (by decide) (t := (.object "java/lang/String")) (t' := (.object "com/example/zorgbrug/zorgbrug/auth/TokenVerdict$Kind")) (by decide) (by decide))))
  have F169 : Exa Z h165 a "com/example/zorgbrug/zorgbrug/auth/TokenVerdict" := (Exa.wr W165 pr1)
  obtain ⟨T170, h170, X170, e170, W170, st170⟩ := putF X165 hx hZ hown (host := "") (Or.inl (own_k hw 46 rfl)) Via.refl e165 F168 F169 (Or.inr ⟨(own_k hw 47 rfl), rfl, hnm⟩) (own_k hw 31 rfl) (ty := (.object "java/lang/String")) (by decide) rfl rfl (g := (mkF m 11 #[.val (.ref a), .val (.ref kd), .val .null, .val (.ref sc)] [.null, (.ref a)])) rfl rfl (hb hby d6_11)
  have N170 := Fr.snoc X170 N165 pr2
  have Z171 : n0 ≤ h170.size := Nat.le_trans Z166 (Nat.le_of_eq (Wr.size W170).symm)
  have K171 : Keep h0 h170 [a] := (Keep.wr K166 W170 (Or.inl (List.mem_of_getElem? (i := 0) rfl)))
  have F172 : Fld Z h170 a "com/example/zorgbrug/zorgbrug/auth/TokenVerdict" "patientId" "Ljava/lang/String;" .null := Fld.same W170 F168
  refine own_st (T' := T170) (g' := (mkF m 14 #[.val (.ref a), .val (.ref kd), .val .null, .val (.ref sc)] [])) st170 ?_
  refine own_st (T' := T170) (g' := (mkF m 16 #[.val (.ref a), .val (.ref kd), .val .null, .val (.ref sc)] [(.ref sc), (.ref a)])) (fun _ kt => XS.aloadN X170.here hx rfl (hb hby d6_14) rfl rfl (XS.aloadN X170.here hx rfl (hb hby d6_15) rfl rfl kt)) ?_
  have F173 : Fld Z h170 a "com/example/zorgbrug/zorgbrug/auth/TokenVerdict" "scope" "Ljava/lang/String;" .null := (Fld.other W170 (Fld.other W165 pr5 (Or.inr (slot_ne (Or.inr (own_k hw 49 rfl)) (Or.inr (own_k hw 45 rfl)) (by decide) (t := (.object "java/lang/String")) (t' := (.object "com/example/zorgbrug/zorgbrug/auth/TokenVerdict$Kind")) (by decide) (by decide)))) (Or.inr (slot_ne (Or.inr (own_k hw 49 rfl)) (Or.inr (own_k hw 47 rfl)) (by decide) (t := (.object "java/lang/String")) (t' := (.object "java/lang/String")) (by decide) (by decide))))
  have F174 : Exa Z h170 a "com/example/zorgbrug/zorgbrug/auth/TokenVerdict" := (Exa.wr W170 F169)
  obtain ⟨T175, h175, X175, e175, W175, st175⟩ := putF X170 hx hZ hown (host := "") (Or.inl (own_k hw 48 rfl)) Via.refl e170 F173 F174 (Or.inr ⟨(own_k hw 49 rfl), rfl, hnm⟩) (own_k hw 31 rfl) (ty := (.object "java/lang/String")) (by decide) rfl rfl (g := (mkF m 16 #[.val (.ref a), .val (.ref kd), .val .null, .val (.ref sc)] [(.ref sc), (.ref a)])) rfl rfl (hb hby d6_16)
  have N175 := Fr.snoc X175 N170 pr2
  have Z176 : n0 ≤ h175.size := Nat.le_trans Z171 (Nat.le_of_eq (Wr.size W175).symm)
  have K176 : Keep h0 h175 [a] := (Keep.wr K171 W175 (Or.inl (List.mem_of_getElem? (i := 0) rfl)))
  have F177 : Fld Z h175 a "com/example/zorgbrug/zorgbrug/auth/TokenVerdict" "scope" "Ljava/lang/String;" (.ref sc) := Fld.same W175 F173
  refine own_st (T' := T175) (g' := (mkF m 19 #[.val (.ref a), .val (.ref kd), .val .null, .val (.ref sc)] [])) st175 ?_
  obtain ⟨fs, hr, hrun, hended, hW, hsame⟩ := X175.leave (v := none) (fun _ => rfl)
  refine own_end (X175.returnOut hx Bd.returns (hb hby d6_19) hr) ⟨_, hrun, hended, _, _, rfl, ?_, ⟨_, rfl⟩, hW, hsame.mono (by decide) (by decide)⟩
  have F178 : Exa Z h175 a "com/example/zorgbrug/zorgbrug/auth/TokenVerdict" := (Exa.wr W175 F174)
  have F179 : Fld Z h175 a "com/example/zorgbrug/zorgbrug/auth/TokenVerdict" "kind" "Lcom/example/zorgbrug/zorgbrug/auth/TokenVerdict$Kind;" (.ref kd) := (Fld.other W175 (Fld.other W170 F167 (Or.inr (slot_ne (Or.inr (own_k hw 45 rfl)) (Or.inr (own_k hw 47 rfl)) (by decide) (t := (.object "com/example/zorgbrug/zorgbrug/auth/TokenVerdict$Kind")) (t' := (.object "java/lang/String")) (by decide) (by decide)))) (Or.inr (slot_ne (Or.inr (own_k hw 45 rfl)) (Or.inr (own_k hw 49 rfl)) (by decide) (t := (.object "com/example/zorgbrug/zorgbrug/auth/TokenVerdict$Kind")) (t' := (.object "java/lang/String")) (by decide) (by decide))))
  have F180 : Fld Z h175 a "com/example/zorgbrug/zorgbrug/auth/TokenVerdict" "patientId" "Ljava/lang/String;" .null := (Fld.other W175 F172 (Or.inr (slot_ne (Or.inr (own_k hw 47 rfl)) (Or.inr (own_k hw 49 rfl)) (by decide) (t := (.object "java/lang/String")) (t' := (.object "java/lang/String")) (by decide) (by decide))))
  show own_r8Q Z a kd sc h0 n0 _ T175.heap _
  rw [e175]
  exact ⟨rfl, N175, K176, F178, F179, F180, F177⟩
theorem d5_0 : decode prog_7_method_3_code 0 = .ok (.new 8, 3) := by decide +kernel
theorem d5_3 : decode prog_7_method_3_code 3 = .ok (.dup, 1) := by decide +kernel
theorem d5_4 : decode prog_7_method_3_code 4 = .ok (.getstatic 28, 3) := by decide +kernel
theorem d5_7 : decode prog_7_method_3_code 7 = .ok (.aconst_null, 1) := by decide +kernel
theorem d5_8 : decode prog_7_method_3_code 8 = .ok (.aload_n 0, 1) := by decide +kernel
theorem d5_9 : decode prog_7_method_3_code 9 = .ok (.invokespecial 25, 3) := by decide +kernel
theorem own_pd5 : parseMethodDescriptor "(Lcom/example/zorgbrug/zorgbrug/auth/TokenVerdict$Kind;Ljava/lang/String;Ljava/lang/String;)V" = some ⟨[(.object "com/example/zorgbrug/zorgbrug/auth/TokenVerdict$Kind"), (.object "java/lang/String"), (.object "java/lang/String")], none⟩ := by decide +kernel
theorem d5_12 : decode prog_7_method_3_code 12 = .ok (.areturn, 1) := by decide +kernel
def own_r9Q (Z : State) (sc : Addr) (kd : Addr) (h0 : Heap) (n0 : Nat) (v : Option Value) (h : Heap) (L : List Loc) : Prop := ∃ (b : Addr), v = some (.ref b) ∧ Fr n0 L ∧ Keep h0 h [] ∧ (Exa Z h b "com/example/zorgbrug/zorgbrug/auth/TokenVerdict") ∧ (Fld Z h b "com/example/zorgbrug/zorgbrug/auth/TokenVerdict" "kind" "Lcom/example/zorgbrug/zorgbrug/auth/TokenVerdict$Kind;" (.ref kd)) ∧ (Fld Z h b "com/example/zorgbrug/zorgbrug/auth/TokenVerdict" "patientId" "Ljava/lang/String;" .null) ∧ (Fld Z h b "com/example/zorgbrug/zorgbrug/auth/TokenVerdict" "scope" "Ljava/lang/String;" (.ref sc))
abbrev own_r9R : Room := { frames := 3, cells := 1, slots := 3, locals := 40 }
set_option maxRecDepth 65536 in
set_option maxHeartbeats 40000000 in
theorem own_r9 (l : Launch) (Z : State) (a0 : Array Value) (hw : ∀ d ∈ tables_1, d.before a0 Z = true) (ws : List Jvm.Cond) (sc : Addr) (kd : Addr) (h0 : Heap) (n0 : Nat) (Z0 : n0 ≤ h0.size) (pr1 : Old Z n0 h0) (pr2 : Sta Z Z.heap "com/example/zorgbrug/zorgbrug/auth/TokenVerdict$Kind" "NOT_GRANTED" "Lcom/example/zorgbrug/zorgbrug/auth/TokenVerdict$Kind;" (.ref kd)) :
    own_M l (⟨"com/example/zorgbrug/zorgbrug/auth/TokenVerdict", "notGranted", "(Ljava/lang/String;)Lcom/example/zorgbrug/zorgbrug/auth/TokenVerdict;"⟩ : MethodName) prog_7_method_3_code 1 (some (.object "com/example/zorgbrug/zorgbrug/auth/TokenVerdict")) ws own_r9R #[(.ref sc)] Z h0 (own_r9Q Z sc kd h0 n0) := by
  refine own_go (plainFor_of_name own_pn4) (fun m => own_ef3 m sc ) ?_
  intro p e s m below meth c s₁ Bd hx hby hml hZ hh hown hnm X0 e0
  have N0 := Fr.nil n0
  have K0 : Keep h0 h0 [] := Keep.refl h0 _
  obtain ⟨T181, h181, X181, e181, E181, A181, D181, -, st181⟩ := newO X0 hx hZ hown (own_k hw 30 rfl) (own_k hw 31 rfl) (own_k hw 28 rfl) e0 (g := (mkF m 0 #[.val (.ref sc)] [])) rfl (hb hby d5_0) (by decide) (by decide)
  obtain ⟨b181, g181⟩ : ∃ z, z = h0.size := ⟨_, rfl⟩
  rw [← g181] at A181 D181 st181
  have Z182 : n0 ≤ h181.size := Nat.le_trans Z0 E181.1
  have K182 : Keep h0 h181 [] := (Keep.ext K0 E181)
  have ge_b181 : n0 ≤ b181 := Nat.le_trans Z0 (Nat.le_of_eq g181.symm)
  have F183 : Fld Z h181 b181 "com/example/zorgbrug/zorgbrug/auth/TokenVerdict" "kind" "Lcom/example/zorgbrug/zorgbrug/auth/TokenVerdict$Kind;" .null := D181 (Or.inr (own_k hw 45 rfl)) (ty := (.object "com/example/zorgbrug/zorgbrug/auth/TokenVerdict$Kind")) (by decide)
  have F184 : Fld Z h181 b181 "com/example/zorgbrug/zorgbrug/auth/TokenVerdict" "patientId" "Ljava/lang/String;" .null := D181 (Or.inr (own_k hw 47 rfl)) (ty := (.object "java/lang/String")) (by decide)
  have F185 : Fld Z h181 b181 "com/example/zorgbrug/zorgbrug/auth/TokenVerdict" "scope" "Ljava/lang/String;" .null := D181 (Or.inr (own_k hw 49 rfl)) (ty := (.object "java/lang/String")) (by decide)
  refine own_st (T' := T181) (g' := (mkF m 3 #[.val (.ref sc)] [(.ref b181)])) st181 ?_
  refine own_st (T' := T181) (g' := (mkF m 4 #[.val (.ref sc)] [(.ref b181), (.ref b181)])) (fun _ kt => XS.dup X181.here hx rfl (hb hby d5_3) rfl rfl kt) ?_
  have F186 : Old Z n0 h181 := (Old.ext pr1 E181)
  obtain ⟨T187, X187, e187, st187⟩ := getS2 X181 hx hZ hown (host := "") (Or.inl (own_k hw 32 rfl)) Via.refl e181 (Sta.ext F186.2 pr2) (g := (mkF m 4 #[.val (.ref sc)] [(.ref b181), (.ref b181)])) rfl (hb hby d5_4)
  refine own_st (T' := T187) (g' := (mkF m 7 #[.val (.ref sc)] [(.ref kd), (.ref b181), (.ref b181)])) st187 ?_
  refine own_st (T' := T187) (g' := (mkF m 9 #[.val (.ref sc)] [(.ref sc), .null, (.ref kd), (.ref b181), (.ref b181)])) (fun _ kt => XS.aconstNull X187.here hx rfl (hb hby d5_7) (XS.aloadN X187.here hx rfl (hb hby d5_8) rfl rfl kt)) ?_
  obtain ⟨_, _, ⟨T188, L188, k188, n188⟩, -, X188, ⟨Lc188, hQ188, l188, y188, z188⟩, st188⟩ := X187.specialBack hx (y := (⟨"com/example/zorgbrug/zorgbrug/auth/TokenVerdict", "<init>", "(Lcom/example/zorgbrug/zorgbrug/auth/TokenVerdict$Kind;Ljava/lang/String;Ljava/lang/String;)V"⟩ : MethodName)) rfl hown (mvT hZ (own_k hw 35 rfl)) (mvT hZ (own_k hw 36 rfl)) (mvT hZ (own_k hw 37 rfl)) (by decide) (backOf (W := 1) (own_r8 l Z a0 hw [] b181 kd sc h181 n0 Z182 A181 ge_b181 F183 F184 F185) hZ (own_k hw 37 rfl) (own_k hw 28 rfl) (by decide) (by decide)) (g := (mkF m 9 #[.val (.ref sc)] [(.ref sc), .null, (.ref kd), (.ref b181), (.ref b181)])) rfl hml.symm (Steps.refl _) (a := b181) (argsL := [(.ref kd), .null, (.ref sc)]) (rest := [(.ref b181)]) (lenOf own_pd5 rfl) rfl (by show 2 * 0 + _ ≤ _; exact Nat.le_of_eq rfl) (hb hby d5_9) (fun _ _ => ⟨rfl, e187, (by decide : 1 + 0 ≤ 1), (by decide : 3 + 0 ≤ 3)⟩)
  dsimp only [Pt.U, Pt.locs, Pt.cells, Pt.slots] at X188 l188 y188 z188 st188 hQ188
  subst l188 y188 z188
  obtain ⟨rfl, N188, K188_, P189, P190, P191, P192⟩ := hQ188
  have N193 := Fr.app N0 N188
  have Z194 : n0 ≤ T188.heap.size := Nat.le_trans Z182 K188_.1
  have K194 : Keep h0 T188.heap [] := (Keep.trans K182 K188_ (allS (Or.inr (Nat.le_trans K0.1 (Nat.le_of_eq g181.symm))) all0))
  refine own_tr (T' := T188) (g' := (mkF m 12 #[.val (.ref sc)] [(.ref b181)])) st188 ?_
  obtain ⟨fs, hr, hrun, hended, hW, hsame⟩ := X188.leave (v := some (.ref b181)) (fun h => by rw [Bd.returns] at h; cases h)
  refine own_end (own_retA X188 hx Bd.returns rfl rfl rfl (hb hby d5_12) hr) ⟨_, hrun, hended, _, _, rfl, ?_, ⟨_, rfl⟩, hW, hsame.mono (by decide) (by decide)⟩
  show own_r9Q Z sc kd h0 n0 _ T188.heap _
  show own_r9Q Z sc kd h0 n0 _ T188.heap _
  exact ⟨b181, rfl, N193, K194, P189, P190, P191, P192⟩
theorem d8_0 : decode prog_7_method_7_code 0 = .ok (.aload_n 0, 1) := by decide +kernel
theorem d8_1 : decode prog_7_method_7_code 1 = .ok (.getfield 7, 3) := by decide +kernel
theorem d8_4 : decode prog_7_method_7_code 4 = .ok (.areturn, 1) := by decide +kernel
def own_r10Q (Z : State) (a : Addr) (u : Addr) (h0 : Heap) (n0 : Nat) (v : Option Value) (h : Heap) (L : List Loc) : Prop := v = some (.ref u) ∧ Fr n0 L ∧ h = h0
abbrev own_r10R : Room := { frames := 0, cells := 0, slots := 0, locals := 0 }
set_option maxRecDepth 65536 in
set_option maxHeartbeats 40000000 in
theorem own_r10 (l : Launch) (Z : State) (a0 : Array Value) (hw : ∀ d ∈ tables_1, d.before a0 Z = true) (ws : List Jvm.Cond) (a : Addr) (u : Addr) (h0 : Heap) (n0 : Nat) (Z0 : n0 ≤ h0.size) (pr1 : Fld Z h0 a "com/example/zorgbrug/zorgbrug/auth/TokenVerdict" "kind" "Lcom/example/zorgbrug/zorgbrug/auth/TokenVerdict$Kind;" (.ref u)) :
    own_M l (⟨"com/example/zorgbrug/zorgbrug/auth/TokenVerdict", "kind", "()Lcom/example/zorgbrug/zorgbrug/auth/TokenVerdict$Kind;"⟩ : MethodName) prog_7_method_7_code 1 (some (.object "com/example/zorgbrug/zorgbrug/auth/TokenVerdict$Kind")) ws own_r10R #[(.ref a)] Z h0 (own_r10Q Z a u h0 n0) := by
  refine own_go (plainFor_of_name own_pn4) (fun m => own_ef3 m a ) ?_
  intro p e s m below meth c s₁ Bd hx hby hml hZ hh hown hnm X0 e0
  have N0 := Fr.nil n0
  refine own_st (T' := s₁) (g' := (mkF m 1 #[.val (.ref a)] [(.ref a)])) (fun _ kt => XS.aloadN X0.here hx rfl (hb hby d8_0) rfl rfl kt) ?_
  obtain ⟨T195, X195, e195, st195⟩ := getF X0 hx hZ hown (host := "") (Or.inl (own_k hw 44 rfl)) Via.refl e0 pr1 (g := (mkF m 1 #[.val (.ref a)] [(.ref a)])) rfl rfl (hb hby d8_1)
  refine own_st (T' := T195) (g' := (mkF m 4 #[.val (.ref a)] [(.ref u)])) st195 ?_
  obtain ⟨fs, hr, hrun, hended, hW, hsame⟩ := X195.leave (v := some (.ref u)) (fun h => by rw [Bd.returns] at h; cases h)
  refine own_end (own_retA X195 hx Bd.returns rfl rfl rfl (hb hby d8_4) hr) ⟨_, hrun, hended, _, _, rfl, ?_, ⟨_, rfl⟩, hW, hsame.mono (by decide) (by decide)⟩
  show own_r10Q Z a u h0 n0 _ T195.heap _
  rw [e195]
  exact ⟨rfl, N0, rfl⟩
theorem d9_0 : decode prog_7_method_8_code 0 = .ok (.aload_n 0, 1) := by decide +kernel
theorem d9_1 : decode prog_7_method_8_code 1 = .ok (.getfield 13, 3) := by decide +kernel
theorem d9_4 : decode prog_7_method_8_code 4 = .ok (.areturn, 1) := by decide +kernel
def own_r11Q (Z : State) (a : Addr) (h0 : Heap) (n0 : Nat) (v : Option Value) (h : Heap) (L : List Loc) : Prop := v = some .null ∧ Fr n0 L ∧ h = h0
abbrev own_r11R : Room := { frames := 0, cells := 0, slots := 0, locals := 0 }
set_option maxRecDepth 65536 in
set_option maxHeartbeats 40000000 in
theorem own_r11 (l : Launch) (Z : State) (a0 : Array Value) (hw : ∀ d ∈ tables_1, d.before a0 Z = true) (ws : List Jvm.Cond) (a : Addr) (h0 : Heap) (n0 : Nat) (Z0 : n0 ≤ h0.size) (pr1 : Fld Z h0 a "com/example/zorgbrug/zorgbrug/auth/TokenVerdict" "patientId" "Ljava/lang/String;" .null) :
    own_M l (⟨"com/example/zorgbrug/zorgbrug/auth/TokenVerdict", "patientId", "()Ljava/lang/String;"⟩ : MethodName) prog_7_method_8_code 1 (some (.object "java/lang/String")) ws own_r11R #[(.ref a)] Z h0 (own_r11Q Z a h0 n0) := by
  refine own_go (plainFor_of_name own_pn4) (fun m => own_ef3 m a ) ?_
  intro p e s m below meth c s₁ Bd hx hby hml hZ hh hown hnm X0 e0
  have N0 := Fr.nil n0
  refine own_st (T' := s₁) (g' := (mkF m 1 #[.val (.ref a)] [(.ref a)])) (fun _ kt => XS.aloadN X0.here hx rfl (hb hby d9_0) rfl rfl kt) ?_
  obtain ⟨T196, X196, e196, st196⟩ := getF X0 hx hZ hown (host := "") (Or.inl (own_k hw 46 rfl)) Via.refl e0 pr1 (g := (mkF m 1 #[.val (.ref a)] [(.ref a)])) rfl rfl (hb hby d9_1)
  refine own_st (T' := T196) (g' := (mkF m 4 #[.val (.ref a)] [.null])) st196 ?_
  obtain ⟨fs, hr, hrun, hended, hW, hsame⟩ := X196.leave (v := some .null) (fun h => by rw [Bd.returns] at h; cases h)
  refine own_end (own_retA X196 hx Bd.returns rfl rfl rfl (hb hby d9_4) hr) ⟨_, hrun, hended, _, _, rfl, ?_, ⟨_, rfl⟩, hW, hsame.mono (by decide) (by decide)⟩
  show own_r11Q Z a h0 n0 _ T196.heap _
  rw [e196]
  exact ⟨rfl, N0, rfl⟩
theorem d10_0 : decode prog_7_method_9_code 0 = .ok (.aload_n 0, 1) := by decide +kernel
theorem d10_1 : decode prog_7_method_9_code 1 = .ok (.getfield 17, 3) := by decide +kernel
theorem d10_4 : decode prog_7_method_9_code 4 = .ok (.areturn, 1) := by decide +kernel
def own_r12Q (Z : State) (a : Addr) (u : Addr) (h0 : Heap) (n0 : Nat) (v : Option Value) (h : Heap) (L : List Loc) : Prop := v = some (.ref u) ∧ Fr n0 L ∧ h = h0
abbrev own_r12R : Room := { frames := 0, cells := 0, slots := 0, locals := 0 }
set_option maxRecDepth 65536 in
set_option maxHeartbeats 40000000 in
theorem own_r12 (l : Launch) (Z : State) (a0 : Array Value) (hw : ∀ d ∈ tables_1, d.before a0 Z = true) (ws : List Jvm.Cond) (a : Addr) (u : Addr) (h0 : Heap) (n0 : Nat) (Z0 : n0 ≤ h0.size) (pr1 : Fld Z h0 a "com/example/zorgbrug/zorgbrug/auth/TokenVerdict" "scope" "Ljava/lang/String;" (.ref u)) :
    own_M l (⟨"com/example/zorgbrug/zorgbrug/auth/TokenVerdict", "scope", "()Ljava/lang/String;"⟩ : MethodName) prog_7_method_9_code 1 (some (.object "java/lang/String")) ws own_r12R #[(.ref a)] Z h0 (own_r12Q Z a u h0 n0) := by
  refine own_go (plainFor_of_name own_pn4) (fun m => own_ef3 m a ) ?_
  intro p e s m below meth c s₁ Bd hx hby hml hZ hh hown hnm X0 e0
  have N0 := Fr.nil n0
  refine own_st (T' := s₁) (g' := (mkF m 1 #[.val (.ref a)] [(.ref a)])) (fun _ kt => XS.aloadN X0.here hx rfl (hb hby d10_0) rfl rfl kt) ?_
  obtain ⟨T197, X197, e197, st197⟩ := getF X0 hx hZ hown (host := "") (Or.inl (own_k hw 48 rfl)) Via.refl e0 pr1 (g := (mkF m 1 #[.val (.ref a)] [(.ref a)])) rfl rfl (hb hby d10_1)
  refine own_st (T' := T197) (g' := (mkF m 4 #[.val (.ref a)] [(.ref u)])) st197 ?_
  obtain ⟨fs, hr, hrun, hended, hW, hsame⟩ := X197.leave (v := some (.ref u)) (fun h => by rw [Bd.returns] at h; cases h)
  refine own_end (own_retA X197 hx Bd.returns rfl rfl rfl (hb hby d10_4) hr) ⟨_, hrun, hended, _, _, rfl, ?_, ⟨_, rfl⟩, hW, hsame.mono (by decide) (by decide)⟩
  show own_r12Q Z a u h0 n0 _ T197.heap _
  rw [e197]
  exact ⟨rfl, N0, rfl⟩
theorem own_pd6 : parseMethodDescriptor "(IIII)Ljava/lang/String;" = some ⟨[.int, .int, .int, .int], some (.object "java/lang/String")⟩ := by decide +kernel
theorem own_pd7 : parseMethodDescriptor "(Ljava/lang/String;)Lcom/example/zorgbrug/zorgbrug/auth/TokenVerdict;" = some ⟨[(.object "java/lang/String")], some (.object "com/example/zorgbrug/zorgbrug/auth/TokenVerdict")⟩ := by decide +kernel
theorem own_pd8 : parseMethodDescriptor "()Lcom/example/zorgbrug/zorgbrug/auth/TokenVerdict$Kind;" = some ⟨[], some (.object "com/example/zorgbrug/zorgbrug/auth/TokenVerdict$Kind")⟩ := by decide +kernel
theorem own_pd9 : parseMethodDescriptor "()Ljava/lang/String;" = some ⟨[], some (.object "java/lang/String")⟩ := by decide +kernel
theorem own_pd10 : parseMethodDescriptor "(Ljava/lang/Object;)Z" = some ⟨[(.object "java/lang/Object")], some .boolean⟩ := by decide +kernel
theorem own_pd11 : parseMethodDescriptor "()I" = some ⟨[], some .int⟩ := by decide +kernel
set_option maxHeartbeats 4000000 in
theorem own_ef7 (m : MethodId) (x0 : Int32) (x1 : Int32) (x2 : Int32) (x3 : Int32) : entryFrame m #[(.int x0), (.int x1), (.int x2), (.int x3)] 7 = mkF m 0 #[.val (.int x0), .val (.int x1), .val (.int x2), .val (.int x3), .unset, .unset, .unset] [] := by first | (simp [entryFrame, mkF, argsToLocals, Value.category]; done) | rfl
def own_lawQ (Z : State) (p1 : Int32) (p2 : Int32) (p3 : Int32) (p4 : Int32) (zc : Int32) (kd : Addr) (h0 : Heap) (n0 : Nat) (v : Option Value) (h : Heap) (L : List Loc) : Prop := v = some (.int (1 : Int32)) ∧ Fr n0 L
set_option maxRecDepth 65536 in
set_option maxHeartbeats 40000000 in
theorem own_law (l : Launch) (Z : State) (a0 : Array Value) (hw : ∀ d ∈ tables_1, d.before a0 Z = true) (ws : List Jvm.Cond) (p1 : Int32) (p2 : Int32) (p3 : Int32) (p4 : Int32) (zc : Int32) (kd : Addr) (h0 : Heap) (n0 : Nat) (Z0 : n0 ≤ h0.size) (pr1 : Old Z n0 h0) (pr2 : Sta Z Z.heap "java/lang/String" "COMPACT_STRINGS" "Z" (.int zc)) (pr3 : ¬ zc = 0) (pr4 : Sta Z Z.heap "com/example/zorgbrug/zorgbrug/auth/TokenVerdict$Kind" "NOT_GRANTED" "Lcom/example/zorgbrug/zorgbrug/auth/TokenVerdict$Kind;" (.ref kd)) :
    own_MH own_EL l x code maxLocals ret ws room_1 #[(.int p1), (.int p2), (.int p3), (.int p4)] Z h0 (own_lawQ Z p1 p2 p3 p4 zc kd h0 n0) := by
  refine own_goH (plainFor_of_name own_pn3) (fun m => own_ef7 m p1 p2 p3 p4 ) ?_
  intro p e s m below meth c s₁ Bd hx hby hml hZ hh hown hnm X0 e0 hS CR0
  have N0 := Fr.nil n0
  have hk : h0.size ≤ h0.size := Nat.le_refl _
  refine own_st (T' := s₁) (g' := (mkF m 4 #[.val (.int p1), .val (.int p2), .val (.int p3), .val (.int p4), .unset, .unset, .unset] [(.int p4), (.int p3), (.int p2), (.int p1)])) (fun _ kt => XS.iloadN X0.here hx rfl (hb hby at_0) rfl (XS.iloadN X0.here hx rfl (hb hby at_1) rfl (XS.iloadN X0.here hx rfl (hb hby at_2) rfl (XS.iloadN X0.here hx rfl (hb hby at_3) rfl kt)))) ?_
  obtain ⟨_, _, ⟨T198, L198, k198, n198⟩, -, X198, hS198, hG198, ⟨Lc198, hQ198, l198, y198, z198, hC198⟩, st198⟩ := callSS X0 hx (y := (⟨"com/example/zorgbrug/zorgbrug/auth/TokenVerdictNotGrantedPinLaw", "drawn", "(IIII)Ljava/lang/String;"⟩ : MethodName)) hown (mvT hZ (own_k hw 0 rfl)) (mvT hZ (own_k hw 1 rfl)) (mvT hZ (own_k hw 2 rfl)) (mvT hZ (own_k hw 3 rfl)) (by decide) (backOfSH (W := 0) (own_drawn l Z a0 hw [] p1 p2 p3 p4 zc h0 n0 Z0 pr1 pr2 pr3) hZ (own_k hw 3 rfl) (own_k hw 2 rfl) (by decide) (by decide) (own_EW hw) CR0.1) (g := (mkF m 4 #[.val (.int p1), .val (.int p2), .val (.int p3), .val (.int p4), .unset, .unset, .unset] [(.int p4), (.int p3), (.int p2), (.int p1)])) rfl hml.symm  (argsL := [(.int p1), (.int p2), (.int p3), (.int p4)]) (rest := []) (lenOf own_pd6 rfl) rfl (by show 2 * 0 + _ ≤ _; exact Nat.le_of_eq rfl) (hb hby at_4) (fun _ _ => ⟨rfl, e0, (by decide : 0 + 6 ≤ 24), (by decide : 0 + 16 ≤ 1152)⟩)
  dsimp only [Pt.U, Pt.locs, Pt.cells, Pt.slots] at X198 l198 y198 z198 st198 hQ198 hS198 hG198 hC198
  subst l198 y198 z198
  obtain ⟨b_198, t_198, kb_198, vl_198, rfl, N198, K198_, P199, P200, P201, P202⟩ := hQ198
  have N203 := Fr.app N0 N198
  obtain ⟨X204, hS204, hZ204, hown204⟩ := rebS hS (by rw [e0]; exact hk) X198 hS198 hG198 hZ hown
  have CR205 : CHr Z own_EL s.vm h0 T198.vm T198.heap := CHr.trans CR0 hC198
  have Z206 : n0 ≤ T198.heap.size := Nat.le_trans Z0 K198_.1
  have hk206 := Nat.le_trans hk K198_.1
  have hk204 : T198.heap.size ≤ T198.heap.size := Nat.le_refl _
  refine own_tr (T' := T198) (g' := (mkF m 7 #[.val (.int p1), .val (.int p2), .val (.int p3), .val (.int p4), .unset, .unset, .unset] [(.ref b_198)])) st198 ?_
  refine own_st (T' := T198) (g' := (mkF m 11 #[.val (.int p1), .val (.int p2), .val (.int p3), .val (.int p4), .val (.ref b_198), .unset, .unset] [(.ref b_198)])) (fun _ kt => XS.astore X204.here hx rfl (hb hby at_7) rfl rfl (l' := #[.val (.int p1), .val (.int p2), .val (.int p3), .val (.int p4), .val (.ref b_198), .unset, .unset]) rfl (XS.aload X204.here hx rfl (hb hby at_9) rfl rfl kt)) ?_
  have F207 : Old Z n0 T198.heap := (Old.keep pr1 K198_ all0)
  obtain ⟨_, _, ⟨T208, L208, k208, n208⟩, -, X208, ⟨Lc208, hQ208, l208, y208, z208⟩, st208⟩ := Jvm.LawKit.callS X204 hx (y := (⟨"com/example/zorgbrug/zorgbrug/auth/TokenVerdict", "notGranted", "(Ljava/lang/String;)Lcom/example/zorgbrug/zorgbrug/auth/TokenVerdict;"⟩ : MethodName)) hown204 (mvT hZ204 (own_k hw 26 rfl)) (mvT hZ204 (own_k hw 27 rfl)) (mvT hZ204 (own_k hw 28 rfl)) (mvT hZ204 (own_k hw 29 rfl)) (by decide) (backOf (W := 0) (own_r9 l Z a0 hw [] b_198 kd T198.heap n0 Z206 F207 pr4) hZ204 (own_k hw 29 rfl) (own_k hw 28 rfl) (by decide) (by decide)) (g := (mkF m 11 #[.val (.int p1), .val (.int p2), .val (.int p3), .val (.int p4), .val (.ref b_198), .unset, .unset] [(.ref b_198)])) rfl hml.symm  (argsL := [(.ref b_198)]) (rest := []) (lenOf own_pd7 rfl) rfl (by show 2 * 0 + _ ≤ _; exact Nat.le_of_eq rfl) (hb hby at_11) (fun _ _ => ⟨rfl, rfl, (by decide : 6 + 1 ≤ 24), (by decide : 16 + 3 ≤ 1152)⟩)
  dsimp only [Pt.U, Pt.locs, Pt.cells, Pt.slots] at X208 l208 y208 z208 st208 hQ208
  subst l208 y208 z208
  obtain ⟨b_208, rfl, N208, K208_, P209, P210, P211, P212⟩ := hQ208
  have N213 := Fr.app N203 N208
  have CR214 : CHr Z own_EL s.vm h0 T198.vm T208.heap := CHr.trans CR205 (CHr.keep K208_ sf0 CR205.1)
  have Z215 : n0 ≤ T208.heap.size := Nat.le_trans Z206 K208_.1
  have hk215 := Nat.le_trans hk204 K208_.1
  refine own_st (T' := T208) (g' := (mkF m 14 #[.val (.int p1), .val (.int p2), .val (.int p3), .val (.int p4), .val (.ref b_198), .unset, .unset] [(.ref b_208)])) st208 ?_
  refine own_st (T' := T208) (g' := (mkF m 25 #[.val (.int p1), .val (.int p2), .val (.int p3), .val (.int p4), .val (.ref b_198), .val (.ref b_208), .unset] [(.ref b_208)])) (fun _ kt => XS.astore X208.here hx rfl (hb hby at_14) rfl rfl (l' := #[.val (.int p1), .val (.int p2), .val (.int p3), .val (.int p4), .val (.ref b_198), .val (.ref b_208), .unset]) rfl (XS.aload X208.here hx rfl (hb hby at_16) rfl rfl (XT.ifnonnullYes X208.here hx rfl (pc0 := 18) (pc' := 23) rfl (hb hby at_18) rfl (by decide) (by decide) (XS.aload X208.here hx rfl (hb hby at_23) rfl rfl kt)))) ?_
  obtain ⟨cq217, kq217, qa217, qb217, qc217⟩ := isOf hZ204 rfl P209
  obtain ⟨_, _, ⟨T216, L216, k216, n216⟩, -, X216, ⟨Lc216, hQ216, l216, y216, z216⟩, st216⟩ := X208.virtualBack hx (y := (⟨"com/example/zorgbrug/zorgbrug/auth/TokenVerdict", "kind", "()Lcom/example/zorgbrug/zorgbrug/auth/TokenVerdict$Kind;"⟩ : MethodName)) (z := (⟨"com/example/zorgbrug/zorgbrug/auth/TokenVerdict", "kind", "()Lcom/example/zorgbrug/zorgbrug/auth/TokenVerdict$Kind;"⟩ : MethodName)) hown204 (mvT hZ204 (own_k hw 50 rfl)) (mvT hZ204 (own_k hw 51 rfl)) (notFace_of_selects (args := #[]) (mvT hZ204 (own_k hw 53 rfl))) (mvT hZ204 (own_k hw 53 rfl)) (mvT hZ204 (own_k hw 52 rfl)) (by decide) (backOf (W := 0) (own_r10 l Z a0 hw [] b_208 kd T208.heap n0 Z215 P210) hZ204 (own_k hw 54 rfl) (own_k hw 28 rfl) (by decide) (by decide)) qa217 qc217 (g := (mkF m 25 #[.val (.int p1), .val (.int p2), .val (.int p3), .val (.int p4), .val (.ref b_198), .val (.ref b_208), .unset] [(.ref b_208)])) rfl hml.symm (Steps.refl _) (argsL := []) (rest := []) (lenOf own_pd8 rfl) rfl (by show 2 * 0 + _ ≤ _; exact Nat.le_of_eq rfl) (hb hby at_25) (fun _ _ => ⟨rfl, rfl, (by decide : 7 + 0 ≤ 24), (by decide : 19 + 0 ≤ 1152)⟩)
  dsimp only [Pt.U, Pt.locs, Pt.cells, Pt.slots] at X216 l216 y216 z216 st216 hQ216
  subst l216 y216 z216
  obtain ⟨rfl, N216, e216⟩ := hQ216
  have N218 := Fr.app N213 N216
  refine own_tr (T' := T216) (g' := (mkF m 28 #[.val (.int p1), .val (.int p2), .val (.int p3), .val (.int p4), .val (.ref b_198), .val (.ref b_208), .unset] [(.ref kd)])) st216 ?_
  have F219 : Old Z n0 T208.heap := (Old.keep F207 K208_ all0)
  obtain ⟨T220, X220, e220, st220⟩ := getS2 X216 hx hZ204 hown204 (host := "") (Or.inl (own_k hw 55 rfl)) Via.refl e216 (Sta.ext F219.2 pr4) (g := (mkF m 28 #[.val (.int p1), .val (.int p2), .val (.int p3), .val (.int p4), .val (.ref b_198), .val (.ref b_208), .unset] [(.ref kd)])) rfl (hb hby at_28)
  refine own_st (T' := T220) (g' := (mkF m 31 #[.val (.int p1), .val (.int p2), .val (.int p3), .val (.int p4), .val (.ref b_198), .val (.ref b_208), .unset] [(.ref kd), (.ref kd)])) st220 ?_
  refine own_st (T' := T220) (g' := (mkF m 38 #[.val (.int p1), .val (.int p2), .val (.int p3), .val (.int p4), .val (.ref b_198), .val (.ref b_208), .unset] [(.ref b_208)])) (fun _ kt => XT.acmpYes X220.here hx rfl (pc0 := 31) (pc' := 36) rfl (hb hby at_31) rfl rfl rfl (XT.aa_eq_t rfl) (by decide) (by decide) (XS.aload X220.here hx rfl (hb hby at_36) rfl rfl kt)) ?_
  obtain ⟨cq222, kq222, qa222, qb222, qc222⟩ := isOf hZ204 e220 P209
  obtain ⟨_, _, ⟨T221, L221, k221, n221⟩, -, X221, ⟨Lc221, hQ221, l221, y221, z221⟩, st221⟩ := X220.virtualBack hx (y := (⟨"com/example/zorgbrug/zorgbrug/auth/TokenVerdict", "patientId", "()Ljava/lang/String;"⟩ : MethodName)) (z := (⟨"com/example/zorgbrug/zorgbrug/auth/TokenVerdict", "patientId", "()Ljava/lang/String;"⟩ : MethodName)) hown204 (mvT hZ204 (own_k hw 56 rfl)) (mvT hZ204 (own_k hw 57 rfl)) (notFace_of_selects (args := #[]) (mvT hZ204 (own_k hw 59 rfl))) (mvT hZ204 (own_k hw 59 rfl)) (mvT hZ204 (own_k hw 58 rfl)) (by decide) (backOf (W := 0) (own_r11 l Z a0 hw [] b_208 T208.heap n0 Z215 P211) hZ204 (own_k hw 60 rfl) (own_k hw 28 rfl) (by decide) (by decide)) qa222 qc222 (g := (mkF m 38 #[.val (.int p1), .val (.int p2), .val (.int p3), .val (.int p4), .val (.ref b_198), .val (.ref b_208), .unset] [(.ref b_208)])) rfl hml.symm (Steps.refl _) (argsL := []) (rest := []) (lenOf own_pd9 rfl) rfl (by show 2 * 0 + _ ≤ _; exact Nat.le_of_eq rfl) (hb hby at_38) (fun _ _ => ⟨rfl, e220, (by decide : 7 + 0 ≤ 24), (by decide : 19 + 0 ≤ 1152)⟩)
  dsimp only [Pt.U, Pt.locs, Pt.cells, Pt.slots] at X221 l221 y221 z221 st221 hQ221
  subst l221 y221 z221
  obtain ⟨rfl, N221, e221⟩ := hQ221
  have N223 := Fr.app N218 N221
  refine own_tr (T' := T221) (g' := (mkF m 41 #[.val (.int p1), .val (.int p2), .val (.int p3), .val (.int p4), .val (.ref b_198), .val (.ref b_208), .unset] [.null])) st221 ?_
  refine own_st (T' := T221) (g' := (mkF m 48 #[.val (.int p1), .val (.int p2), .val (.int p3), .val (.int p4), .val (.ref b_198), .val (.ref b_208), .unset] [(.ref b_208)])) (fun _ kt => XS.ifnullYes X221.here hx rfl (pc0 := 41) (pc' := 46) rfl (hb hby at_41) rfl (by decide) (by decide) (XS.aload X221.here hx rfl (hb hby at_46) rfl rfl kt)) ?_
  obtain ⟨cq225, kq225, qa225, qb225, qc225⟩ := isOf hZ204 e221 P209
  obtain ⟨_, _, ⟨T224, L224, k224, n224⟩, -, X224, ⟨Lc224, hQ224, l224, y224, z224⟩, st224⟩ := X221.virtualBack hx (y := (⟨"com/example/zorgbrug/zorgbrug/auth/TokenVerdict", "scope", "()Ljava/lang/String;"⟩ : MethodName)) (z := (⟨"com/example/zorgbrug/zorgbrug/auth/TokenVerdict", "scope", "()Ljava/lang/String;"⟩ : MethodName)) hown204 (mvT hZ204 (own_k hw 61 rfl)) (mvT hZ204 (own_k hw 62 rfl)) (notFace_of_selects (args := #[]) (mvT hZ204 (own_k hw 64 rfl))) (mvT hZ204 (own_k hw 64 rfl)) (mvT hZ204 (own_k hw 63 rfl)) (by decide) (backOf (W := 0) (own_r12 l Z a0 hw [] b_208 b_198 T208.heap n0 Z215 P212) hZ204 (own_k hw 65 rfl) (own_k hw 28 rfl) (by decide) (by decide)) qa225 qc225 (g := (mkF m 48 #[.val (.int p1), .val (.int p2), .val (.int p3), .val (.int p4), .val (.ref b_198), .val (.ref b_208), .unset] [(.ref b_208)])) rfl hml.symm (Steps.refl _) (argsL := []) (rest := []) (lenOf own_pd9 rfl) rfl (by show 2 * 0 + _ ≤ _; exact Nat.le_of_eq rfl) (hb hby at_48) (fun _ _ => ⟨rfl, e221, (by decide : 7 + 0 ≤ 24), (by decide : 19 + 0 ≤ 1152)⟩)
  dsimp only [Pt.U, Pt.locs, Pt.cells, Pt.slots] at X224 l224 y224 z224 st224 hQ224
  subst l224 y224 z224
  obtain ⟨rfl, N224, e224⟩ := hQ224
  have N226 := Fr.app N223 N224
  refine own_tr (T' := T224) (g' := (mkF m 51 #[.val (.int p1), .val (.int p2), .val (.int p3), .val (.int p4), .val (.ref b_198), .val (.ref b_208), .unset] [(.ref b_198)])) st224 ?_
  refine own_st (T' := T224) (g' := (mkF m 64 #[.val (.int p1), .val (.int p2), .val (.int p3), .val (.int p4), .val (.ref b_198), .val (.ref b_208), .val (.ref b_198)] [(.ref b_198), (.ref b_198)])) (fun _ kt => XS.astore X224.here hx rfl (hb hby at_51) rfl rfl (l' := #[.val (.int p1), .val (.int p2), .val (.int p3), .val (.int p4), .val (.ref b_198), .val (.ref b_208), .val (.ref b_198)]) rfl (XS.aload X224.here hx rfl (hb hby at_53) rfl rfl (XT.ifnonnullYes X224.here hx rfl (pc0 := 55) (pc' := 60) rfl (hb hby at_55) rfl (by decide) (by decide) (XS.aload X224.here hx rfl (hb hby at_60) rfl rfl (XS.aload X224.here hx rfl (hb hby at_62) rfl rfl kt))))) ?_
  have F227 : Exa Z T208.heap b_198 "java/lang/String" := (Exa.keep P199 K208_)
  obtain ⟨cq229, kq229, qa229, qb229, qc229⟩ := isOf hZ204 e224 F227
  obtain ⟨_, _, ⟨T228, L228, k228, n228⟩, -, X228, ⟨Lc228, hQ228, l228, y228, z228⟩, st228⟩ := X224.virtualBack hx (y := (⟨"java/lang/String", "equals", "(Ljava/lang/Object;)Z"⟩ : MethodName)) (z := (⟨"java/lang/String", "equals", "(Ljava/lang/Object;)Z"⟩ : MethodName)) hown204 (mvT hZ204 (own_k hw 66 rfl)) (mvT hZ204 (own_k hw 67 rfl)) (notFace_of_selects (args := #[]) (mvT hZ204 (own_k hw 69 rfl))) (mvT hZ204 (own_k hw 69 rfl)) (mvT hZ204 (own_k hw 68 rfl)) (by decide) (backOf (W := 0) (own_same l Z a0 hw [] b_198 T208.heap n0 Z215 ) hZ204 (own_k hw 70 rfl) (own_k hw 6 rfl) (by decide) (by decide)) qa229 qc229 (g := (mkF m 64 #[.val (.int p1), .val (.int p2), .val (.int p3), .val (.int p4), .val (.ref b_198), .val (.ref b_208), .val (.ref b_198)] [(.ref b_198), (.ref b_198)])) rfl hml.symm (Steps.refl _) (argsL := [(.ref b_198)]) (rest := []) (lenOf own_pd10 rfl) rfl (by show 2 * 0 + _ ≤ _; exact Nat.le_of_eq rfl) (hb hby at_64) (fun _ _ => ⟨rfl, e224, (by decide : 7 + 0 ≤ 24), (by decide : 19 + 0 ≤ 1152)⟩)
  dsimp only [Pt.U, Pt.locs, Pt.cells, Pt.slots] at X228 l228 y228 z228 st228 hQ228
  subst l228 y228 z228
  obtain ⟨rfl, N228, e228⟩ := hQ228
  have N230 := Fr.app N226 N228
  refine own_tr (T' := T228) (g' := (mkF m 67 #[.val (.int p1), .val (.int p2), .val (.int p3), .val (.int p4), .val (.ref b_198), .val (.ref b_208), .val (.ref b_198)] [(.int (1 : Int32))])) st228 ?_
  refine own_st (T' := T228) (g' := (mkF m 72 #[.val (.int p1), .val (.int p2), .val (.int p3), .val (.int p4), .val (.ref b_198), .val (.ref b_208), .val (.ref b_198)] [(.ref b_198)])) (fun _ kt => XS.ifNo X228.here hx rfl (hb hby at_67) rfl (XT.i0_eq_f (by decide)) (XS.aload X228.here hx rfl (hb hby at_70) rfl rfl kt)) ?_
  have F231 : Fld Z T208.heap b_198 "java/lang/String" "coder" "B" (.int (0 : Int32)) := (Fld.keep P200 K208_ nin0)
  have F232 : Fld Z T208.heap b_198 "java/lang/String" "value" "[B" (.ref t_198) := (Fld.keep P201 K208_ nin0)
  have F233 : Arv Z T208.heap t_198 kb_198 .byte (p1 &&& (3 : Int32)) vl_198 (.int (0 : Int32)) := (Arv.keep P202 K208_ nin0)
  obtain ⟨cq235, kq235, qa235, qb235, qc235⟩ := isOf hZ204 e228 F227
  obtain ⟨_, _, ⟨T234, L234, k234, n234⟩, -, X234, ⟨Lc234, hQ234, l234, y234, z234⟩, st234⟩ := X228.virtualBack hx (y := (⟨"java/lang/String", "length", "()I"⟩ : MethodName)) (z := (⟨"java/lang/String", "length", "()I"⟩ : MethodName)) hown204 (mvT hZ204 (own_k hw 71 rfl)) (mvT hZ204 (own_k hw 72 rfl)) (notFace_of_selects (args := #[]) (mvT hZ204 (own_k hw 74 rfl))) (mvT hZ204 (own_k hw 74 rfl)) (mvT hZ204 (own_k hw 73 rfl)) (by decide) (backOf (W := 0) (own_len l Z a0 hw [] b_198 zc t_198 kb_198 (p1 &&& (3 : Int32)) vl_198 (.int (0 : Int32)) T208.heap n0 Z215 F219 pr2 pr3 F227 F231 F232 F233) hZ204 (own_k hw 75 rfl) (own_k hw 6 rfl) (by decide) (by decide)) qa235 qc235 (g := (mkF m 72 #[.val (.int p1), .val (.int p2), .val (.int p3), .val (.int p4), .val (.ref b_198), .val (.ref b_208), .val (.ref b_198)] [(.ref b_198)])) rfl hml.symm (Steps.refl _) (argsL := []) (rest := []) (lenOf own_pd11 rfl) rfl (by show 2 * 0 + _ ≤ _; exact Nat.le_of_eq rfl) (hb hby at_72) (fun _ _ => ⟨rfl, e228, (by decide : 7 + 0 ≤ 24), (by decide : 19 + 0 ≤ 1152)⟩)
  dsimp only [Pt.U, Pt.locs, Pt.cells, Pt.slots] at X234 l234 y234 z234 st234 hQ234
  subst l234 y234 z234
  obtain ⟨rfl, N234, e234⟩ := hQ234
  have N236 := Fr.app N230 N234
  refine own_tr (T' := T234) (g' := (mkF m 75 #[.val (.int p1), .val (.int p2), .val (.int p3), .val (.int p4), .val (.ref b_198), .val (.ref b_208), .val (.ref b_198)] [(.int (p1 &&& (3 : Int32)))])) st234 ?_
  refine own_st (T' := T234) (g' := (mkF m 86 #[.val (.int p1), .val (.int p2), .val (.int p3), .val (.int p4), .val (.ref b_198), .val (.ref b_208), .val (.ref b_198)] [(.int (1 : Int32))])) (fun _ kt => XS.iloadN X234.here hx rfl (hb hby at_75) rfl (XS.iconst X234.here hx rfl (hb hby at_76) (XS.iand X234.here hx rfl (hb hby at_77) rfl (XS.icmpNo X234.here hx rfl (hb hby at_78) rfl (XT.ii_ne_f rfl) (XS.iconst X234.here hx rfl (hb hby at_81) (XS.goto X234.here hx rfl (pc0 := 82) (pc' := 86) rfl (hb hby at_82) (by decide) (by decide) kt)))))) ?_
  obtain ⟨fs, hr, hrun, hended, hE⟩ := Stand.leaveW X234 hS204 (by rw [e234]; exact hk215) (v := some (.int (1 : Int32))) (fun h => by rw [Bd.returns] at h; cases h)
  refine own_end (retN X234 hx (t := .boolean) Bd.returns (by simp) (hb hby at_86) hr) ⟨_, hrun, hended, _, _, rfl, ?_, (by rw [hh]; show CHr Z own_EL s.vm h0 T234.vm T234.heap; rw [e234]; exact CHr.trans CR214 (CHv.at X234 hZ204 (own_EW hw) CR214.1)), ⟨hE.1, hE.2.1, hE.2.2.1, hE.2.2.2.mono (by decide) (by decide)⟩⟩
  show own_lawQ Z p1 p2 p3 p4 zc kd h0 n0 _ T234.heap _
  rw [e234]
  exact ⟨rfl, N236⟩
set_option maxRecDepth 65536 in
set_option maxHeartbeats 40000000 in
theorem comes_1 {Post : Tables → Env → Array Value → State → Outcome → State → Prop} (hpost : ∀ tb e args s v u, (limb_1_1.after args s (.returned v) u = true ∧ limb_1_2.after args s (.returned v) u = true ∧ True) → ReturnedEndW s (.returned v) u (Jvm.fieldLocs frame_1_writes args s ++ Jvm.arrayLocs frame_1_arrays args s ++ Jvm.staticLocs frame_1_statics s) 24 1152 → Post tb e args s (.returned v) u) :
    ArmFor flags0 classFile x code maxLocals ret World_1 tables_1 room_1 Calls_1 rest_1 Pre_1 Post := by
  intro l hfl _ _ p e ha hc hk s m args below hf hA hF happ hP
  obtain ⟨hcalls, hrest, hpre⟩ := hP
  obtain ⟨-, -, -, hnamed, -, -, -, hat⟩ := (Spec.applies_iff hf).mp happ
  obtain ⟨hg, hn⟩ := and_e (Cond.before_iff.mp (show (Jvm.Cond.and given_1 narrow_1).before args s = true from hpre))
  obtain ⟨g0, hg⟩ := and_e hg
  obtain ⟨g1, hg⟩ := and_e hg
  obtain ⟨g2, hg⟩ := and_e hg
  obtain ⟨g3, hg⟩ := and_e hg
  obtain ⟨w0, w1, w2, w3, rfl⟩ : ∃ w0 w1 w2 w3 : Value, args = #[w0, w1, w2, w3] := by
    have hs : args.size = 4 := by simpa [Cond.value, given_1] using g0
    obtain ⟨L⟩ := args
    match L, hs with
    | [w0, w1, w2, w3], _ => exact ⟨w0, w1, w2, w3, rfl⟩
  have hw := fun d (hd : d ∈ tables_1) => atoms_spec (ws := Jvm.Cond.code x code maxLocals ret :: tables_1) hat d (List.mem_cons_of_mem _ hd)
  have hfit : Fit s := fun {y c} hc i hi => by
    obtain ⟨ha, rfl⟩ := Array.getElem?_eq_some_iff.mp hc
    have q := List.all_eq_true.mp ((Array.all_eq_true_iff_forall_mem.mp hF) _ (Array.getElem_mem ha)) i (List.mem_range.mpr hi)
    simpa [Array.getElem?_eq_getElem hi] using q
  obtain ⟨i0, e0⟩ := is_v g1
  obtain rfl : w0 = (.int i0) := Option.some.inj e0
  obtain ⟨i1, e1⟩ := is_v g2
  obtain rfl : w1 = (.int i1) := Option.some.inj e1
  obtain ⟨i2, e2⟩ := is_v g3
  obtain rfl : w2 = (.int i2) := Option.some.inj e2
  obtain ⟨i3, e3⟩ := is_v hg
  obtain rfl : w3 = (.int i3) := Option.some.inj e3
  obtain ⟨hsets, hown0⟩ := atoms_of _ (rest_1_c_eq ▸ (show rest_1_c.before _ s = true from hrest))
  have n5 := not_v (Cond.before_iff.mp (hsets _ (List.mem_of_getElem? (i := 2) rfl)))
  obtain ⟨zc, ez⟩ := is_v (Cond.before_iff.mp (hsets _ (List.mem_of_getElem? (i := 1) rfl)))
  have S1 : Sta s s.heap "java/lang/String" "COMPACT_STRINGS" "Z" (.int zc) := Sta.start ez (Or.inl (hsets _ (List.mem_of_getElem? (i := 0) rfl)))
  have hz : ¬ (zc = (0 : Int32)) := gotF (Cond.eq_ints ez (Term.int_eval (0))) n5
  have hCH : CHv s own_EL s.vm s.heap := CHv.start (own_EW hw) (fun p hp => hcalls.1 p hp) (hsets _ (List.mem_of_getElem? (i := 2) rfl)) (own_k hw 19 rfl) (own_k hw 5 rfl)
  obtain ⟨kd, ek⟩ := exa_v hn
  have S2 : Sta s s.heap "com/example/zorgbrug/zorgbrug/auth/TokenVerdict$Kind" "NOT_GRANTED" "Lcom/example/zorgbrug/zorgbrug/auth/TokenVerdict$Kind;" (.ref kd) := Sta.start ek (Or.inr ⟨own_k hw 33 rfl, own_k hw 34 rfl⟩)
  obtain ⟨n, o, h1, h2, h3, _, L, rfl, ⟨rfl, N⟩, -, hq⟩ := own_law l s _ hw tables_1 i0 i1 i2 i3 zc kd s.heap s.heap.size (Nat.le_refl _) (Old.start s) S1 hz S2 p e ha hc hk s m _ below hf ((Spec.applies_iff_loose hf).mp happ).1 ⟨rfl, State.Warmed39.refl s, rfl, hCH⟩ trivial
  refine ⟨n, _, h1, h2, h3, hpost _ _ _ _ _ _ ⟨Cond.after_iff.mpr rfl, Cond.after_iff.mpr (eq_i res_at (Term.int_eval (1)) rfl), trivial⟩ ⟨hq.1, hq.2.1, hq.2.2.1, (hq.2.2.2.sift fun y hy => Or.inr (N y hy)).mono (by decide) (by decide)⟩⟩
theorem main_1_1 : Claimed_1_1 := comes_1 fun _ _ _ _ _ _ h hF => ⟨h.1, hF⟩
theorem main_1_2 : Claimed_1_2 := comes_1 fun _ _ _ _ _ _ h hF => ⟨h.2.1, hF⟩
end Jvm.Pilot.@@N@@
namespace Jvm.Pilot.@@N@@
open Jvm Jvm.ClassFile Sem Op Lib Jvm.Free Jvm.Stand Jvm.Pilot.@@N@@.Jvm.D
/-! MADE BY PROGRAM (witnessworld.py) out of the Statement's table words and the real class files: 23 classes; the members and pool entries that the words name. The judged class is class 1, her method 2. -/
namespace start1
open Jvm.ClassFile
def u (s : String) : CpInfo := .utf8 (stringToUtf16 s)
/-- a pool by its gaps: so many unusable entries, then the entry; so many at the end -/
def gap : Nat → List CpInfo → List CpInfo
  | 0, r => r
  | n + 1, r => .unusable :: gap n r
def poolList (es : List (Nat × CpInfo)) (last : Nat) : List CpInfo := es.foldr (fun e r => gap e.1 (e.2 :: r)) (gap last [])
def pool (es : List (Nat × CpInfo)) (last : Nat) : Array CpInfo := ⟨poolList es last⟩
def fileOf (pool : Array CpInfo) (this : Nat) (attrs : Array Attribute := #[]) (ms : Array MethodInfo := #[]) (fl : Nat := 33) (sup : Nat := 0) (ifs : Array Nat := #[]) (fds : Array FieldInfo := #[]) : ClassFile where
  minorVersion := 0
  majorVersion := 65
  constantPool := pool
  accessFlags := fl
  thisClass := this
  superClass := sup
  interfaces := ifs
  fields := fds
  methods := ms
  attributes := attrs
def plain (name : String) (sup : Option ClassId) : Class where
  name := name
  kind := .ordinary
  loader := none
  accessFlags := 33
  super := sup
  interfaces := #[]
  cf := none
  fields := #[]
  methods := #[]
  instanceTypes := #[]
  staticTypes := #[]
  resolved := #[]
  callSites := []
  init := .initialized
  statics := none
  mirror := none

def pool0 : Array CpInfo := pool [(5, u "<init>"), (0, u "()V"), (1, .class_ 10), (1, u "java/lang/Object")] 113

def k0c0 : Code := { maxStack := 0, maxLocals := 1, code := object_method_1_code, exceptionTable := #[], attributes := #[] }
def k0m0 : Method := { name := "<init>", desc := "()V", sig := { parameters := [], returnType := none }, accessFlags := 1, code := some k0c0 }
/-- java/lang/Object -/
def k0 : Class := { plain "java/lang/Object" none with
  accessFlags := 33
  interfaces := #[]
  cf := some (fileOf pool0 8 #[] #[{ accessFlags := 1, nameIndex := 5, descriptorIndex := 6, attributes := #[] }] 33 0 #[] #[])
  fields := #[]
  methods := #[k0m0]
  instanceTypes := #[]
  staticTypes := #[]
  resolved := Array.replicate 124 none
  statics := none }

def pool1 : Array CpInfo := pool [(2, .class_ 4), (1, u "java/lang/Object"), (0, u "<init>"), (0, u "()V"), (0, .class_ 8), (0, u "java/lang/String"), (0, .methodref 7 10), (0, .nameAndType 5 11), (0, u "([C)V"), (0, .methodref 13 14), (0, .class_ 15), (0, .nameAndType 16 17), (0, u "com/example/zorgbrug/zorgbrug/auth/TokenVerdictNotGrantedPinLaw"), (0, u "drawn"), (0, u "(IIII)Ljava/lang/String;"), (0, .methodref 19 20), (0, .class_ 21), (0, .nameAndType 22 23), (0, u "com/example/zorgbrug/zorgbrug/auth/TokenVerdict"), (0, u "notGranted"), (0, u "(Ljava/lang/String;)Lcom/example/zorgbrug/zorgbrug/auth/TokenVerdict;"), (0, .methodref 19 25), (0, .nameAndType 26 27), (0, u "kind"), (0, u "()Lcom/example/zorgbrug/zorgbrug/auth/TokenVerdict$Kind;"), (0, .fieldref 29 30), (0, .class_ 31), (0, .nameAndType 32 33), (0, u "com/example/zorgbrug/zorgbrug/auth/TokenVerdict$Kind"), (0, u "NOT_GRANTED"), (0, u "Lcom/example/zorgbrug/zorgbrug/auth/TokenVerdict$Kind;"), (0, .methodref 19 35), (0, .nameAndType 36 37), (0, u "patientId"), (0, u "()Ljava/lang/String;"), (0, .methodref 19 39), (0, .nameAndType 40 37), (0, u "scope"), (0, .methodref 7 42), (0, .nameAndType 43 44), (0, u "equals"), (0, u "(Ljava/lang/Object;)Z"), (0, .methodref 7 46), (0, .nameAndType 47 48), (0, u "length"), (0, u "()I"), (3, u "law"), (0, u "(IIII)Z")] 4

def k1m0 : Method := { name := "<init>", desc := "()V", sig := { parameters := [], returnType := none }, accessFlags := 1, code := none }
def k1c1 : Code := { maxStack := 3, maxLocals := 9, code := method_2_code, exceptionTable := #[], attributes := #[] }
def k1m1 : Method := { name := "drawn", desc := "(IIII)Ljava/lang/String;", sig := { parameters := [.int, .int, .int, .int], returnType := some (.object "java/lang/String") }, accessFlags := 10, code := some k1c1 }
def k1c2 : Code := { maxStack := 4, maxLocals := 7, code := code, exceptionTable := #[], attributes := #[] }
def k1m2 : Method := { name := "law", desc := "(IIII)Z", sig := { parameters := [.int, .int, .int, .int], returnType := some .boolean }, accessFlags := 9, code := some k1c2 }
/-- com/example/zorgbrug/zorgbrug/auth/TokenVerdictNotGrantedPinLaw -/
def k1 : Class := { plain "com/example/zorgbrug/zorgbrug/auth/TokenVerdictNotGrantedPinLaw" (some 0) with
  accessFlags := 49
  interfaces := #[]
  cf := some (fileOf pool1 13 #[] #[{ accessFlags := 1, nameIndex := 5, descriptorIndex := 6, attributes := #[] }, { accessFlags := 10, nameIndex := 16, descriptorIndex := 17, attributes := #[] }, { accessFlags := 9, nameIndex := 52, descriptorIndex := 53, attributes := #[] }] 49 2 #[] #[])
  fields := #[]
  methods := #[k1m0, k1m1, k1m2]
  instanceTypes := #[]
  staticTypes := #[]
  resolved := Array.replicate 58 none
  statics := none }

def pool2 : Array CpInfo := pool [(1, .class_ 2), (0, u "java/io/Serializable"), (0, .class_ 4), (0, u "java/lang/Object")] 2

/-- java/io/Serializable -/
def k2 : Class := { plain "java/io/Serializable" (some 0) with
  accessFlags := 1537
  interfaces := #[]
  cf := some (fileOf pool2 1 #[] #[] 1537 3 #[] #[])
  fields := #[]
  methods := #[]
  instanceTypes := #[]
  staticTypes := #[]
  resolved := Array.replicate 7 none
  statics := none }

def pool3 : Array CpInfo := pool [(1, .class_ 2), (0, u "java/lang/Comparable"), (0, .class_ 4), (0, u "java/lang/Object")] 7

/-- java/lang/Comparable -/
def k3 : Class := { plain "java/lang/Comparable" (some 0) with
  accessFlags := 1537
  interfaces := #[]
  cf := some (fileOf pool3 1 #[] #[] 1537 3 #[] #[])
  fields := #[]
  methods := #[]
  instanceTypes := #[]
  staticTypes := #[]
  resolved := Array.replicate 12 none
  statics := none }

def pool4 : Array CpInfo := pool [(2, .class_ 4), (1, u "java/lang/CharSequence"), (42, .class_ 48), (0, u "java/lang/CharSequence$1CodePointIterator"), (10, .class_ 60), (0, u "java/lang/CharSequence$1CharIterator"), (5, .class_ 67), (0, u "java/lang/Object")] 63

/-- java/lang/CharSequence -/
def k4 : Class := { plain "java/lang/CharSequence" (some 0) with
  accessFlags := 1537
  interfaces := #[]
  cf := some (fileOf pool4 2 #[.nestMembers #[47, 59]] #[] 1537 66 #[] #[])
  fields := #[]
  methods := #[]
  instanceTypes := #[]
  staticTypes := #[]
  resolved := Array.replicate 131 none
  statics := none }

def pool5 : Array CpInfo := pool [(1, .class_ 2), (0, u "java/lang/constant/Constable"), (0, .class_ 4), (0, u "java/lang/Object")] 6

/-- java/lang/constant/Constable -/
def k5 : Class := { plain "java/lang/constant/Constable" (some 0) with
  accessFlags := 1537
  interfaces := #[]
  cf := some (fileOf pool5 1 #[] #[] 1537 3 #[] #[])
  fields := #[]
  methods := #[]
  instanceTypes := #[]
  staticTypes := #[]
  resolved := Array.replicate 11 none
  statics := none }

def pool6 : Array CpInfo := pool [(1, .class_ 2), (0, u "java/lang/constant/ConstantDesc"), (0, .class_ 4), (0, u "java/lang/Object")] 32

/-- java/lang/constant/ConstantDesc -/
def k6 : Class := { plain "java/lang/constant/ConstantDesc" (some 0) with
  accessFlags := 1537
  interfaces := #[]
  cf := some (fileOf pool6 1 #[] #[] 1537 3 #[] #[])
  fields := #[]
  methods := #[]
  instanceTypes := #[]
  staticTypes := #[]
  resolved := Array.replicate 37 none
  statics := none }

def pool7 : Array CpInfo := pool [(1, .methodref 2 3), (0, .class_ 4), (0, .nameAndType 5 6), (0, u "java/lang/Object"), (0, u "<init>"), (0, u "()V"), (0, .string 8), (0, u ""), (0, .fieldref 10 11), (0, .class_ 12), (0, .nameAndType 13 14), (0, u "java/lang/String"), (0, u "value"), (0, u "[B"), (0, .fieldref 10 16), (0, .nameAndType 17 18), (0, u "coder"), (0, u "B"), (2, u "hash"), (0, u "I"), (2, u "hashIsZero"), (0, u "Z"), (0, .methodref 10 28), (0, .nameAndType 5 29), (0, u "([CIILjava/lang/Void;)V"), (8, .fieldref 10 39), (0, .nameAndType 40 26), (0, u "COMPACT_STRINGS"), (1, .class_ 44), (1, u "java/lang/StringUTF16"), (0, u "compress"), (1, .methodref 42 48), (0, .nameAndType 49 50), (0, u "coderFromArrayLen"), (0, u "([BI)B"), (126, .methodref 42 178), (0, .nameAndType 45 179), (0, u "([CII)[B"), (154, u "()I"), (0, .methodref 10 336), (0, .nameAndType 17 337), (0, u "()B"), (169, u "length"), (35, u "equals"), (29, u "(Ljava/lang/Object;)Z"), (1, .class_ 576), (0, u "java/lang/CharSequence"), (22, u "CASE_INSENSITIVE_ORDER"), (0, u "Ljava/util/Comparator;"), (409, u "([C)V"), (90, u "serialPersistentFields"), (0, u "[Ljava/io/ObjectStreamField;"), (0, .class_ 1104), (0, u "java/lang/String$CaseInsensitiveComparator"), (1, .class_ 1107), (0, u "java/io/Serializable"), (0, .class_ 1109), (0, u "java/lang/Comparable"), (0, .class_ 1111), (0, u "java/lang/constant/Constable"), (0, .class_ 1113), (0, u "java/lang/constant/ConstantDesc"), (2, u "serialVersionUID"), (0, u "J"), (3, u "REPL"), (0, u "C"), (2, u "LATIN1"), (1, u "UTF16")] 323

def k7m0 : Method := { name := "<init>", desc := "()V", sig := { parameters := [], returnType := none }, accessFlags := 1, code := none }
def k7c1 : Code := { maxStack := 5, maxLocals := 2, code := jdk_42_method_3_code, exceptionTable := #[], attributes := #[] }
def k7m1 : Method := { name := "<init>", desc := "([C)V", sig := { parameters := [(.array .char)], returnType := none }, accessFlags := 1, code := some k7c1 }
def k7c2 : Code := { maxStack := 2, maxLocals := 1, code := jdk_42_method_54_code, exceptionTable := #[], attributes := #[] }
def k7m2 : Method := { name := "length", desc := "()I", sig := { parameters := [], returnType := some .int }, accessFlags := 1, code := some k7c2 }
def k7c3 : Code := { maxStack := 2, maxLocals := 3, code := jdk_42_method_66_code, exceptionTable := #[], attributes := #[] }
def k7m3 : Method := { name := "equals", desc := "(Ljava/lang/Object;)Z", sig := { parameters := [(.object "java/lang/Object")], returnType := some .boolean }, accessFlags := 1, code := some k7c3 }
def k7c4 : Code := { maxStack := 4, maxLocals := 6, code := jdk_42_method_149_code, exceptionTable := #[], attributes := #[] }
def k7m4 : Method := { name := "<init>", desc := "([CIILjava/lang/Void;)V", sig := { parameters := [(.array .char), .int, .int, (.object "java/lang/Void")], returnType := none }, accessFlags := 2, code := some k7c4 }
def k7c5 : Code := { maxStack := 1, maxLocals := 1, code := jdk_42_method_152_code, exceptionTable := #[], attributes := #[] }
def k7m5 : Method := { name := "coder", desc := "()B", sig := { parameters := [], returnType := some .byte }, accessFlags := 0, code := some k7c5 }
/-- java/lang/String -/
def k7 : Class := { plain "java/lang/String" (some 0) with
  accessFlags := 49
  interfaces := #[2, 3, 4, 5, 6]
  cf := some (fileOf pool7 10 #[.nestMembers #[1103]] #[{ accessFlags := 1, nameIndex := 5, descriptorIndex := 6, attributes := #[] }, { accessFlags := 1, nameIndex := 5, descriptorIndex := 1010, attributes := #[] }, { accessFlags := 1, nameIndex := 507, descriptorIndex := 334, attributes := #[] }, { accessFlags := 1, nameIndex := 543, descriptorIndex := 573, attributes := #[] }, { accessFlags := 2, nameIndex := 5, descriptorIndex := 29, attributes := #[] }, { accessFlags := 0, nameIndex := 17, descriptorIndex := 337, attributes := #[] }] 49 2 #[1106, 1108, 575, 1110, 1112] #[{ accessFlags := 18, nameIndex := 13, descriptorIndex := 14, attributes := #[] }, { accessFlags := 18, nameIndex := 17, descriptorIndex := 18, attributes := #[] }, { accessFlags := 2, nameIndex := 21, descriptorIndex := 22, attributes := #[] }, { accessFlags := 2, nameIndex := 25, descriptorIndex := 26, attributes := #[] }, { accessFlags := 26, nameIndex := 1116, descriptorIndex := 1117, attributes := #[] }, { accessFlags := 24, nameIndex := 40, descriptorIndex := 26, attributes := #[] }, { accessFlags := 26, nameIndex := 1101, descriptorIndex := 1102, attributes := #[] }, { accessFlags := 26, nameIndex := 1121, descriptorIndex := 1122, attributes := #[] }, { accessFlags := 25, nameIndex := 599, descriptorIndex := 600, attributes := #[] }, { accessFlags := 24, nameIndex := 1125, descriptorIndex := 18, attributes := #[] }, { accessFlags := 24, nameIndex := 1127, descriptorIndex := 18, attributes := #[] }])
  fields := #[{ name := "value", type := (.array .byte), accessFlags := 18, slot := 0, constantValue := 0 }, { name := "coder", type := .byte, accessFlags := 18, slot := 1, constantValue := 0 }, { name := "hash", type := .int, accessFlags := 2, slot := 2, constantValue := 0 }, { name := "hashIsZero", type := .boolean, accessFlags := 2, slot := 3, constantValue := 0 }, { name := "serialVersionUID", type := .long, accessFlags := 26, slot := 0, constantValue := 0 }, { name := "COMPACT_STRINGS", type := .boolean, accessFlags := 24, slot := 1, constantValue := 0 }, { name := "serialPersistentFields", type := (.array (.object "java/io/ObjectStreamField")), accessFlags := 26, slot := 2, constantValue := 0 }, { name := "REPL", type := .char, accessFlags := 26, slot := 3, constantValue := 0 }, { name := "CASE_INSENSITIVE_ORDER", type := (.object "java/util/Comparator"), accessFlags := 25, slot := 4, constantValue := 0 }, { name := "LATIN1", type := .byte, accessFlags := 24, slot := 5, constantValue := 0 }, { name := "UTF16", type := .byte, accessFlags := 24, slot := 6, constantValue := 0 }]
  methods := #[k7m0, k7m1, k7m2, k7m3, k7m4, k7m5]
  instanceTypes := #[(.array .byte), .byte, .int, .boolean]
  staticTypes := #[.long, .boolean, (.array (.object "java/io/ObjectStreamField")), .char, (.object "java/util/Comparator"), .byte, .byte]
  resolved := Array.replicate 1451 none
  statics := some 0 }

def pool8 : Array CpInfo := pool [(1, .methodref 2 3), (0, .class_ 4), (0, .nameAndType 5 6), (0, u "java/lang/Object"), (0, u "<init>"), (0, u "()V"), (0, .class_ 8), (0, u "java/lang/Record")] 13

def k8c0 : Code := { maxStack := 1, maxLocals := 1, code := jdk_30_method_1_code, exceptionTable := #[], attributes := #[] }
def k8m0 : Method := { name := "<init>", desc := "()V", sig := { parameters := [], returnType := none }, accessFlags := 4, code := some k8c0 }
/-- java/lang/Record -/
def k8 : Class := { plain "java/lang/Record" (some 0) with
  accessFlags := 1057
  interfaces := #[]
  cf := some (fileOf pool8 7 #[] #[{ accessFlags := 4, nameIndex := 5, descriptorIndex := 6, attributes := #[] }] 1057 2 #[] #[])
  fields := #[]
  methods := #[k8m0]
  instanceTypes := #[]
  staticTypes := #[]
  resolved := Array.replicate 22 none
  statics := none }

def pool9 : Array CpInfo := pool [(1, .methodref 2 3), (0, .class_ 4), (0, .nameAndType 5 6), (0, u "java/lang/Record"), (0, u "<init>"), (0, u "()V"), (0, .fieldref 8 9), (0, .class_ 10), (0, .nameAndType 11 12), (0, u "com/example/zorgbrug/zorgbrug/auth/TokenVerdict"), (0, u "kind"), (0, u "Lcom/example/zorgbrug/zorgbrug/auth/TokenVerdict$Kind;"), (0, .fieldref 8 14), (0, .nameAndType 15 16), (0, u "patientId"), (0, u "Ljava/lang/String;"), (0, .fieldref 8 18), (0, .nameAndType 19 16), (0, u "scope"), (1, .class_ 23), (1, u "com/example/zorgbrug/zorgbrug/auth/TokenVerdict$Kind"), (1, .methodref 8 26), (0, .nameAndType 5 27), (0, u "(Lcom/example/zorgbrug/zorgbrug/auth/TokenVerdict$Kind;Ljava/lang/String;Ljava/lang/String;)V"), (0, .fieldref 21 29), (0, .nameAndType 30 12), (0, u "NOT_GRANTED"), (14, u "INVALID"), (2, u "Lcom/example/zorgbrug/zorgbrug/auth/TokenVerdict;"), (2, u "UNAVAILABLE"), (6, u "(Ljava/lang/String;)Lcom/example/zorgbrug/zorgbrug/auth/TokenVerdict;"), (0, u "notGranted"), (0, u "()Ljava/lang/String;"), (2, u "()Lcom/example/zorgbrug/zorgbrug/auth/TokenVerdict$Kind;")] 25

def k9c0 : Code := { maxStack := 2, maxLocals := 4, code := prog_7_method_1_code, exceptionTable := #[], attributes := #[] }
def k9m0 : Method := { name := "<init>", desc := "(Lcom/example/zorgbrug/zorgbrug/auth/TokenVerdict$Kind;Ljava/lang/String;Ljava/lang/String;)V", sig := { parameters := [(.object "com/example/zorgbrug/zorgbrug/auth/TokenVerdict$Kind"), (.object "java/lang/String"), (.object "java/lang/String")], returnType := none }, accessFlags := 1, code := some k9c0 }
def k9c1 : Code := { maxStack := 5, maxLocals := 1, code := prog_7_method_3_code, exceptionTable := #[], attributes := #[] }
def k9m1 : Method := { name := "notGranted", desc := "(Ljava/lang/String;)Lcom/example/zorgbrug/zorgbrug/auth/TokenVerdict;", sig := { parameters := [(.object "java/lang/String")], returnType := some (.object "com/example/zorgbrug/zorgbrug/auth/TokenVerdict") }, accessFlags := 9, code := some k9c1 }
def k9c2 : Code := { maxStack := 1, maxLocals := 1, code := prog_7_method_7_code, exceptionTable := #[], attributes := #[] }
def k9m2 : Method := { name := "kind", desc := "()Lcom/example/zorgbrug/zorgbrug/auth/TokenVerdict$Kind;", sig := { parameters := [], returnType := some (.object "com/example/zorgbrug/zorgbrug/auth/TokenVerdict$Kind") }, accessFlags := 1, code := some k9c2 }
def k9c3 : Code := { maxStack := 1, maxLocals := 1, code := prog_7_method_8_code, exceptionTable := #[], attributes := #[] }
def k9m3 : Method := { name := "patientId", desc := "()Ljava/lang/String;", sig := { parameters := [], returnType := some (.object "java/lang/String") }, accessFlags := 1, code := some k9c3 }
def k9c4 : Code := { maxStack := 1, maxLocals := 1, code := prog_7_method_9_code, exceptionTable := #[], attributes := #[] }
def k9m4 : Method := { name := "scope", desc := "()Ljava/lang/String;", sig := { parameters := [], returnType := some (.object "java/lang/String") }, accessFlags := 1, code := some k9c4 }
/-- com/example/zorgbrug/zorgbrug/auth/TokenVerdict -/
def k9 : Class := { plain "com/example/zorgbrug/zorgbrug/auth/TokenVerdict" (some 8) with
  accessFlags := 49
  interfaces := #[]
  cf := some (fileOf pool9 8 #[.nestMembers #[21]] #[{ accessFlags := 1, nameIndex := 5, descriptorIndex := 27, attributes := #[] }, { accessFlags := 9, nameIndex := 59, descriptorIndex := 58, attributes := #[] }, { accessFlags := 1, nameIndex := 11, descriptorIndex := 63, attributes := #[] }, { accessFlags := 1, nameIndex := 15, descriptorIndex := 60, attributes := #[] }, { accessFlags := 1, nameIndex := 19, descriptorIndex := 60, attributes := #[] }] 49 2 #[] #[{ accessFlags := 18, nameIndex := 11, descriptorIndex := 12, attributes := #[] }, { accessFlags := 18, nameIndex := 15, descriptorIndex := 16, attributes := #[] }, { accessFlags := 18, nameIndex := 19, descriptorIndex := 16, attributes := #[] }, { accessFlags := 25, nameIndex := 45, descriptorIndex := 48, attributes := #[] }, { accessFlags := 25, nameIndex := 51, descriptorIndex := 48, attributes := #[] }])
  fields := #[{ name := "kind", type := (.object "com/example/zorgbrug/zorgbrug/auth/TokenVerdict$Kind"), accessFlags := 18, slot := 0, constantValue := 0 }, { name := "patientId", type := (.object "java/lang/String"), accessFlags := 18, slot := 1, constantValue := 0 }, { name := "scope", type := (.object "java/lang/String"), accessFlags := 18, slot := 2, constantValue := 0 }, { name := "INVALID", type := (.object "com/example/zorgbrug/zorgbrug/auth/TokenVerdict"), accessFlags := 25, slot := 0, constantValue := 0 }, { name := "UNAVAILABLE", type := (.object "com/example/zorgbrug/zorgbrug/auth/TokenVerdict"), accessFlags := 25, slot := 1, constantValue := 0 }]
  methods := #[k9m0, k9m1, k9m2, k9m3, k9m4]
  instanceTypes := #[(.object "com/example/zorgbrug/zorgbrug/auth/TokenVerdict$Kind"), (.object "java/lang/String"), (.object "java/lang/String")]
  staticTypes := #[(.object "com/example/zorgbrug/zorgbrug/auth/TokenVerdict"), (.object "com/example/zorgbrug/zorgbrug/auth/TokenVerdict")]
  resolved := Array.replicate 89 none
  statics := none }

def pool10 : Array CpInfo := pool [(2, .class_ 4), (1, u "java/lang/Enum"), (0, u "name"), (0, u "Ljava/lang/String;"), (2, u "ordinal"), (0, u "I"), (1, .class_ 14), (1, u "java/lang/Object"), (4, u "hash"), (86, .class_ 108), (1, u "java/lang/Enum$EnumDesc"), (2, .class_ 112), (0, u "java/lang/constant/Constable"), (0, .class_ 114), (0, u "java/lang/Comparable"), (0, .class_ 116), (0, u "java/io/Serializable")] 87

/-- java/lang/Enum -/
def k10 : Class := { plain "java/lang/Enum" (some 0) with
  accessFlags := 1057
  interfaces := #[5, 3, 2]
  cf := some (fileOf pool10 2 #[.nestMembers #[106]] #[] 1057 12 #[111, 113, 115] #[{ accessFlags := 18, nameIndex := 5, descriptorIndex := 6, attributes := #[] }, { accessFlags := 18, nameIndex := 9, descriptorIndex := 10, attributes := #[] }, { accessFlags := 2, nameIndex := 19, descriptorIndex := 10, attributes := #[] }])
  fields := #[{ name := "name", type := (.object "java/lang/String"), accessFlags := 18, slot := 0, constantValue := 0 }, { name := "ordinal", type := .int, accessFlags := 18, slot := 1, constantValue := 0 }, { name := "hash", type := .int, accessFlags := 2, slot := 2, constantValue := 0 }]
  methods := #[]
  instanceTypes := #[(.object "java/lang/String"), .int, .int]
  staticTypes := #[]
  resolved := Array.replicate 204 none
  statics := none }

def pool11 : Array CpInfo := pool [(1, .class_ 2), (0, u "com/example/zorgbrug/zorgbrug/auth/TokenVerdict$Kind"), (2, u "PATIENT"), (0, u "Lcom/example/zorgbrug/zorgbrug/auth/TokenVerdict$Kind;"), (2, u "INVALID"), (2, u "NOT_GRANTED"), (2, u "UNAVAILABLE"), (2, u "$VALUES"), (0, u "[Lcom/example/zorgbrug/zorgbrug/auth/TokenVerdict$Kind;"), (6, .class_ 28), (1, u "java/lang/Enum"), (27, .class_ 57), (0, u "com/example/zorgbrug/zorgbrug/auth/TokenVerdict")] 2

/-- com/example/zorgbrug/zorgbrug/auth/TokenVerdict$Kind -/
def k11 : Class := { plain "com/example/zorgbrug/zorgbrug/auth/TokenVerdict$Kind" (some 10) with
  accessFlags := 16433
  interfaces := #[]
  cf := some (fileOf pool11 1 #[.nestHost 56] #[] 16433 26 #[] #[{ accessFlags := 16409, nameIndex := 5, descriptorIndex := 6, attributes := #[] }, { accessFlags := 16409, nameIndex := 9, descriptorIndex := 6, attributes := #[] }, { accessFlags := 16409, nameIndex := 12, descriptorIndex := 6, attributes := #[] }, { accessFlags := 16409, nameIndex := 15, descriptorIndex := 6, attributes := #[] }, { accessFlags := 4122, nameIndex := 18, descriptorIndex := 19, attributes := #[] }])
  fields := #[{ name := "PATIENT", type := (.object "com/example/zorgbrug/zorgbrug/auth/TokenVerdict$Kind"), accessFlags := 16409, slot := 0, constantValue := 0 }, { name := "INVALID", type := (.object "com/example/zorgbrug/zorgbrug/auth/TokenVerdict$Kind"), accessFlags := 16409, slot := 1, constantValue := 0 }, { name := "NOT_GRANTED", type := (.object "com/example/zorgbrug/zorgbrug/auth/TokenVerdict$Kind"), accessFlags := 16409, slot := 2, constantValue := 0 }, { name := "UNAVAILABLE", type := (.object "com/example/zorgbrug/zorgbrug/auth/TokenVerdict$Kind"), accessFlags := 16409, slot := 3, constantValue := 0 }, { name := "$VALUES", type := (.array (.object "com/example/zorgbrug/zorgbrug/auth/TokenVerdict$Kind")), accessFlags := 4122, slot := 4, constantValue := 0 }]
  methods := #[]
  instanceTypes := #[(.object "java/lang/String"), .int, .int]
  staticTypes := #[(.object "com/example/zorgbrug/zorgbrug/auth/TokenVerdict$Kind"), (.object "com/example/zorgbrug/zorgbrug/auth/TokenVerdict$Kind"), (.object "com/example/zorgbrug/zorgbrug/auth/TokenVerdict$Kind"), (.object "com/example/zorgbrug/zorgbrug/auth/TokenVerdict$Kind"), (.array (.object "com/example/zorgbrug/zorgbrug/auth/TokenVerdict$Kind"))]
  resolved := Array.replicate 60 none
  statics := some 1 }

def pool12 : Array CpInfo := pool [(6, .class_ 8), (1, u "java/lang/Object"), (0, u "<init>"), (0, u "()V"), (1, .class_ 14), (1, u "java/lang/StringUTF16"), (31, u "$assertionsDisabled"), (0, u "Z"), (13, u "HI_BYTE_SHIFT"), (0, u "I"), (2, u "LO_BYTE_SHIFT"), (49, .methodref 12 116), (0, .nameAndType 117 118), (0, u "compress"), (0, u "([CI[BII)I"), (3, u "([CII)[B"), (138, u "coderFromArrayLen"), (0, u "([BI)B"), (106, .class_ 371), (1, u "java/lang/StringUTF16$LinesSpliterator"), (58, u "MAX_LENGTH"), (196, .class_ 628), (0, u "java/lang/StringUTF16$CodePointsSpliterator"), (0, .class_ 630), (0, u "java/lang/StringUTF16$CharsSpliterator")] 4

def k12m0 : Method := { name := "<init>", desc := "()V", sig := { parameters := [], returnType := none }, accessFlags := 0, code := none }
def k12c1 : Code := { maxStack := 2, maxLocals := 2, code := jdk_52_method_15_code, exceptionTable := #[], attributes := #[] }
def k12m1 : Method := { name := "coderFromArrayLen", desc := "([BI)B", sig := { parameters := [(.array .byte), .int], returnType := some .byte }, accessFlags := 8, code := some k12c1 }
def k12c2 : Code := { maxStack := 5, maxLocals := 6, code := jdk_52_method_16_code, exceptionTable := #[], attributes := #[] }
def k12m2 : Method := { name := "compress", desc := "([CII)[B", sig := { parameters := [(.array .char), .int, .int], returnType := some (.array .byte) }, accessFlags := 9, code := some k12c2 }
def k12c3 : Code := { maxStack := 3, maxLocals := 7, code := jdk_52_method_21_code, exceptionTable := #[], attributes := #[] }
def k12m3 : Method := { name := "compress", desc := "([CI[BII)I", sig := { parameters := [(.array .char), .int, (.array .byte), .int, .int], returnType := some .int }, accessFlags := 9, code := some k12c3 }
/-- java/lang/StringUTF16 -/
def k12 : Class := { plain "java/lang/StringUTF16" (some 0) with
  accessFlags := 48
  interfaces := #[]
  cf := some (fileOf pool12 12 #[.nestMembers #[627, 629, 369]] #[{ accessFlags := 0, nameIndex := 9, descriptorIndex := 10, attributes := #[] }, { accessFlags := 8, nameIndex := 261, descriptorIndex := 262, attributes := #[] }, { accessFlags := 9, nameIndex := 117, descriptorIndex := 122, attributes := #[] }, { accessFlags := 9, nameIndex := 117, descriptorIndex := 118, attributes := #[] }] 48 6 #[] #[{ accessFlags := 26, nameIndex := 61, descriptorIndex := 62, attributes := #[] }, { accessFlags := 26, nameIndex := 65, descriptorIndex := 62, attributes := #[] }, { accessFlags := 24, nameIndex := 430, descriptorIndex := 62, attributes := #[] }, { accessFlags := 4120, nameIndex := 46, descriptorIndex := 47, attributes := #[] }])
  fields := #[{ name := "HI_BYTE_SHIFT", type := .int, accessFlags := 26, slot := 0, constantValue := 0 }, { name := "LO_BYTE_SHIFT", type := .int, accessFlags := 26, slot := 1, constantValue := 0 }, { name := "MAX_LENGTH", type := .int, accessFlags := 24, slot := 2, constantValue := 0 }, { name := "$assertionsDisabled", type := .boolean, accessFlags := 4120, slot := 3, constantValue := 0 }]
  methods := #[k12m0, k12m1, k12m2, k12m3]
  instanceTypes := #[]
  staticTypes := #[.int, .int, .int, .boolean]
  resolved := Array.replicate 635 none
  statics := none }

def pool13 : Array CpInfo := pool [(4, .class_ 6), (1, u "java/lang/Object"), (0, u "<init>"), (0, u "()V"), (5, .class_ 16), (1, u "java/lang/StringLatin1"), (104, u "$assertionsDisabled"), (0, u "Z"), (98, .class_ 223), (1, u "java/lang/StringLatin1$LinesSpliterator"), (166, .class_ 391), (0, u "java/lang/StringLatin1$CharsSpliterator")] 3

def k13m0 : Method := { name := "<init>", desc := "()V", sig := { parameters := [], returnType := none }, accessFlags := 0, code := none }
/-- java/lang/StringLatin1 -/
def k13 : Class := { plain "java/lang/StringLatin1" (some 0) with
  accessFlags := 48
  interfaces := #[]
  cf := some (fileOf pool13 14 #[.nestMembers #[390, 221]] #[{ accessFlags := 0, nameIndex := 7, descriptorIndex := 8, attributes := #[] }] 48 4 #[] #[{ accessFlags := 4120, nameIndex := 121, descriptorIndex := 122, attributes := #[] }])
  fields := #[{ name := "$assertionsDisabled", type := .boolean, accessFlags := 4120, slot := 0, constantValue := 0 }]
  methods := #[k13m0]
  instanceTypes := #[]
  staticTypes := #[.boolean]
  resolved := Array.replicate 395 none
  statics := none }

def pool14 : Array CpInfo := pool [(2, .class_ 4), (1, u "java/lang/Object"), (0, u "<init>"), (0, u "()V"), (17, .class_ 26), (1, u "jdk/internal/util/Preconditions"), (28, .class_ 56), (0, u "jdk/internal/util/Preconditions$4"), (57, .class_ 115), (0, u "jdk/internal/util/Preconditions$1"), (7, u "SIOOBE_FORMATTER"), (0, u "Ljava/util/function/BiFunction;"), (0, .class_ 126), (0, u "jdk/internal/util/Preconditions$2"), (3, u "AIOOBE_FORMATTER"), (0, .class_ 132), (0, u "jdk/internal/util/Preconditions$3"), (3, u "IOOBE_FORMATTER")] 57

def k14m0 : Method := { name := "<init>", desc := "()V", sig := { parameters := [], returnType := none }, accessFlags := 1, code := none }
/-- jdk/internal/util/Preconditions -/
def k14 : Class := { plain "jdk/internal/util/Preconditions" (some 0) with
  accessFlags := 33
  interfaces := #[]
  cf := some (fileOf pool14 24 #[.nestMembers #[55, 131, 125, 114]] #[{ accessFlags := 1, nameIndex := 5, descriptorIndex := 6, attributes := #[] }] 33 2 #[] #[{ accessFlags := 25, nameIndex := 123, descriptorIndex := 124, attributes := #[] }, { accessFlags := 25, nameIndex := 130, descriptorIndex := 124, attributes := #[] }, { accessFlags := 25, nameIndex := 136, descriptorIndex := 124, attributes := #[] }])
  fields := #[{ name := "SIOOBE_FORMATTER", type := (.object "java/util/function/BiFunction"), accessFlags := 25, slot := 0, constantValue := 0 }, { name := "AIOOBE_FORMATTER", type := (.object "java/util/function/BiFunction"), accessFlags := 25, slot := 1, constantValue := 0 }, { name := "IOOBE_FORMATTER", type := (.object "java/util/function/BiFunction"), accessFlags := 25, slot := 2, constantValue := 0 }]
  methods := #[k14m0]
  instanceTypes := #[]
  staticTypes := #[(.object "java/util/function/BiFunction"), (.object "java/util/function/BiFunction"), (.object "java/util/function/BiFunction")]
  resolved := Array.replicate 194 none
  statics := some 2 }

def pool15 : Array CpInfo := pool [(9, u "<init>"), (6, .class_ 18), (1, u "java/lang/Object"), (0, u "()V"), (1, .class_ 23), (1, u "jdk/internal/util/ArraysSupport"), (0, u "LOG2_ARRAY_LONG_INDEX_SCALE"), (0, u "I"), (2, u "U"), (0, u "Ljdk/internal/misc/Unsafe;"), (8, u "BIG_ENDIAN"), (0, u "Z"), (8, u "LOG2_BYTE_BIT_SIZE"), (4, u "LOG2_ARRAY_INT_INDEX_SCALE"), (54, u "JLA"), (0, u "Ljdk/internal/access/JavaLangAccess;"), (11, u "LOG2_ARRAY_BOOLEAN_INDEX_SCALE"), (9, u "LOG2_ARRAY_BYTE_INDEX_SCALE"), (5, u "LOG2_ARRAY_CHAR_INDEX_SCALE"), (5, u "LOG2_ARRAY_SHORT_INDEX_SCALE"), (18, u "LOG2_ARRAY_FLOAT_INDEX_SCALE"), (24, u "LOG2_ARRAY_DOUBLE_INDEX_SCALE"), (89, u "T_BOOLEAN"), (2, u "T_CHAR"), (1, u "T_FLOAT"), (1, u "T_DOUBLE"), (1, u "T_BYTE"), (1, u "T_SHORT"), (1, u "T_INT"), (1, u "T_LONG"), (1, u "SOFT_MAX_ARRAY_LENGTH")] 83

def k15m0 : Method := { name := "<init>", desc := "()V", sig := { parameters := [], returnType := none }, accessFlags := 2, code := none }
/-- jdk/internal/util/ArraysSupport -/
def k15 : Class := { plain "jdk/internal/util/ArraysSupport" (some 0) with
  accessFlags := 33
  interfaces := #[]
  cf := some (fileOf pool15 21 #[] #[{ accessFlags := 2, nameIndex := 9, descriptorIndex := 19, attributes := #[] }] 33 16 #[] #[{ accessFlags := 24, nameIndex := 28, descriptorIndex := 29, attributes := #[] }, { accessFlags := 26, nameIndex := 38, descriptorIndex := 39, attributes := #[] }, { accessFlags := 25, nameIndex := 121, descriptorIndex := 25, attributes := #[] }, { accessFlags := 25, nameIndex := 131, descriptorIndex := 25, attributes := #[] }, { accessFlags := 25, nameIndex := 137, descriptorIndex := 25, attributes := #[] }, { accessFlags := 25, nameIndex := 143, descriptorIndex := 25, attributes := #[] }, { accessFlags := 25, nameIndex := 53, descriptorIndex := 25, attributes := #[] }, { accessFlags := 25, nameIndex := 24, descriptorIndex := 25, attributes := #[] }, { accessFlags := 25, nameIndex := 162, descriptorIndex := 25, attributes := #[] }, { accessFlags := 25, nameIndex := 187, descriptorIndex := 25, attributes := #[] }, { accessFlags := 26, nameIndex := 48, descriptorIndex := 25, attributes := #[] }, { accessFlags := 25, nameIndex := 277, descriptorIndex := 25, attributes := #[] }, { accessFlags := 25, nameIndex := 280, descriptorIndex := 25, attributes := #[] }, { accessFlags := 25, nameIndex := 282, descriptorIndex := 25, attributes := #[] }, { accessFlags := 25, nameIndex := 284, descriptorIndex := 25, attributes := #[] }, { accessFlags := 25, nameIndex := 286, descriptorIndex := 25, attributes := #[] }, { accessFlags := 25, nameIndex := 288, descriptorIndex := 25, attributes := #[] }, { accessFlags := 25, nameIndex := 290, descriptorIndex := 25, attributes := #[] }, { accessFlags := 25, nameIndex := 292, descriptorIndex := 25, attributes := #[] }, { accessFlags := 26, nameIndex := 108, descriptorIndex := 109, attributes := #[] }, { accessFlags := 25, nameIndex := 294, descriptorIndex := 25, attributes := #[] }])
  fields := #[{ name := "U", type := (.object "jdk/internal/misc/Unsafe"), accessFlags := 24, slot := 0, constantValue := 0 }, { name := "BIG_ENDIAN", type := .boolean, accessFlags := 26, slot := 1, constantValue := 0 }, { name := "LOG2_ARRAY_BOOLEAN_INDEX_SCALE", type := .int, accessFlags := 25, slot := 2, constantValue := 0 }, { name := "LOG2_ARRAY_BYTE_INDEX_SCALE", type := .int, accessFlags := 25, slot := 3, constantValue := 0 }, { name := "LOG2_ARRAY_CHAR_INDEX_SCALE", type := .int, accessFlags := 25, slot := 4, constantValue := 0 }, { name := "LOG2_ARRAY_SHORT_INDEX_SCALE", type := .int, accessFlags := 25, slot := 5, constantValue := 0 }, { name := "LOG2_ARRAY_INT_INDEX_SCALE", type := .int, accessFlags := 25, slot := 6, constantValue := 0 }, { name := "LOG2_ARRAY_LONG_INDEX_SCALE", type := .int, accessFlags := 25, slot := 7, constantValue := 0 }, { name := "LOG2_ARRAY_FLOAT_INDEX_SCALE", type := .int, accessFlags := 25, slot := 8, constantValue := 0 }, { name := "LOG2_ARRAY_DOUBLE_INDEX_SCALE", type := .int, accessFlags := 25, slot := 9, constantValue := 0 }, { name := "LOG2_BYTE_BIT_SIZE", type := .int, accessFlags := 26, slot := 10, constantValue := 0 }, { name := "T_BOOLEAN", type := .int, accessFlags := 25, slot := 11, constantValue := 0 }, { name := "T_CHAR", type := .int, accessFlags := 25, slot := 12, constantValue := 0 }, { name := "T_FLOAT", type := .int, accessFlags := 25, slot := 13, constantValue := 0 }, { name := "T_DOUBLE", type := .int, accessFlags := 25, slot := 14, constantValue := 0 }, { name := "T_BYTE", type := .int, accessFlags := 25, slot := 15, constantValue := 0 }, { name := "T_SHORT", type := .int, accessFlags := 25, slot := 16, constantValue := 0 }, { name := "T_INT", type := .int, accessFlags := 25, slot := 17, constantValue := 0 }, { name := "T_LONG", type := .int, accessFlags := 25, slot := 18, constantValue := 0 }, { name := "JLA", type := (.object "jdk/internal/access/JavaLangAccess"), accessFlags := 26, slot := 19, constantValue := 0 }, { name := "SOFT_MAX_ARRAY_LENGTH", type := .int, accessFlags := 25, slot := 20, constantValue := 0 }]
  methods := #[k15m0]
  instanceTypes := #[]
  staticTypes := #[(.object "jdk/internal/misc/Unsafe"), .boolean, .int, .int, .int, .int, .int, .int, .int, .int, .int, .int, .int, .int, .int, .int, .int, .int, .int, (.object "jdk/internal/access/JavaLangAccess"), .int]
  resolved := Array.replicate 378 none
  statics := none }

def pool16 : Array CpInfo := pool [(1, u "java/lang/Cloneable"), (0, .class_ 1), (0, u "java/lang/Object"), (0, .class_ 3)] 3

/-- java/lang/Cloneable -/
def k16 : Class := { plain "java/lang/Cloneable" (some 0) with
  accessFlags := 1537
  interfaces := #[]
  cf := some (fileOf pool16 2 #[] #[] 1537 4 #[] #[])
  fields := #[]
  methods := #[]
  instanceTypes := #[]
  staticTypes := #[]
  resolved := Array.replicate 8 none
  statics := none }

/-- the primitive byte -/
def k17 : Class := { plain "byte" none with kind := .primitive 'B', accessFlags := 0x411 }
/-- [B -/
def k18 : Class := { plain "[B" (some 0) with kind := .array 17 .byte, interfaces := #[16, 2], accessFlags := 1041 }

/-- the primitive char -/
def k19 : Class := { plain "char" none with kind := .primitive 'C', accessFlags := 0x411 }
/-- [C -/
def k20 : Class := { plain "[C" (some 0) with kind := .array 19 .char, interfaces := #[16, 2], accessFlags := 1041 }

/-- the primitive int -/
def k21 : Class := { plain "int" none with kind := .primitive 'I', accessFlags := 0x411 }
/-- [I -/
def k22 : Class := { plain "[I" (some 0) with kind := .array 21 .int, interfaces := #[16, 2], accessFlags := 1041 }

def heap : Heap := #[{ cls := 7, slots := #[.long 0, .int 1, .null, .int 0, .null, .int 0, .int 0], vm := .statics 7 },
  { cls := 11, slots := #[.null, .null, .ref 3, .null, .null], vm := .statics 11 },
  { cls := 14, slots := #[.null, .null, .null], vm := .statics 14 },
  { cls := 11, slots := #[.null, .int 2, .int 0], vm := .none }]
def classes : Array Class := #[k0, k1, k2, k3, k4, k5, k6, k7, k8, k9, k10, k11, k12, k13, k14, k15, k16, k17, k18, k19, k20, k21, k22]
def interned : List (Array UInt16 × Addr) := []
def slotsUsed : Nat := 18
def theMethod : MethodId := ⟨1, 2⟩
def args0 : Array Value := #[.int 5, .int 5, .int 5, .int 5]
def aboutOver (below : List Frame) : State where
  vm := { classes := classes, interned := interned.toArray }
  heap := heap
  slotsUsed := slotsUsed
  threads := #[{ frames := .invoking theMethod args0 :: below }]
def below0 : List Frame := [.native { method := ⟨0, 0⟩, args := #[] }]
def about1 : State := aboutOver below0
def p0 : Program := .bare "" "" ""
def e0 : Env := launch0.env 0 0 0
theorem w_frames : about1.frames = Frame.invoking theMethod args0 :: below0 := rfl
set_option maxRecDepth 65536 in
theorem w_args : argsFit about1.vm theMethod args0 = true := by decide +kernel
set_option maxRecDepth 65536 in
theorem w_heap : heapFits about1 = true := by decide +kernel
set_option maxRecDepth 65536 in
theorem w_runnable : about1.curStatus? = some .runnable := by decide +kernel
set_option maxRecDepth 65536 in
theorem w_alone : about1.alone = true := by decide +kernel
set_option maxRecDepth 65536 in
theorem w_named : about1.methodNamed? x = some theMethod := by decide +kernel
set_option maxRecDepth 65536 in
theorem w_hears : about1.hears theMethod below0 = true := by decide +kernel
set_option maxRecDepth 65536 in
theorem w_ripe : about1.ripe theMethod args0 below0 = true := by decide +kernel
theorem w_running : about1.status = .running := rfl
set_option maxRecDepth 65536 in
theorem w_room : about1.hasRoom e0.platform room_1 = true :=
  launch0.hasRoom_least _ room_1 (by decide +kernel) (by decide +kernel) (by decide +kernel) (by decide +kernel) (by decide +kernel) (by decide +kernel)
theorem allAtoms_all (ts : List Jvm.Cond) (a : Array Jvm.Value) (st : Jvm.State) : (allAtoms ts).before a st = ts.all (fun c => c.before a st) := by
  induction ts with
  | nil => rfl
  | cons c t ih =>
    show (Jvm.Cond.and c (allAtoms t)).before a st = _
    rw [Jvm.Cond.before_and, ih, List.all_cons]
def words1 : List Jvm.Cond := Jvm.Cond.code x code maxLocals ret :: tables_1
/-- a 'code' word, met by the world's own term for the bytes: nothing is compared byte by byte -/
theorem code_word {y : MethodName} {bytes : ByteArray} {mx : Nat} {rt : Option FieldType} {a : Array Value} {s : State} {m : MethodId} {meth : Method} {c : Code} (h1 : s.methodNamed? y = some m) (h2 : s.vm.method? m = some meth) (h3 : meth.code = some c) (h4 : c.code = bytes)
    (h5 : (c.maxLocals == mx && c.exceptionTable.isEmpty && decide (c.maxStack ≤ mostOperands) && decide (meth.sig.returnType = rt) && !meth.locks && decide (parseMethodDescriptor y.desc = some meth.sig)) = true) : (Jvm.Cond.code y bytes mx rt).before a s = true := by
  simp only [Bool.and_eq_true, beq_iff_eq, Bool.not_eq_true', decide_eq_true_eq] at h5
  obtain ⟨⟨⟨⟨⟨g1, g2⟩, g3⟩, g4⟩, g5⟩, g6⟩ := h5
  simp [Cond.before, Cond.holds, Cond.value, h1, h2, h3, h4, g1, g2, g3, g4, g5, g6]
def isCode : Jvm.Cond → Bool
  | .code _ _ _ _ => true
  | _ => false
theorem all_split {L : List Jvm.Cond} {P : Jvm.Cond → Bool} (h1 : L.all (fun c => isCode c || P c) = true) (h2 : ∀ c ∈ L.filter isCode, P c = true) : L.all P = true := by
  refine List.all_eq_true.mpr fun c hc => ?_
  have h := List.all_eq_true.mp h1 c hc
  rcases Bool.eq_false_or_eq_true (isCode c) with hi | hi
  · exact h2 c (List.mem_filter.mpr ⟨hc, hi⟩)
  · simpa [hi] using h
set_option maxRecDepth 65536 in
theorem w_c0 : (Jvm.Cond.code x code maxLocals ret).before args0 about1 = true := code_word (m := ⟨1, 2⟩) (meth := k1m2) (c := k1c2) (by decide +kernel) rfl rfl rfl (by decide +kernel)
set_option maxRecDepth 65536 in
theorem w_c1 : (Jvm.Cond.code ({ cls := "com/example/zorgbrug/zorgbrug/auth/TokenVerdictNotGrantedPinLaw", name := "drawn", desc := "(IIII)Ljava/lang/String;" } : Jvm.MethodName) method_2_code (9 : Nat) (Option.some (Jvm.ClassFile.FieldType.object "java/lang/String"))).before args0 about1 = true := code_word (m := ⟨1, 1⟩) (meth := k1m1) (c := k1c1) (by decide +kernel) rfl rfl rfl (by decide +kernel)
set_option maxRecDepth 65536 in
theorem w_c2 : (Jvm.Cond.code ({ cls := "java/lang/String", name := "<init>", desc := "([C)V" } : Jvm.MethodName) jdk_42_method_3_code (2 : Nat) (Option.none : Option Jvm.ClassFile.FieldType)).before args0 about1 = true := code_word (m := ⟨7, 1⟩) (meth := k7m1) (c := k7c1) (by decide +kernel) rfl rfl rfl (by decide +kernel)
set_option maxRecDepth 65536 in
theorem w_c3 : (Jvm.Cond.code ({ cls := "java/lang/String", name := "<init>", desc := "([CIILjava/lang/Void;)V" } : Jvm.MethodName) jdk_42_method_149_code (6 : Nat) (Option.none : Option Jvm.ClassFile.FieldType)).before args0 about1 = true := code_word (m := ⟨7, 4⟩) (meth := k7m4) (c := k7c4) (by decide +kernel) rfl rfl rfl (by decide +kernel)
set_option maxRecDepth 65536 in
theorem w_c4 : (Jvm.Cond.code ({ cls := "java/lang/Object", name := "<init>", desc := "()V" } : Jvm.MethodName) object_method_1_code (1 : Nat) (Option.none : Option Jvm.ClassFile.FieldType)).before args0 about1 = true := code_word (m := ⟨0, 0⟩) (meth := k0m0) (c := k0c0) (by decide +kernel) rfl rfl rfl (by decide +kernel)
set_option maxRecDepth 65536 in
theorem w_c5 : (Jvm.Cond.code ({ cls := "com/example/zorgbrug/zorgbrug/auth/TokenVerdict", name := "notGranted", desc := "(Ljava/lang/String;)Lcom/example/zorgbrug/zorgbrug/auth/TokenVerdict;" } : Jvm.MethodName) prog_7_method_3_code (1 : Nat) (Option.some (Jvm.ClassFile.FieldType.object "com/example/zorgbrug/zorgbrug/auth/TokenVerdict"))).before args0 about1 = true := code_word (m := ⟨9, 1⟩) (meth := k9m1) (c := k9c1) (by decide +kernel) rfl rfl rfl (by decide +kernel)
set_option maxRecDepth 65536 in
theorem w_c6 : (Jvm.Cond.code ({ cls := "com/example/zorgbrug/zorgbrug/auth/TokenVerdict", name := "<init>", desc := "(Lcom/example/zorgbrug/zorgbrug/auth/TokenVerdict$Kind;Ljava/lang/String;Ljava/lang/String;)V" } : Jvm.MethodName) prog_7_method_1_code (4 : Nat) (Option.none : Option Jvm.ClassFile.FieldType)).before args0 about1 = true := code_word (m := ⟨9, 0⟩) (meth := k9m0) (c := k9c0) (by decide +kernel) rfl rfl rfl (by decide +kernel)
set_option maxRecDepth 65536 in
theorem w_c7 : (Jvm.Cond.code ({ cls := "java/lang/Record", name := "<init>", desc := "()V" } : Jvm.MethodName) jdk_30_method_1_code (1 : Nat) (Option.none : Option Jvm.ClassFile.FieldType)).before args0 about1 = true := code_word (m := ⟨8, 0⟩) (meth := k8m0) (c := k8c0) (by decide +kernel) rfl rfl rfl (by decide +kernel)
set_option maxRecDepth 65536 in
theorem w_c8 : (Jvm.Cond.code ({ cls := "com/example/zorgbrug/zorgbrug/auth/TokenVerdict", name := "kind", desc := "()Lcom/example/zorgbrug/zorgbrug/auth/TokenVerdict$Kind;" } : Jvm.MethodName) prog_7_method_7_code (1 : Nat) (Option.some (Jvm.ClassFile.FieldType.object "com/example/zorgbrug/zorgbrug/auth/TokenVerdict$Kind"))).before args0 about1 = true := code_word (m := ⟨9, 2⟩) (meth := k9m2) (c := k9c2) (by decide +kernel) rfl rfl rfl (by decide +kernel)
set_option maxRecDepth 65536 in
theorem w_c9 : (Jvm.Cond.code ({ cls := "com/example/zorgbrug/zorgbrug/auth/TokenVerdict", name := "patientId", desc := "()Ljava/lang/String;" } : Jvm.MethodName) prog_7_method_8_code (1 : Nat) (Option.some (Jvm.ClassFile.FieldType.object "java/lang/String"))).before args0 about1 = true := code_word (m := ⟨9, 3⟩) (meth := k9m3) (c := k9c3) (by decide +kernel) rfl rfl rfl (by decide +kernel)
set_option maxRecDepth 65536 in
theorem w_c10 : (Jvm.Cond.code ({ cls := "com/example/zorgbrug/zorgbrug/auth/TokenVerdict", name := "scope", desc := "()Ljava/lang/String;" } : Jvm.MethodName) prog_7_method_9_code (1 : Nat) (Option.some (Jvm.ClassFile.FieldType.object "java/lang/String"))).before args0 about1 = true := code_word (m := ⟨9, 4⟩) (meth := k9m4) (c := k9c4) (by decide +kernel) rfl rfl rfl (by decide +kernel)
set_option maxRecDepth 65536 in
theorem w_c11 : (Jvm.Cond.code ({ cls := "java/lang/String", name := "equals", desc := "(Ljava/lang/Object;)Z" } : Jvm.MethodName) jdk_42_method_66_code (3 : Nat) (Option.some Jvm.ClassFile.FieldType.boolean)).before args0 about1 = true := code_word (m := ⟨7, 3⟩) (meth := k7m3) (c := k7c3) (by decide +kernel) rfl rfl rfl (by decide +kernel)
set_option maxRecDepth 65536 in
theorem w_c12 : (Jvm.Cond.code ({ cls := "java/lang/String", name := "length", desc := "()I" } : Jvm.MethodName) jdk_42_method_54_code (1 : Nat) (Option.some Jvm.ClassFile.FieldType.int)).before args0 about1 = true := code_word (m := ⟨7, 2⟩) (meth := k7m2) (c := k7c2) (by decide +kernel) rfl rfl rfl (by decide +kernel)
set_option maxRecDepth 65536 in
theorem w_c13 : (Jvm.Cond.code ({ cls := "java/lang/String", name := "coder", desc := "()B" } : Jvm.MethodName) jdk_42_method_152_code (1 : Nat) (Option.some Jvm.ClassFile.FieldType.byte)).before args0 about1 = true := code_word (m := ⟨7, 5⟩) (meth := k7m5) (c := k7c5) (by decide +kernel) rfl rfl rfl (by decide +kernel)
set_option maxRecDepth 65536 in
theorem w_c14 : (Jvm.Cond.code ({ cls := "java/lang/StringUTF16", name := "compress", desc := "([CII)[B" } : Jvm.MethodName) jdk_52_method_16_code (6 : Nat) (Option.some (Jvm.ClassFile.FieldType.array Jvm.ClassFile.FieldType.byte))).before args0 about1 = true := code_word (m := ⟨12, 2⟩) (meth := k12m2) (c := k12c2) (by decide +kernel) rfl rfl rfl (by decide +kernel)
set_option maxRecDepth 65536 in
theorem w_c15 : (Jvm.Cond.code ({ cls := "java/lang/StringUTF16", name := "compress", desc := "([CI[BII)I" } : Jvm.MethodName) jdk_52_method_21_code (7 : Nat) (Option.some Jvm.ClassFile.FieldType.int)).before args0 about1 = true := code_word (m := ⟨12, 3⟩) (meth := k12m3) (c := k12c3) (by decide +kernel) rfl rfl rfl (by decide +kernel)
set_option maxRecDepth 65536 in
theorem w_c16 : (Jvm.Cond.code ({ cls := "java/lang/StringUTF16", name := "coderFromArrayLen", desc := "([BI)B" } : Jvm.MethodName) jdk_52_method_15_code (2 : Nat) (Option.some Jvm.ClassFile.FieldType.byte)).before args0 about1 = true := code_word (m := ⟨12, 1⟩) (meth := k12m1) (c := k12c1) (by decide +kernel) rfl rfl rfl (by decide +kernel)
def codes1 : List Jvm.Cond := [Jvm.Cond.code x code maxLocals ret, Jvm.Cond.code ({ cls := "com/example/zorgbrug/zorgbrug/auth/TokenVerdictNotGrantedPinLaw", name := "drawn", desc := "(IIII)Ljava/lang/String;" } : Jvm.MethodName) method_2_code (9 : Nat) (Option.some (Jvm.ClassFile.FieldType.object "java/lang/String")), Jvm.Cond.code ({ cls := "java/lang/String", name := "<init>", desc := "([C)V" } : Jvm.MethodName) jdk_42_method_3_code (2 : Nat) (Option.none : Option Jvm.ClassFile.FieldType), Jvm.Cond.code ({ cls := "java/lang/String", name := "<init>", desc := "([CIILjava/lang/Void;)V" } : Jvm.MethodName) jdk_42_method_149_code (6 : Nat) (Option.none : Option Jvm.ClassFile.FieldType), Jvm.Cond.code ({ cls := "java/lang/Object", name := "<init>", desc := "()V" } : Jvm.MethodName) object_method_1_code (1 : Nat) (Option.none : Option Jvm.ClassFile.FieldType), Jvm.Cond.code ({ cls := "com/example/zorgbrug/zorgbrug/auth/TokenVerdict", name := "notGranted", desc := "(Ljava/lang/String;)Lcom/example/zorgbrug/zorgbrug/auth/TokenVerdict;" } : Jvm.MethodName) prog_7_method_3_code (1 : Nat) (Option.some (Jvm.ClassFile.FieldType.object "com/example/zorgbrug/zorgbrug/auth/TokenVerdict")), Jvm.Cond.code ({ cls := "com/example/zorgbrug/zorgbrug/auth/TokenVerdict", name := "<init>", desc := "(Lcom/example/zorgbrug/zorgbrug/auth/TokenVerdict$Kind;Ljava/lang/String;Ljava/lang/String;)V" } : Jvm.MethodName) prog_7_method_1_code (4 : Nat) (Option.none : Option Jvm.ClassFile.FieldType), Jvm.Cond.code ({ cls := "java/lang/Record", name := "<init>", desc := "()V" } : Jvm.MethodName) jdk_30_method_1_code (1 : Nat) (Option.none : Option Jvm.ClassFile.FieldType), Jvm.Cond.code ({ cls := "com/example/zorgbrug/zorgbrug/auth/TokenVerdict", name := "kind", desc := "()Lcom/example/zorgbrug/zorgbrug/auth/TokenVerdict$Kind;" } : Jvm.MethodName) prog_7_method_7_code (1 : Nat) (Option.some (Jvm.ClassFile.FieldType.object "com/example/zorgbrug/zorgbrug/auth/TokenVerdict$Kind")), Jvm.Cond.code ({ cls := "com/example/zorgbrug/zorgbrug/auth/TokenVerdict", name := "patientId", desc := "()Ljava/lang/String;" } : Jvm.MethodName) prog_7_method_8_code (1 : Nat) (Option.some (Jvm.ClassFile.FieldType.object "java/lang/String")), Jvm.Cond.code ({ cls := "com/example/zorgbrug/zorgbrug/auth/TokenVerdict", name := "scope", desc := "()Ljava/lang/String;" } : Jvm.MethodName) prog_7_method_9_code (1 : Nat) (Option.some (Jvm.ClassFile.FieldType.object "java/lang/String")), Jvm.Cond.code ({ cls := "java/lang/String", name := "equals", desc := "(Ljava/lang/Object;)Z" } : Jvm.MethodName) jdk_42_method_66_code (3 : Nat) (Option.some Jvm.ClassFile.FieldType.boolean), Jvm.Cond.code ({ cls := "java/lang/String", name := "length", desc := "()I" } : Jvm.MethodName) jdk_42_method_54_code (1 : Nat) (Option.some Jvm.ClassFile.FieldType.int), Jvm.Cond.code ({ cls := "java/lang/String", name := "coder", desc := "()B" } : Jvm.MethodName) jdk_42_method_152_code (1 : Nat) (Option.some Jvm.ClassFile.FieldType.byte), Jvm.Cond.code ({ cls := "java/lang/StringUTF16", name := "compress", desc := "([CII)[B" } : Jvm.MethodName) jdk_52_method_16_code (6 : Nat) (Option.some (Jvm.ClassFile.FieldType.array Jvm.ClassFile.FieldType.byte)), Jvm.Cond.code ({ cls := "java/lang/StringUTF16", name := "compress", desc := "([CI[BII)I" } : Jvm.MethodName) jdk_52_method_21_code (7 : Nat) (Option.some Jvm.ClassFile.FieldType.int), Jvm.Cond.code ({ cls := "java/lang/StringUTF16", name := "coderFromArrayLen", desc := "([BI)B" } : Jvm.MethodName) jdk_52_method_15_code (2 : Nat) (Option.some Jvm.ClassFile.FieldType.byte)]
set_option maxRecDepth 65536 in
theorem codes_eq : words1.filter isCode = codes1 := rfl
theorem w_codes : ∀ c ∈ words1.filter isCode, c.before args0 about1 = true := by
  rw [codes_eq]
  intro c hc
  simp only [codes1, List.mem_cons, List.not_mem_nil, or_false] at hc
  rcases hc with rfl | rfl | rfl | rfl | rfl | rfl | rfl | rfl | rfl | rfl | rfl | rfl | rfl | rfl | rfl | rfl | rfl
  · exact w_c0
  · exact w_c1
  · exact w_c2
  · exact w_c3
  · exact w_c4
  · exact w_c5
  · exact w_c6
  · exact w_c7
  · exact w_c8
  · exact w_c9
  · exact w_c10
  · exact w_c11
  · exact w_c12
  · exact w_c13
  · exact w_c14
  · exact w_c15
  · exact w_c16
set_option maxRecDepth 65536 in
theorem w_t1 : (words1.take 24).all (fun c => isCode c || c.before args0 about1) = true := by decide +kernel
set_option maxRecDepth 65536 in
theorem w_t2 : ((words1.drop 24).take 24).all (fun c => isCode c || c.before args0 about1) = true := by decide +kernel
set_option maxRecDepth 65536 in
theorem w_t3 : (((words1.drop 24).drop 24).take 24).all (fun c => isCode c || c.before args0 about1) = true := by decide +kernel
set_option maxRecDepth 65536 in
theorem w_t4 : (((words1.drop 24).drop 24).drop 24).all (fun c => isCode c || c.before args0 about1) = true := by decide +kernel
theorem w_tables : (allAtoms (Jvm.Cond.code x code maxLocals ret :: tables_1)).before args0 about1 = true := by
  rw [allAtoms_all]
  show words1.all (fun c => c.before args0 about1) = true
  refine all_split ?_ w_codes
  rw [← List.take_append_drop 24 words1, List.all_append, w_t1, ← List.take_append_drop 24 (words1.drop 24), List.all_append, w_t2, ← List.take_append_drop 24 ((words1.drop 24).drop 24), List.all_append, w_t3, w_t4]
  rfl
set_option maxRecDepth 65536 in
theorem w_rest : rest_1_c.before args0 about1 = true := by decide +kernel
set_option maxRecDepth 65536 in
theorem w_case : (Jvm.Cond.and given_1 narrow_1).before args0 about1 = true := by decide +kernel
set_option maxRecDepth 65536 in
theorem w_consts : constsHeld consts_1 about1 := Jvm.Lit.constsHeldB_iff.mp (by decide +kernel)
theorem w_applies : (headSpec (Jvm.Cond.code x code maxLocals ret :: tables_1) room_1).applies x e0.platform about1 = true :=
  (Spec.applies_iff w_frames).mpr ⟨w_running, w_runnable, w_alone, w_named, w_hears, w_ripe, w_room, w_tables⟩
theorem atStart : AtStart classFile x code maxLocals ret World_1 tables_1 room_1 Calls_1 rest_1 Pre_1 launch0 p0 e0 about1 theMethod args0 below0 :=
  ⟨lists_1, trivial, launch0.admits_env _ _ _, launch0.least_env, fairChoices_fair.cas, fairChoices_fair.clock, w_frames, w_args, w_heap, w_applies, ⟨w_consts, trivial⟩, w_rest, w_case⟩
end start1
theorem witness_1 : WitnessClaimed_1 := ⟨start1.p0, start1.e0, start1.about1, start1.theMethod, start1.args0, start1.below0, start1.atStart⟩
end Jvm.Pilot.@@N@@
