import JvmDerived
import JvmDerived.Pilot.@@N@@Statement
import JvmDerived.Pilot.@@N@@Code
set_option linter.unusedVariables false
set_option linter.unusedSimpArgs false
/- laws to paste: Road.backV (cut by pick.py; bodies as the Statement names them) -/
namespace Jvm.Pilot.@@N@@
namespace StrChars
open Jvm Sem ClassFile Op Lib Jvm.Stand Jvm.Free.XT Jvm.Free.ALB Jvm.Free.JM Jvm.Free
open Jvm.Lib.Cold (StaticIs)
/-- a char array whose places are chars -/
def Ch (a : Addr) (A : Cell) (U : State) : Prop := Arr .char a A U ∧ Typed .char A
theorem Ch.mv {a : Addr} {A : Cell} {U U' : State} (h : Ch a A U) (hal : U.vm.Alike U'.vm) (hh : U'.heap = U.heap) : Ch a A U' := ⟨h.1.mv hal hh, h.2⟩
theorem Ch.keep {a : Addr} {A : Cell} {U U' : State} (h : Ch a A U) (hal : U.vm.Alike U'.vm) (hk : U'.heap[a]? = some A) : Ch a A U' := ⟨h.1.keep hal hk, h.2⟩
/-- what place i of a char[]'s cell holds -/
def cv (A : Cell) (i : Nat) : Int32 := match A.slots[i]? with | some (.int x) => x | _ => 0
theorem Ch.get {a : Addr} {A : Cell} {U : State} (h : Ch a A U) {i : Nat} (hi : i < A.slots.size) : A.slots[i]? = some (.int (cv A i)) := by
  have e := Array.getElem?_eq_getElem hi
  have f := h.2 i _ e
  unfold cv; rw [e]
  generalize A.slots[i] = v at f
  cases v <;> simp [fits] at f ⊢
/-- the byte that i2b leaves of a char -/
def lo8 (x : Int32) : Int32 := x.toInt8.toInt32
theorem fits_lo8 (y : Int32) : fits .byte (.int (lo8 y)) = true := by
  have h1 := y.toInt8.le_toInt
  have h2 := y.toInt8.toInt_lt
  simp only [lo8, fits, Bool.and_eq_true, decide_eq_true_eq, Int32.le_iff_toInt_le, Int8.toInt_toInt32, show (-128 : Int32).toInt = -128 from by decide, show (127 : Int32).toInt = 127 from by decide]
  omega
/-- A' is A but that each place j of lo .. hi - 1 holds f j -/
def Laid (A A' : Cell) (lo hi : Nat) (f : Nat → Value) : Prop := A'.cls = A.cls ∧ A'.vm = A.vm ∧ A'.slots.size = A.slots.size ∧ ∀ i, A'.slots[i]? = if lo ≤ i ∧ i < hi then some (f i) else A.slots[i]?
theorem Laid.zero (A : Cell) (lo : Nat) (f : Nat → Value) : Laid A A lo (lo + 0) f := ⟨rfl, rfl, rfl, fun i => by rw [if_neg (by omega)]⟩
theorem Laid.step {A Ak : Cell} {lo k : Nat} {f : Nat → Value} {v : Value} (h : Laid A Ak lo k f) (hlo : lo ≤ k) (hk : k < Ak.slots.size) (hv : v = f k) : Laid A (Ak.setSlot k v) lo (k + 1) f := by
  refine ⟨h.1, h.2.1, by simpa [Cell.setSlot] using h.2.2.1, fun i => ?_⟩
  by_cases e : k = i
  · subst e; rw [Cell.slots_setSlot_self v hk, if_pos (by omega), hv]
  · rw [Cell.slots_setSlot_ne v e, h.2.2.2 i]
    by_cases q : lo ≤ i ∧ i < k
    · rw [if_pos q, if_pos (by omega)]
    · rw [if_neg q, if_neg (by omega)]
def U16 : String := "java/lang/StringUTF16"
namespace Cmp5
def yN : MethodName := ⟨"java/lang/StringUTF16", "compress", "([CI[BII)I"⟩
abbrev yB : ByteArray := jdk_52_method_21_code
theorem d0 : decode yB 0 = .ok (.iconst 0, 1) := by decide +kernel
theorem d1 : decode yB 1 = .ok (.istore 5, 2) := by decide +kernel
theorem d3 : decode yB 3 = .ok (.iload 5, 2) := by decide +kernel
theorem d5 : decode yB 5 = .ok (.iload 4, 2) := by decide +kernel
theorem d7 : decode yB 7 = .ok (.if_icmp (.ge) 37, 3) := by decide +kernel
theorem d10 : decode yB 10 = .ok (.aload_n 0, 1) := by decide +kernel
theorem d11 : decode yB 11 = .ok (.iload_n 1, 1) := by decide +kernel
theorem d12 : decode yB 12 = .ok (.caload, 1) := by decide +kernel
theorem d13 : decode yB 13 = .ok (.istore 6, 2) := by decide +kernel
theorem d15 : decode yB 15 = .ok (.iload 6, 2) := by decide +kernel
theorem d17 : decode yB 17 = .ok (.sipush 255, 3) := by decide +kernel
theorem d20 : decode yB 20 = .ok (.if_icmp (.le) 6, 3) := by decide +kernel
theorem d26 : decode yB 26 = .ok (.aload_n 2, 1) := by decide +kernel
theorem d27 : decode yB 27 = .ok (.iload_n 3, 1) := by decide +kernel
theorem d28 : decode yB 28 = .ok (.iload 6, 2) := by decide +kernel
theorem d30 : decode yB 30 = .ok (.i2b, 1) := by decide +kernel
theorem d31 : decode yB 31 = .ok (.bastore, 1) := by decide +kernel
theorem d32 : decode yB 32 = .ok (.iinc 1 1, 3) := by decide +kernel
theorem d35 : decode yB 35 = .ok (.iinc 3 1, 3) := by decide +kernel
theorem d38 : decode yB 38 = .ok (.iinc 5 1, 3) := by decide +kernel
theorem d41 : decode yB 41 = .ok (.goto (-38), 3) := by decide +kernel
theorem d44 : decode yB 44 = .ok (.iload 4, 2) := by decide +kernel
theorem d46 : decode yB 46 = .ok (.ireturn, 1) := by decide +kernel
def site : List Cond := []
def tab : Cond := tabOf yN yB 7 (some .int) site
def P (b : Addr) (A : Cell) (d : Addr) (B : Cell) (o q len : Nat) (args : Array Value) (s : State) : Prop := args = #[.ref b, .int (Int32.ofNat o), .ref d, .int (Int32.ofNat q), .int (Int32.ofNat len)] ∧ Ch b A s ∧ Arr .byte d B s ∧ b ≠ d ∧ o + len ≤ A.slots.size ∧ q + len ≤ B.slots.size ∧ ∀ i, i < len → ¬ 255 < cv A (o + i)
def E (b : Addr) (A : Cell) (d : Addr) (B : Cell) (o q len : Nat) (r : Option Value) (s u : State) : Prop := r = some (.int (Int32.ofNat len)) ∧ ∃ B', Put d B' s u ∧ Laid B B' q (q + len) (fun j => Value.int (lo8 (cv A (o + (j - q)))))
/-- no char of the range above 255: len; the places written hold each char's low byte -/
theorem law (l : Launch) (b : Addr) (A : Cell) (d : Addr) (B : Cell) (o q len : Nat) : Law l yN 5 5 0 0 yB 7 (some .int) site (P b A d B o q len) (E b A d B o q len) (copyLocs d q len) 0 0 := by
  refine Law.of_walk (plainFor_of_name (by decide +kernel)) (by decide +kernel) (by decide +kernel) (by decide) (fun _ _ h => by rw [h.1]; rfl) (fun _ U U' hal hh h => ⟨h.1, h.2.1.mv hal hh, h.2.2.1.mv hal hh, h.2.2.2⟩) (fun r U U' V V' h1 hal h2 h => ⟨h.1, h.2.elim fun B' q => ⟨B', q.1.mv h1 h2, q.2⟩⟩) ?_
  intro p e s m args below meth c s₁ X0 hexec hbytes hml hret hlk hnm hown hh0 W hP
  obtain ⟨rfl, hA, hB, hne, l1, l2, hp⟩ := hP
  have c1 : Steps p.tables e below (s₁.setTop (entryFrame m #[.ref b, .int (Int32.ofNat o), .ref d, .int (Int32.ofNat q), .int (Int32.ofNat len)] 7)) (s₁.setTop (mkF m 0 #[.val (.ref b), .val (.int (Int32.ofNat o)), .val (.ref d), .val (.int (Int32.ofNat q)), .val (.int (Int32.ofNat len)), .unset, .unset] [])) := entry rfl
  have hA0 := hA.1.mv X0.warmed.alike hh0
  have hB0 := hB.mv X0.warmed.alike hh0
  have a31 := hA.1.2.2.2
  have c2 : Steps p.tables e below (s₁.setTop (entryFrame m #[.ref b, .int (Int32.ofNat o), .ref d, .int (Int32.ofNat q), .int (Int32.ofNat len)] 7)) (s₁.setTop (mkF m 3 #[.val (.ref b), .val (.int (Int32.ofNat o)), .val (.ref d), .val (.int (Int32.ofNat q)), .val (.int (Int32.ofNat len)), .val (.int 0), .unset] [])) := c1.trans (by
    refine iconstV X0.here hexec rfl 0 (hb hbytes d0) (by decide) ?_
    refine XS.istore X0.here hexec rfl (hb hbytes d1) rfl rfl ?_
    exact Steps.refl _)
  have loop : ∀ (r i : Nat), i + r = len → ∀ (z : Slot), (z = .unset ∨ ∃ w, z = .val w ∧ w.category = 1) → ∀ (Tl : State) (Bk : Cell), Stand p l e { frames := 0, locals := 0, cells := 0, slots := 0 } s m #[.ref b, .int (Int32.ofNat o), .ref d, .int (Int32.ofNat q), .int (Int32.ofNat len)] below meth c Tl ([] ++ copyLocs d q i) 0 0 → Put d Bk s₁ Tl → Laid B Bk q (q + i) (fun j => Value.int (lo8 (cv A (o + (j - q))))) →
      Steps p.tables e below (s₁.setTop (entryFrame m #[.ref b, .int (Int32.ofNat o), .ref d, .int (Int32.ofNat q), .int (Int32.ofNat len)] 7)) (Tl.setTop (mkF m 3 #[.val (.ref b), .val (.int (Int32.ofNat (o + i))), .val (.ref d), .val (.int (Int32.ofNat (q + i))), .val (.int (Int32.ofNat len)), .val (.int (Int32.ofNat i)), z] [])) → ∃ (T' : State) (B' : Cell) (z' : Slot), Stand p l e { frames := 0, locals := 0, cells := 0, slots := 0 } s m #[.ref b, .int (Int32.ofNat o), .ref d, .int (Int32.ofNat q), .int (Int32.ofNat len)] below meth c T' ([] ++ copyLocs d q len) 0 0 ∧ Put d B' s₁ T' ∧ Laid B B' q (q + len) (fun j => Value.int (lo8 (cv A (o + (j - q))))) ∧
      Steps p.tables e below (s₁.setTop (entryFrame m #[.ref b, .int (Int32.ofNat o), .ref d, .int (Int32.ofNat q), .int (Int32.ofNat len)] 7)) (T'.setTop (mkF m 3 #[.val (.ref b), .val (.int (Int32.ofNat (o + len))), .val (.ref d), .val (.int (Int32.ofNat (q + len))), .val (.int (Int32.ofNat len)), .val (.int (Int32.ofNat len)), z'] [])) := by
    intro r
    induction r with
    | zero =>
      intro i hi z hz Tl Bk Xl pl fl cl
      have hil : i = len := by omega
      rw [hil] at Xl fl cl
      exact ⟨Tl, Bk, z, Xl, pl, fl, cl⟩
    | succ r ih =>
      intro i hi z hz Tl Bk Xl pl fl cl
      have all := X0.warmed.alike.symm.trans Xl.warmed.alike
      have hAl := hA0.keep all (pl.other hne hA0.1)
      have hBk := hB0.like all pl.1 fl.1 fl.2.1 fl.2.2.1
      have hlt : q + i < Bk.slots.size := by rw [fl.2.2.1]; omega
      have c3 : Steps p.tables e below (s₁.setTop (entryFrame m #[.ref b, .int (Int32.ofNat o), .ref d, .int (Int32.ofNat q), .int (Int32.ofNat len)] 7)) (Tl.setTop (mkF m 12 #[.val (.ref b), .val (.int (Int32.ofNat (o + i))), .val (.ref d), .val (.int (Int32.ofNat (q + i))), .val (.int (Int32.ofNat len)), .val (.int (Int32.ofNat i)), z] [.int (Int32.ofNat (o + i)), .ref b])) := cl.trans (by
        refine XS.iload Xl.here hexec rfl (hb hbytes d3) rfl ?_
        refine XS.iload Xl.here hexec rfl (hb hbytes d5) rfl ?_
        refine XS.icmpNo Xl.here hexec rfl (hb hbytes d7) rfl (ii_ge_f (lt32 (by omega) (by omega))) ?_
        refine XS.aloadN Xl.here hexec rfl (hb hbytes d10) rfl rfl ?_
        refine XS.iloadN Xl.here hexec rfl (hb hbytes d11) rfl ?_
        exact Steps.refl _)
      have c4 : Steps p.tables e below (s₁.setTop (entryFrame m #[.ref b, .int (Int32.ofNat o), .ref d, .int (Int32.ofNat q), .int (Int32.ofNat len)] 7)) (Tl.setTop (mkF m 13 #[.val (.ref b), .val (.int (Int32.ofNat (o + i))), .val (.ref d), .val (.int (Int32.ofNat (q + i))), .val (.int (Int32.ofNat len)), .val (.int (Int32.ofNat i)), z] [.int (cv A (o + i))])) := c3.trans (by
        refine Xl.aget hexec hAl rfl (hA.get (i := o + i) (by omega)) rfl rfl (hb hbytes d12) ?_
        exact Steps.refl _)
      have c5 : Steps p.tables e below (s₁.setTop (entryFrame m #[.ref b, .int (Int32.ofNat o), .ref d, .int (Int32.ofNat q), .int (Int32.ofNat len)] 7)) (Tl.setTop (mkF m 15 #[.val (.ref b), .val (.int (Int32.ofNat (o + i))), .val (.ref d), .val (.int (Int32.ofNat (q + i))), .val (.int (Int32.ofNat len)), .val (.int (Int32.ofNat i)), .val (.int (cv A (o + i)))] [])) := c4.trans (by
        refine XS.istoreS Xl.here hexec rfl (hb hbytes d13) rfl rfl hz ?_
        exact Steps.refl _)
      have c6 : Steps p.tables e below (s₁.setTop (entryFrame m #[.ref b, .int (Int32.ofNat o), .ref d, .int (Int32.ofNat q), .int (Int32.ofNat len)] 7)) (Tl.setTop (mkF m 31 #[.val (.ref b), .val (.int (Int32.ofNat (o + i))), .val (.ref d), .val (.int (Int32.ofNat (q + i))), .val (.int (Int32.ofNat len)), .val (.int (Int32.ofNat i)), .val (.int (cv A (o + i)))] [.int (lo8 (cv A (o + i))), .int (Int32.ofNat (q + i)), .ref d])) := c5.trans (by
        refine XS.iload Xl.here hexec rfl (hb hbytes d15) rfl ?_
        refine sipushV Xl.here hexec rfl 255 (hb hbytes d17) (by decide) ?_
        refine XS.icmpYes Xl.here hexec rfl (pc0 := 20) rfl (hb hbytes d20) rfl (ii_le_t (hp i (by omega))) (by decide) rfl ?_
        refine XS.aloadN Xl.here hexec rfl (hb hbytes d26) rfl rfl ?_
        refine XS.iloadN Xl.here hexec rfl (hb hbytes d27) rfl ?_
        refine XS.iload Xl.here hexec rfl (hb hbytes d28) rfl ?_
        refine i2b Xl.here hexec rfl (hb hbytes d30) rfl ?_
        exact Steps.refl _)
      obtain ⟨T7, X7, p7, st7⟩ := Xl.aput hexec hBk rfl hlt rfl (fits_lo8 (cv A (o + i))) (g := (mkF m 31 #[.val (.ref b), .val (.int (Int32.ofNat (o + i))), .val (.ref d), .val (.int (Int32.ofNat (q + i))), .val (.int (Int32.ofNat len)), .val (.int (Int32.ofNat i)), .val (.int (cv A (o + i)))] [.int (lo8 (cv A (o + i))), .int (Int32.ofNat (q + i)), .ref d])) rfl (rest := []) rfl (hb hbytes d31)
      have c8 : Steps p.tables e below (s₁.setTop (entryFrame m #[.ref b, .int (Int32.ofNat o), .ref d, .int (Int32.ofNat q), .int (Int32.ofNat len)] 7)) (T7.setTop (mkF m 32 #[.val (.ref b), .val (.int (Int32.ofNat (o + i))), .val (.ref d), .val (.int (Int32.ofNat (q + i))), .val (.int (Int32.ofNat len)), .val (.int (Int32.ofNat i)), .val (.int (cv A (o + i)))] [])) := c6.trans (st7 _ (Steps.refl _))
      have c9 : Steps p.tables e below (s₁.setTop (entryFrame m #[.ref b, .int (Int32.ofNat o), .ref d, .int (Int32.ofNat q), .int (Int32.ofNat len)] 7)) (T7.setTop (mkF m 3 #[.val (.ref b), .val (.int (Int32.ofNat (o + i) + 1)), .val (.ref d), .val (.int (Int32.ofNat (q + i) + 1)), .val (.int (Int32.ofNat len)), .val (.int (Int32.ofNat i + 1)), .val (.int (cv A (o + i)))] [])) := c8.trans (by
        refine iincV X7.here hexec rfl 1 (hb hbytes d32) (by decide) rfl rfl ?_
        refine iincV X7.here hexec rfl 1 (hb hbytes d35) (by decide) rfl rfl ?_
        refine iincV X7.here hexec rfl 1 (hb hbytes d38) (by decide) rfl rfl ?_
        refine XS.goto X7.here hexec rfl (pc0 := 41) rfl (hb hbytes d41) (by decide) rfl ?_
        exact Steps.refl _)
      have c10 : Steps p.tables e below (s₁.setTop (entryFrame m #[.ref b, .int (Int32.ofNat o), .ref d, .int (Int32.ofNat q), .int (Int32.ofNat len)] 7)) (T7.setTop (mkF m 3 #[.val (.ref b), .val (.int (Int32.ofNat (o + (i + 1)))), .val (.ref d), .val (.int (Int32.ofNat (q + (i + 1)))), .val (.int (Int32.ofNat len)), .val (.int (Int32.ofNat (i + 1))), .val (.int (cv A (o + i)))] [])) := by
        have := c9
        rw [succ32, succ32, succ32] at this
        exact this
      exact ih (i + 1) (by omega) _ (Or.inr ⟨_, rfl, rfl⟩) T7 _ (by rw [copyLocs_step, ← List.append_assoc]; exact X7) (pl.trans p7) (fl.step (by omega) hlt (by simp)) c10
  obtain ⟨T9, B9, z9, X9, p9, f9, g9⟩ := loop len 0 (by omega) .unset (Or.inl rfl) s₁ B (by simpa [copyLocs] using X0) ⟨hB0.1, fun _ _ => rfl, rfl⟩ (Laid.zero _ _ _) c2
  have c11 : Steps p.tables e below (s₁.setTop (entryFrame m #[.ref b, .int (Int32.ofNat o), .ref d, .int (Int32.ofNat q), .int (Int32.ofNat len)] 7)) (T9.setTop (mkF m 46 #[.val (.ref b), .val (.int (Int32.ofNat (o + len))), .val (.ref d), .val (.int (Int32.ofNat (q + len))), .val (.int (Int32.ofNat len)), .val (.int (Int32.ofNat len)), z9] [.int (Int32.ofNat len)])) := g9.trans (by
    refine XS.iload X9.here hexec rfl (hb hbytes d3) rfl ?_
    refine XS.iload X9.here hexec rfl (hb hbytes d5) rfl ?_
    refine XS.icmpYes X9.here hexec rfl (pc0 := 7) rfl (hb hbytes d7) rfl (ii_ge_t (nlt32 (by omega) (Nat.le_refl _))) (by decide) rfl ?_
    refine XS.iload X9.here hexec rfl (hb hbytes d44) rfl ?_
    exact Steps.refl _)
  exact ⟨T9, some (.int (Int32.ofNat len)), _, _, _, X9, by simp, rfl, rfl, (fun h => by cases h), ⟨rfl, B9, p9.from hh0, f9⟩, fun fs hl => c11.trans (X9.ireturnOut hexec hret rfl (Or.inl rfl) (hb hbytes d46) hl)⟩
end Cmp5
namespace Cmp3
def yN : MethodName := ⟨"java/lang/StringUTF16", "compress", "([CII)[B"⟩
abbrev yB : ByteArray := jdk_52_method_16_code
theorem d0 : decode yB 0 = .ok (.iload_n 2, 1) := by decide +kernel
theorem d1 : decode yB 1 = .ok (.newarray .byte, 2) := by decide +kernel
theorem d3 : decode yB 3 = .ok (.astore_n 3, 1) := by decide +kernel
theorem d4 : decode yB 4 = .ok (.aload_n 0, 1) := by decide +kernel
theorem d5 : decode yB 5 = .ok (.iload_n 1, 1) := by decide +kernel
theorem d6 : decode yB 6 = .ok (.aload_n 3, 1) := by decide +kernel
theorem d7 : decode yB 7 = .ok (.iconst 0, 1) := by decide +kernel
theorem d8 : decode yB 8 = .ok (.iload_n 2, 1) := by decide +kernel
theorem d9 : decode yB 9 = .ok (.invokestatic 115, 3) := by decide +kernel
theorem d12 : decode yB 12 = .ok (.istore 4, 2) := by decide +kernel
theorem d14 : decode yB 14 = .ok (.iload 4, 2) := by decide +kernel
theorem d16 : decode yB 16 = .ok (.iload_n 2, 1) := by decide +kernel
theorem d17 : decode yB 17 = .ok (.if_icmp (.eq) 40, 3) := by decide +kernel
theorem d57 : decode yB 57 = .ok (.aload_n 3, 1) := by decide +kernel
theorem d58 : decode yB 58 = .ok (.areturn, 1) := by decide +kernel
def site : List Cond := [.arrayClass .byte, Cmp5.tab] ++ staticW U16 115 Cmp5.yN
def tab : Cond := tabOf yN yB 6 (some (.array .byte)) site
def P (b : Addr) (A : Cell) (o len : Nat) (args : Array Value) (s : State) : Prop := args = #[.ref b, .int (Int32.ofNat o), .int (Int32.ofNat len)] ∧ Ch b A s ∧ o + len ≤ A.slots.size ∧ len ≤ 536870912 ∧ ∀ i, i < len → ¬ 255 < cv A (o + i)
def E (b : Addr) (A : Cell) (o len : Nat) (r : Option Value) (s u : State) : Prop := NewArr .byte "[B" len (fun j => .int (lo8 (cv A (o + j)))) r s u ∧ u.heap.size = s.heap.size + 1
/-- no char of the range above 255: a new byte[] of their low bytes -/
theorem law (l : Launch) (b : Addr) (A : Cell) (o len : Nat) : Law l yN 3 3 1 18 yB 6 (some (.array .byte)) site (P b A o len) (E b A o len) [] 1 len := by
  refine Law.of_walk (plainFor_of_name (by decide +kernel)) (by decide +kernel) (by decide +kernel) (by decide) (fun _ _ h => by rw [h.1]; rfl) (fun _ U U' hal hh h => ⟨h.1, h.2.1.mv hal hh, h.2.2⟩) (fun r U U' V V' h1 hal h2 h => ⟨NewArr.mv r U U' V V' h1 hal h2 h.1, by rw [h1, h2]; exact h.2⟩) ?_
  intro p e s m args below meth c s₁ X0 hexec hbytes hml hret hlk hnm hown hh0 W hP
  obtain ⟨rfl, hA, l1, l2, hp⟩ := hP
  have a31 := hA.1.2.2.2
  have c1 : Steps p.tables e below (s₁.setTop (entryFrame m #[.ref b, .int (Int32.ofNat o), .int (Int32.ofNat len)] 6)) (s₁.setTop (mkF m 0 #[.val (.ref b), .val (.int (Int32.ofNat o)), .val (.int (Int32.ofNat len)), .unset, .unset, .unset] [])) := entry rfl
  have c2 : Steps p.tables e below (s₁.setTop (entryFrame m #[.ref b, .int (Int32.ofNat o), .int (Int32.ofNat len)] 6)) (s₁.setTop (mkF m 1 #[.val (.ref b), .val (.int (Int32.ofNat o)), .val (.int (Int32.ofNat len)), .unset, .unset, .unset] [.int (Int32.ofNat len)])) := c1.trans (by
    refine XS.iloadN X0.here hexec rfl (hb hbytes d0) rfl ?_
    exact Steps.refl _)
  obtain ⟨T3, B3, X3, ba3, bs3, bv3, bh3, bf3, st3⟩ := X0.anew hexec (atype := .byte) (wk W (.arrayClass .byte)) rfl (by show len * 1 ≤ _; omega) (by omega) (g := (mkF m 1 #[.val (.ref b), .val (.int (Int32.ofNat o)), .val (.int (Int32.ofNat len)), .unset, .unset, .unset] [.int (Int32.ofNat len)])) rfl (hb hbytes d1) (rest := []) rfl (Nat.le_refl _) (by show 0 + len ≤ len; omega)
  rw [hh0] at ba3 st3
  have kp3 : XT.Kept s T3 := (XT.Kept.of_eq hh0).push bh3
  have hA3 := hA.keep X3.warmed.alike (kp3 _ _ hA.1.1)
  have hne : b ≠ s.heap.size := hA.1.ne
  have c4 : Steps p.tables e below (s₁.setTop (entryFrame m #[.ref b, .int (Int32.ofNat o), .int (Int32.ofNat len)] 6)) (T3.setTop (mkF m 3 #[.val (.ref b), .val (.int (Int32.ofNat o)), .val (.int (Int32.ofNat len)), .unset, .unset, .unset] [.ref s.heap.size])) := c2.trans (st3 _ (Steps.refl _))
  have c5 : Steps p.tables e below (s₁.setTop (entryFrame m #[.ref b, .int (Int32.ofNat o), .int (Int32.ofNat len)] 6)) (T3.setTop (mkF m 9 #[.val (.ref b), .val (.int (Int32.ofNat o)), .val (.int (Int32.ofNat len)), .val (.ref s.heap.size), .unset, .unset] [.int (Int32.ofNat len), .int 0, .ref s.heap.size, .int (Int32.ofNat o), .ref b])) := c4.trans (by
    refine XS.astoreN X3.here hexec rfl (hb hbytes d3) rfl rfl rfl ?_
    refine XS.aloadN X3.here hexec rfl (hb hbytes d4) rfl rfl ?_
    refine XS.iloadN X3.here hexec rfl (hb hbytes d5) rfl ?_
    refine XS.aloadN X3.here hexec rfl (hb hbytes d6) rfl rfl ?_
    refine iconstV X3.here hexec rfl 0 (hb hbytes d7) (by decide) ?_
    refine XS.iloadN X3.here hexec rfl (hb hbytes d8) rfl ?_
    exact Steps.refl _)
  obtain ⟨v6, T6, X6, E6, g6⟩ := X3.callS hexec (Cmp5.law l b A s.heap.size B3 o 0 len) hown (wks W (staticW U16 115 Cmp5.yN)) (wk W Cmp5.tab) (W := 0) (Nat.le_of_ble_eq_true rfl) (Nat.le_of_ble_eq_true rfl) (Nat.le_refl _) (by show 0 + len + 0 ≤ len; omega) (g := (mkF m 9 #[.val (.ref b), .val (.int (Int32.ofNat o)), .val (.int (Int32.ofNat len)), .val (.ref s.heap.size), .unset, .unset] [.int (Int32.ofNat len), .int (Int32.ofNat 0), .ref s.heap.size, .int (Int32.ofNat o), .ref b])) rfl (by rw [hml]; rfl) c5 (argsL := [.ref b, .int (Int32.ofNat o), .ref s.heap.size, .int (Int32.ofNat 0), .int (Int32.ofNat len)]) (rest := []) rfl rfl (by show 2 * 0 + 0 ≤ _; decide) (hb hbytes d9) (⟨rfl, hA3, ba3, hne, l1, by rw [bs3]; simp, hp⟩)
  obtain ⟨rfl, B6, p6, f6⟩ := E6
  have c7 : Steps p.tables e below (s₁.setTop (entryFrame m #[.ref b, .int (Int32.ofNat o), .int (Int32.ofNat len)] 6)) (T6.setTop (mkF m 12 #[.val (.ref b), .val (.int (Int32.ofNat o)), .val (.int (Int32.ofNat len)), .val (.ref s.heap.size), .unset, .unset] [.int (Int32.ofNat len)])) := g6
  have c8 : Steps p.tables e below (s₁.setTop (entryFrame m #[.ref b, .int (Int32.ofNat o), .int (Int32.ofNat len)] 6)) (T6.setTop (mkF m 58 #[.val (.ref b), .val (.int (Int32.ofNat o)), .val (.int (Int32.ofNat len)), .val (.ref s.heap.size), .val (.int (Int32.ofNat len)), .unset] [.ref s.heap.size])) := c7.trans (by
    refine XS.istore X6.here hexec rfl (hb hbytes d12) rfl rfl ?_
    refine XS.iload X6.here hexec rfl (hb hbytes d14) rfl ?_
    refine XS.iloadN X6.here hexec rfl (hb hbytes d16) rfl ?_
    refine XS.icmpYes X6.here hexec rfl (pc0 := 17) rfl (hb hbytes d17) rfl (ii_eq_t rfl) (by decide) rfl ?_
    refine XS.aloadN X6.here hexec rfl (hb hbytes d57) rfl rfl ?_
    exact Steps.refl _)
  have X8 := X6.wide (L' := []) (cells' := 1) (slots' := len) (fun x hx hlt => by
    simp only [List.nil_append, copyLocs, List.mem_map, List.mem_range] at hx
    obtain ⟨i, -, rfl⟩ := hx
    exact absurd hlt (Nat.lt_irrefl _)) (Nat.le_refl _) (by omega)
  exact ⟨T6, some (.ref s.heap.size), _, _, _, X8, rfl, rfl, rfl, (fun h => by cases h), ⟨⟨rfl, B6, ba3.like (X3.warmed.alike.symm.trans X6.warmed.alike) p6.1 f6.1 f6.2.1 f6.2.2.1, f6.2.1.trans bv3, by rw [X6.warmed.alike.findClass, f6.1]; exact bf3, by rw [f6.2.2.1, bs3]; simp, fun j hj => by rw [f6.2.2.2 j, if_pos (by omega)]; rfl, kp3.put p6 (Nat.le_refl _)⟩, by rw [p6.2.2, bh3, hh0]; simp⟩, fun fs hl => c8.trans (X8.areturnOut hexec rfl hret rfl (hb hbytes d58) hl)⟩
end Cmp3
namespace CodL
def yN : MethodName := ⟨"java/lang/StringUTF16", "coderFromArrayLen", "([BI)B"⟩
abbrev yB : ByteArray := jdk_52_method_15_code
theorem d0 : decode yB 0 = .ok (.iload_n 1, 1) := by decide +kernel
theorem d1 : decode yB 1 = .ok (.aload_n 0, 1) := by decide +kernel
theorem d2 : decode yB 2 = .ok (.arraylength, 1) := by decide +kernel
theorem d3 : decode yB 3 = .ok (.isub, 1) := by decide +kernel
theorem d4 : decode yB 4 = .ok (.bipush 31, 2) := by decide +kernel
theorem d6 : decode yB 6 = .ok (.iushr, 1) := by decide +kernel
theorem d7 : decode yB 7 = .ok (.i2b, 1) := by decide +kernel
theorem d8 : decode yB 8 = .ok (.ireturn, 1) := by decide +kernel
def site : List Cond := []
def tab : Cond := tabOf yN yB 2 (some .byte) site
def P (d : Addr) (B : Cell) (args : Array Value) (s : State) : Prop := args = #[.ref d, .int (Int32.ofNat B.slots.size)] ∧ Arr .byte d B s
def E (r : Option Value) (s u : State) : Prop := XT.PureE (some (.int 0)) r s u
/-- an array as long as the number of chars: LATIN1 -/
theorem law (l : Launch) (d : Addr) (B : Cell) : Law l yN 2 2 0 0 yB 2 (some .byte) site (P d B) E [] 0 0 := by
  refine Law.of_walk (plainFor_of_name (by decide +kernel)) (by decide +kernel) (by decide +kernel) (by decide) (fun _ _ h => by rw [h.1]; rfl) (fun _ U U' hal hh h => ⟨h.1, h.2.mv hal hh⟩) (fun r U U' V V' h1 hal h2 h => XT.PureE.mv r U U' V V' h1 hal h2 h) ?_
  intro p e s m args below meth c s₁ X0 hexec hbytes hml hret hlk hnm hown hh0 W hP
  obtain ⟨rfl, hB⟩ := hP
  have hB0 := hB.mv X0.warmed.alike hh0
  have c1 : Steps p.tables e below (s₁.setTop (entryFrame m #[.ref d, .int (Int32.ofNat B.slots.size)] 2)) (s₁.setTop (mkF m 0 #[.val (.ref d), .val (.int (Int32.ofNat B.slots.size))] [])) := entry rfl
  have c2 : Steps p.tables e below (s₁.setTop (entryFrame m #[.ref d, .int (Int32.ofNat B.slots.size)] 2)) (s₁.setTop (mkF m 2 #[.val (.ref d), .val (.int (Int32.ofNat B.slots.size))] [.ref d, .int (Int32.ofNat B.slots.size)])) := c1.trans (by
    refine XS.iloadN X0.here hexec rfl (hb hbytes d0) rfl ?_
    refine XS.aloadN X0.here hexec rfl (hb hbytes d1) rfl rfl ?_
    exact Steps.refl _)
  have c3 : Steps p.tables e below (s₁.setTop (entryFrame m #[.ref d, .int (Int32.ofNat B.slots.size)] 2)) (s₁.setTop (mkF m 8 #[.val (.ref d), .val (.int (Int32.ofNat B.slots.size))] [.int (lo8 (ushr (Int32.ofNat B.slots.size - Int32.ofNat B.slots.size) 31))])) := c2.trans (by
    refine X0.alen hexec hB0 rfl rfl (hb hbytes d2) ?_
    refine XS.isub X0.here hexec rfl (hb hbytes d3) rfl ?_
    refine bipushV X0.here hexec rfl 31 (hb hbytes d4) (by decide) ?_
    refine iushr X0.here hexec rfl (hb hbytes d6) rfl ?_
    refine i2b X0.here hexec rfl (hb hbytes d7) rfl ?_
    exact Steps.refl _)
  have e0 : lo8 (ushr (Int32.ofNat B.slots.size - Int32.ofNat B.slots.size) 31) = 0 := by rw [Int32.sub_self]; decide
  rw [e0] at c3
  exact ⟨s₁, some (.int 0), _, _, _, X0, rfl, rfl, rfl, (fun h => by cases h), ⟨rfl, hh0⟩, fun fs hl => c3.trans (X0.ireturnOut hexec hret rfl (Or.inr (Or.inr (Or.inl rfl))) (hb hbytes d8) hl)⟩
end CodL
/-- the String at a is Latin-1 over a new byte[] (the heap's one new cell): the low bytes of the len chars of A from o on; every cell but a is kept -/
def Got (a : Addr) (D : Cell) (fV fC : Field) (A : Cell) (o len : Nat) (r : Option Value) (s u : State) : Prop := r = none ∧ ∃ D' V : Cell, Blank "java/lang/String" a D' u ∧ Same D D' [fV.slot, fC.slot] ∧ D'.slots[fV.slot]? = some (.ref s.heap.size) ∧ D'.slots[fC.slot]? = some (.int 0) ∧ Arr .byte s.heap.size V u ∧ V.vm = .none ∧ u.vm.findClass "[B" = some V.cls ∧ V.slots.size = len ∧ (∀ j, j < len → V.slots[j]? = some (.int (lo8 (cv A (o + j))))) ∧ (∀ (y : Addr) (c : Cell), y ≠ a → s.heap[y]? = some c → u.heap[y]? = some c) ∧ u.heap.size = s.heap.size + 1
theorem Got.mv {a : Addr} {D A : Cell} {fV fC : Field} {o len : Nat} : ∀ r (U U' V V' : State), U'.heap = U.heap → V.vm.Alike V'.vm → V'.heap = V.heap → Got a D fV fC A o len r U V → Got a D fV fC A o len r U' V' :=
  fun r U U' V V' h1 hal h2 ⟨e0, D', X, a1, a2, a3, a4, a5, a6, a7, a8, a9, a10, a11⟩ => ⟨e0, D', X, a1.mv hal h2, a2, by rw [h1]; exact a3, a4, by rw [h1]; exact a5.mv hal h2, a6, by rw [hal.findClass]; exact a7, a8, a9, by rw [h1, h2]; exact a10, by rw [h1, h2]; exact a11⟩
namespace New4
def yN : MethodName := ⟨"java/lang/String", "<init>", "([CIILjava/lang/Void;)V"⟩
abbrev yB : ByteArray := jdk_42_method_149_code
theorem d0 : decode yB 0 = .ok (.aload_n 0, 1) := by decide +kernel
theorem d1 : decode yB 1 = .ok (.invokespecial 1, 3) := by decide +kernel
theorem d4 : decode yB 4 = .ok (.iload_n 3, 1) := by decide +kernel
theorem d5 : decode yB 5 = .ok (.ifCond (.ne) 22, 3) := by decide +kernel
theorem d27 : decode yB 27 = .ok (.getstatic 38, 3) := by decide +kernel
theorem d30 : decode yB 30 = .ok (.ifCond (.eq) 28, 3) := by decide +kernel
theorem d33 : decode yB 33 = .ok (.aload_n 1, 1) := by decide +kernel
theorem d34 : decode yB 34 = .ok (.iload_n 2, 1) := by decide +kernel
theorem d35 : decode yB 35 = .ok (.iload_n 3, 1) := by decide +kernel
theorem d36 : decode yB 36 = .ok (.invokestatic 177, 3) := by decide +kernel
theorem d39 : decode yB 39 = .ok (.astore 5, 2) := by decide +kernel
theorem d41 : decode yB 41 = .ok (.aload_n 0, 1) := by decide +kernel
theorem d42 : decode yB 42 = .ok (.aload 5, 2) := by decide +kernel
theorem d44 : decode yB 44 = .ok (.iload_n 3, 1) := by decide +kernel
theorem d45 : decode yB 45 = .ok (.invokestatic 47, 3) := by decide +kernel
theorem d48 : decode yB 48 = .ok (.putfield 15, 3) := by decide +kernel
theorem d51 : decode yB 51 = .ok (.aload_n 0, 1) := by decide +kernel
theorem d52 : decode yB 52 = .ok (.aload 5, 2) := by decide +kernel
theorem d54 : decode yB 54 = .ok (.putfield 9, 3) := by decide +kernel
theorem d57 : decode yB 57 = .ok (.return_, 1) := by decide +kernel
def site : List Cond := [.fieldLink "java/lang/String" 38 "java/lang/String" "COMPACT_STRINGS" "Z", Cmp3.tab, CodL.tab, .laysFinal "java/lang/String" "java/lang/String" "value" "[B", .fieldLink "java/lang/String" 9 "java/lang/String" "value" "[B", .laysFinal "java/lang/String" "java/lang/String" "coder" "B", .fieldLink "java/lang/String" 15 "java/lang/String" "coder" "B"] ++ objW "java/lang/String" 1 ++ staticW "java/lang/String" 177 Cmp3.yN ++ staticW "java/lang/String" 47 CodL.yN
def tab : Cond := tabOf yN yB 6 none site
def P (a : Addr) (D : Cell) (fV fC : Field) (b : Addr) (A : Cell) (z : Int32) (o len : Nat) (args : Array Value) (s : State) : Prop := args = #[.ref a, .ref b, .int (Int32.ofNat o), .int (Int32.ofNat len), .null] ∧ Blank "java/lang/String" a D s ∧ Found "java/lang/String" "value" "[B" fV s ∧ Found "java/lang/String" "coder" "B" fC s ∧ Ch b A s ∧ StaticIs s "java/lang/String" "COMPACT_STRINGS" "Z" (.int z) ∧ ¬ z = 0 ∧ 0 < len ∧ o + len ≤ A.slots.size ∧ len ≤ 536870912 ∧ ∀ i, i < len → ¬ 255 < cv A (o + i)
def E (a : Addr) (D : Cell) (fV fC : Field) (A : Cell) (o len : Nat) (r : Option Value) (s u : State) : Prop := Got a D fV fC A o len r s u
/-- len > 0, no char of the range above 255: a Latin-1 String of their low bytes -/
theorem law (l : Launch) (a : Addr) (D : Cell) (fV fC : Field) (b : Addr) (A : Cell) (z : Int32) (o len : Nat) : Law l yN 5 4 2 35 yB 6 none site (P a D fV fC b A z o len) (E a D fV fC A o len) [⟨a, fC.slot⟩, ⟨a, fV.slot⟩] 1 len := by
  refine Law.of_walk (plainFor_of_name (by decide +kernel)) (by decide +kernel) (by decide +kernel) (by decide) (fun _ _ h => by rw [h.1]; rfl) (fun _ U U' hal hh h => ⟨h.1, h.2.1.mv hal hh, h.2.2.1.al hal, h.2.2.2.1.al hal, h.2.2.2.2.1.mv hal hh, h.2.2.2.2.2.1.there hal hh, h.2.2.2.2.2.2⟩) (fun r U U' V V' h1 hal h2 h => Got.mv r U U' V V' h1 hal h2 h) ?_
  intro p e s m args below meth c s₁ X0 hexec hbytes hml hret hlk hnm hown hh0 W hP
  obtain ⟨rfl, hB, f1, f2, hA, s1, hz, l0, l1, l2, hp⟩ := hP
  have a31 := hA.1.2.2.2
  have c1 : Steps p.tables e below (s₁.setTop (entryFrame m #[.ref a, .ref b, .int (Int32.ofNat o), .int (Int32.ofNat len), .null] 6)) (s₁.setTop (mkF m 0 #[.val (.ref a), .val (.ref b), .val (.int (Int32.ofNat o)), .val (.int (Int32.ofNat len)), .val .null, .unset] [])) := entry rfl
  have c2 : Steps p.tables e below (s₁.setTop (entryFrame m #[.ref a, .ref b, .int (Int32.ofNat o), .int (Int32.ofNat len), .null] 6)) (s₁.setTop (mkF m 1 #[.val (.ref a), .val (.ref b), .val (.int (Int32.ofNat o)), .val (.int (Int32.ofNat len)), .val .null, .unset] [.ref a])) := c1.trans (by
    refine XS.aloadN X0.here hexec rfl (hb hbytes d0) rfl rfl ?_
    exact Steps.refl _)
  obtain ⟨T3, X3, q3, st3⟩ := X0.oinit hexec hown (wks W (objW "java/lang/String" 1)) (g := (mkF m 1 #[.val (.ref a), .val (.ref b), .val (.int (Int32.ofNat o)), .val (.int (Int32.ofNat len)), .val .null, .unset] [.ref a])) rfl (by rw [hml]; rfl) (rest := []) rfl (hb hbytes d1) (W := 0) (by show 2 * 0 + 0 ≤ _; decide) (Nat.le_of_ble_eq_true rfl) (Nat.le_of_ble_eq_true rfl)
  have hh3 := q3.trans hh0
  have c4 : Steps p.tables e below (s₁.setTop (entryFrame m #[.ref a, .ref b, .int (Int32.ofNat o), .int (Int32.ofNat len), .null] 6)) (T3.setTop (mkF m 27 #[.val (.ref a), .val (.ref b), .val (.int (Int32.ofNat o)), .val (.int (Int32.ofNat len)), .val .null, .unset] [])) := (c2.trans (st3 _ (Steps.refl _))).trans (by
    refine XS.iloadN X3.here hexec rfl (hb hbytes d4) rfl ?_
    refine XS.ifYes X3.here hexec rfl (pc0 := 5) rfl (hb hbytes d5) rfl (i0_ne_t (nz32 (by omega) l0)) (by decide) rfl ?_
    exact Steps.refl _)
  obtain ⟨T5, X5, q5, st5⟩ := X3.sget hexec hown (wk W (.fieldLink "java/lang/String" 38 "java/lang/String" "COMPACT_STRINGS" "Z")) s1 (fun _ _ h => by rw [hh3]; exact h) (g := (mkF m 27 #[.val (.ref a), .val (.ref b), .val (.int (Int32.ofNat o)), .val (.int (Int32.ofNat len)), .val .null, .unset] [])) rfl (hb hbytes d27)
  have hh5 := q5.trans hh3
  have c6 : Steps p.tables e below (s₁.setTop (entryFrame m #[.ref a, .ref b, .int (Int32.ofNat o), .int (Int32.ofNat len), .null] 6)) (T5.setTop (mkF m 30 #[.val (.ref a), .val (.ref b), .val (.int (Int32.ofNat o)), .val (.int (Int32.ofNat len)), .val .null, .unset] [.int z])) := c4.trans (st5 _ (Steps.refl _))
  have c7 : Steps p.tables e below (s₁.setTop (entryFrame m #[.ref a, .ref b, .int (Int32.ofNat o), .int (Int32.ofNat len), .null] 6)) (T5.setTop (mkF m 36 #[.val (.ref a), .val (.ref b), .val (.int (Int32.ofNat o)), .val (.int (Int32.ofNat len)), .val .null, .unset] [.int (Int32.ofNat len), .int (Int32.ofNat o), .ref b])) := c6.trans (by
    refine XS.ifNo X5.here hexec rfl (hb hbytes d30) rfl (i0_eq_f hz) ?_
    refine XS.aloadN X5.here hexec rfl (hb hbytes d33) rfl rfl ?_
    refine XS.iloadN X5.here hexec rfl (hb hbytes d34) rfl ?_
    refine XS.iloadN X5.here hexec rfl (hb hbytes d35) rfl ?_
    exact Steps.refl _)
  obtain ⟨v8, T8, X8, E8, g8⟩ := X5.callS hexec (Cmp3.law l b A o len) hown (wks W (staticW "java/lang/String" 177 Cmp3.yN)) (wk W Cmp3.tab) (W := 0) (Nat.le_of_ble_eq_true rfl) (Nat.le_of_ble_eq_true rfl) (Nat.le_refl _) (by show 0 + len ≤ len; omega) (g := (mkF m 36 #[.val (.ref a), .val (.ref b), .val (.int (Int32.ofNat o)), .val (.int (Int32.ofNat len)), .val .null, .unset] [.int (Int32.ofNat len), .int (Int32.ofNat o), .ref b])) rfl (by rw [hml]; rfl) c7 (argsL := [.ref b, .int (Int32.ofNat o), .int (Int32.ofNat len)]) (rest := []) rfl rfl (by show 2 * 0 + 0 ≤ _; decide) (hb hbytes d36) (⟨rfl, hA.mv X5.warmed.alike hh5, l1, l2, hp⟩)
  obtain ⟨e8, z8⟩ := E8
  obtain ⟨rfl, N, n1, n2, n3, n4, n5, n6⟩ := NewArr.mv _ T5 s _ _ hh5.symm (Vm.Alike.refl _) rfl e8
  rw [hh5] at z8
  have hB1 := hB.keep X8.warmed.alike (n6 _ _ hB.1)
  have hne : s.heap.size ≠ a := (Nat.ne_of_lt (Array.getElem?_eq_some_iff.mp hB.1).1).symm
  have c9 : Steps p.tables e below (s₁.setTop (entryFrame m #[.ref a, .ref b, .int (Int32.ofNat o), .int (Int32.ofNat len), .null] 6)) (T8.setTop (mkF m 39 #[.val (.ref a), .val (.ref b), .val (.int (Int32.ofNat o)), .val (.int (Int32.ofNat len)), .val .null, .unset] [.ref s.heap.size])) := g8
  have c10 : Steps p.tables e below (s₁.setTop (entryFrame m #[.ref a, .ref b, .int (Int32.ofNat o), .int (Int32.ofNat len), .null] 6)) (T8.setTop (mkF m 45 #[.val (.ref a), .val (.ref b), .val (.int (Int32.ofNat o)), .val (.int (Int32.ofNat len)), .val .null, .val (.ref s.heap.size)] [.int (Int32.ofNat N.slots.size), .ref s.heap.size, .ref a])) := by
    have hc : Steps p.tables e below (s₁.setTop (entryFrame m #[.ref a, .ref b, .int (Int32.ofNat o), .int (Int32.ofNat len), .null] 6)) (T8.setTop (mkF m 45 #[.val (.ref a), .val (.ref b), .val (.int (Int32.ofNat o)), .val (.int (Int32.ofNat len)), .val .null, .val (.ref s.heap.size)] [.int (Int32.ofNat len), .ref s.heap.size, .ref a])) := c9.trans (by
      refine XS.astore X8.here hexec rfl (hb hbytes d39) rfl rfl rfl ?_
      refine XS.aloadN X8.here hexec rfl (hb hbytes d41) rfl rfl ?_
      refine XS.aload X8.here hexec rfl (hb hbytes d42) rfl rfl ?_
      refine XS.iloadN X8.here hexec rfl (hb hbytes d44) rfl ?_
      exact Steps.refl _)
    rw [n4]; exact hc
  obtain ⟨v11, T11, X11, E11, g11⟩ := X8.callS hexec (CodL.law l s.heap.size N) hown (wks W (staticW "java/lang/String" 47 CodL.yN)) (wk W CodL.tab) (W := 1) (Nat.le_of_ble_eq_true rfl) (Nat.le_of_ble_eq_true rfl) (Nat.le_refl _) (by show 0 + len + 0 ≤ len; omega) (g := (mkF m 45 #[.val (.ref a), .val (.ref b), .val (.int (Int32.ofNat o)), .val (.int (Int32.ofNat len)), .val .null, .val (.ref s.heap.size)] [.int (Int32.ofNat N.slots.size), .ref s.heap.size, .ref a])) rfl (by rw [hml]; rfl) c10 (argsL := [.ref s.heap.size, .int (Int32.ofNat N.slots.size)]) (rest := [.ref a]) rfl rfl (by show 2 * 0 + (1 + 0) ≤ _; decide) (hb hbytes d45) (⟨rfl, n1⟩)
  obtain ⟨rfl, q11⟩ := E11
  have hB11 := hB1.mv (X8.warmed.alike.symm.trans X11.warmed.alike) q11
  have c12 : Steps p.tables e below (s₁.setTop (entryFrame m #[.ref a, .ref b, .int (Int32.ofNat o), .int (Int32.ofNat len), .null] 6)) (T11.setTop (mkF m 48 #[.val (.ref a), .val (.ref b), .val (.int (Int32.ofNat o)), .val (.int (Int32.ofNat len)), .val .null, .val (.ref s.heap.size)] [.int 0, .ref a])) := g11
  obtain ⟨T13, X13, p13, bl13, sl13, st13⟩ := X11.finit hexec hown (wk W (.fieldLink "java/lang/String" 15 "java/lang/String" "coder" "B")) (Or.inr ⟨_, (wk W (.laysFinal "java/lang/String" "java/lang/String" "coder" "B"))⟩) (Or.inl ⟨rfl, hnm⟩) f2 (Or.inl rfl) hB11 (t := .byte) (by decide +kernel) rfl (g := (mkF m 48 #[.val (.ref a), .val (.ref b), .val (.int (Int32.ofNat o)), .val (.int (Int32.ofNat len)), .val .null, .val (.ref s.heap.size)] [.int 0, .ref a])) rfl (rest := []) rfl (hb hbytes d48)
  have c14 : Steps p.tables e below (s₁.setTop (entryFrame m #[.ref a, .ref b, .int (Int32.ofNat o), .int (Int32.ofNat len), .null] 6)) (T13.setTop (mkF m 54 #[.val (.ref a), .val (.ref b), .val (.int (Int32.ofNat o)), .val (.int (Int32.ofNat len)), .val .null, .val (.ref s.heap.size)] [.ref s.heap.size, .ref a])) := (c12.trans (st13 _ (Steps.refl _))).trans (by
    refine XS.aloadN X13.here hexec rfl (hb hbytes d51) rfl rfl ?_
    refine XS.aload X13.here hexec rfl (hb hbytes d52) rfl rfl ?_
    exact Steps.refl _)
  obtain ⟨T15, X15, p15, bl15, sl15, st15⟩ := X13.finit hexec hown (wk W (.fieldLink "java/lang/String" 9 "java/lang/String" "value" "[B")) (Or.inr ⟨_, (wk W (.laysFinal "java/lang/String" "java/lang/String" "value" "[B"))⟩) (Or.inl ⟨rfl, hnm⟩) f1 (Or.inl rfl) bl13 (t := (.array .byte)) (by decide +kernel) rfl (g := (mkF m 54 #[.val (.ref a), .val (.ref b), .val (.int (Int32.ofNat o)), .val (.int (Int32.ofNat len)), .val .null, .val (.ref s.heap.size)] [.ref s.heap.size, .ref a])) rfl (rest := []) rfl (hb hbytes d54)
  have c16 : Steps p.tables e below (s₁.setTop (entryFrame m #[.ref a, .ref b, .int (Int32.ofNat o), .int (Int32.ofNat len), .null] 6)) (T15.setTop (mkF m 57 #[.val (.ref a), .val (.ref b), .val (.int (Int32.ofNat o)), .val (.int (Int32.ofNat len)), .val .null, .val (.ref s.heap.size)] [])) := c14.trans (st15 _ (Steps.refl _))
  have ap := apart (Or.inr ⟨_, (wk W (.laysFinal "java/lang/String" "java/lang/String" "value" "[B"))⟩) (Or.inr ⟨_, (wk W (.laysFinal "java/lang/String" "java/lang/String" "coder" "B"))⟩) f1 f2 (t₁ := .array .byte) (t₂ := .byte) (by decide +kernel) (by decide +kernel) (by decide)
  have al := X8.warmed.alike.symm.trans X15.warmed.alike
  have n7 : T11.heap[s.heap.size]? = some N := by rw [q11]; exact n1.1
  exact ⟨T15, none, _, _, _, X15, by simp, rfl, by omega, (fun _ => rfl), ⟨rfl, _, N, bl15, ((Same.refl D _).set _ (by simp)).set _ (by simp), sl15, (Cell.slots_setSlot_ne _ ap).trans sl13, n1.keep al (p15.other hne (p13.other hne n7)), n2, by rw [al.findClass]; exact n3, n4, n5, fun y c h1 h2 => p15.other h1 (p13.other h1 (by rw [q11]; exact n6 y c h2)), by rw [p15.2.2, p13.2.2, q11]; exact z8⟩, fun fs hl => c16.trans (X15.returnOut hexec hret (hb hbytes d57) hl)⟩
end New4
namespace New1
def yN : MethodName := ⟨"java/lang/String", "<init>", "([C)V"⟩
abbrev yB : ByteArray := jdk_42_method_3_code
theorem d0 : decode yB 0 = .ok (.aload_n 0, 1) := by decide +kernel
theorem d1 : decode yB 1 = .ok (.aload_n 1, 1) := by decide +kernel
theorem d2 : decode yB 2 = .ok (.iconst 0, 1) := by decide +kernel
theorem d3 : decode yB 3 = .ok (.aload_n 1, 1) := by decide +kernel
theorem d4 : decode yB 4 = .ok (.arraylength, 1) := by decide +kernel
theorem d5 : decode yB 5 = .ok (.aconst_null, 1) := by decide +kernel
theorem d6 : decode yB 6 = .ok (.invokespecial 27, 3) := by decide +kernel
theorem d9 : decode yB 9 = .ok (.return_, 1) := by decide +kernel
def site : List Cond := [New4.tab] ++ initW "java/lang/String" 27 New4.yN
def tab : Cond := tabOf yN yB 2 none site
def P (a : Addr) (D : Cell) (fV fC : Field) (b : Addr) (A : Cell) (z : Int32) (args : Array Value) (s : State) : Prop := args = #[.ref a, .ref b] ∧ Blank "java/lang/String" a D s ∧ Found "java/lang/String" "value" "[B" fV s ∧ Found "java/lang/String" "coder" "B" fC s ∧ Ch b A s ∧ StaticIs s "java/lang/String" "COMPACT_STRINGS" "Z" (.int z) ∧ ¬ z = 0 ∧ 0 < A.slots.size ∧ A.slots.size ≤ 536870912 ∧ ∀ i, i < A.slots.size → ¬ 255 < cv A i
def E (a : Addr) (D : Cell) (fV fC : Field) (A : Cell) (r : Option Value) (s u : State) : Prop := Got a D fV fC A 0 A.slots.size r s u
/-- new String(chars), not empty, no char above 255: a Latin-1 String of their low bytes -/
theorem law (l : Launch) (a : Addr) (D : Cell) (fV fC : Field) (b : Addr) (A : Cell) (z : Int32) : Law l yN 2 1 3 52 yB 2 none site (P a D fV fC b A z) (E a D fV fC A) [⟨a, fC.slot⟩, ⟨a, fV.slot⟩] 1 A.slots.size := by
  refine Law.of_walk (plainFor_of_name (by decide +kernel)) (by decide +kernel) (by decide +kernel) (by decide) (fun _ _ h => by rw [h.1]; rfl) (fun _ U U' hal hh h => ⟨h.1, h.2.1.mv hal hh, h.2.2.1.al hal, h.2.2.2.1.al hal, h.2.2.2.2.1.mv hal hh, h.2.2.2.2.2.1.there hal hh, h.2.2.2.2.2.2⟩) (fun r U U' V V' h1 hal h2 h => Got.mv r U U' V V' h1 hal h2 h) ?_
  intro p e s m args below meth c s₁ X0 hexec hbytes hml hret hlk hnm hown hh0 W hP
  obtain ⟨rfl, hB, f1, f2, hA, s1, hz, l0, l2, hp⟩ := hP
  have c1 : Steps p.tables e below (s₁.setTop (entryFrame m #[.ref a, .ref b] 2)) (s₁.setTop (mkF m 0 #[.val (.ref a), .val (.ref b)] [])) := entry rfl
  have c2 : Steps p.tables e below (s₁.setTop (entryFrame m #[.ref a, .ref b] 2)) (s₁.setTop (mkF m 6 #[.val (.ref a), .val (.ref b)] [.null, .int (Int32.ofNat A.slots.size), .int 0, .ref b, .ref a])) := c1.trans (by
    refine XS.aloadN X0.here hexec rfl (hb hbytes d0) rfl rfl ?_
    refine XS.aloadN X0.here hexec rfl (hb hbytes d1) rfl rfl ?_
    refine iconstV X0.here hexec rfl 0 (hb hbytes d2) (by decide) ?_
    refine XS.aloadN X0.here hexec rfl (hb hbytes d3) rfl rfl ?_
    refine X0.alen hexec (hA.1.mv X0.warmed.alike hh0) rfl rfl (hb hbytes d4) ?_
    refine XS.aconstNull X0.here hexec rfl (hb hbytes d5) ?_
    exact Steps.refl _)
  obtain ⟨v3, T3, X3, E3, g3⟩ := X0.callN hexec (New4.law l a D fV fC b A z 0 A.slots.size) rfl hown (wks W (initW "java/lang/String" 27 New4.yN)) (W New4.tab (by simp only [site, List.mem_cons, List.mem_append, true_or, or_true])) (W := 0) (Nat.le_of_ble_eq_true rfl) (Nat.le_of_ble_eq_true rfl) (Nat.le_refl _) (by show 0 + A.slots.size ≤ A.slots.size; omega) (g := (mkF m 6 #[.val (.ref a), .val (.ref b)] [.null, .int (Int32.ofNat A.slots.size), .int (Int32.ofNat 0), .ref b, .ref a])) rfl (by rw [hml]; rfl) c2 (argsL := [.ref b, .int (Int32.ofNat 0), .int (Int32.ofNat A.slots.size), .null]) (rest := []) rfl rfl (by show 2 * 0 + 0 ≤ _; decide) (hb hbytes d6) (⟨rfl, hB.mv X0.warmed.alike hh0, f1.al X0.warmed.alike, f2.al X0.warmed.alike, hA.mv X0.warmed.alike hh0, s1.there X0.warmed.alike hh0, hz, l0, by omega, l2, fun i hi => by rw [Nat.zero_add]; exact hp i hi⟩)
  have e0 := Got.mv _ s₁ s _ _ hh0.symm (Vm.Alike.refl _) rfl E3
  obtain rfl := e0.1
  have c4 : Steps p.tables e below (s₁.setTop (entryFrame m #[.ref a, .ref b] 2)) (T3.setTop (mkF m 9 #[.val (.ref a), .val (.ref b)] [])) := g3
  exact ⟨T3, none, _, _, _, X3, by simp, rfl, by omega, (fun _ => rfl), e0, fun fs hl => c4.trans (X3.returnOut hexec hret (hb hbytes d9) hl)⟩
theorem pays {l : Launch} {R : Room} {p : Program} {e : Env} {below : List Frame} {s : State} {sargs : Array Value} {len W : Nat} (a : Addr) (D : Cell) (fV fC : Field) (b : Addr) (A : Cell) (z : Int32) (htab : tab.before sargs s = true) (hfr : 4 ≤ R.frames) (hlo : W + 65 ≤ R.locals) :
    Back l R p e below s sargs yN len W (fun A₁ a₁ => A₁.cells + 1 ≤ R.cells ∧ A₁.slots + A.slots.size ≤ R.slots ∧ P a D fV fC b A z a₁ A₁.U) (fun A₁ _ v₁ B₁ => E a D fV fC A v₁ A₁.U B₁.U ∧ B₁.locs = A₁.locs ++ [⟨a, fC.slot⟩, ⟨a, fV.slot⟩] ∧ B₁.cells = A₁.cells + 1 ∧ B₁.slots = A₁.slots + A.slots.size) :=
  (law l a D fV fC b A z).pays htab hfr (by omega)
end New1
end StrChars
namespace StrChars.Road
open Jvm Sem ClassFile Op Lib Jvm.Stand Jvm.Free Jvm.Free.XT
open Jvm.Lib.Cold (StaticIs)
abbrev ST : String := "java/lang/String"
/-- every table word that New1's law asks, flat -/
abbrev words : List Jvm.Cond := [.code New1.yN New1.yB 2 none, .initialized ST, .methodLink ST 27 New4.yN, .instanceMethod New4.yN,
  .code New4.yN New4.yB 6 none, .fieldLink ST 38 ST "COMPACT_STRINGS" "Z", .laysFinal ST ST "value" "[B", .fieldLink ST 9 ST "value" "[B", .laysFinal ST ST "coder" "B", .fieldLink ST 15 ST "coder" "B",
  .methodLink ST 1 Lib.objectInit, .instanceMethod Lib.objectInit, .code Lib.objectInit ⟨#[0xb1]⟩ 1 none, .methodLink ST 177 Cmp3.yN, .static Cmp3.yN, .methodLink ST 47 CodL.yN, .static CodL.yN,
  .code Cmp3.yN Cmp3.yB 6 (some (.array .byte)), .initialized U16, .arrayClass .byte, .methodLink U16 115 Cmp5.yN, .static Cmp5.yN, .code Cmp5.yN Cmp5.yB 7 (some .int), .code CodL.yN CodL.yB 2 (some .byte)]
theorem tab_of {a : Array Value} {s : State} (h : ∀ w ∈ words, w.before a s = true) : New1.tab.before a s = true := by
  have h5 : Cmp5.tab.before a s = true := unparts (wk h (.code Cmp5.yN Cmp5.yB 7 (some .int))) (wks h (.initialized Cmp5.yN.cls :: Cmp5.site))
  have hc : CodL.tab.before a s = true := unparts (wk h (.code CodL.yN CodL.yB 2 (some .byte))) (wks h (.initialized CodL.yN.cls :: CodL.site))
  have q5 : ∀ w ∈ Cmp5.tab :: words, w.before a s = true := fun w hw => (List.mem_cons.mp hw).elim (fun e => e ▸ h5) (h w)
  have h3 : Cmp3.tab.before a s = true := unparts (wk q5 (.code Cmp3.yN Cmp3.yB 6 (some (.array .byte)))) (wks q5 (.initialized Cmp3.yN.cls :: Cmp3.site))
  have q3 : ∀ w ∈ Cmp3.tab :: CodL.tab :: words, w.before a s = true := fun w hw => (List.mem_cons.mp hw).elim (fun e => e ▸ h3) fun hw => (List.mem_cons.mp hw).elim (fun e => e ▸ hc) (h w)
  have h4 : New4.tab.before a s = true := unparts (wk q3 (.code New4.yN New4.yB 6 none)) (wks q3 (.initialized New4.yN.cls :: New4.site))
  have q4 : ∀ w ∈ New4.tab :: words, w.before a s = true := fun w hw => (List.mem_cons.mp hw).elim (fun e => e ▸ h4) (h w)
  exact unparts (wk q4 (.code New1.yN New1.yB 2 none)) (wks q4 (.initialized New1.yN.cls :: New1.site))
/-- the words ride from the start Z to the walk's own state -/
theorem moved {Z s : State} {a0 args : Array Value} (hZ : Z.Warmed39 s.vm) (hw : ∀ d ∈ words, d.before a0 Z = true) : ∀ d ∈ words, d.before args s = true := fun d hd => by
  have q := hw d hd
  have t : ∀ d ∈ words, d = .arrayClass .byte ∨ (d.onTables && d.keepsFace) = true := by decide +kernel
  rcases t d hd with rfl | t
  · exact RoadKit.mvA hZ q
  · exact RoadKit.mv hZ q t
/-- WHAT COMES BACK, over the tables of the start Z: h the heap at the call, h' behind it -/
def Q (Z : State) (x : Addr) (A : Cell) (h : Heap) (v : Option Value) (h' : Heap) (L : List Loc) : Prop := v = none ∧ (∀ y ∈ L, y.base = x) ∧ RoadKit.Keep h h' [x] ∧ h'.size = h.size + 1 ∧ RoadKit.Exa Z h' x ST ∧ RoadKit.Fld Z h' x ST "value" "[B" (.ref h.size) ∧ RoadKit.Fld Z h' x ST "coder" "B" (.int 0) ∧
  (∃ V : Cell, RoadKit.Arr Z h' h.size V .byte ∧ V.vm = .none ∧ Z.vm.findClass "[B" = some V.cls ∧ V.slots.size = A.slots.size ∧ ∀ j, j < A.slots.size → V.slots[j]? = some (.int (lo8 (cv A j)))) ∧
  ∀ (O n d : String) (w : Value), RoadKit.Fld Z h x O n d w → RoadKit.slotOf Z O n d ≠ RoadKit.slotOf Z ST "value" "[B" → RoadKit.slotOf Z O n d ≠ RoadKit.slotOf Z ST "coder" "B" → RoadKit.Fld Z h' x O n d w
/-- **new String(chars) AT A CALL, IN THE ROAD'S FORM**: for specialBack behind newO: x the fresh String, b the char[] with the cell A -/
theorem back {p : Program} {l : Launch} {e : Env} {R : Room} {s : State} {args : Array Value} {below : List Frame} {len W : Nat} {Z : State} {a0 : Array Value} {h : Heap} (hZ : Z.Warmed39 s.vm) (hw : ∀ d ∈ words, d.before a0 Z = true) {kI : Nat} (wi : (Jvm.Cond.instantiable ST kI).before a0 Z = true)
    {x b : Addr} {A : Cell} {z : Int32} {v0 c0 : Value} (E : RoadKit.Exa Z h x ST) (V : RoadKit.Fld Z h x ST "value" "[B" v0) (C : RoadKit.Fld Z h x ST "coder" "B" c0) (K : RoadKit.Arr Z h b A .char) (hty : Typed .char A) (S : RoadKit.Sta Z h ST "COMPACT_STRINGS" "Z" (.int z)) (hz : ¬ z = 0)
    (l0 : 0 < A.slots.size) (l2 : A.slots.size ≤ 536870912) (hp : ∀ i, i < A.slots.size → ¬ 255 < cv A i) (hfr : 4 ≤ R.frames) (hlo : W + 65 ≤ R.locals) :
    Back l R p e below s args New1.yN len W (fun P a => a = #[.ref x, .ref b] ∧ P.U.heap = h ∧ P.cells + 1 ≤ R.cells ∧ P.slots + A.slots.size ≤ R.slots)
      (fun P _ v B => ∃ L, Q Z x A h v B.U.heap L ∧ B.locs = P.locs ++ L ∧ B.cells = P.cells + 1 ∧ B.slots = P.slots + A.slots.size) := by
  intro m meth c P g ig mk a X hg hsize hdg hW hn hp'
  obtain ⟨rfl, rfl, r1, r2⟩ := hp'
  have al : Z.vm.Alike P.U.vm := hZ.alike.trans X.warmed.alike
  obtain ⟨D, cfV, kV, iV, fV, hD, gV, stV, knV, obV, asV, slV⟩ := id V
  obtain ⟨D', cfC, kC, iC, fC, hD', gC, stC, -, -, asC, slC⟩ := id C
  cases hD.symm.trans hD'
  obtain ⟨D2, kD, e1, e2, e3, e4, e5⟩ := id E
  cases hD.symm.trans e1
  obtain ⟨c2, k2, i1, i2, i3, -⟩ := Cond.instantiable_spec wi
  cases e2.symm.trans i1
  cases e3.symm.trans i2
  obtain ⟨kU, u1, u2⟩ := al.2.2 _ _ e3
  have hB : Blank ST x D P.U := ⟨hD, ⟨knV, fun q hq => by rw [hq] at obV; cases obV⟩, by rw [al.findClass]; exact e2, kU, u1, by rw [u2]; exact i3, by rw [u2]; exact e5 i3⟩
  have F1 : Found ST "value" "[B" fV P.U := ⟨SBG.found_only al ⟨cfV, kV, iV, gV⟩, stV⟩
  have F2 : Found ST "coder" "B" fC P.U := ⟨SBG.found_only al ⟨cfC, kC, iC, gC⟩, stC⟩
  have hA : Ch b A P.U := ⟨⟨K.1, State.isArrayOf_alike al K.2.1, K.2.2, by omega⟩, hty⟩
  have hS : StaticIs P.U ST "COMPACT_STRINGS" "Z" (.int z) := by
    obtain ⟨cfS, iS, kS, fS, st, cS, t1, t2, t3, t4, t5, t6, t7⟩ := S
    exact StaticIs.there (s := { Z with heap := P.U.heap }) ⟨cfS, iS, kS, fS, st, cS, t1, t2, t3, t4, t5, (fun q => by rw [q] at t6; cases t6), t7⟩ al rfl
  obtain ⟨v, B, X', ⟨⟨hv, E', V', q1, q2, q3, q4, q5, q6, q7, q8, q9, q10, q11⟩, hl, hc, hs⟩, st⟩ := New1.pays x D fV fC b A z (tab_of (moved hZ hw)) hfr hlo m meth c P g ig mk _ X hg hsize hdg hW hn ⟨r1, r2, rfl, hB, F1, F2, hA, hS, hz, l0, l2, hp⟩
  have al' : Z.vm.Alike B.U.vm := hZ.alike.trans X'.warmed.alike
  have hsz : E'.slots.size = D.slots.size := by
    obtain ⟨-, -, -, kB, w1, w2, w3⟩ := q1
    obtain ⟨kB', y1, y2⟩ := al'.2.2 _ _ e3
    rw [q2.2.1] at w1
    cases w1.symm.trans y1
    rw [w3, e5 i3, y2]
  refine ⟨v, B, X', ⟨_, ⟨hv, ?_, ⟨by omega, fun y cy hy hn' => q10 y cy (by simpa using hn') hy, fun y cy hy => ?_⟩, q11, ⟨E', _, q1.1, by rw [q2.2.1]; exact e2, by rw [q2.2.1]; exact e3, by rw [q2.1]; exact obV, fun _ => by rw [hsz]; exact e5 i3⟩,
    ⟨E', cfV, kV, iV, fV, q1.1, gV, stV, by rw [q2.1]; exact knV, by rw [q2.1]; exact obV, by rw [q2.2.1]; exact asV, q3⟩, ⟨E', cfC, kC, iC, fC, q1.1, gC, stC, by rw [q2.1]; exact knV, by rw [q2.1]; exact obV, by rw [q2.2.1]; exact asC, q4⟩,
    ⟨V', ⟨q5.1, State.isArrayOf_alike al'.symm q5.2.1, q5.2.2.1⟩, q6, by rw [← al'.findClass]; exact q7, q8, fun j hj => by have := q9 j hj; rwa [Nat.zero_add] at this⟩, fun O n d w F n1 n2 => ?_⟩, hl, hc, hs⟩, st⟩
  · intro y hy
    simp only [List.mem_cons, List.not_mem_nil, or_false] at hy
    rcases hy with rfl | rfl <;> rfl
  · by_cases q : y = x
    · subst q
      cases hD.symm.trans hy
      exact ⟨E', q1.1, q2.2.1, q2.1, hsz⟩
    · exact ⟨cy, q10 y cy q hy, rfl, rfl, rfl⟩
  · obtain ⟨D3, cf, k, i, f, g1, g2, g3, g4, g5, g6, g7⟩ := F
    cases hD.symm.trans g1
    simp only [RoadKit.slotOf, g2, gV, gC, Option.map_some, Option.getD_some] at n1 n2
    exact ⟨E', cf, k, i, f, q1.1, g2, g3, by rw [q2.1]; exact g4, by rw [q2.1]; exact g5, by rw [q2.2.1]; exact g6, by rw [q2.2.2 f.slot (by simp [n1, n2])]; exact g7⟩
end StrChars.Road
namespace StrChars.Road
open Jvm Sem ClassFile Op Lib Jvm.Stand Jvm.Free Jvm.Free.XT
/-- WHAT COMES BACK, the byte[] as a list of values -/
def QA (Z : State) (x : Addr) (zn : Int32) (cs : List Int32) (h : Heap) (v : Option Value) (h' : Heap) (L : List Loc) : Prop := v = none ∧ (∀ y ∈ L, y.base = x) ∧ RoadKit.Keep h h' [x] ∧ h'.size = h.size + 1 ∧ RoadKit.Exa Z h' x ST ∧ RoadKit.Fld Z h' x ST "value" "[B" (.ref h.size) ∧ RoadKit.Fld Z h' x ST "coder" "B" (.int 0) ∧
  (∃ kb, Z.vm.findClass "[B" = some kb ∧ RoadKit.Arv Z h' h.size kb .byte zn (cs.map fun c => .int (lo8 c)) (.int 0)) ∧
  ∀ (O n d : String) (w : Value), RoadKit.Fld Z h x O n d w → RoadKit.slotOf Z O n d ≠ RoadKit.slotOf Z ST "value" "[B" → RoadKit.slotOf Z O n d ≠ RoadKit.slotOf Z ST "coder" "B" → RoadKit.Fld Z h' x O n d w
/-- **new String(chars) AT A CALL, THE ARRAYS AS LISTS**: the char[] at b holds cs, not empty, no char above 255 -/
theorem backArv {p : Program} {l : Launch} {e : Env} {R : Room} {s : State} {args : Array Value} {below : List Frame} {len W : Nat} {Z : State} {a0 : Array Value} {h : Heap} (hZ : Z.Warmed39 s.vm) (hw : ∀ d ∈ words, d.before a0 Z = true) {kI : Nat} (wi : (Jvm.Cond.instantiable ST kI).before a0 Z = true)
    {x b : Addr} {k : ClassId} {zn z : Int32} {cs : List Int32} {dv v0 c0 : Value} (E : RoadKit.Exa Z h x ST) (V : RoadKit.Fld Z h x ST "value" "[B" v0) (C : RoadKit.Fld Z h x ST "coder" "B" c0) (K : RoadKit.Arv Z h b k .char zn (cs.map Value.int) dv) (S : RoadKit.Sta Z h ST "COMPACT_STRINGS" "Z" (.int z)) (hz : ¬ z = 0)
    (hlen : zn.toNatClampNeg = cs.length) (h0 : 0 < cs.length) (hbig : cs.length ≤ 536870912) (hall : ∀ c ∈ cs, ¬ 255 < c) (hfr : 4 ≤ R.frames) (hlo : W + 65 ≤ R.locals) :
    Back l R p e below s args New1.yN len W (fun P a => a = #[.ref x, .ref b] ∧ P.U.heap = h ∧ P.cells + 1 ≤ R.cells ∧ P.slots + cs.length ≤ R.slots)
      (fun P _ v B => ∃ L, QA Z x zn cs h v B.U.heap L ∧ B.locs = P.locs ++ L ∧ B.cells = P.cells + 1 ∧ B.slots = P.slots + cs.length) := by
  obtain ⟨A, K1, K2, K3, K4, K5, K6⟩ := K
  have e : A.slots.size = cs.length := K3.trans hlen
  have hat : ∀ (i : Nat) (hi : i < cs.length), A.slots[i]? = some (.int cs[i]) := fun i hi => by rw [K5 i (by omega)]; simp [List.getD_eq_getElem?_getD, hi]
  have hcv : ∀ (i : Nat) (hi : i < cs.length), cv A i = cs[i] := fun i hi => by unfold cv; rw [hat i hi]
  have hty : Typed .char A := fun i v hv => by
    have hi : i < A.slots.size := (Array.getElem?_eq_some_iff.mp hv).1
    have q := K5 i hi
    rw [hv] at q
    rw [Option.some.inj q]
    exact K6 i hi
  refine Back.mono (back hZ hw wi E V C K1 hty S hz (by omega) (by omega) (fun i hi => by rw [hcv i (by omega)]; exact hall _ (List.getElem_mem _)) hfr hlo) (fun P a hp => ⟨hp.1, hp.2.1, hp.2.2.1, by rw [e]; exact hp.2.2.2⟩) (fun P a v B hp hq => ?_)
  obtain ⟨L, ⟨q1, q2, q3, q4, q5, q6, q7, ⟨V', v1, v2, v3, v4, v5⟩, q9⟩, hl, hc, hs⟩ := hq
  refine ⟨L, ⟨q1, q2, q3, q4, q5, q6, q7, ⟨V'.cls, v3, V', v1, rfl, by rw [v4, e, hlen], K4, fun i hi => ?_, fun i hi => ?_⟩, q9⟩, hl, hc, by rw [hs, e]⟩
  · have hi' : i < cs.length := by omega
    rw [v5 i (by omega), hcv i hi']; simp [List.getD_eq_getElem?_getD, hi']
  · have hi' : i < cs.length := by omega
    simp only [List.getD_eq_getElem?_getD, List.getElem?_map, List.getElem?_eq_getElem hi', Option.map_some, Option.getD_some]
    exact fits_lo8 _
end StrChars.Road
namespace StrChars.Road
open Jvm Sem ClassFile Op Lib Jvm.Stand Jvm.Free Jvm.Free.XT
/-- WHAT COMES BACK, in the writer's own shape -/
def QV (Z : State) (x : Addr) (N : Int32) (bs : List Int32) (h : Heap) (n0 : Nat) (v : Option Value) (h' : Heap) (L : List Loc) : Prop := v = none ∧ RoadKit.Fr n0 L ∧ RoadKit.Keep h h' [x] ∧ RoadKit.Exa Z h' x ST ∧ RoadKit.Fld Z h' x ST "coder" "B" (.int 0) ∧
  ∃ (t : Addr) (kb : ClassId), n0 ≤ t ∧ h.size ≤ t ∧ ¬ t = x ∧ RoadKit.Fld Z h' x ST "value" "[B" (.ref t) ∧ RoadKit.Arv Z h' t kb .byte N (bs.map Value.int) (.int 0)
/-- **new String(chars) AT A CALL, FOR THE WRITER**: a char[] of n known ints, each 0 to 255 -/
theorem backV {p : Program} {l : Launch} {e : Env} {R : Room} {s : State} {args : Array Value} {below : List Frame} {len W : Nat} {Z : State} {a0 : Array Value} {h : Heap} (hZ : Z.Warmed39 s.vm) (hw : ∀ d ∈ words, d.before a0 Z = true) {kI : Nat} (wi : (Jvm.Cond.instantiable ST kI).before a0 Z = true)
    {x b : Addr} {kC : ClassId} {cs bs : List Int32} {d v0 c0 : Value} {z N : Int32} {n n0 : Nat} (hx0 : n0 ≤ x) (hh0 : n0 ≤ h.size) (E : RoadKit.Exa Z h x ST) (V : RoadKit.Fld Z h x ST "value" "[B" v0) (C : RoadKit.Fld Z h x ST "coder" "B" c0) (K : RoadKit.Arv Z h b kC .char N (cs.map Value.int) d) (S : RoadKit.Sta Z h ST "COMPACT_STRINGS" "Z" (.int z)) (hz : ¬ z = 0)
    (hn : cs.length = n) (hN : N = Int32.ofNat n) (l0 : 0 < n) (l2 : n ≤ 4000) (hp : ∀ c ∈ cs, ¬ c < 0 ∧ ¬ (255 : Int32) < c) (hb : bs = cs.map (fun c => c.toInt8.toInt32)) (hfr : 4 ≤ R.frames) (hlo : W + 65 ≤ R.locals) :
    Back l R p e below s args (⟨"java/lang/String", "<init>", "([C)V"⟩ : MethodName) len W (fun P a => a = #[.ref x, .ref b] ∧ P.U.heap = h ∧ P.cells + 1 ≤ R.cells ∧ P.slots + n ≤ R.slots)
      (fun P _ v B => ∃ L, QV Z x N bs h n0 v B.U.heap L ∧ B.locs = P.locs ++ L ∧ B.cells = P.cells + 1 ∧ B.slots = P.slots + n) := by
  subst hn hN hb
  refine Back.mono (backArv hZ hw wi E V C K S hz (n32 (by omega)) l0 (by omega) (fun c hc => (hp c hc).2) hfr hlo) (fun P a hp => hp) (fun P a v B hp hq => ?_)
  obtain ⟨L, ⟨q1, q2, q3, q4, q5, q6, q7, ⟨kb, v1, v2⟩, q9⟩, hl, hc, hs⟩ := hq
  exact ⟨L, ⟨q1, fun y hy => by rw [q2 y hy]; exact hx0, q3, q5, q7, h.size, kb, hh0, Nat.le_refl _, Nat.ne_of_gt E.lt, q6, by rw [List.map_map]; exact v2⟩, hl, hc, hs⟩
end StrChars.Road
end Jvm.Pilot.@@N@@
namespace Jvm.Pilot.@@N@@
open Jvm Jvm.ClassFile Sem Op Lib Jvm.Free Jvm.Stand Jvm.LawKit Jvm.RoadKit Bundle Jvm.Pilot.@@N@@.Jvm.D
theorem own_k {Z : State} {a0 : Array Value} (hw : ∀ d ∈ tables_1, d.before a0 Z = true) {d : Jvm.Cond} (i : Nat) (h : tables_1[i]? = some d) : d.before a0 Z = true := hw d (List.mem_of_getElem? h)
theorem own_nn32 {n : Nat} (h : n < 2147483648) : ¬ Int32.ofNat n < 0 := by
  rw [Int32.lt_iff_toInt_lt, Int32.toInt_ofNat_of_lt (by omega), show (0 : Int32).toInt = 0 from rfl]
  omega
/-- from here the run ends as F says -/
def own_G (p : Program) (e : Env) (below : List Frame) (T : State) (g : JFrame) (F : State → Prop) : Prop := ∃ s₂, Steps p.tables e below (T.setTop g) s₂ ∧ F s₂
theorem own_st {p : Program} {e : Env} {below : List Frame} {T T' : State} {g g' : JFrame} {F : State → Prop} (h : ∀ target, Steps p.tables e below (T'.setTop g') target → Steps p.tables e below (T.setTop g) target) (k : own_G p e below T' g' F) : own_G p e below T g F := by
  obtain ⟨s2, a, b⟩ := k
  exact ⟨s2, h _ a, b⟩
theorem own_tr {p : Program} {e : Env} {below : List Frame} {T T' : State} {g g' : JFrame} {F : State → Prop} (h : Steps p.tables e below (T.setTop g) (T'.setTop g')) (k : own_G p e below T' g' F) : own_G p e below T g F := by
  obtain ⟨s2, a, b⟩ := k
  exact ⟨s2, h.trans a, b⟩
theorem own_end {p : Program} {e : Env} {below : List Frame} {T s2 : State} {g : JFrame} {F : State → Prop} (h : Steps p.tables e below (T.setTop g) s2) (k : F s2) : own_G p e below T g F := ⟨s2, h, k⟩
theorem own_join {α : Type} {p : Program} {e : Env} {below : List Frame} {T : State} {g : JFrame} {gj : α → JFrame} {P : α → Prop} {F : State → Prop} (k : ∀ q, P q → own_G p e below T (gj q) F) (h : (∀ q, P q → own_G p e below T (gj q) F) → own_G p e below T g F) : own_G p e below T g F := h k
abbrev own_E (s : State) (below : List Frame) (R : Room) (Q : Option Value → Heap → List Loc → Prop) : State → Prop := fun s₂ => ∃ o, s₂.status = .running ∧ Ended s₂ below o ∧ ∃ v L, o = .returned v ∧ Q v s₂.heap L ∧ FrameEnd s o s₂ L R.cells R.slots
abbrev own_EndW (s : State) (below : List Frame) (R : Room) (Q : Option Value → Heap → List Loc → Prop) : State → Prop := fun s₂ => ∃ o, s₂.status = .running ∧ Ended s₂ below o ∧ ∃ v L, o = .returned v ∧ Q v s₂.heap L ∧ ReturnedEndW s o s₂ L R.cells R.slots
abbrev own_EndH (Z : State) (EL : List (String × Nat)) (s : State) (below : List Frame) (R : Room) (Q : Option Value → Heap → List Loc → Prop) : State → Prop := fun s₂ => ∃ o, s₂.status = .running ∧ Ended s₂ below o ∧ ∃ v L, o = .returned v ∧ Q v s₂.heap L ∧ CHr Z EL s.vm s.heap s₂.vm s₂.heap ∧ ReturnedEndW s o s₂ L R.cells R.slots
abbrev own_M (l : Launch) (y : MethodName) (bs : ByteArray) (ml : Nat) (rt : Option FieldType) (ws : List Jvm.Cond) (R : Room) (as' : Array Value) (Z : State) (h0 : Heap) (Q : Option Value → Heap → List Loc → Prop) : Prop :=
  MetFree l y (head1 (Jvm.Cond.code y bs ml rt :: ws) R) (fun av U => av = as' ∧ Z.Warmed39 U.vm ∧ U.heap = h0) (fun _ _ _ _ _ => True) (fun _ U o U' => ∃ v L, o = .returned v ∧ Q v U'.heap L ∧ FrameEnd U o U' L R.cells R.slots)
abbrev own_MW (l : Launch) (y : MethodName) (bs : ByteArray) (ml : Nat) (rt : Option FieldType) (ws : List Jvm.Cond) (R : Room) (as' : Array Value) (Z : State) (h0 : Heap) (Q : Option Value → Heap → List Loc → Prop) : Prop :=
  MetFree l y (head1 (Jvm.Cond.code y bs ml rt :: ws) R) (fun av U => av = as' ∧ Z.Warmed39 U.vm ∧ U.heap = h0) (fun _ _ _ _ _ => True) (fun _ U o U' => ∃ v L, o = .returned v ∧ Q v U'.heap L ∧ ReturnedEndW U o U' L R.cells R.slots)
abbrev own_MH (EL : List (String × Nat)) (l : Launch) (y : MethodName) (bs : ByteArray) (ml : Nat) (rt : Option FieldType) (ws : List Jvm.Cond) (R : Room) (as' : Array Value) (Z : State) (h0 : Heap) (Q : Option Value → Heap → List Loc → Prop) : Prop :=
  MetFree l y (head1 (Jvm.Cond.code y bs ml rt :: ws) R) (fun av U => av = as' ∧ Z.Warmed39 U.vm ∧ U.heap = h0 ∧ CHv Z EL U.vm h0) (fun _ _ _ _ _ => True) (fun _ U o U' => ∃ v L, o = .returned v ∧ Q v U'.heap L ∧ CHr Z EL U.vm U.heap U'.vm U'.heap ∧ ReturnedEndW U o U' L R.cells R.slots)
theorem own_go {l : Launch} {y : MethodName} {bs : ByteArray} {ml : Nat} {rt : Option FieldType} {ws : List Jvm.Cond} {R : Room} {as' : Array Value} {Z : State} {h0 : Heap} {Q : Option Value → Heap → List Loc → Prop} (hpn : plainFor y = true) {ff : MethodId → JFrame} (hff : ∀ m, entryFrame m as' ml = ff m)
    (body : ∀ p e s m below meth c s₁, BodyLoose p l y (head1 (Jvm.Cond.code y bs ml rt :: ws) R) bs ml rt e s m as' below meth c s₁ → p.tables.exec = Jvm.exec → c.code = bs → c.maxLocals = ml → Z.Warmed39 s.vm → s.heap = h0 → s.vm.findClass y.cls = some m.cls → meth.name = y.name → Stand p l e R s m as' below meth c s₁ [] 0 0 → s₁.heap = h0 → own_G p e below s₁ (ff m) (own_E s below R Q)) : own_M l y bs ml rt ws R as' Z h0 Q := by
  refine MetFree.of_bodySF hpn hisR ?_
  intro p e s m args below meth c s₁ Bd hml0 hP hK
  obtain ⟨rfl, hZ, hh⟩ := hP
  obtain ⟨s2, g1, o, g2⟩ := body p e s m below meth c s₁ Bd Bd.exec Bd.bytes hml0 hZ hh (findClass_of_methodNamed Bd.named) (name_of_methodNamed Bd.named Bd.method).1 (Stand.of_body Bd) (by rw [← hh, Bd.state]; rfl)
  exact ⟨s2, o, castTop (hff m) g1, g2⟩
theorem own_goW {l : Launch} {y : MethodName} {bs : ByteArray} {ml : Nat} {rt : Option FieldType} {ws : List Jvm.Cond} {R : Room} {as' : Array Value} {Z : State} {h0 : Heap} {Q : Option Value → Heap → List Loc → Prop} (hpn : plainFor y = true) {ff : MethodId → JFrame} (hff : ∀ m, entryFrame m as' ml = ff m)
    (body : ∀ p e s m below meth c s₁, BodyLoose p l y (head1 (Jvm.Cond.code y bs ml rt :: ws) R) bs ml rt e s m as' below meth c s₁ → p.tables.exec = Jvm.exec → c.code = bs → c.maxLocals = ml → Z.Warmed39 s.vm → s.heap = h0 → s.vm.findClass y.cls = some m.cls → meth.name = y.name → Stand p l e R (s.setVm s.vm) m as' below meth c s₁ [] 0 0 → s₁.heap = h0 → s.Since s.vm h0.size → own_G p e below s₁ (ff m) (own_EndW s below R Q)) : own_MW l y bs ml rt ws R as' Z h0 Q := by
  refine MetFree.of_bodySF hpn hisR ?_
  intro p e s m args below meth c s₁ Bd hml0 hP hK
  obtain ⟨rfl, hZ, hh⟩ := hP
  obtain ⟨s2, g1, o, g2⟩ := body p e s m below meth c s₁ Bd Bd.exec Bd.bytes hml0 hZ hh (findClass_of_methodNamed Bd.named) (name_of_methodNamed Bd.named Bd.method).1 (Stand.of_body Bd) (by rw [← hh, Bd.state]; rfl) ((State.WarmedH.refl s).since _)
  exact ⟨s2, o, castTop (hff m) g1, g2⟩
theorem own_goH {EL : List (String × Nat)} {l : Launch} {y : MethodName} {bs : ByteArray} {ml : Nat} {rt : Option FieldType} {ws : List Jvm.Cond} {R : Room} {as' : Array Value} {Z : State} {h0 : Heap} {Q : Option Value → Heap → List Loc → Prop} (hpn : plainFor y = true) {ff : MethodId → JFrame} (hff : ∀ m, entryFrame m as' ml = ff m)
    (body : ∀ p e s m below meth c s₁, BodyLoose p l y (head1 (Jvm.Cond.code y bs ml rt :: ws) R) bs ml rt e s m as' below meth c s₁ → p.tables.exec = Jvm.exec → c.code = bs → c.maxLocals = ml → Z.Warmed39 s.vm → s.heap = h0 → s.vm.findClass y.cls = some m.cls → meth.name = y.name → Stand p l e R (s.setVm s.vm) m as' below meth c s₁ [] 0 0 → s₁.heap = h0 → s.Since s.vm h0.size → CHr Z EL s.vm h0 s.vm h0 → own_G p e below s₁ (ff m) (own_EndH Z EL s below R Q)) : own_MH EL l y bs ml rt ws R as' Z h0 Q := by
  refine MetFree.of_bodySF hpn hisR ?_
  intro p e s m args below meth c s₁ Bd hml0 hP hK
  obtain ⟨rfl, hZ, hh, hCH⟩ := hP
  obtain ⟨s2, g1, o, g2⟩ := body p e s m below meth c s₁ Bd Bd.exec Bd.bytes hml0 hZ hh (findClass_of_methodNamed Bd.named) (name_of_methodNamed Bd.named Bd.method).1 (Stand.of_body Bd) (by rw [← hh, Bd.state]; rfl) ((State.WarmedH.refl s).since _) (CHr.refl hCH)
  exact ⟨s2, o, castTop (hff m) g1, g2⟩
theorem own_pop2 {tb : Tables} [Ours tb] {e : Env} {below : List Frame} {T target : State} {m : MethodId} {c : Code} {g : JFrame} (h : At T m c below) (hx : tb.exec = Jvm.exec) (hg : g.method = m) {x : Value} {rest : List Value} (hd : decode c.code g.pc = .ok (.pop2, 1)) (hs : g.stack = x :: rest) (hc : x.category = 2)
    (hr : Steps tb e below (T.setTop { g with pc := g.pc + 1, stack := rest }) target) : Steps tb e below (T.setTop g) target := by
  subst hg
  jvm_step h [h.top, hx, hd, hs, hc]
  exact hr
theorem own_w0 {g : JFrame} {rest : List Value} {W : Nat} (h : g.monitorRoom = 0) (k : (rest.map fun v => v.category).sum = W) : 2 * g.monitorRoom + (rest.map fun v => v.category).sum ≤ W := by
  rw [h, k]; omega
section Own
variable {p : Program} {l : Launch} {e : Env} {R : Room} {s : State} {m : MethodId} {args : Array Value} {below : List Frame} {meth : Method} {c : Code} {T : State} {locs : List Loc} {cells slots : Nat} {Z : State} {h h' : Heap} {a : Addr} {k : ClassId} {ty : FieldType} {z j : Int32} {vs : List Value} {d v : Value} {g : JFrame} {rest : List Value}
theorem own_joinT {α : Type} {gj : α → JFrame} {P : α → Prop} {F : State → Prop} (X : Stand p l e R s m args below meth c T locs cells slots) (eT : T.heap = h)
    (k : ∀ T' q, P q → Stand p l e R s m args below meth c T' locs cells slots → T'.heap = h → own_G p e below T' (gj q) F) (r : (∀ T' q, P q → Stand p l e R s m args below meth c T' locs cells slots → T'.heap = h → own_G p e below T' (gj q) F) → own_G p e below T g F) : own_G p e below T g F := r k
theorem own_loop {α : Type} {gj : α → JFrame} {P : Nat → α → Prop} {F : State → Prop} (X : Stand p l e R s m args below meth c T locs cells slots) (eT : T.heap = h)
    (k : ∀ n, (∀ i, i < n → ∀ T' q, P i q → Stand p l e R s m args below meth c T' locs cells slots → T'.heap = h → own_G p e below T' (gj q) F) → ∀ T' q, P n q → Stand p l e R s m args below meth c T' locs cells slots → T'.heap = h → own_G p e below T' (gj q) F)
    (r : (∀ n T' q, P n q → Stand p l e R s m args below meth c T' locs cells slots → T'.heap = h → own_G p e below T' (gj q) F) → own_G p e below T g F) : own_G p e below T g F :=
  r fun n => Nat.strongRecOn n fun n ih => k n ih
theorem own_joinH {α : Type} {gj : α → JFrame} {P : List Loc → Heap → α → Prop} {F : State → Prop} {cells' slots' : Nat} (X : Stand p l e R s m args below meth c T locs cells slots)
    (k : ∀ T' L h' q, P L h' q → Stand p l e R s m args below meth c T' L cells' slots' → T'.heap = h' → own_G p e below T' (gj q) F) (r : (∀ T' L h' q, P L h' q → Stand p l e R s m args below meth c T' L cells' slots' → T'.heap = h' → own_G p e below T' (gj q) F) → own_G p e below T g F) : own_G p e below T g F := r k
theorem own_joinHV {α : Type} {gj : α → JFrame} {P : Vm → Nat → List Loc → Heap → α → Prop} {F : State → Prop} {cells' slots' : Nat} {vm0 : Vm} (X : Stand p l e R (s.setVm vm0) m args below meth c T locs cells slots)
    (k : ∀ vm1 k1 T' L h' q, P vm1 k1 L h' q → Stand p l e R (s.setVm vm1) m args below meth c T' L cells' slots' → T'.heap = h' → own_G p e below T' (gj q) F) (r : (∀ vm1 k1 T' L h' q, P vm1 k1 L h' q → Stand p l e R (s.setVm vm1) m args below meth c T' L cells' slots' → T'.heap = h' → own_G p e below T' (gj q) F) → own_G p e below T g F) : own_G p e below T g F := r k
theorem own_alen (X : Stand p l e R s m args below meth c T locs cells slots) (hx : p.tables.exec = Jvm.exec) (hZ : Z.Warmed39 s.vm) (eT : T.heap = h) (F : Arv Z h a k ty z vs d) (hg : g.method = m) (hs : g.stack = .ref a :: rest) (hd : decode c.code g.pc = .ok (.arraylength, 1)) :
    ∀ target, Steps p.tables e below (T.setTop { g with pc := g.pc + 1, stack := .int z :: rest }) target → Steps p.tables e below (T.setTop g) target := by
  obtain ⟨cl, A, -, S, M, -⟩ := F
  intro target hr
  refine X.arraylength hx (cell := cl) (by rw [eT]; exact A.1) (State.isArrayOf_alike hZ.alike A.2.1) hg hs hd target ?_
  rw [len_of S M]; exact hr
theorem own_ial (X : Stand p l e R s m args below meth c T locs cells slots) (hx : p.tables.exec = Jvm.exec) (hZ : Z.Warmed39 s.vm) (eT : T.heap = h) (F : Arv Z h a k .int z vs d) (hj : ¬ j < 0 ∧ j < z) (hv : vs.getD j.toNatClampNeg d = v) (hg : g.method = m) (hs : g.stack = .int j :: .ref a :: rest) (hd : decode c.code g.pc = .ok (.iaload, 1)) :
    ∀ target, Steps p.tables e below (T.setTop { g with pc := g.pc + 1, stack := v :: rest }) target → Steps p.tables e below (T.setTop g) target := by
  obtain ⟨cl, A, -, S, M, H, -⟩ := F
  intro target hr
  exact X.iaload hx (by rw [eT]; exact A.1) (State.isArrayOf_alike hZ.alike A.2.1) A.2.2 (inb_of S hj) (H.at (inb_of S hj) hv) hg hs hd target hr
theorem own_cal (X : Stand p l e R s m args below meth c T locs cells slots) (hx : p.tables.exec = Jvm.exec) (hZ : Z.Warmed39 s.vm) (eT : T.heap = h) (F : Arv Z h a k .char z vs d) (hj : ¬ j < 0 ∧ j < z) (hv : vs.getD j.toNatClampNeg d = v) (hg : g.method = m) (hs : g.stack = .int j :: .ref a :: rest) (hd : decode c.code g.pc = .ok (.caload, 1)) :
    ∀ target, Steps p.tables e below (T.setTop { g with pc := g.pc + 1, stack := v :: rest }) target → Steps p.tables e below (T.setTop g) target := by
  obtain ⟨cl, A, -, S, M, H, -⟩ := F
  intro target hr
  exact X.caload hx (by rw [eT]; exact A.1) (State.isArrayOf_alike hZ.alike A.2.1) A.2.2 (inb_of S hj) (H.at (inb_of S hj) hv) hg hs hd target hr
theorem own_bal (X : Stand p l e R s m args below meth c T locs cells slots) (hx : p.tables.exec = Jvm.exec) (hZ : Z.Warmed39 s.vm) (eT : T.heap = h) (F : Arv Z h a k .byte z vs d) (hj : ¬ j < 0 ∧ j < z) (hv : vs.getD j.toNatClampNeg d = v) (hg : g.method = m) (hs : g.stack = .int j :: .ref a :: rest) (hd : decode c.code g.pc = .ok (.baload, 1)) :
    ∀ target, Steps p.tables e below (T.setTop { g with pc := g.pc + 1, stack := v :: rest }) target → Steps p.tables e below (T.setTop g) target := by
  obtain ⟨cl, A, -, S, M, H, -⟩ := F
  intro target hr
  exact X.baloadBytes hx (by rw [eT]; exact A.1) (State.isArrayOf_alike hZ.alike A.2.1) A.2.2 (inb_of S hj) (H.at (inb_of S hj) hv) hg hs hd target hr
theorem own_lal (X : Stand p l e R s m args below meth c T locs cells slots) (hx : p.tables.exec = Jvm.exec) (hZ : Z.Warmed39 s.vm) (eT : T.heap = h) (F : Arv Z h a k .long z vs d) (hj : ¬ j < 0 ∧ j < z) (hv : vs.getD j.toNatClampNeg d = v) (hg : g.method = m) (hs : g.stack = .int j :: .ref a :: rest) (hd : decode c.code g.pc = .ok (.laload, 1)) :
    ∀ target, Steps p.tables e below (T.setTop { g with pc := g.pc + 1, stack := v :: rest }) target → Steps p.tables e below (T.setTop g) target := by
  obtain ⟨cl, A, -, S, M, H, -⟩ := F
  intro target hr
  exact X.laload hx (by rw [eT]; exact A.1) (State.isArrayOf_alike hZ.alike A.2.1) A.2.2 (inb_of S hj) (H.at (inb_of S hj) hv) hg hs hd target hr
theorem own_dal (X : Stand p l e R s m args below meth c T locs cells slots) (hx : p.tables.exec = Jvm.exec) (hZ : Z.Warmed39 s.vm) (eT : T.heap = h) (F : Arv Z h a k .double z vs d) (hj : ¬ j < 0 ∧ j < z) (hv : vs.getD j.toNatClampNeg d = v) (hg : g.method = m) (hs : g.stack = .int j :: .ref a :: rest) (hd : decode c.code g.pc = .ok (.daload, 1)) :
    ∀ target, Steps p.tables e below (T.setTop { g with pc := g.pc + 1, stack := v :: rest }) target → Steps p.tables e below (T.setTop g) target := by
  obtain ⟨cl, A, -, S, M, H, -⟩ := F
  intro target hr
  exact X.daload hx (by rw [eT]; exact A.1) (State.isArrayOf_alike hZ.alike A.2.1) A.2.2 (inb_of S hj) (H.at (inb_of S hj) hv) hg hs hd target hr
theorem own_aal (X : Stand p l e R s m args below meth c T locs cells slots) (hx : p.tables.exec = Jvm.exec) (hZ : Z.Warmed39 s.vm) (eT : T.heap = h) (F : Arv Z h a k ty z vs d) (hty : ty.isReference = true) (hj : ¬ j < 0 ∧ j < z) (hv : vs.getD j.toNatClampNeg d = v) (hg : g.method = m) (hs : g.stack = .int j :: .ref a :: rest) (hd : decode c.code g.pc = .ok (.aaload, 1)) :
    ∀ target, Steps p.tables e below (T.setTop { g with pc := g.pc + 1, stack := v :: rest }) target → Steps p.tables e below (T.setTop g) target := by
  obtain ⟨cl, A, -, S, M, H, -⟩ := F
  intro target hr
  exact X.aaload hx (by rw [eT]; exact A.1) (State.isArrayOf_alike hZ.alike A.2.1) hty A.2.2 (inb_of S hj) (H.at (inb_of S hj) hv) hg hs hd target hr
theorem own_ist (X : Stand p l e R s m args below meth c T locs cells slots) (hx : p.tables.exec = Jvm.exec) (hZ : Z.Warmed39 s.vm) (eT : T.heap = h) (F : Arv Z h a k .int z vs d) (hj : ¬ j < 0 ∧ j < z) {i : Nat} (hi : j.toNatClampNeg = i) (hl : i < vs.length) {x : Int32} (hg : g.method = m) (hs : g.stack = .int x :: .int j :: .ref a :: rest) (hd : decode c.code g.pc = .ok (.iastore, 1)) :
    ∃ T' h', Stand p l e R s m args below meth c T' (locs ++ [⟨a, j.toNatClampNeg⟩]) cells slots ∧ T'.heap = h' ∧ Wr h h' a j.toNatClampNeg (.int x) ∧ Arv Z h' a k .int z (vs.set i (.int x)) d ∧ ∀ target, Steps p.tables e below (T'.setTop { g with pc := g.pc + 1, stack := rest }) target → Steps p.tables e below (T.setTop g) target := by
  obtain ⟨cl, A, q, S, M, H, G⟩ := F
  obtain ⟨T', h', X', e', W, st⟩ := stI X hx hZ eT A (inb_of S hj) hg hs hd
  exact ⟨T', h', X', e', W, Arv.set A q S M H G rfl W i hi hl, st⟩
theorem own_lst (X : Stand p l e R s m args below meth c T locs cells slots) (hx : p.tables.exec = Jvm.exec) (hZ : Z.Warmed39 s.vm) (eT : T.heap = h) (F : Arv Z h a k .long z vs d) (hj : ¬ j < 0 ∧ j < z) {i : Nat} (hi : j.toNatClampNeg = i) (hl : i < vs.length) {x : Int64} (hg : g.method = m) (hs : g.stack = .long x :: .int j :: .ref a :: rest) (hd : decode c.code g.pc = .ok (.lastore, 1)) :
    ∃ T' h', Stand p l e R s m args below meth c T' (locs ++ [⟨a, j.toNatClampNeg⟩]) cells slots ∧ T'.heap = h' ∧ Wr h h' a j.toNatClampNeg (.long x) ∧ Arv Z h' a k .long z (vs.set i (.long x)) d ∧ ∀ target, Steps p.tables e below (T'.setTop { g with pc := g.pc + 1, stack := rest }) target → Steps p.tables e below (T.setTop g) target := by
  obtain ⟨cl, A, q, S, M, H, G⟩ := F
  obtain ⟨T', h', X', e', W, st⟩ := stJ X hx hZ eT A (inb_of S hj) hg hs hd
  exact ⟨T', h', X', e', W, Arv.set A q S M H G rfl W i hi hl, st⟩
theorem own_dst (X : Stand p l e R s m args below meth c T locs cells slots) (hx : p.tables.exec = Jvm.exec) (hZ : Z.Warmed39 s.vm) (eT : T.heap = h) (F : Arv Z h a k .double z vs d) (hj : ¬ j < 0 ∧ j < z) {i : Nat} (hi : j.toNatClampNeg = i) (hl : i < vs.length) {x : UInt64} (hg : g.method = m) (hs : g.stack = .double x :: .int j :: .ref a :: rest) (hd : decode c.code g.pc = .ok (.dastore, 1)) :
    ∃ T' h', Stand p l e R s m args below meth c T' (locs ++ [⟨a, j.toNatClampNeg⟩]) cells slots ∧ T'.heap = h' ∧ Wr h h' a j.toNatClampNeg (.double x) ∧ Arv Z h' a k .double z (vs.set i (.double x)) d ∧ ∀ target, Steps p.tables e below (T'.setTop { g with pc := g.pc + 1, stack := rest }) target → Steps p.tables e below (T.setTop g) target := by
  obtain ⟨cl, A, q, S, M, H, G⟩ := F
  obtain ⟨T', h', X', e', W, st⟩ := stD X hx hZ eT A (inb_of S hj) hg hs hd
  exact ⟨T', h', X', e', W, Arv.set A q S M H G rfl W i hi hl, st⟩
theorem own_cst (X : Stand p l e R s m args below meth c T locs cells slots) (hx : p.tables.exec = Jvm.exec) (hZ : Z.Warmed39 s.vm) (eT : T.heap = h) (F : Arv Z h a k .char z vs d) (hj : ¬ j < 0 ∧ j < z) {i : Nat} (hi : j.toNatClampNeg = i) (hl : i < vs.length) {x y : Int32} (hn : nar .char x = y) (hg : g.method = m) (hs : g.stack = .int x :: .int j :: .ref a :: rest) (hd : decode c.code g.pc = .ok (.castore, 1)) :
    ∃ T' h', Stand p l e R s m args below meth c T' (locs ++ [⟨a, j.toNatClampNeg⟩]) cells slots ∧ T'.heap = h' ∧ Wr h h' a j.toNatClampNeg (.int y) ∧ Arv Z h' a k .char z (vs.set i (.int y)) d ∧ ∀ target, Steps p.tables e below (T'.setTop { g with pc := g.pc + 1, stack := rest }) target → Steps p.tables e below (T.setTop g) target := by
  obtain ⟨cl, A, q, S, M, H, G⟩ := F
  obtain ⟨T', h', X', e', W, st⟩ := stC X hx hZ eT A (inb_of S hj) hg hs hd
  rw [hn] at W
  exact ⟨T', h', X', e', W, Arv.set A q S M H G (by rw [← hn]; exact fits_nar_char x) W i hi hl, st⟩
theorem own_bst (X : Stand p l e R s m args below meth c T locs cells slots) (hx : p.tables.exec = Jvm.exec) (hZ : Z.Warmed39 s.vm) (eT : T.heap = h) (F : Arv Z h a k .byte z vs d) (hj : ¬ j < 0 ∧ j < z) {i : Nat} (hi : j.toNatClampNeg = i) (hl : i < vs.length) {x y : Int32} (hn : nar .byte x = y) (hg : g.method = m) (hs : g.stack = .int x :: .int j :: .ref a :: rest) (hd : decode c.code g.pc = .ok (.bastore, 1)) :
    ∃ T' h', Stand p l e R s m args below meth c T' (locs ++ [⟨a, j.toNatClampNeg⟩]) cells slots ∧ T'.heap = h' ∧ Wr h h' a j.toNatClampNeg (.int y) ∧ Arv Z h' a k .byte z (vs.set i (.int y)) d ∧ ∀ target, Steps p.tables e below (T'.setTop { g with pc := g.pc + 1, stack := rest }) target → Steps p.tables e below (T.setTop g) target := by
  obtain ⟨cl, A, q, S, M, H, G⟩ := F
  obtain ⟨T', h', X', e', W, st⟩ := stB X hx hZ eT A (inb_of S hj) hg hs hd
  rw [hn] at W
  exact ⟨T', h', X', e', W, Arv.set A q S M H G (by rw [← hn]; exact fits_nar_byte x) W i hi hl, st⟩
theorem own_ast (X : Stand p l e R s m args below meth c T locs cells slots) (hx : p.tables.exec = Jvm.exec) (hZ : Z.Warmed39 s.vm) (eT : T.heap = h) (F : Arv Z h a k ty z vs d) (hty : ty.isReference = true) (hj : ¬ j < 0 ∧ j < z) {i : Nat} (hi : j.toNatClampNeg = i) (hl : i < vs.length) (hv : fits ty v = true) (Q : Sto Z h a v) (hg : g.method = m) (hs : g.stack = v :: .int j :: .ref a :: rest) (hd : decode c.code g.pc = .ok (.aastore, 1)) :
    ∃ T' h', Stand p l e R s m args below meth c T' (locs ++ [⟨a, j.toNatClampNeg⟩]) cells slots ∧ T'.heap = h' ∧ Wr h h' a j.toNatClampNeg v ∧ Arv Z h' a k ty z (vs.set i v) d ∧ ∀ target, Steps p.tables e below (T'.setTop { g with pc := g.pc + 1, stack := rest }) target → Steps p.tables e below (T.setTop g) target := by
  obtain ⟨cl, A, q, S, M, H, G⟩ := F
  obtain ⟨T', h', X', e', W, st⟩ := stR X hx hZ eT A (inb_of S hj) hty Q hg hs hd
  exact ⟨T', h', X', e', W, Arv.set A q S M H G hv W i hi hl, st⟩
theorem own_retJ (X : Stand p l e R s m args below meth c T locs cells slots) (hx : p.tables.exec = Jvm.exec) {pc : Nat} {Ls : Array Slot} {w : Int64} (hret : meth.sig.returnType = some .long) (hd : decode c.code pc = .ok (.lreturn, 1)) {fs : List Frame}
    (hl : ∀ (f : JFrame) (acts : List Action), f.method = m → f.locked = none → f.entered = [] → (doReturn e (T.setTop f) acts (some (.long w))).1 = T.setFrames fs) : Steps p.tables e below (T.setTop (mkF m pc Ls (.long w :: rest))) (T.setFrames fs) :=
  retOut X hx hret rfl (Or.inr (Or.inl ⟨rfl, rfl, w, rfl⟩)) hd hl
theorem own_retD (X : Stand p l e R s m args below meth c T locs cells slots) (hx : p.tables.exec = Jvm.exec) {pc : Nat} {Ls : Array Slot} {w : UInt64} (hret : meth.sig.returnType = some .double) (hd : decode c.code pc = .ok (.dreturn, 1)) {fs : List Frame}
    (hl : ∀ (f : JFrame) (acts : List Action), f.method = m → f.locked = none → f.entered = [] → (doReturn e (T.setTop f) acts (some (.double w))).1 = T.setFrames fs) : Steps p.tables e below (T.setTop (mkF m pc Ls (.double w :: rest))) (T.setFrames fs) :=
  retOut X hx hret rfl (Or.inr (Or.inr (Or.inl ⟨rfl, rfl, w, rfl⟩))) hd hl
theorem own_retI (X : Stand p l e R s m args below meth c T locs cells slots) (hx : p.tables.exec = Jvm.exec) {pc : Nat} {Ls : Array Slot} {w : Int32} (hret : meth.sig.returnType = some .int) (hd : decode c.code pc = .ok (.ireturn, 1)) {fs : List Frame}
    (hl : ∀ (f : JFrame) (acts : List Action), f.method = m → f.locked = none → f.entered = [] → (doReturn e (T.setTop f) acts (some (.int w))).1 = T.setFrames fs) : Steps p.tables e below (T.setTop (mkF m pc Ls (.int w :: rest))) (T.setFrames fs) :=
  retOut X hx hret rfl (Or.inl ⟨rfl, Or.inl rfl, w, rfl⟩) hd hl
theorem own_retA (X : Stand p l e R s m args below meth c T locs cells slots) (hx : p.tables.exec = Jvm.exec) {pc : Nat} {Ls : Array Slot} {w : Value} {t : FieldType} (hret : meth.sig.returnType = some t) (ht : t.isReference = true) (hn : narrow t w = w) (hw : w.isRef = true) (hd : decode c.code pc = .ok (.areturn, 1)) {fs : List Frame}
    (hl : ∀ (f : JFrame) (acts : List Action), f.method = m → f.locked = none → f.entered = [] → (doReturn e (T.setTop f) acts (some w)).1 = T.setFrames fs) : Steps p.tables e below (T.setTop (mkF m pc Ls (w :: rest))) (T.setFrames fs) :=
  retOut X hx hret hn (Or.inr (Or.inr (Or.inr (Or.inr ⟨rfl, ht, hw⟩)))) hd hl
end Own
theorem own_wS {Z : State} {a0 : Array Value} (hw : ∀ d ∈ tables_1, d.before a0 Z = true) : ∀ d ∈ Bundle.stringAtoms, d.before a0 Z = true := by
  intro d hd
  simp only [Bundle.stringAtoms, Bundle.sN, List.mem_cons, List.not_mem_nil, or_false] at hd
  rcases hd with rfl | rfl | rfl | rfl | rfl | rfl | rfl
  · exact own_k hw 7 rfl
  · exact own_k hw 6 rfl
  · exact own_k hw 23 rfl
  · exact own_k hw 33 rfl
  · exact own_k hw 31 rfl
  · exact own_k hw 90 rfl
  · exact own_k hw 91 rfl
def own_EL : List (String × Nat) := [("java/lang/String", 7)]
theorem own_EW {Z : State} {a0 : Array Value} (hw : ∀ d ∈ tables_1, d.before a0 Z = true) : EW Z a0 own_EL := (EW.cons (own_k hw 89 rfl) (by decide +kernel) EW.nil)
theorem own_safeStr {Z : State} {EL : List (String × Nat)} {vm : Vm} {h : Heap} {x : Addr} (hal : Z.vm.Alike vm) (E : Exa Z h x "java/lang/String") (V : Fld Z h x "java/lang/String" "value" "[B" .null) : Safe Z EL vm h x := fun B => by
  obtain ⟨p, hp, u, a, hb, q, qa, S, hy⟩ := B
  obtain ⟨cS, ⟨⟨s1, s2, s3, ⟨cv, kv, iv, s4, s4'⟩, ⟨cc, kc, ic, s5, s5'⟩, s6, s7, s8, s9, s10, s11, s12, s13, s14, s15, s16⟩, hfS, hcS⟩, -, hB, -⟩ := S
  rcases hy with rfl | rfl
  · obtain ⟨cell, cf, k, i, f, h1, h2, -, -, -, -, h7⟩ := V
    obtain ⟨kv', z4⟩ := ff_back hal s4
    have s1' : h[q.sa]? = some q.sC := s1
    cases h1.symm.trans s1'
    cases h2.symm.trans z4
    cases h7.symm.trans s8
  · obtain ⟨cell, k, h1, h2, h3, -, -⟩ := E
    have s10' : h[q.sd]? = some q.SA := s10
    cases h1.symm.trans s10'
    have hB' : Z.vm.findClass "[B" = some q.SA.cls := by rw [← hal.findClass]; exact hB
    obtain ⟨k1, a1, a2⟩ := Vm.findClass_spec h2
    obtain ⟨k2, b1, b2⟩ := Vm.findClass_spec hB'
    cases a1.symm.trans b1
    exact absurd (a2.symm.trans b2) (by decide)
theorem own_and255 (x : Int32) : ∃ n : Nat, n ≤ 255 ∧ x &&& 255 = Int32.ofNat n := by
  refine ⟨(x &&& 255).toBitVec.toNat, ?_, ?_⟩
  · simp only [Int32.toBitVec_and, BitVec.toNat_and]
    exact Nat.and_le_right
  · apply Int32.toBitVec_inj.mp
    show _ = BitVec.ofNat 32 _
    rw [BitVec.ofNat_toNat]; simp
theorem own_ch (x : Int32) : ¬ (x &&& (255 : Int32)).toUInt32.toUInt16.toUInt32.toInt32 < 0 ∧ ¬ (255 : Int32) < (x &&& (255 : Int32)).toUInt32.toUInt16.toUInt32.toInt32 := by
  rw [i2c_mask]
  obtain ⟨n, h, e⟩ := own_and255 x
  rw [e]
  simp only [Int32.lt_iff_toInt_lt, Int32.toInt_ofNat_of_lt (show n < 2 ^ 31 by omega)]
  have : (255 : Int32).toInt = 255 := rfl; have : (0 : Int32).toInt = 0 := rfl
  omega
theorem own_and3 (x : Int32) : x &&& 3 = 0 ∨ x &&& 3 = 1 ∨ x &&& 3 = 2 ∨ x &&& 3 = 3 := by
  have h : (x &&& 3).toBitVec.toNat ≤ 3 := by
    simp only [Int32.toBitVec_and, BitVec.toNat_and]
    exact Nat.and_le_right
  have e : x &&& 3 = Int32.ofNat (x &&& 3).toBitVec.toNat := by
    apply Int32.toBitVec_inj.mp
    show _ = BitVec.ofNat 32 _
    rw [BitVec.ofNat_toNat]; simp
  rw [e]
  generalize (x &&& 3).toBitVec.toNat = n at h
  match n, h with
  | 0, _ => exact Or.inl rfl
  | 1, _ => exact Or.inr (Or.inl rfl)
  | 2, _ => exact Or.inr (Or.inr (Or.inl rfl))
  | 3, _ => exact Or.inr (Or.inr (Or.inr rfl))
theorem own_three {x : Int32} (h0 : ¬ x &&& 3 = 0) (h1 : ¬ x &&& 3 = 1) (h2 : ¬ x &&& 3 = 2) : x &&& 3 = 3 := by
  rcases own_and3 x with h | h | h | h
  · exact absurd h h0
  · exact absurd h h1
  · exact absurd h h2
  · exact h
theorem own_hws {Z : State} {a0 : Array Value} (hw : ∀ d ∈ tables_1, d.before a0 Z = true) : ∀ d ∈ StrChars.Road.words, d.before a0 Z = true := fun d hd => hw d ((by decide +kernel : ∀ d ∈ StrChars.Road.words, d ∈ tables_1) d hd)
/-- one of 0, 1, 2, 3 -/
def own_q (x : Int32) : Prop := x = 0 ∨ x = 1 ∨ x = 2 ∨ x = 3
def own_tk (k x0 x1 x2 : Int32) : List Value := if k = 0 then [] else if k = 1 then [.int x0] else if k = 2 then [.int x0, .int x1] else [.int x0, .int x1, .int x2]
def own_W (w0 w1 w2 j : Int32) : Int32 := if j = 0 then w0 else if j = 1 then w1 else w2
def own_rf (w0 w1 w2 ln s0 s1 s2 mm : Int32) : Int32 :=
  if ln < mm then 0 else if mm = 0 then 1 else if mm = 1 then (if own_W w0 w1 w2 (ln - 1) = s0 then 1 else 0)
  else if mm = 2 then (if own_W w0 w1 w2 (ln - 2) = s0 ∧ own_W w0 w1 w2 (ln - 1) = s1 then 1 else 0) else (if w0 = s0 ∧ w1 = s1 ∧ w2 = s2 then 1 else 0)
theorem own_nar (x : Int32) : nar .char ((x &&& (255 : Int32)).toUInt32.toUInt16.toUInt32.toInt32) = (x &&& (255 : Int32)).toUInt32.toUInt16.toUInt32.toInt32 := by simp only [nar, UInt32.toUInt32_toInt32, UInt16.toUInt16_toUInt32]
theorem own_min {x n : Int32} (hx : own_q x) (hn : own_q n) : own_q (if n < x then n else x) ∧ ¬ n < (if n < x then n else x) := by
  rcases hx with rfl | rfl | rfl | rfl <;> rcases hn with rfl | rfl | rfl | rfl <;> (unfold own_q; decide)
theorem own_ix0 {ln mm : Int32} (hl : own_q ln) (hm : own_q mm) (h1 : (0 : Int32) < mm) (h2 : ¬ (ln - mm) < 0) : ¬ (ln - mm) < 0 ∧ (ln - mm) < 3 := by
  rcases hl with rfl | rfl | rfl | rfl <;> rcases hm with rfl | rfl | rfl | rfl <;> revert h1 h2 <;> decide
theorem own_ix1 {ln mm : Int32} (hl : own_q ln) (hm : own_q mm) (h1 : (1 : Int32) < mm) (h2 : ¬ ((ln - mm) + (1 : Int32)) < 0) : ¬ ((ln - mm) + (1 : Int32)) < 0 ∧ ((ln - mm) + (1 : Int32)) < 3 := by
  rcases hl with rfl | rfl | rfl | rfl <;> rcases hm with rfl | rfl | rfl | rfl <;> revert h1 h2 <;> decide
theorem own_ix2 {ln mm : Int32} (hl : own_q ln) (hm : own_q mm) (h1 : (2 : Int32) < mm) (h2 : ¬ ((ln - mm) + (2 : Int32)) < 0) : ¬ ((ln - mm) + (2 : Int32)) < 0 ∧ ((ln - mm) + (2 : Int32)) < 3 := by
  rcases hl with rfl | rfl | rfl | rfl <;> rcases hm with rfl | rfl | rfl | rfl <;> revert h1 h2 <;> decide
theorem own_get3 {j w0 w1 w2 : Int32} (d : Value) (hj : ¬ j < 0 ∧ j < 3) (n0 : nar .char w0 = w0) (n1 : nar .char w1 = w1) (n2 : nar .char w2 = w2) : ∃ y, ([.int w0, .int w1, .int w2] : List Value).getD j.toNatClampNeg d = .int y ∧ nar .char y = y := by
  have h : j.toNatClampNeg < 3 := by
    obtain ⟨q1, q2⟩ := hj
    rw [Int32.lt_iff_toInt_lt] at q1 q2
    have e0 : (0 : Int32).toInt = 0 := rfl; have e3 : (3 : Int32).toInt = 3 := rfl
    simp only [Int32.toNatClampNeg] at *; omega
  generalize j.toNatClampNeg = n at h
  match n, h with
  | 0, _ => exact ⟨w0, rfl, n0⟩
  | 1, _ => exact ⟨w1, rfl, n1⟩
  | 2, _ => exact ⟨w2, rfl, n2⟩
theorem own_lt0 {zn ln : Int32} (h : ¬ zn < ln) (h1 : (0 : Int32) < ln) : ¬ (0 : Int32) < 0 ∧ (0 : Int32) < zn := by
  simp only [Int32.lt_iff_toInt_lt] at *; have e0 : (0 : Int32).toInt = 0 := rfl; omega
theorem own_ltj {zn ln j : Int32} (h : ¬ zn < ln) (h0 : ¬ j < 0) (h1 : j < ln) : ¬ j < 0 ∧ j < zn := by
  simp only [Int32.lt_iff_toInt_lt] at *; omega
theorem own_tkg {zn w0 w1 w2 : Int32} (hz : own_q zn) : ((0 : Int32) < zn → (own_tk zn w0 w1 w2).getD 0 (.int (0 : Int32)) = .int w0) ∧ ((1 : Int32) < zn → (own_tk zn w0 w1 w2).getD 1 (.int (0 : Int32)) = .int w1) ∧ ((2 : Int32) < zn → (own_tk zn w0 w1 w2).getD 2 (.int (0 : Int32)) = .int w2) := by
  rcases hz with rfl | rfl | rfl | rfl <;> refine ⟨fun h => ?_, fun h => ?_, fun h => ?_⟩ <;> first | rfl | exact absurd h (by decide)
theorem own_back8 {c : Int32} (h : ¬ c < 0 ∧ ¬ (255 : Int32) < c) : nar .char ((c.toInt8.toInt32 &&& (255 : Int32)).toUInt32.toUInt16.toUInt32.toInt32) = c := by
  rw [own_nar, i2c_mask]
  obtain ⟨h1, h2⟩ := h
  simp only [Int32.lt_iff_toInt_lt] at h1 h2
  have e0 : (0 : Int32).toInt = 0 := rfl; have e1 : (255 : Int32).toInt = 255 := rfl
  rw [e0] at h1; rw [e1] at h2
  obtain ⟨n, hn⟩ : ∃ n : Nat, c.toInt = n := ⟨c.toInt.toNat, by omega⟩
  have hc : c = Int32.ofNat n := by rw [← Int32.toInt_inj, Int32.toInt_ofNat_of_lt (by omega), hn]
  have hb : n < 256 := by omega
  rw [hc]; clear hc hn h1 h2
  revert hb
  have key : ∀ m : Fin 256, (Int32.ofNat m.val).toInt8.toInt32 &&& 255 = Int32.ofNat m.val := by decide +kernel
  intro hb; exact key ⟨n, hb⟩
theorem d3_0 : decode jdk_42_method_149_code 0 = .ok (.aload_n 0, 1) := by decide +kernel
theorem d3_1 : decode jdk_42_method_149_code 1 = .ok (.invokespecial 1, 3) := by decide +kernel
theorem d3_4 : decode jdk_42_method_149_code 4 = .ok (.iload_n 3, 1) := by decide +kernel
theorem d3_5 : decode jdk_42_method_149_code 5 = .ok (.ifCond .ne 22, 3) := by decide +kernel
theorem d3_8 : decode jdk_42_method_149_code 8 = .ok (.aload_n 0, 1) := by decide +kernel
theorem d3_9 : decode jdk_42_method_149_code 9 = .ok (.ldc 7, 2) := by decide +kernel
theorem d3_11 : decode jdk_42_method_149_code 11 = .ok (.getfield 9, 3) := by decide +kernel
theorem d3_14 : decode jdk_42_method_149_code 14 = .ok (.putfield 9, 3) := by decide +kernel
theorem d3_17 : decode jdk_42_method_149_code 17 = .ok (.aload_n 0, 1) := by decide +kernel
theorem d3_18 : decode jdk_42_method_149_code 18 = .ok (.ldc 7, 2) := by decide +kernel
theorem d3_20 : decode jdk_42_method_149_code 20 = .ok (.getfield 15, 3) := by decide +kernel
theorem d3_23 : decode jdk_42_method_149_code 23 = .ok (.putfield 15, 3) := by decide +kernel
theorem d3_26 : decode jdk_42_method_149_code 26 = .ok (.return_, 1) := by decide +kernel
set_option maxHeartbeats 4000000 in
theorem own_ef1 (m : MethodId) (x0 : Addr) (x1 : Addr) (x2 : Int32) (x3 : Int32) : entryFrame m #[(.ref x0), (.ref x1), (.int x2), (.int x3), .null] 6 = mkF m 0 #[.val (.ref x0), .val (.ref x1), .val (.int x2), .val (.int x3), .val .null, .unset] [] := by first | (simp [entryFrame, mkF, argsToLocals, Value.category]; done) | rfl
def own_e4Q (Z : State) (x0 : Addr) (b0 : Addr) (h0 : Heap) (n0 : Nat) (v : Option Value) (h : Heap) (L : List Loc) : Prop := ∃ (t : Addr), ∃ (kb : ClassId), v = none ∧ Fr n0 L ∧ Keep h0 h [x0] ∧ (Exa Z h x0 "java/lang/String") ∧ (Fld Z h x0 "java/lang/String" "coder" "B" (.int (0 : Int32))) ∧ (Fld Z h x0 "java/lang/String" "value" "[B" (.ref t)) ∧ (Arv Z h t kb .byte (0 : Int32) [] (.int (0 : Int32)))
theorem own_pn1 : plainName "java/lang/String" = true := by first | (simp [plainName, overriddenIn]; done) | decide +kernel
abbrev own_e4R : Room := { frames := 1, cells := 4, slots := 8, locals := 20 }
set_option maxRecDepth 65536 in
set_option maxHeartbeats 40000000 in
theorem own_e4 (l : Launch) (Z : State) (a0 : Array Value) (hw : ∀ d ∈ tables_1, d.before a0 Z = true) (ws : List Jvm.Cond) (x0 : Addr) (b0 : Addr) (h0 : Heap) (n0 : Nat) (Z0 : n0 ≤ h0.size) (pr1 : Exa Z h0 x0 "java/lang/String") (pr2 : n0 ≤ x0) (pr3 : Fld Z h0 x0 "java/lang/String" "value" "[B" .null) (pr4 : Fld Z h0 x0 "java/lang/String" "coder" "B" (.int (0 : Int32))) :
    own_MH own_EL l (⟨"java/lang/String", "<init>", "([CIILjava/lang/Void;)V"⟩ : MethodName) jdk_42_method_149_code 6 none ws own_e4R #[(.ref x0), (.ref b0), (.int (0 : Int32)), (.int (0 : Int32)), .null] Z h0 (own_e4Q Z x0 b0 h0 n0) := by
  refine own_goH (plainFor_of_name own_pn1) (fun m => own_ef1 m x0 b0 (0 : Int32) (0 : Int32) ) ?_
  intro p e s m below meth c s₁ Bd hx hby hml hZ hh hown hnm X0 e0 hS CR0
  have N0 := Fr.nil n0
  have K0 : Keep h0 h0 [x0] := Keep.refl h0 _
  have hk : h0.size ≤ h0.size := Nat.le_refl _
  refine own_st (T' := s₁) (g' := (mkF m 1 #[.val (.ref x0), .val (.ref b0), .val (.int (0 : Int32)), .val (.int (0 : Int32)), .val .null, .unset] [(.ref x0)])) (fun _ kt => XS.aloadN X0.here hx rfl (hb hby d3_0) rfl rfl kt) ?_
  obtain ⟨T1, X1, e1, st1⟩ := initO X0 hx hZ hown (own_k hw 15 rfl) (own_k hw 16 rfl) (own_k hw 17 rfl) e0 (g := (mkF m 1 #[.val (.ref x0), .val (.ref b0), .val (.int (0 : Int32)), .val (.int (0 : Int32)), .val .null, .unset] [(.ref x0)])) rfl hml.symm rfl (hb hby d3_1) (by decide) (W := 0) (by show 2 * 0 + _ ≤ _; exact Nat.le_of_eq rfl) (by decide)
  refine own_st (T' := T1) (g' := (mkF m 4 #[.val (.ref x0), .val (.ref b0), .val (.int (0 : Int32)), .val (.int (0 : Int32)), .val .null, .unset] [])) st1 ?_
  refine own_st (T' := T1) (g' := (mkF m 9 #[.val (.ref x0), .val (.ref b0), .val (.int (0 : Int32)), .val (.int (0 : Int32)), .val .null, .unset] [(.ref x0)])) (fun _ kt => XS.iloadN X1.here hx rfl (hb hby d3_4) rfl (XS.ifNo X1.here hx rfl (hb hby d3_5) rfl (XT.i0_ne_f (by decide)) (XS.aloadN X1.here hx rfl (hb hby d3_8) rfl rfl kt))) ?_
  obtain ⟨b2, T2, h2, k2, d2, kd2, X2, e2, E2, hS2, hk2, hZ2, hown2, gE2, gC2, gV2, gA2, la2, lb2, hC2, -, hsf2, st2⟩ := ldcCH X1 hx hZ hown (own_k hw 89 rfl) (own_wS hw) e1 hS hk (own_EW hw) (show ("java/lang/String", 7) ∈ own_EL by simp [own_EL]) CR0.1 (vs := []) (z := (0 : Int32)) ⟨by decide +kernel, by first | rfl | decide +kernel⟩ (by decide) rfl (g := (mkF m 9 #[.val (.ref x0), .val (.ref b0), .val (.int (0 : Int32)), .val (.int (0 : Int32)), .val .null, .unset] [(.ref x0)])) rfl (hb hby d3_9) (n := 0) (by decide +kernel) (by decide) (by decide) (by decide)
  have CR3 : CHr Z own_EL s.vm h0 T2.vm h2 := CHr.trans CR0 hC2
  have Z4 : n0 ≤ h2.size := Nat.le_trans Z0 E2.1
  have hk4 := Nat.le_trans hk E2.1
  have K4 : Keep h0 h2 [x0] := (Keep.ext K0 E2)
  have F5 : Exa Z h2 x0 "java/lang/String" := (Exa.ext E2 pr1)
  have F6 : Fld Z h2 x0 "java/lang/String" "value" "[B" .null := (Fld.ext E2 pr3)
  have S7 : Safe Z own_EL T2.vm h2 x0 := (own_safeStr (State.Warmed39.alike hZ2) F5 F6)
  have ne8 := hsf2 x0 S7
  refine own_st (T' := T2) (g' := (mkF m 11 #[.val (.ref x0), .val (.ref b0), .val (.int (0 : Int32)), .val (.int (0 : Int32)), .val .null, .unset] [(.ref b2), (.ref x0)])) st2 ?_
  obtain ⟨T9, X9, e9, st9⟩ := getF X2 hx hZ2 hown2 (host := "") (Or.inl (own_k hw 32 rfl)) Via.refl e2 gV2 (g := (mkF m 11 #[.val (.ref x0), .val (.ref b0), .val (.int (0 : Int32)), .val (.int (0 : Int32)), .val .null, .unset] [(.ref b2), (.ref x0)])) rfl rfl (hb hby d3_11)
  refine own_st (T' := T9) (g' := (mkF m 14 #[.val (.ref x0), .val (.ref b0), .val (.int (0 : Int32)), .val (.int (0 : Int32)), .val .null, .unset] [(.ref d2), (.ref x0)])) st9 ?_
  obtain ⟨T10, h10, X10, e10, W10, st10⟩ := putF X9 hx hZ2 hown2 (host := "") (Or.inl (own_k hw 32 rfl)) Via.refl e9 F6 F5 (Or.inr ⟨(own_k hw 33 rfl), rfl, hnm⟩) (own_k hw 6 rfl) (ty := (.array .byte)) (by decide) rfl rfl (g := (mkF m 14 #[.val (.ref x0), .val (.ref b0), .val (.int (0 : Int32)), .val (.int (0 : Int32)), .val .null, .unset] [(.ref d2), (.ref x0)])) rfl rfl (hb hby d3_14)
  have N10 := Fr.snoc X10 N0 pr2
  have CR11 : CHr Z own_EL s.vm h0 T2.vm h10 := CHr.trans CR3 (CHr.wr W10 S7 CR3.1)
  have Z12 : n0 ≤ h10.size := Nat.le_trans Z4 (Nat.le_of_eq (Wr.size W10).symm)
  have hk12 := Nat.le_trans hk2 (Nat.le_of_eq (Wr.size W10).symm)
  have K12 : Keep h0 h10 [x0] := (Keep.wr K4 W10 (Or.inl (List.mem_of_getElem? (i := 0) rfl)))
  have F13 : Fld Z h10 x0 "java/lang/String" "value" "[B" (.ref d2) := Fld.same W10 F6
  refine own_st (T' := T10) (g' := (mkF m 17 #[.val (.ref x0), .val (.ref b0), .val (.int (0 : Int32)), .val (.int (0 : Int32)), .val .null, .unset] [])) st10 ?_
  refine own_st (T' := T10) (g' := (mkF m 18 #[.val (.ref x0), .val (.ref b0), .val (.int (0 : Int32)), .val (.int (0 : Int32)), .val .null, .unset] [(.ref x0)])) (fun _ kt => XS.aloadN X10.here hx rfl (hb hby d3_17) rfl rfl kt) ?_
  obtain ⟨b14, T14, h14, k14, d14, kd14, X14, e14, E14, hS14, hk14, hZ14, hown14, gE14, gC14, gV14, gA14, la14, lb14, hC14, -, hsf14, st14⟩ := ldcCH X10 hx hZ2 hown2 (own_k hw 89 rfl) (own_wS hw) e10 hS2 hk12 (own_EW hw) (show ("java/lang/String", 7) ∈ own_EL by simp [own_EL]) CR11.1 (vs := []) (z := (0 : Int32)) ⟨by decide +kernel, by first | rfl | decide +kernel⟩ (by decide) rfl (g := (mkF m 18 #[.val (.ref x0), .val (.ref b0), .val (.int (0 : Int32)), .val (.int (0 : Int32)), .val .null, .unset] [(.ref x0)])) rfl (hb hby d3_18) (n := 0) (by decide +kernel) (by decide) (by decide) (by decide)
  have CR15 : CHr Z own_EL s.vm h0 T14.vm h14 := CHr.trans CR11 hC14
  have Z16 : n0 ≤ h14.size := Nat.le_trans Z12 E14.1
  have hk16 := Nat.le_trans hk12 E14.1
  have K16 : Keep h0 h14 [x0] := (Keep.ext K12 E14)
  have F17 : Exa Z h10 x0 "java/lang/String" := (Exa.wr W10 F5)
  have F18 : Safe Z own_EL T14.vm h14 x0 := (CHr.safe hC14 F17.lt (Safe.wr W10 S7 CR3.1 S7))
  have ne19 := hsf14 x0 F18
  have F20 : Exa Z h14 b2 "java/lang/String" := (Exa.ext E14 (Exa.wr W10 gE2))
  have F21 : Fld Z h14 b2 "java/lang/String" "value" "[B" (.ref d2) := (Fld.ext E14 (Fld.other W10 gV2 (Or.inl (Ne.symm ne8.1))))
  have F22 : Arv Z h14 d2 kd2 .byte (0 : Int32) [] (.int (0 : Int32)) := ((Arv.other gA2 W10 (Ne.symm ne8.2)).ext E14)
  refine own_st (T' := T14) (g' := (mkF m 20 #[.val (.ref x0), .val (.ref b0), .val (.int (0 : Int32)), .val (.int (0 : Int32)), .val .null, .unset] [(.ref b14), (.ref x0)])) st14 ?_
  obtain ⟨T23, X23, e23, st23⟩ := getF X14 hx hZ14 hown14 (host := "") (Or.inl (own_k hw 30 rfl)) Via.refl e14 gC14 (g := (mkF m 20 #[.val (.ref x0), .val (.ref b0), .val (.int (0 : Int32)), .val (.int (0 : Int32)), .val .null, .unset] [(.ref b14), (.ref x0)])) rfl rfl (hb hby d3_20)
  refine own_st (T' := T23) (g' := (mkF m 23 #[.val (.ref x0), .val (.ref b0), .val (.int (0 : Int32)), .val (.int (0 : Int32)), .val .null, .unset] [(.int (0 : Int32)), (.ref x0)])) st23 ?_
  have F24 : Fld Z h14 x0 "java/lang/String" "coder" "B" (.int (0 : Int32)) := (Fld.ext E14 (Fld.other W10 (Fld.ext E2 pr4) (Or.inr (slot_ne (Or.inr (own_k hw 31 rfl)) (Or.inr (own_k hw 33 rfl)) (by decide) (t := .byte) (t' := (.array .byte)) (by decide) (by decide)))))
  have F25 : Exa Z h14 x0 "java/lang/String" := (Exa.ext E14 (Exa.wr W10 F5))
  obtain ⟨T26, h26, X26, e26, W26, st26⟩ := putF X23 hx hZ14 hown14 (host := "") (Or.inl (own_k hw 30 rfl)) Via.refl e23 F24 F25 (Or.inr ⟨(own_k hw 31 rfl), rfl, hnm⟩) (own_k hw 6 rfl) (ty := .byte) (by decide) rfl rfl (g := (mkF m 23 #[.val (.ref x0), .val (.ref b0), .val (.int (0 : Int32)), .val (.int (0 : Int32)), .val .null, .unset] [(.int (0 : Int32)), (.ref x0)])) rfl rfl (hb hby d3_23)
  have N26 := Fr.snoc X26 N10 pr2
  have CR27 : CHr Z own_EL s.vm h0 T14.vm h26 := CHr.trans CR15 (CHr.wr W26 F18 CR15.1)
  have Z28 : n0 ≤ h26.size := Nat.le_trans Z16 (Nat.le_of_eq (Wr.size W26).symm)
  have hk28 := Nat.le_trans hk14 (Nat.le_of_eq (Wr.size W26).symm)
  have K28 : Keep h0 h26 [x0] := (Keep.wr K16 W26 (Or.inl (List.mem_of_getElem? (i := 0) rfl)))
  have F29 : Fld Z h26 x0 "java/lang/String" "coder" "B" (.int (0 : Int32)) := Fld.same W26 F24
  refine own_st (T' := T26) (g' := (mkF m 26 #[.val (.ref x0), .val (.ref b0), .val (.int (0 : Int32)), .val (.int (0 : Int32)), .val .null, .unset] [])) st26 ?_
  obtain ⟨fs, hr, hrun, hended, hE⟩ := Stand.leaveW X26 hS14 (by rw [e26]; exact hk28) (v := none) (fun _ => rfl)
  refine own_end (X26.returnOut hx Bd.returns (hb hby d3_26) hr) ⟨_, hrun, hended, _, _, rfl, ?_, (by rw [hh]; show CHr Z own_EL s.vm h0 T26.vm T26.heap; rw [e26]; exact CHr.trans CR27 (CHv.at X26 hZ14 (own_EW hw) CR27.1)), ⟨hE.1, hE.2.1, hE.2.2.1, hE.2.2.2.mono (by decide) (by decide)⟩⟩
  have F30 : Fld Z h26 x0 "java/lang/String" "value" "[B" (.ref d2) := (Fld.other W26 (Fld.ext E14 F13) (Or.inr (slot_ne (Or.inr (own_k hw 33 rfl)) (Or.inr (own_k hw 31 rfl)) (by decide) (t := (.array .byte)) (t' := .byte) (by decide) (by decide))))
  have F31 : Arv Z h26 d2 kd2 .byte (0 : Int32) [] (.int (0 : Int32)) := (Arv.other F22 W26 (Ne.symm ne8.2))
  have F32 : Exa Z h26 x0 "java/lang/String" := (Exa.wr W26 F25)
  show own_e4Q Z _ _ h0 n0 _ T26.heap _
  rw [e26]
  exact ⟨d2, kd2, rfl, N26, K28, F32, F29, F30, F31⟩
theorem d2_0 : decode jdk_42_method_3_code 0 = .ok (.aload_n 0, 1) := by decide +kernel
theorem d2_1 : decode jdk_42_method_3_code 1 = .ok (.aload_n 1, 1) := by decide +kernel
theorem d2_2 : decode jdk_42_method_3_code 2 = .ok (.iconst 0, 1) := by decide +kernel
theorem d2_3 : decode jdk_42_method_3_code 3 = .ok (.aload_n 1, 1) := by decide +kernel
theorem d2_4 : decode jdk_42_method_3_code 4 = .ok (.arraylength, 1) := by decide +kernel
theorem d2_5 : decode jdk_42_method_3_code 5 = .ok (.aconst_null, 1) := by decide +kernel
theorem d2_6 : decode jdk_42_method_3_code 6 = .ok (.invokespecial 27, 3) := by decide +kernel
theorem own_pd1 : parseMethodDescriptor "([CIILjava/lang/Void;)V" = some ⟨[(.array .char), .int, .int, (.object "java/lang/Void")], none⟩ := by decide +kernel
theorem d2_9 : decode jdk_42_method_3_code 9 = .ok (.return_, 1) := by decide +kernel
set_option maxHeartbeats 4000000 in
theorem own_ef2 (m : MethodId) (x0 : Addr) (x1 : Addr) : entryFrame m #[(.ref x0), (.ref x1)] 2 = mkF m 0 #[.val (.ref x0), .val (.ref x1)] [] := by first | (simp [entryFrame, mkF, argsToLocals, Value.category]; done) | rfl
def own_e1Q (Z : State) (x0 : Addr) (b0 : Addr) (kc : ClassId) (vl : List Value) (dd : Value) (h0 : Heap) (n0 : Nat) (v : Option Value) (h : Heap) (L : List Loc) : Prop := ∃ (t : Addr), ∃ (kb : ClassId), v = none ∧ Fr n0 L ∧ Keep h0 h [x0] ∧ (Exa Z h x0 "java/lang/String") ∧ (Fld Z h x0 "java/lang/String" "coder" "B" (.int (0 : Int32))) ∧ (Fld Z h x0 "java/lang/String" "value" "[B" (.ref t)) ∧ (Arv Z h t kb .byte (0 : Int32) [] (.int (0 : Int32)))
abbrev own_e1R : Room := { frames := 2, cells := 4, slots := 8, locals := 60 }
set_option maxRecDepth 65536 in
set_option maxHeartbeats 40000000 in
theorem own_e1 (l : Launch) (Z : State) (a0 : Array Value) (hw : ∀ d ∈ tables_1, d.before a0 Z = true) (ws : List Jvm.Cond) (x0 : Addr) (b0 : Addr) (kc : ClassId) (vl : List Value) (dd : Value) (h0 : Heap) (n0 : Nat) (Z0 : n0 ≤ h0.size) (pr1 : Exa Z h0 x0 "java/lang/String") (pr2 : n0 ≤ x0) (pr3 : Fld Z h0 x0 "java/lang/String" "value" "[B" .null) (pr4 : Fld Z h0 x0 "java/lang/String" "coder" "B" (.int (0 : Int32))) (pr5 : Arv Z h0 b0 kc .char (0 : Int32) vl dd) :
    own_MH own_EL l (⟨"java/lang/String", "<init>", "([C)V"⟩ : MethodName) jdk_42_method_3_code 2 none ws own_e1R #[(.ref x0), (.ref b0)] Z h0 (own_e1Q Z x0 b0 kc vl dd h0 n0) := by
  refine own_goH (plainFor_of_name own_pn1) (fun m => own_ef2 m x0 b0 ) ?_
  intro p e s m below meth c s₁ Bd hx hby hml hZ hh hown hnm X0 e0 hS CR0
  have N0 := Fr.nil n0
  have K0 : Keep h0 h0 [x0] := Keep.refl h0 _
  have hk : h0.size ≤ h0.size := Nat.le_refl _
  refine own_st (T' := s₁) (g' := (mkF m 4 #[.val (.ref x0), .val (.ref b0)] [(.ref b0), (.int (0 : Int32)), (.ref b0), (.ref x0)])) (fun _ kt => XS.aloadN X0.here hx rfl (hb hby d2_0) rfl rfl (XS.aloadN X0.here hx rfl (hb hby d2_1) rfl rfl (XS.iconst X0.here hx rfl (hb hby d2_2) (XS.aloadN X0.here hx rfl (hb hby d2_3) rfl rfl kt)))) ?_
  refine own_st (T' := s₁) (g' := (mkF m 5 #[.val (.ref x0), .val (.ref b0)] [(.int (0 : Int32)), (.int (0 : Int32)), (.ref b0), (.ref x0)])) (own_alen X0 hx hZ e0 pr5 (g := (mkF m 4 #[.val (.ref x0), .val (.ref b0)] [(.ref b0), (.int (0 : Int32)), (.ref b0), (.ref x0)])) rfl rfl (hb hby d2_4)) ?_
  refine own_st (T' := s₁) (g' := (mkF m 6 #[.val (.ref x0), .val (.ref b0)] [.null, (.int (0 : Int32)), (.int (0 : Int32)), (.ref b0), (.ref x0)])) (fun _ kt => XS.aconstNull X0.here hx rfl (hb hby d2_5) kt) ?_
  obtain ⟨_, _, ⟨T33, L33, k33, n33⟩, -, X33, hS33, hG33, ⟨Lc33, hQ33, l33, y33, z33, hC33⟩, st33⟩ := X0.specialBackS hx (y := (⟨"java/lang/String", "<init>", "([CIILjava/lang/Void;)V"⟩ : MethodName)) rfl hown (mvT hZ (own_k hw 11 rfl)) (mvT hZ (own_k hw 12 rfl)) (mvT hZ (own_k hw 14 rfl)) (by decide) (backOfSH (W := 0) (own_e4 l Z a0 hw [] x0 b0 h0 n0 Z0 pr1 pr2 pr3 pr4) hZ (own_k hw 14 rfl) (own_k hw 7 rfl) (by decide) (by decide) (own_EW hw) CR0.1) (g := (mkF m 6 #[.val (.ref x0), .val (.ref b0)] [.null, (.int (0 : Int32)), (.int (0 : Int32)), (.ref b0), (.ref x0)])) rfl hml.symm (Steps.refl _) (a := x0) (argsL := [(.ref b0), (.int (0 : Int32)), (.int (0 : Int32)), .null]) (rest := []) (lenOf own_pd1 rfl) rfl (by show 2 * 0 + _ ≤ _; exact Nat.le_of_eq rfl) (hb hby d2_6) (fun _ _ => ⟨rfl, e0, (by decide : 0 + 4 ≤ 4), (by decide : 0 + 8 ≤ 8)⟩)
  dsimp only [Pt.U, Pt.locs, Pt.cells, Pt.slots] at X33 l33 y33 z33 st33 hQ33 hS33 hG33 hC33
  subst l33 y33 z33
  obtain ⟨t_33, kb_33, rfl, N33, K33_, P34, P35, P36, P37⟩ := hQ33
  have N38 := Fr.app N0 N33
  obtain ⟨X39, hS39, hZ39, hown39⟩ := rebS hS (by rw [e0]; exact hk) X33 hS33 hG33 hZ hown
  have CR40 : CHr Z own_EL s.vm h0 T33.vm T33.heap := CHr.trans CR0 hC33
  have Z41 : n0 ≤ T33.heap.size := Nat.le_trans Z0 K33_.1
  have hk41 := Nat.le_trans hk K33_.1
  have K41 : Keep h0 T33.heap [x0] := (Keep.trans K0 K33_ (allS (Or.inl (List.mem_of_getElem? (i := 0) rfl)) all0))
  have hk39 : T33.heap.size ≤ T33.heap.size := Nat.le_refl _
  refine own_tr (T' := T33) (g' := (mkF m 9 #[.val (.ref x0), .val (.ref b0)] [])) st33 ?_
  obtain ⟨fs, hr, hrun, hended, hE⟩ := Stand.leaveW X39 hS39 hk39 (v := none) (fun _ => rfl)
  refine own_end (X39.returnOut hx Bd.returns (hb hby d2_9) hr) ⟨_, hrun, hended, _, _, rfl, ?_, (by rw [hh]; show CHr Z own_EL s.vm h0 T33.vm T33.heap; exact CHr.trans CR40 (CHv.at X39 hZ39 (own_EW hw) CR40.1)), ⟨hE.1, hE.2.1, hE.2.2.1, hE.2.2.2.mono (by decide) (by decide)⟩⟩
  show own_e1Q Z _ _ _ _ _ h0 n0 _ T33.heap _
  show own_e1Q Z _ _ _ _ _ h0 n0 _ T33.heap _
  exact ⟨t_33, kb_33, rfl, N38, K41, P34, P35, P36, P37⟩
theorem d14_0 : decode jdk_42_method_152_code 0 = .ok (.getstatic 38, 3) := by decide +kernel
theorem d14_3 : decode jdk_42_method_152_code 3 = .ok (.ifCond .eq 10, 3) := by decide +kernel
theorem d14_6 : decode jdk_42_method_152_code 6 = .ok (.aload_n 0, 1) := by decide +kernel
theorem d14_7 : decode jdk_42_method_152_code 7 = .ok (.getfield 15, 3) := by decide +kernel
theorem d14_10 : decode jdk_42_method_152_code 10 = .ok (.goto 4, 3) := by decide +kernel
theorem d14_14 : decode jdk_42_method_152_code 14 = .ok (.ireturn, 1) := by decide +kernel
set_option maxHeartbeats 4000000 in
theorem own_ef3 (m : MethodId) (x0 : Addr) : entryFrame m #[(.ref x0)] 1 = mkF m 0 #[.val (.ref x0)] [] := by first | (simp [entryFrame, mkF, argsToLocals, Value.category]; done) | rfl
def own_codQ (Z : State) (x0 : Addr) (zc : Int32) (h0 : Heap) (n0 : Nat) (v : Option Value) (h : Heap) (L : List Loc) : Prop := v = some (.int (0 : Int32)) ∧ Fr n0 L ∧ h = h0
abbrev own_codR : Room := { frames := 0, cells := 0, slots := 0, locals := 0 }
set_option maxRecDepth 65536 in
set_option maxHeartbeats 40000000 in
theorem own_cod (l : Launch) (Z : State) (a0 : Array Value) (hw : ∀ d ∈ tables_1, d.before a0 Z = true) (ws : List Jvm.Cond) (x0 : Addr) (zc : Int32) (h0 : Heap) (n0 : Nat) (Z0 : n0 ≤ h0.size) (pr1 : Old Z n0 h0) (pr2 : Sta Z Z.heap "java/lang/String" "COMPACT_STRINGS" "Z" (.int zc)) (pr3 : ¬ zc = 0) (pr4 : Fld Z h0 x0 "java/lang/String" "coder" "B" (.int (0 : Int32))) :
    own_M l (⟨"java/lang/String", "coder", "()B"⟩ : MethodName) jdk_42_method_152_code 1 (some .byte) ws own_codR #[(.ref x0)] Z h0 (own_codQ Z x0 zc h0 n0) := by
  refine own_go (plainFor_of_name own_pn1) (fun m => own_ef3 m x0 ) ?_
  intro p e s m below meth c s₁ Bd hx hby hml hZ hh hown hnm X0 e0
  have N0 := Fr.nil n0
  obtain ⟨T42, X42, e42, st42⟩ := getS2 X0 hx hZ hown (host := "") (Or.inl (own_k hw 18 rfl)) Via.refl e0 (Sta.ext pr1.2 pr2) (g := (mkF m 0 #[.val (.ref x0)] [])) rfl (hb hby d14_0)
  refine own_st (T' := T42) (g' := (mkF m 3 #[.val (.ref x0)] [(.int zc)])) st42 ?_
  refine own_st (T' := T42) (g' := (mkF m 7 #[.val (.ref x0)] [(.ref x0)])) (fun _ kt => XS.ifNo X42.here hx rfl (hb hby d14_3) rfl (XT.i0_eq_f pr3) (XS.aloadN X42.here hx rfl (hb hby d14_6) rfl rfl kt)) ?_
  obtain ⟨T43, X43, e43, st43⟩ := getF X42 hx hZ hown (host := "") (Or.inl (own_k hw 30 rfl)) Via.refl e42 pr4 (g := (mkF m 7 #[.val (.ref x0)] [(.ref x0)])) rfl rfl (hb hby d14_7)
  refine own_st (T' := T43) (g' := (mkF m 10 #[.val (.ref x0)] [(.int (0 : Int32))])) st43 ?_
  refine own_st (T' := T43) (g' := (mkF m 14 #[.val (.ref x0)] [(.int (0 : Int32))])) (fun _ kt => XS.goto X43.here hx rfl (pc0 := 10) (pc' := 14) rfl (hb hby d14_10) (by decide) (by decide) kt) ?_
  obtain ⟨fs, hr, hrun, hended, hW, hsame⟩ := X43.leave (v := some (.int (0 : Int32))) (fun h => by rw [Bd.returns] at h; cases h)
  refine own_end (retN X43 hx (t := .byte) Bd.returns (by simp) (hb hby d14_14) hr) ⟨_, hrun, hended, _, _, rfl, ?_, ⟨_, rfl⟩, hW, hsame.mono (by decide) (by decide)⟩
  show own_codQ Z _ _ h0 n0 _ T43.heap _
  rw [e43]
  exact ⟨rfl, N0, rfl⟩
theorem own_shr0 (x : Int32) : x >>> ((0 : Int32) &&& 31) = x := by
  apply Int32.toBitVec_inj.mp
  simp
theorem d13_0 : decode jdk_42_method_54_code 0 = .ok (.aload_n 0, 1) := by decide +kernel
theorem d13_1 : decode jdk_42_method_54_code 1 = .ok (.getfield 9, 3) := by decide +kernel
theorem d13_4 : decode jdk_42_method_54_code 4 = .ok (.arraylength, 1) := by decide +kernel
theorem d13_5 : decode jdk_42_method_54_code 5 = .ok (.aload_n 0, 1) := by decide +kernel
theorem d13_6 : decode jdk_42_method_54_code 6 = .ok (.invokevirtual 335, 3) := by decide +kernel
theorem own_pd2 : parseMethodDescriptor "()B" = some ⟨[], some .byte⟩ := by decide +kernel
theorem d13_9 : decode jdk_42_method_54_code 9 = .ok (.ishr, 1) := by decide +kernel
theorem d13_10 : decode jdk_42_method_54_code 10 = .ok (.ireturn, 1) := by decide +kernel
def own_lenQ (Z : State) (x0 : Addr) (zc : Int32) (t : Addr) (kb : ClassId) (zz : Int32) (vl : List Value) (dd : Value) (h0 : Heap) (n0 : Nat) (v : Option Value) (h : Heap) (L : List Loc) : Prop := v = some (.int zz) ∧ Fr n0 L ∧ h = h0
abbrev own_lenR : Room := { frames := 1, cells := 0, slots := 0, locals := 13 }
set_option maxRecDepth 65536 in
set_option maxHeartbeats 40000000 in
theorem own_len (l : Launch) (Z : State) (a0 : Array Value) (hw : ∀ d ∈ tables_1, d.before a0 Z = true) (ws : List Jvm.Cond) (x0 : Addr) (zc : Int32) (t : Addr) (kb : ClassId) (zz : Int32) (vl : List Value) (dd : Value) (h0 : Heap) (n0 : Nat) (Z0 : n0 ≤ h0.size) (pr1 : Old Z n0 h0) (pr2 : Sta Z Z.heap "java/lang/String" "COMPACT_STRINGS" "Z" (.int zc)) (pr3 : ¬ zc = 0) (pr4 : Exa Z h0 x0 "java/lang/String") (pr5 : Fld Z h0 x0 "java/lang/String" "coder" "B" (.int (0 : Int32))) (pr6 : Fld Z h0 x0 "java/lang/String" "value" "[B" (.ref t)) (pr7 : Arv Z h0 t kb .byte zz vl dd) :
    own_M l (⟨"java/lang/String", "length", "()I"⟩ : MethodName) jdk_42_method_54_code 1 (some .int) ws own_lenR #[(.ref x0)] Z h0 (own_lenQ Z x0 zc t kb zz vl dd h0 n0) := by
  refine own_go (plainFor_of_name own_pn1) (fun m => own_ef3 m x0 ) ?_
  intro p e s m below meth c s₁ Bd hx hby hml hZ hh hown hnm X0 e0
  have N0 := Fr.nil n0
  refine own_st (T' := s₁) (g' := (mkF m 1 #[.val (.ref x0)] [(.ref x0)])) (fun _ kt => XS.aloadN X0.here hx rfl (hb hby d13_0) rfl rfl kt) ?_
  obtain ⟨T44, X44, e44, st44⟩ := getF X0 hx hZ hown (host := "") (Or.inl (own_k hw 32 rfl)) Via.refl e0 pr6 (g := (mkF m 1 #[.val (.ref x0)] [(.ref x0)])) rfl rfl (hb hby d13_1)
  refine own_st (T' := T44) (g' := (mkF m 4 #[.val (.ref x0)] [(.ref t)])) st44 ?_
  refine own_st (T' := T44) (g' := (mkF m 5 #[.val (.ref x0)] [(.int zz)])) (own_alen X44 hx hZ e44 pr7 (g := (mkF m 4 #[.val (.ref x0)] [(.ref t)])) rfl rfl (hb hby d13_4)) ?_
  refine own_st (T' := T44) (g' := (mkF m 6 #[.val (.ref x0)] [(.ref x0), (.int zz)])) (fun _ kt => XS.aloadN X44.here hx rfl (hb hby d13_5) rfl rfl kt) ?_
  obtain ⟨cq46, kq46, qa46, qb46, qc46⟩ := isOf hZ e44 pr4
  obtain ⟨_, _, ⟨T45, L45, k45, n45⟩, -, X45, ⟨Lc45, hQ45, l45, y45, z45⟩, st45⟩ := X44.virtualBack hx (y := (⟨"java/lang/String", "coder", "()B"⟩ : MethodName)) (z := (⟨"java/lang/String", "coder", "()B"⟩ : MethodName)) hown (mvT hZ (own_k hw 65 rfl)) (mvT hZ (own_k hw 66 rfl)) (notFace_of_selects (args := #[]) (mvT hZ (own_k hw 68 rfl))) (mvT hZ (own_k hw 68 rfl)) (mvT hZ (own_k hw 67 rfl)) (by decide) (backOf (W := 1) (own_cod l Z a0 hw [] x0 zc h0 n0 Z0 pr1 pr2 pr3 pr5) hZ (own_k hw 69 rfl) (own_k hw 7 rfl) (by decide) (by decide)) qa46 qc46 (g := (mkF m 6 #[.val (.ref x0)] [(.ref x0), (.int zz)])) rfl hml.symm (Steps.refl _) (argsL := []) (rest := [(.int zz)]) (lenOf own_pd2 rfl) rfl (by show 2 * 0 + _ ≤ _; exact Nat.le_of_eq rfl) (hb hby d13_6) (fun _ _ => ⟨rfl, e44, (by decide : 0 + 0 ≤ 0), (by decide : 0 + 0 ≤ 0)⟩)
  dsimp only [Pt.U, Pt.locs, Pt.cells, Pt.slots] at X45 l45 y45 z45 st45 hQ45
  subst l45 y45 z45
  obtain ⟨rfl, N45, e45⟩ := hQ45
  have N47 := Fr.app N0 N45
  refine own_tr (T' := T45) (g' := (mkF m 9 #[.val (.ref x0)] [(.int (0 : Int32)), (.int zz)])) st45 ?_
  refine own_st (T' := T45) (g' := (mkF m 10 #[.val (.ref x0)] [(.int (zz >>> ((0 : Int32) &&& 31)))])) (fun _ kt => XT.ishr X45.here hx rfl (hb hby d13_9) rfl kt) ?_
  obtain ⟨fs, hr, hrun, hended, hW, hsame⟩ := X45.leave (v := some (.int (zz >>> ((0 : Int32) &&& 31)))) (fun h => by rw [Bd.returns] at h; cases h)
  refine own_end (own_retI X45 hx Bd.returns (hb hby d13_10) hr) ⟨_, hrun, hended, _, _, rfl, ?_, ⟨_, rfl⟩, hW, hsame.mono (by decide) (by decide)⟩
  show own_lenQ Z _ _ _ _ _ _ _ h0 n0 _ T45.heap _
  rw [e45]
  exact ⟨(by rw [own_shr0]), N47, rfl⟩
theorem d17_0 : decode jdk_29_method_69_code 0 = .ok (.iload_n 0, 1) := by decide +kernel
theorem d17_1 : decode jdk_29_method_69_code 1 = .ok (.iload_n 1, 1) := by decide +kernel
theorem d17_2 : decode jdk_29_method_69_code 2 = .ok (.if_icmp .gt 7, 3) := by decide +kernel
theorem d17_9 : decode jdk_29_method_69_code 9 = .ok (.iload_n 1, 1) := by decide +kernel
theorem d17_10 : decode jdk_29_method_69_code 10 = .ok (.ireturn, 1) := by decide +kernel
theorem d17_5 : decode jdk_29_method_69_code 5 = .ok (.iload_n 0, 1) := by decide +kernel
theorem d17_6 : decode jdk_29_method_69_code 6 = .ok (.goto 4, 3) := by decide +kernel
set_option maxHeartbeats 4000000 in
theorem own_ef4 (m : MethodId) (x0 : Int32) (x1 : Int32) : entryFrame m #[(.int x0), (.int x1)] 2 = mkF m 0 #[.val (.int x0), .val (.int x1)] [] := by first | (simp [entryFrame, mkF, argsToLocals, Value.category]; done) | rfl
def own_r5Q (Z : State) (u1 : Int32) (u2 : Int32) (h0 : Heap) (n0 : Nat) (v : Option Value) (h : Heap) (L : List Loc) : Prop := v = some (.int (if u2 < u1 then u2 else u1)) ∧ Fr n0 L ∧ h = h0
abbrev own_r5R : Room := { frames := 0, cells := 0, slots := 0, locals := 0 }
set_option maxRecDepth 65536 in
set_option maxHeartbeats 40000000 in
theorem own_r5 (l : Launch) (Z : State) (a0 : Array Value) (hw : ∀ d ∈ tables_1, d.before a0 Z = true) (ws : List Jvm.Cond) (u1 : Int32) (u2 : Int32) (h0 : Heap) (n0 : Nat) (Z0 : n0 ≤ h0.size)  :
    own_M l (⟨"java/lang/Math", "min", "(II)I"⟩ : MethodName) jdk_29_method_69_code 2 (some .int) ws own_r5R #[(.int u1), (.int u2)] Z h0 (own_r5Q Z u1 u2 h0 n0) := by
  refine own_go (Jvm.Free.JP.mathPlain rfl (by decide)) (fun m => own_ef4 m u1 u2 ) ?_
  intro p e s m below meth c s₁ Bd hx hby hml hZ hh hown hnm X0 e0
  have N0 := Fr.nil n0
  refine own_st (T' := s₁) (g' := (mkF m 2 #[.val (.int u1), .val (.int u2)] [(.int u2), (.int u1)])) (fun _ kt => XS.iloadN X0.here hx rfl (hb hby d17_0) rfl (XS.iloadN X0.here hx rfl (hb hby d17_1) rfl kt)) ?_
  by_cases hc48 : u2 < u1
  · -- pc 2: u2 < u1
    refine own_st (T' := s₁) (g' := (mkF m 10 #[.val (.int u1), .val (.int u2)] [(.int u2)])) (fun _ kt => XS.icmpYes X0.here hx rfl (pc0 := 2) (pc' := 9) rfl (hb hby d17_2) rfl (XT.ii_gt_t hc48) (by decide) (by decide) (XS.iloadN X0.here hx rfl (hb hby d17_9) rfl kt)) ?_
    obtain ⟨fs, hr, hrun, hended, hW, hsame⟩ := X0.leave (v := some (.int u2)) (fun h => by rw [Bd.returns] at h; cases h)
    refine own_end (own_retI X0 hx Bd.returns (hb hby d17_10) hr) ⟨_, hrun, hended, _, _, rfl, ?_, ⟨_, rfl⟩, hW, hsame.mono (by decide) (by decide)⟩
    show own_r5Q Z _ _ h0 n0 _ s₁.heap _
    rw [e0]
    exact ⟨(by rw [if_pos hc48]), N0, rfl⟩
  · -- pc 2: not u2 < u1
    refine own_st (T' := s₁) (g' := (mkF m 10 #[.val (.int u1), .val (.int u2)] [(.int u1)])) (fun _ kt => XS.icmpNo X0.here hx rfl (hb hby d17_2) rfl (XT.ii_gt_f hc48) (XS.iloadN X0.here hx rfl (hb hby d17_5) rfl (XS.goto X0.here hx rfl (pc0 := 6) (pc' := 10) rfl (hb hby d17_6) (by decide) (by decide) kt))) ?_
    obtain ⟨fs, hr, hrun, hended, hW, hsame⟩ := X0.leave (v := some (.int u1)) (fun h => by rw [Bd.returns] at h; cases h)
    refine own_end (own_retI X0 hx Bd.returns (hb hby d17_10) hr) ⟨_, hrun, hended, _, _, rfl, ?_, ⟨_, rfl⟩, hW, hsame.mono (by decide) (by decide)⟩
    show own_r5Q Z _ _ h0 n0 _ s₁.heap _
    rw [e0]
    exact ⟨(by rw [if_neg hc48]), N0, rfl⟩
theorem d1_0 : decode method_3_code 0 = .ok (.iload_n 1, 1) := by decide +kernel
theorem d1_1 : decode method_3_code 1 = .ok (.ifCond .ne 7, 3) := by decide +kernel
theorem d1_4 : decode method_3_code 4 = .ok (.iconst 0, 1) := by decide +kernel
theorem d1_5 : decode method_3_code 5 = .ok (.newarray .char, 2) := by decide +kernel
theorem d1_7 : decode method_3_code 7 = .ok (.areturn, 1) := by decide +kernel
set_option maxHeartbeats 4000000 in
theorem own_ef5 (m : MethodId) (x0 : Addr) (x1 : Int32) : entryFrame m #[(.ref x0), (.int x1)] 2 = mkF m 0 #[.val (.ref x0), .val (.int x1)] [] := by first | (simp [entryFrame, mkF, argsToLocals, Value.category]; done) | rfl
def own_take0Q (Z : State) (x0 : Addr) (kx : ClassId) (y0 : Int32) (y1 : Int32) (y2 : Int32) (dd : Value) (h0 : Heap) (n0 : Nat) (v : Option Value) (h : Heap) (L : List Loc) : Prop := ∃ (b : Addr), ∃ (kb : ClassId), v = some (.ref b) ∧ Fr n0 L ∧ Keep h0 h [] ∧ (Arv Z h b kb .char (0 : Int32) [] (.int (0 : Int32))) ∧ (h0.size ≤ b)
theorem own_pn2 : plainName "com/example/tally_rank/tallyrank/analysis/SuffixWordEndsWithPinLaw" = true := by first | (simp [plainName, overriddenIn]; done) | decide +kernel
abbrev own_take0R : Room := { frames := 0, cells := 1, slots := 0, locals := 0 }
set_option maxRecDepth 65536 in
set_option maxHeartbeats 40000000 in
theorem own_take0 (l : Launch) (Z : State) (a0 : Array Value) (hw : ∀ d ∈ tables_1, d.before a0 Z = true) (ws : List Jvm.Cond) (x0 : Addr) (kx : ClassId) (y0 : Int32) (y1 : Int32) (y2 : Int32) (dd : Value) (h0 : Heap) (n0 : Nat) (Z0 : n0 ≤ h0.size) (pr1 : Arv Z h0 x0 kx .char (3 : Int32) [(.int y0), (.int y1), (.int y2)] dd) (pr2 : nar .char y0 = y0) (pr3 : nar .char y1 = y1) (pr4 : nar .char y2 = y2) :
    own_M l (⟨"com/example/tally_rank/tallyrank/analysis/SuffixWordEndsWithPinLaw", "take", "([CI)[C"⟩ : MethodName) method_3_code 2 (some (.array .char)) ws own_take0R #[(.ref x0), (.int (0 : Int32))] Z h0 (own_take0Q Z x0 kx y0 y1 y2 dd h0 n0) := by
  refine own_go (plainFor_of_name own_pn2) (fun m => own_ef5 m x0 (0 : Int32) ) ?_
  intro p e s m below meth c s₁ Bd hx hby hml hZ hh hown hnm X0 e0
  have N0 := Fr.nil n0
  have K0 : Keep h0 h0 [] := Keep.refl h0 _
  refine own_st (T' := s₁) (g' := (mkF m 5 #[.val (.ref x0), .val (.int (0 : Int32))] [(.int (0 : Int32))])) (fun _ kt => XS.iloadN X0.here hx rfl (hb hby d1_0) rfl (XS.ifNo X0.here hx rfl (hb hby d1_1) rfl (XT.i0_ne_f (by decide)) (XS.iconst X0.here hx rfl (hb hby d1_4) kt))) ?_
  obtain ⟨T49, h49, k49, X49, e49, E49, A49, st49⟩ := newP X0 hx hZ (aty := .char) (own_k hw 0 rfl) e0 (g := (mkF m 5 #[.val (.ref x0), .val (.int (0 : Int32))] [(.int (0 : Int32))])) rfl (hb hby d1_5) rfl (by decide) (cap := 0) (by decide) (by decide) (by decide) (by decide)
  obtain ⟨b49, g49⟩ : ∃ z, z = h0.size := ⟨_, rfl⟩
  rw [← g49] at A49 st49
  have ne50 : x0 ≠ b49 := by rw [g49]; exact Nat.ne_of_lt pr1.lt
  have Z51 : n0 ≤ h49.size := Nat.le_trans Z0 E49.1
  have K51 : Keep h0 h49 [] := (Keep.ext K0 E49)
  have ge_b49 : n0 ≤ b49 := Nat.le_trans Z0 (Nat.le_of_eq g49.symm)
  have F52 : Arv Z h49 b49 k49 .char (0 : Int32) [] (.int (0 : Int32)) := (Arv.new A49 (by decide)).pad (pad_rep [] (.int (0 : Int32)) 0)
  refine own_st (T' := T49) (g' := (mkF m 7 #[.val (.ref x0), .val (.int (0 : Int32))] [(.ref b49)])) st49 ?_
  obtain ⟨fs, hr, hrun, hended, hW, hsame⟩ := X49.leave (v := some (.ref b49)) (fun h => by rw [Bd.returns] at h; cases h)
  refine own_end (own_retA X49 hx Bd.returns rfl rfl rfl (hb hby d1_7) hr) ⟨_, hrun, hended, _, _, rfl, ?_, ⟨_, rfl⟩, hW, hsame.mono (by decide) (by decide)⟩
  show own_take0Q Z _ _ _ _ _ _ h0 n0 _ T49.heap _
  rw [e49]
  exact ⟨b49, k49, rfl, N0, K51, F52, (Nat.le_trans K0.1 (Nat.le_of_eq g49.symm))⟩
theorem d1_8 : decode method_3_code 8 = .ok (.iload_n 1, 1) := by decide +kernel
theorem d1_9 : decode method_3_code 9 = .ok (.iconst 1, 1) := by decide +kernel
theorem d1_10 : decode method_3_code 10 = .ok (.if_icmp .ne 13, 3) := by decide +kernel
theorem d1_13 : decode method_3_code 13 = .ok (.iconst 1, 1) := by decide +kernel
theorem d1_14 : decode method_3_code 14 = .ok (.newarray .char, 2) := by decide +kernel
theorem d1_16 : decode method_3_code 16 = .ok (.dup, 1) := by decide +kernel
theorem d1_17 : decode method_3_code 17 = .ok (.iconst 0, 1) := by decide +kernel
theorem d1_18 : decode method_3_code 18 = .ok (.aload_n 0, 1) := by decide +kernel
theorem d1_19 : decode method_3_code 19 = .ok (.iconst 0, 1) := by decide +kernel
theorem d1_20 : decode method_3_code 20 = .ok (.caload, 1) := by decide +kernel
theorem d1_21 : decode method_3_code 21 = .ok (.castore, 1) := by decide +kernel
theorem d1_22 : decode method_3_code 22 = .ok (.areturn, 1) := by decide +kernel
def own_take1Q (Z : State) (x0 : Addr) (kx : ClassId) (y0 : Int32) (y1 : Int32) (y2 : Int32) (dd : Value) (h0 : Heap) (n0 : Nat) (v : Option Value) (h : Heap) (L : List Loc) : Prop := ∃ (b : Addr), ∃ (kb : ClassId), v = some (.ref b) ∧ Fr n0 L ∧ Keep h0 h [] ∧ (Arv Z h b kb .char (1 : Int32) [(.int y0)] (.int (0 : Int32))) ∧ (h0.size ≤ b)
abbrev own_take1R : Room := { frames := 0, cells := 1, slots := 1, locals := 0 }
set_option maxRecDepth 65536 in
set_option maxHeartbeats 40000000 in
theorem own_take1 (l : Launch) (Z : State) (a0 : Array Value) (hw : ∀ d ∈ tables_1, d.before a0 Z = true) (ws : List Jvm.Cond) (x0 : Addr) (kx : ClassId) (y0 : Int32) (y1 : Int32) (y2 : Int32) (dd : Value) (h0 : Heap) (n0 : Nat) (Z0 : n0 ≤ h0.size) (pr1 : Arv Z h0 x0 kx .char (3 : Int32) [(.int y0), (.int y1), (.int y2)] dd) (pr2 : nar .char y0 = y0) (pr3 : nar .char y1 = y1) (pr4 : nar .char y2 = y2) :
    own_M l (⟨"com/example/tally_rank/tallyrank/analysis/SuffixWordEndsWithPinLaw", "take", "([CI)[C"⟩ : MethodName) method_3_code 2 (some (.array .char)) ws own_take1R #[(.ref x0), (.int (1 : Int32))] Z h0 (own_take1Q Z x0 kx y0 y1 y2 dd h0 n0) := by
  refine own_go (plainFor_of_name own_pn2) (fun m => own_ef5 m x0 (1 : Int32) ) ?_
  intro p e s m below meth c s₁ Bd hx hby hml hZ hh hown hnm X0 e0
  have N0 := Fr.nil n0
  have K0 : Keep h0 h0 [] := Keep.refl h0 _
  refine own_st (T' := s₁) (g' := (mkF m 14 #[.val (.ref x0), .val (.int (1 : Int32))] [(.int (1 : Int32))])) (fun _ kt => XS.iloadN X0.here hx rfl (hb hby d1_0) rfl (XS.ifYes X0.here hx rfl (pc0 := 1) (pc' := 8) rfl (hb hby d1_1) rfl (XT.i0_ne_t (by decide)) (by decide) (by decide) (XS.iloadN X0.here hx rfl (hb hby d1_8) rfl (XS.iconst X0.here hx rfl (hb hby d1_9) (XS.icmpNo X0.here hx rfl (hb hby d1_10) rfl (XT.ii_ne_f (by decide)) (XS.iconst X0.here hx rfl (hb hby d1_13) kt)))))) ?_
  obtain ⟨T53, h53, k53, X53, e53, E53, A53, st53⟩ := newP X0 hx hZ (aty := .char) (own_k hw 0 rfl) e0 (g := (mkF m 14 #[.val (.ref x0), .val (.int (1 : Int32))] [(.int (1 : Int32))])) rfl (hb hby d1_14) rfl (by decide) (cap := 1) (by decide) (by decide) (by decide) (by decide)
  obtain ⟨b53, g53⟩ : ∃ z, z = h0.size := ⟨_, rfl⟩
  rw [← g53] at A53 st53
  have ne54 : x0 ≠ b53 := by rw [g53]; exact Nat.ne_of_lt pr1.lt
  have Z55 : n0 ≤ h53.size := Nat.le_trans Z0 E53.1
  have K55 : Keep h0 h53 [] := (Keep.ext K0 E53)
  have ge_b53 : n0 ≤ b53 := Nat.le_trans Z0 (Nat.le_of_eq g53.symm)
  have F56 : Arv Z h53 b53 k53 .char (1 : Int32) [(.int (0 : Int32))] (.int (0 : Int32)) := (Arv.new A53 (by decide)).pad (pad_rep [] (.int (0 : Int32)) 1)
  refine own_st (T' := T53) (g' := (mkF m 16 #[.val (.ref x0), .val (.int (1 : Int32))] [(.ref b53)])) st53 ?_
  refine own_st (T' := T53) (g' := (mkF m 20 #[.val (.ref x0), .val (.int (1 : Int32))] [(.int (0 : Int32)), (.ref x0), (.int (0 : Int32)), (.ref b53), (.ref b53)])) (fun _ kt => XS.dup X53.here hx rfl (hb hby d1_16) rfl rfl (XS.iconst X53.here hx rfl (hb hby d1_17) (XS.aloadN X53.here hx rfl (hb hby d1_18) rfl rfl (XS.iconst X53.here hx rfl (hb hby d1_19) kt)))) ?_
  have F57 : Arv Z h53 x0 kx .char (3 : Int32) [(.int y0), (.int y1), (.int y2)] dd := (pr1.ext E53)
  refine own_st (T' := T53) (g' := (mkF m 21 #[.val (.ref x0), .val (.int (1 : Int32))] [(.int y0), (.int (0 : Int32)), (.ref b53), (.ref b53)])) (own_cal X53 hx hZ e53 F57 ⟨by decide, by decide⟩ rfl (g := (mkF m 20 #[.val (.ref x0), .val (.int (1 : Int32))] [(.int (0 : Int32)), (.ref x0), (.int (0 : Int32)), (.ref b53), (.ref b53)])) rfl rfl (hb hby d1_20)) ?_
  obtain ⟨T58, h58, X58, e58, W58, V58, st58⟩ := own_cst X53 hx hZ e53 F56 ⟨by decide, by decide⟩ (i := 0) rfl (by simp) (y := y0) pr2 (g := (mkF m 21 #[.val (.ref x0), .val (.int (1 : Int32))] [(.int y0), (.int (0 : Int32)), (.ref b53), (.ref b53)])) rfl rfl (hb hby d1_21)
  have N58 := Fr.snoc X58 N0 ge_b53
  have Z59 : n0 ≤ h58.size := Nat.le_trans Z55 (Nat.le_of_eq (Wr.size W58).symm)
  have K59 : Keep h0 h58 [] := (Keep.wr K55 W58 (Or.inr (Nat.le_trans K0.1 (Nat.le_of_eq g53.symm))))
  have F60 : Arv Z h58 b53 k53 .char (1 : Int32) [(.int y0)] (.int (0 : Int32)) := V58
  refine own_st (T' := T58) (g' := (mkF m 22 #[.val (.ref x0), .val (.int (1 : Int32))] [(.ref b53)])) st58 ?_
  obtain ⟨fs, hr, hrun, hended, hW, hsame⟩ := X58.leave (v := some (.ref b53)) (fun h => by rw [Bd.returns] at h; cases h)
  refine own_end (own_retA X58 hx Bd.returns rfl rfl rfl (hb hby d1_22) hr) ⟨_, hrun, hended, _, _, rfl, ?_, ⟨_, rfl⟩, hW, hsame.mono (by decide) (by decide)⟩
  show own_take1Q Z _ _ _ _ _ _ h0 n0 _ T58.heap _
  rw [e58]
  exact ⟨b53, k53, rfl, N58, K59, F60, (Nat.le_trans K0.1 (Nat.le_of_eq g53.symm))⟩
theorem d1_23 : decode method_3_code 23 = .ok (.iload_n 1, 1) := by decide +kernel
theorem d1_24 : decode method_3_code 24 = .ok (.iconst 2, 1) := by decide +kernel
theorem d1_25 : decode method_3_code 25 = .ok (.if_icmp .ne 19, 3) := by decide +kernel
theorem d1_28 : decode method_3_code 28 = .ok (.iconst 2, 1) := by decide +kernel
theorem d1_29 : decode method_3_code 29 = .ok (.newarray .char, 2) := by decide +kernel
theorem d1_31 : decode method_3_code 31 = .ok (.dup, 1) := by decide +kernel
theorem d1_32 : decode method_3_code 32 = .ok (.iconst 0, 1) := by decide +kernel
theorem d1_33 : decode method_3_code 33 = .ok (.aload_n 0, 1) := by decide +kernel
theorem d1_34 : decode method_3_code 34 = .ok (.iconst 0, 1) := by decide +kernel
theorem d1_35 : decode method_3_code 35 = .ok (.caload, 1) := by decide +kernel
theorem d1_36 : decode method_3_code 36 = .ok (.castore, 1) := by decide +kernel
theorem d1_37 : decode method_3_code 37 = .ok (.dup, 1) := by decide +kernel
theorem d1_38 : decode method_3_code 38 = .ok (.iconst 1, 1) := by decide +kernel
theorem d1_39 : decode method_3_code 39 = .ok (.aload_n 0, 1) := by decide +kernel
theorem d1_40 : decode method_3_code 40 = .ok (.iconst 1, 1) := by decide +kernel
theorem d1_41 : decode method_3_code 41 = .ok (.caload, 1) := by decide +kernel
theorem d1_42 : decode method_3_code 42 = .ok (.castore, 1) := by decide +kernel
theorem d1_43 : decode method_3_code 43 = .ok (.areturn, 1) := by decide +kernel
def own_take2Q (Z : State) (x0 : Addr) (kx : ClassId) (y0 : Int32) (y1 : Int32) (y2 : Int32) (dd : Value) (h0 : Heap) (n0 : Nat) (v : Option Value) (h : Heap) (L : List Loc) : Prop := ∃ (b : Addr), ∃ (kb : ClassId), v = some (.ref b) ∧ Fr n0 L ∧ Keep h0 h [] ∧ (Arv Z h b kb .char (2 : Int32) [(.int y0), (.int y1)] (.int (0 : Int32))) ∧ (h0.size ≤ b)
abbrev own_take2R : Room := { frames := 0, cells := 1, slots := 2, locals := 0 }
set_option maxRecDepth 65536 in
set_option maxHeartbeats 40000000 in
theorem own_take2 (l : Launch) (Z : State) (a0 : Array Value) (hw : ∀ d ∈ tables_1, d.before a0 Z = true) (ws : List Jvm.Cond) (x0 : Addr) (kx : ClassId) (y0 : Int32) (y1 : Int32) (y2 : Int32) (dd : Value) (h0 : Heap) (n0 : Nat) (Z0 : n0 ≤ h0.size) (pr1 : Arv Z h0 x0 kx .char (3 : Int32) [(.int y0), (.int y1), (.int y2)] dd) (pr2 : nar .char y0 = y0) (pr3 : nar .char y1 = y1) (pr4 : nar .char y2 = y2) :
    own_M l (⟨"com/example/tally_rank/tallyrank/analysis/SuffixWordEndsWithPinLaw", "take", "([CI)[C"⟩ : MethodName) method_3_code 2 (some (.array .char)) ws own_take2R #[(.ref x0), (.int (2 : Int32))] Z h0 (own_take2Q Z x0 kx y0 y1 y2 dd h0 n0) := by
  refine own_go (plainFor_of_name own_pn2) (fun m => own_ef5 m x0 (2 : Int32) ) ?_
  intro p e s m below meth c s₁ Bd hx hby hml hZ hh hown hnm X0 e0
  have N0 := Fr.nil n0
  have K0 : Keep h0 h0 [] := Keep.refl h0 _
  refine own_st (T' := s₁) (g' := (mkF m 29 #[.val (.ref x0), .val (.int (2 : Int32))] [(.int (2 : Int32))])) (fun _ kt => XS.iloadN X0.here hx rfl (hb hby d1_0) rfl (XS.ifYes X0.here hx rfl (pc0 := 1) (pc' := 8) rfl (hb hby d1_1) rfl (XT.i0_ne_t (by decide)) (by decide) (by decide) (XS.iloadN X0.here hx rfl (hb hby d1_8) rfl (XS.iconst X0.here hx rfl (hb hby d1_9) (XS.icmpYes X0.here hx rfl (pc0 := 10) (pc' := 23) rfl (hb hby d1_10) rfl (XT.ii_ne_t (by decide)) (by decide) (by decide) (XS.iloadN X0.here hx rfl (hb hby d1_23) rfl (XS.iconst X0.here hx rfl (hb hby d1_24) (XS.icmpNo X0.here hx rfl (hb hby d1_25) rfl (XT.ii_ne_f (by decide)) (XS.iconst X0.here hx rfl (hb hby d1_28) kt))))))))) ?_
  obtain ⟨T61, h61, k61, X61, e61, E61, A61, st61⟩ := newP X0 hx hZ (aty := .char) (own_k hw 0 rfl) e0 (g := (mkF m 29 #[.val (.ref x0), .val (.int (2 : Int32))] [(.int (2 : Int32))])) rfl (hb hby d1_29) rfl (by decide) (cap := 2) (by decide) (by decide) (by decide) (by decide)
  obtain ⟨b61, g61⟩ : ∃ z, z = h0.size := ⟨_, rfl⟩
  rw [← g61] at A61 st61
  have ne62 : x0 ≠ b61 := by rw [g61]; exact Nat.ne_of_lt pr1.lt
  have Z63 : n0 ≤ h61.size := Nat.le_trans Z0 E61.1
  have K63 : Keep h0 h61 [] := (Keep.ext K0 E61)
  have ge_b61 : n0 ≤ b61 := Nat.le_trans Z0 (Nat.le_of_eq g61.symm)
  have F64 : Arv Z h61 b61 k61 .char (2 : Int32) [(.int (0 : Int32)), (.int (0 : Int32))] (.int (0 : Int32)) := (Arv.new A61 (by decide)).pad (pad_rep [] (.int (0 : Int32)) 2)
  refine own_st (T' := T61) (g' := (mkF m 31 #[.val (.ref x0), .val (.int (2 : Int32))] [(.ref b61)])) st61 ?_
  refine own_st (T' := T61) (g' := (mkF m 35 #[.val (.ref x0), .val (.int (2 : Int32))] [(.int (0 : Int32)), (.ref x0), (.int (0 : Int32)), (.ref b61), (.ref b61)])) (fun _ kt => XS.dup X61.here hx rfl (hb hby d1_31) rfl rfl (XS.iconst X61.here hx rfl (hb hby d1_32) (XS.aloadN X61.here hx rfl (hb hby d1_33) rfl rfl (XS.iconst X61.here hx rfl (hb hby d1_34) kt)))) ?_
  have F65 : Arv Z h61 x0 kx .char (3 : Int32) [(.int y0), (.int y1), (.int y2)] dd := (pr1.ext E61)
  refine own_st (T' := T61) (g' := (mkF m 36 #[.val (.ref x0), .val (.int (2 : Int32))] [(.int y0), (.int (0 : Int32)), (.ref b61), (.ref b61)])) (own_cal X61 hx hZ e61 F65 ⟨by decide, by decide⟩ rfl (g := (mkF m 35 #[.val (.ref x0), .val (.int (2 : Int32))] [(.int (0 : Int32)), (.ref x0), (.int (0 : Int32)), (.ref b61), (.ref b61)])) rfl rfl (hb hby d1_35)) ?_
  obtain ⟨T66, h66, X66, e66, W66, V66, st66⟩ := own_cst X61 hx hZ e61 F64 ⟨by decide, by decide⟩ (i := 0) rfl (by simp) (y := y0) pr2 (g := (mkF m 36 #[.val (.ref x0), .val (.int (2 : Int32))] [(.int y0), (.int (0 : Int32)), (.ref b61), (.ref b61)])) rfl rfl (hb hby d1_36)
  have N66 := Fr.snoc X66 N0 ge_b61
  have Z67 : n0 ≤ h66.size := Nat.le_trans Z63 (Nat.le_of_eq (Wr.size W66).symm)
  have K67 : Keep h0 h66 [] := (Keep.wr K63 W66 (Or.inr (Nat.le_trans K0.1 (Nat.le_of_eq g61.symm))))
  have F68 : Arv Z h66 b61 k61 .char (2 : Int32) [(.int y0), (.int (0 : Int32))] (.int (0 : Int32)) := V66
  refine own_st (T' := T66) (g' := (mkF m 37 #[.val (.ref x0), .val (.int (2 : Int32))] [(.ref b61)])) st66 ?_
  refine own_st (T' := T66) (g' := (mkF m 41 #[.val (.ref x0), .val (.int (2 : Int32))] [(.int (1 : Int32)), (.ref x0), (.int (1 : Int32)), (.ref b61), (.ref b61)])) (fun _ kt => XS.dup X66.here hx rfl (hb hby d1_37) rfl rfl (XS.iconst X66.here hx rfl (hb hby d1_38) (XS.aloadN X66.here hx rfl (hb hby d1_39) rfl rfl (XS.iconst X66.here hx rfl (hb hby d1_40) kt)))) ?_
  have F69 : Arv Z h66 x0 kx .char (3 : Int32) [(.int y0), (.int y1), (.int y2)] dd := (Arv.other F65 W66 ne62)
  refine own_st (T' := T66) (g' := (mkF m 42 #[.val (.ref x0), .val (.int (2 : Int32))] [(.int y1), (.int (1 : Int32)), (.ref b61), (.ref b61)])) (own_cal X66 hx hZ e66 F69 ⟨by decide, by decide⟩ rfl (g := (mkF m 41 #[.val (.ref x0), .val (.int (2 : Int32))] [(.int (1 : Int32)), (.ref x0), (.int (1 : Int32)), (.ref b61), (.ref b61)])) rfl rfl (hb hby d1_41)) ?_
  obtain ⟨T70, h70, X70, e70, W70, V70, st70⟩ := own_cst X66 hx hZ e66 F68 ⟨by decide, by decide⟩ (i := 1) rfl (by simp) (y := y1) pr3 (g := (mkF m 42 #[.val (.ref x0), .val (.int (2 : Int32))] [(.int y1), (.int (1 : Int32)), (.ref b61), (.ref b61)])) rfl rfl (hb hby d1_42)
  have N70 := Fr.snoc X70 N66 ge_b61
  have Z71 : n0 ≤ h70.size := Nat.le_trans Z67 (Nat.le_of_eq (Wr.size W70).symm)
  have K71 : Keep h0 h70 [] := (Keep.wr K67 W70 (Or.inr (Nat.le_trans K0.1 (Nat.le_of_eq g61.symm))))
  have F72 : Arv Z h70 b61 k61 .char (2 : Int32) [(.int y0), (.int y1)] (.int (0 : Int32)) := V70
  refine own_st (T' := T70) (g' := (mkF m 43 #[.val (.ref x0), .val (.int (2 : Int32))] [(.ref b61)])) st70 ?_
  obtain ⟨fs, hr, hrun, hended, hW, hsame⟩ := X70.leave (v := some (.ref b61)) (fun h => by rw [Bd.returns] at h; cases h)
  refine own_end (own_retA X70 hx Bd.returns rfl rfl rfl (hb hby d1_43) hr) ⟨_, hrun, hended, _, _, rfl, ?_, ⟨_, rfl⟩, hW, hsame.mono (by decide) (by decide)⟩
  show own_take2Q Z _ _ _ _ _ _ h0 n0 _ T70.heap _
  rw [e70]
  exact ⟨b61, k61, rfl, N70, K71, F72, (Nat.le_trans K0.1 (Nat.le_of_eq g61.symm))⟩
theorem d1_44 : decode method_3_code 44 = .ok (.iconst 3, 1) := by decide +kernel
theorem d1_45 : decode method_3_code 45 = .ok (.newarray .char, 2) := by decide +kernel
theorem d1_47 : decode method_3_code 47 = .ok (.dup, 1) := by decide +kernel
theorem d1_48 : decode method_3_code 48 = .ok (.iconst 0, 1) := by decide +kernel
theorem d1_49 : decode method_3_code 49 = .ok (.aload_n 0, 1) := by decide +kernel
theorem d1_50 : decode method_3_code 50 = .ok (.iconst 0, 1) := by decide +kernel
theorem d1_51 : decode method_3_code 51 = .ok (.caload, 1) := by decide +kernel
theorem d1_52 : decode method_3_code 52 = .ok (.castore, 1) := by decide +kernel
theorem d1_53 : decode method_3_code 53 = .ok (.dup, 1) := by decide +kernel
theorem d1_54 : decode method_3_code 54 = .ok (.iconst 1, 1) := by decide +kernel
theorem d1_55 : decode method_3_code 55 = .ok (.aload_n 0, 1) := by decide +kernel
theorem d1_56 : decode method_3_code 56 = .ok (.iconst 1, 1) := by decide +kernel
theorem d1_57 : decode method_3_code 57 = .ok (.caload, 1) := by decide +kernel
theorem d1_58 : decode method_3_code 58 = .ok (.castore, 1) := by decide +kernel
theorem d1_59 : decode method_3_code 59 = .ok (.dup, 1) := by decide +kernel
theorem d1_60 : decode method_3_code 60 = .ok (.iconst 2, 1) := by decide +kernel
theorem d1_61 : decode method_3_code 61 = .ok (.aload_n 0, 1) := by decide +kernel
theorem d1_62 : decode method_3_code 62 = .ok (.iconst 2, 1) := by decide +kernel
theorem d1_63 : decode method_3_code 63 = .ok (.caload, 1) := by decide +kernel
theorem d1_64 : decode method_3_code 64 = .ok (.castore, 1) := by decide +kernel
theorem d1_65 : decode method_3_code 65 = .ok (.areturn, 1) := by decide +kernel
def own_take3Q (Z : State) (x0 : Addr) (kx : ClassId) (y0 : Int32) (y1 : Int32) (y2 : Int32) (dd : Value) (h0 : Heap) (n0 : Nat) (v : Option Value) (h : Heap) (L : List Loc) : Prop := ∃ (b : Addr), ∃ (kb : ClassId), v = some (.ref b) ∧ Fr n0 L ∧ Keep h0 h [] ∧ (Arv Z h b kb .char (3 : Int32) [(.int y0), (.int y1), (.int y2)] (.int (0 : Int32))) ∧ (h0.size ≤ b)
abbrev own_take3R : Room := { frames := 0, cells := 1, slots := 3, locals := 0 }
set_option maxRecDepth 65536 in
set_option maxHeartbeats 40000000 in
theorem own_take3 (l : Launch) (Z : State) (a0 : Array Value) (hw : ∀ d ∈ tables_1, d.before a0 Z = true) (ws : List Jvm.Cond) (x0 : Addr) (kx : ClassId) (y0 : Int32) (y1 : Int32) (y2 : Int32) (dd : Value) (h0 : Heap) (n0 : Nat) (Z0 : n0 ≤ h0.size) (pr1 : Arv Z h0 x0 kx .char (3 : Int32) [(.int y0), (.int y1), (.int y2)] dd) (pr2 : nar .char y0 = y0) (pr3 : nar .char y1 = y1) (pr4 : nar .char y2 = y2) :
    own_M l (⟨"com/example/tally_rank/tallyrank/analysis/SuffixWordEndsWithPinLaw", "take", "([CI)[C"⟩ : MethodName) method_3_code 2 (some (.array .char)) ws own_take3R #[(.ref x0), (.int (3 : Int32))] Z h0 (own_take3Q Z x0 kx y0 y1 y2 dd h0 n0) := by
  refine own_go (plainFor_of_name own_pn2) (fun m => own_ef5 m x0 (3 : Int32) ) ?_
  intro p e s m below meth c s₁ Bd hx hby hml hZ hh hown hnm X0 e0
  have N0 := Fr.nil n0
  have K0 : Keep h0 h0 [] := Keep.refl h0 _
  refine own_st (T' := s₁) (g' := (mkF m 45 #[.val (.ref x0), .val (.int (3 : Int32))] [(.int (3 : Int32))])) (fun _ kt => XS.iloadN X0.here hx rfl (hb hby d1_0) rfl (XS.ifYes X0.here hx rfl (pc0 := 1) (pc' := 8) rfl (hb hby d1_1) rfl (XT.i0_ne_t (by decide)) (by decide) (by decide) (XS.iloadN X0.here hx rfl (hb hby d1_8) rfl (XS.iconst X0.here hx rfl (hb hby d1_9) (XS.icmpYes X0.here hx rfl (pc0 := 10) (pc' := 23) rfl (hb hby d1_10) rfl (XT.ii_ne_t (by decide)) (by decide) (by decide) (XS.iloadN X0.here hx rfl (hb hby d1_23) rfl (XS.iconst X0.here hx rfl (hb hby d1_24) (XS.icmpYes X0.here hx rfl (pc0 := 25) (pc' := 44) rfl (hb hby d1_25) rfl (XT.ii_ne_t (by decide)) (by decide) (by decide) (XS.iconst X0.here hx rfl (hb hby d1_44) kt))))))))) ?_
  obtain ⟨T73, h73, k73, X73, e73, E73, A73, st73⟩ := newP X0 hx hZ (aty := .char) (own_k hw 0 rfl) e0 (g := (mkF m 45 #[.val (.ref x0), .val (.int (3 : Int32))] [(.int (3 : Int32))])) rfl (hb hby d1_45) rfl (by decide) (cap := 3) (by decide) (by decide) (by decide) (by decide)
  obtain ⟨b73, g73⟩ : ∃ z, z = h0.size := ⟨_, rfl⟩
  rw [← g73] at A73 st73
  have ne74 : x0 ≠ b73 := by rw [g73]; exact Nat.ne_of_lt pr1.lt
  have Z75 : n0 ≤ h73.size := Nat.le_trans Z0 E73.1
  have K75 : Keep h0 h73 [] := (Keep.ext K0 E73)
  have ge_b73 : n0 ≤ b73 := Nat.le_trans Z0 (Nat.le_of_eq g73.symm)
  have F76 : Arv Z h73 b73 k73 .char (3 : Int32) [(.int (0 : Int32)), (.int (0 : Int32)), (.int (0 : Int32))] (.int (0 : Int32)) := (Arv.new A73 (by decide)).pad (pad_rep [] (.int (0 : Int32)) 3)
  refine own_st (T' := T73) (g' := (mkF m 47 #[.val (.ref x0), .val (.int (3 : Int32))] [(.ref b73)])) st73 ?_
  refine own_st (T' := T73) (g' := (mkF m 51 #[.val (.ref x0), .val (.int (3 : Int32))] [(.int (0 : Int32)), (.ref x0), (.int (0 : Int32)), (.ref b73), (.ref b73)])) (fun _ kt => XS.dup X73.here hx rfl (hb hby d1_47) rfl rfl (XS.iconst X73.here hx rfl (hb hby d1_48) (XS.aloadN X73.here hx rfl (hb hby d1_49) rfl rfl (XS.iconst X73.here hx rfl (hb hby d1_50) kt)))) ?_
  have F77 : Arv Z h73 x0 kx .char (3 : Int32) [(.int y0), (.int y1), (.int y2)] dd := (pr1.ext E73)
  refine own_st (T' := T73) (g' := (mkF m 52 #[.val (.ref x0), .val (.int (3 : Int32))] [(.int y0), (.int (0 : Int32)), (.ref b73), (.ref b73)])) (own_cal X73 hx hZ e73 F77 ⟨by decide, by decide⟩ rfl (g := (mkF m 51 #[.val (.ref x0), .val (.int (3 : Int32))] [(.int (0 : Int32)), (.ref x0), (.int (0 : Int32)), (.ref b73), (.ref b73)])) rfl rfl (hb hby d1_51)) ?_
  obtain ⟨T78, h78, X78, e78, W78, V78, st78⟩ := own_cst X73 hx hZ e73 F76 ⟨by decide, by decide⟩ (i := 0) rfl (by simp) (y := y0) pr2 (g := (mkF m 52 #[.val (.ref x0), .val (.int (3 : Int32))] [(.int y0), (.int (0 : Int32)), (.ref b73), (.ref b73)])) rfl rfl (hb hby d1_52)
  have N78 := Fr.snoc X78 N0 ge_b73
  have Z79 : n0 ≤ h78.size := Nat.le_trans Z75 (Nat.le_of_eq (Wr.size W78).symm)
  have K79 : Keep h0 h78 [] := (Keep.wr K75 W78 (Or.inr (Nat.le_trans K0.1 (Nat.le_of_eq g73.symm))))
  have F80 : Arv Z h78 b73 k73 .char (3 : Int32) [(.int y0), (.int (0 : Int32)), (.int (0 : Int32))] (.int (0 : Int32)) := V78
  refine own_st (T' := T78) (g' := (mkF m 53 #[.val (.ref x0), .val (.int (3 : Int32))] [(.ref b73)])) st78 ?_
  refine own_st (T' := T78) (g' := (mkF m 57 #[.val (.ref x0), .val (.int (3 : Int32))] [(.int (1 : Int32)), (.ref x0), (.int (1 : Int32)), (.ref b73), (.ref b73)])) (fun _ kt => XS.dup X78.here hx rfl (hb hby d1_53) rfl rfl (XS.iconst X78.here hx rfl (hb hby d1_54) (XS.aloadN X78.here hx rfl (hb hby d1_55) rfl rfl (XS.iconst X78.here hx rfl (hb hby d1_56) kt)))) ?_
  have F81 : Arv Z h78 x0 kx .char (3 : Int32) [(.int y0), (.int y1), (.int y2)] dd := (Arv.other F77 W78 ne74)
  refine own_st (T' := T78) (g' := (mkF m 58 #[.val (.ref x0), .val (.int (3 : Int32))] [(.int y1), (.int (1 : Int32)), (.ref b73), (.ref b73)])) (own_cal X78 hx hZ e78 F81 ⟨by decide, by decide⟩ rfl (g := (mkF m 57 #[.val (.ref x0), .val (.int (3 : Int32))] [(.int (1 : Int32)), (.ref x0), (.int (1 : Int32)), (.ref b73), (.ref b73)])) rfl rfl (hb hby d1_57)) ?_
  obtain ⟨T82, h82, X82, e82, W82, V82, st82⟩ := own_cst X78 hx hZ e78 F80 ⟨by decide, by decide⟩ (i := 1) rfl (by simp) (y := y1) pr3 (g := (mkF m 58 #[.val (.ref x0), .val (.int (3 : Int32))] [(.int y1), (.int (1 : Int32)), (.ref b73), (.ref b73)])) rfl rfl (hb hby d1_58)
  have N82 := Fr.snoc X82 N78 ge_b73
  have Z83 : n0 ≤ h82.size := Nat.le_trans Z79 (Nat.le_of_eq (Wr.size W82).symm)
  have K83 : Keep h0 h82 [] := (Keep.wr K79 W82 (Or.inr (Nat.le_trans K0.1 (Nat.le_of_eq g73.symm))))
  have F84 : Arv Z h82 b73 k73 .char (3 : Int32) [(.int y0), (.int y1), (.int (0 : Int32))] (.int (0 : Int32)) := V82
  refine own_st (T' := T82) (g' := (mkF m 59 #[.val (.ref x0), .val (.int (3 : Int32))] [(.ref b73)])) st82 ?_
  refine own_st (T' := T82) (g' := (mkF m 63 #[.val (.ref x0), .val (.int (3 : Int32))] [(.int (2 : Int32)), (.ref x0), (.int (2 : Int32)), (.ref b73), (.ref b73)])) (fun _ kt => XS.dup X82.here hx rfl (hb hby d1_59) rfl rfl (XS.iconst X82.here hx rfl (hb hby d1_60) (XS.aloadN X82.here hx rfl (hb hby d1_61) rfl rfl (XS.iconst X82.here hx rfl (hb hby d1_62) kt)))) ?_
  have F85 : Arv Z h82 x0 kx .char (3 : Int32) [(.int y0), (.int y1), (.int y2)] dd := (Arv.other F81 W82 ne74)
  refine own_st (T' := T82) (g' := (mkF m 64 #[.val (.ref x0), .val (.int (3 : Int32))] [(.int y2), (.int (2 : Int32)), (.ref b73), (.ref b73)])) (own_cal X82 hx hZ e82 F85 ⟨by decide, by decide⟩ rfl (g := (mkF m 63 #[.val (.ref x0), .val (.int (3 : Int32))] [(.int (2 : Int32)), (.ref x0), (.int (2 : Int32)), (.ref b73), (.ref b73)])) rfl rfl (hb hby d1_63)) ?_
  obtain ⟨T86, h86, X86, e86, W86, V86, st86⟩ := own_cst X82 hx hZ e82 F84 ⟨by decide, by decide⟩ (i := 2) rfl (by simp) (y := y2) pr4 (g := (mkF m 64 #[.val (.ref x0), .val (.int (3 : Int32))] [(.int y2), (.int (2 : Int32)), (.ref b73), (.ref b73)])) rfl rfl (hb hby d1_64)
  have N86 := Fr.snoc X86 N82 ge_b73
  have Z87 : n0 ≤ h86.size := Nat.le_trans Z83 (Nat.le_of_eq (Wr.size W86).symm)
  have K87 : Keep h0 h86 [] := (Keep.wr K83 W86 (Or.inr (Nat.le_trans K0.1 (Nat.le_of_eq g73.symm))))
  have F88 : Arv Z h86 b73 k73 .char (3 : Int32) [(.int y0), (.int y1), (.int y2)] (.int (0 : Int32)) := V86
  refine own_st (T' := T86) (g' := (mkF m 65 #[.val (.ref x0), .val (.int (3 : Int32))] [(.ref b73)])) st86 ?_
  obtain ⟨fs, hr, hrun, hended, hW, hsame⟩ := X86.leave (v := some (.ref b73)) (fun h => by rw [Bd.returns] at h; cases h)
  refine own_end (own_retA X86 hx Bd.returns rfl rfl rfl (hb hby d1_65) hr) ⟨_, hrun, hended, _, _, rfl, ?_, ⟨_, rfl⟩, hW, hsame.mono (by decide) (by decide)⟩
  show own_take3Q Z _ _ _ _ _ _ h0 n0 _ T86.heap _
  rw [e86]
  exact ⟨b73, k73, rfl, N86, K87, F88, (Nat.le_trans K0.1 (Nat.le_of_eq g73.symm))⟩
theorem d10_0 : decode jdk_42_method_154_code 0 = .ok (.getstatic 38, 3) := by decide +kernel
theorem d10_3 : decode jdk_42_method_154_code 3 = .ok (.ifCond .eq 14, 3) := by decide +kernel
theorem d10_6 : decode jdk_42_method_154_code 6 = .ok (.aload_n 0, 1) := by decide +kernel
theorem d10_7 : decode jdk_42_method_154_code 7 = .ok (.getfield 15, 3) := by decide +kernel
theorem d10_10 : decode jdk_42_method_154_code 10 = .ok (.ifCond .ne 7, 3) := by decide +kernel
theorem d10_13 : decode jdk_42_method_154_code 13 = .ok (.iconst 1, 1) := by decide +kernel
theorem d10_14 : decode jdk_42_method_154_code 14 = .ok (.goto 4, 3) := by decide +kernel
theorem d10_18 : decode jdk_42_method_154_code 18 = .ok (.ireturn, 1) := by decide +kernel
def own_r10Q (Z : State) (x0 : Addr) (zc : Int32) (h0 : Heap) (n0 : Nat) (v : Option Value) (h : Heap) (L : List Loc) : Prop := v = some (.int (1 : Int32)) ∧ Fr n0 L ∧ h = h0
abbrev own_r10R : Room := { frames := 0, cells := 0, slots := 0, locals := 0 }
set_option maxRecDepth 65536 in
set_option maxHeartbeats 40000000 in
theorem own_r10 (l : Launch) (Z : State) (a0 : Array Value) (hw : ∀ d ∈ tables_1, d.before a0 Z = true) (ws : List Jvm.Cond) (x0 : Addr) (zc : Int32) (h0 : Heap) (n0 : Nat) (Z0 : n0 ≤ h0.size) (pr1 : Old Z n0 h0) (pr2 : Sta Z Z.heap "java/lang/String" "COMPACT_STRINGS" "Z" (.int zc)) (pr3 : ¬ zc = 0) (pr4 : Fld Z h0 x0 "java/lang/String" "coder" "B" (.int (0 : Int32))) :
    own_M l (⟨"java/lang/String", "isLatin1", "()Z"⟩ : MethodName) jdk_42_method_154_code 1 (some .boolean) ws own_r10R #[(.ref x0)] Z h0 (own_r10Q Z x0 zc h0 n0) := by
  refine own_go (plainFor_of_name own_pn1) (fun m => own_ef3 m x0 ) ?_
  intro p e s m below meth c s₁ Bd hx hby hml hZ hh hown hnm X0 e0
  have N0 := Fr.nil n0
  obtain ⟨T89, X89, e89, st89⟩ := getS2 X0 hx hZ hown (host := "") (Or.inl (own_k hw 18 rfl)) Via.refl e0 (Sta.ext pr1.2 pr2) (g := (mkF m 0 #[.val (.ref x0)] [])) rfl (hb hby d10_0)
  refine own_st (T' := T89) (g' := (mkF m 3 #[.val (.ref x0)] [(.int zc)])) st89 ?_
  refine own_st (T' := T89) (g' := (mkF m 7 #[.val (.ref x0)] [(.ref x0)])) (fun _ kt => XS.ifNo X89.here hx rfl (hb hby d10_3) rfl (XT.i0_eq_f pr3) (XS.aloadN X89.here hx rfl (hb hby d10_6) rfl rfl kt)) ?_
  obtain ⟨T90, X90, e90, st90⟩ := getF X89 hx hZ hown (host := "") (Or.inl (own_k hw 30 rfl)) Via.refl e89 pr4 (g := (mkF m 7 #[.val (.ref x0)] [(.ref x0)])) rfl rfl (hb hby d10_7)
  refine own_st (T' := T90) (g' := (mkF m 10 #[.val (.ref x0)] [(.int (0 : Int32))])) st90 ?_
  refine own_st (T' := T90) (g' := (mkF m 18 #[.val (.ref x0)] [(.int (1 : Int32))])) (fun _ kt => XS.ifNo X90.here hx rfl (hb hby d10_10) rfl (XT.i0_ne_f (by decide)) (XS.iconst X90.here hx rfl (hb hby d10_13) (XS.goto X90.here hx rfl (pc0 := 14) (pc' := 18) rfl (hb hby d10_14) (by decide) (by decide) kt))) ?_
  obtain ⟨fs, hr, hrun, hended, hW, hsame⟩ := X90.leave (v := some (.int (1 : Int32))) (fun h => by rw [Bd.returns] at h; cases h)
  refine own_end (retN X90 hx (t := .boolean) Bd.returns (by simp) (hb hby d10_18) hr) ⟨_, hrun, hended, _, _, rfl, ?_, ⟨_, rfl⟩, hW, hsame.mono (by decide) (by decide)⟩
  show own_r10Q Z _ _ h0 n0 _ T90.heap _
  rw [e90]
  exact ⟨rfl, N0, rfl⟩
theorem d12_0 : decode jdk_43_method_49_code 0 = .ok (.iconst 0, 1) := by decide +kernel
theorem d12_1 : decode jdk_43_method_49_code 1 = .ok (.istore 5, 2) := by decide +kernel
theorem d12_3 : decode jdk_43_method_49_code 3 = .ok (.iload 5, 2) := by decide +kernel
theorem d12_5 : decode jdk_43_method_49_code 5 = .ok (.iload 4, 2) := by decide +kernel
theorem d12_7 : decode jdk_43_method_49_code 7 = .ok (.if_icmp .ge 26, 3) := by decide +kernel
theorem d12_33 : decode jdk_43_method_49_code 33 = .ok (.return_, 1) := by decide +kernel
set_option maxHeartbeats 4000000 in
theorem own_ef6 (m : MethodId) (x0 : Addr) (x1 : Int32) (x2 : Addr) (x3 : Int32) (x4 : Int32) : entryFrame m #[(.ref x0), (.int x1), (.ref x2), (.int x3), (.int x4)] 6 = mkF m 0 #[.val (.ref x0), .val (.int x1), .val (.ref x2), .val (.int x3), .val (.int x4), .unset] [] := by first | (simp [entryFrame, mkF, argsToLocals, Value.category]; done) | rfl
def own_inf0Q (Z : State) (x0 : Addr) (d0 : Addr) (kx : ClassId) (kd : ClassId) (h0 : Heap) (n0 : Nat) (v : Option Value) (h : Heap) (L : List Loc) : Prop := v = none ∧ Fr n0 L ∧ Keep h0 h [d0] ∧ (Arv Z h d0 kd .char (0 : Int32) [] (.int (0 : Int32)))
theorem own_pn3 : plainName "java/lang/StringLatin1" = true := by first | (simp [plainName, overriddenIn]; done) | decide +kernel
abbrev own_inf0R : Room := { frames := 0, cells := 0, slots := 0, locals := 0 }
set_option maxRecDepth 65536 in
set_option maxHeartbeats 40000000 in
theorem own_inf0 (l : Launch) (Z : State) (a0 : Array Value) (hw : ∀ d ∈ tables_1, d.before a0 Z = true) (ws : List Jvm.Cond) (x0 : Addr) (d0 : Addr) (kx : ClassId) (kd : ClassId) (h0 : Heap) (n0 : Nat) (Z0 : n0 ≤ h0.size) (pr1 : Arv Z h0 x0 kx .byte (0 : Int32) [] (.int (0 : Int32))) (pr2 : Arv Z h0 d0 kd .char (0 : Int32) [] (.int (0 : Int32))) (pr3 : n0 ≤ d0) (pr4 : x0 ≠ d0) :
    own_M l (⟨"java/lang/StringLatin1", "inflate", "([BI[CII)V"⟩ : MethodName) jdk_43_method_49_code 6 none ws own_inf0R #[(.ref x0), (.int (0 : Int32)), (.ref d0), (.int (0 : Int32)), (.int (0 : Int32))] Z h0 (own_inf0Q Z x0 d0 kx kd h0 n0) := by
  refine own_go (plainFor_of_name own_pn3) (fun m => own_ef6 m x0 (0 : Int32) d0 (0 : Int32) (0 : Int32) ) ?_
  intro p e s m below meth c s₁ Bd hx hby hml hZ hh hown hnm X0 e0
  have N0 := Fr.nil n0
  have K0 : Keep h0 h0 [d0] := Keep.refl h0 _
  refine own_st (T' := s₁) (g' := (mkF m 33 #[.val (.ref x0), .val (.int (0 : Int32)), .val (.ref d0), .val (.int (0 : Int32)), .val (.int (0 : Int32)), .val (.int (0 : Int32))] [])) (fun _ kt => XS.iconst X0.here hx rfl (hb hby d12_0) (XS.istore X0.here hx rfl (hb hby d12_1) rfl (l' := #[.val (.ref x0), .val (.int (0 : Int32)), .val (.ref d0), .val (.int (0 : Int32)), .val (.int (0 : Int32)), .val (.int (0 : Int32))]) rfl (XS.iload X0.here hx rfl (hb hby d12_3) rfl (XS.iload X0.here hx rfl (hb hby d12_5) rfl (XS.icmpYes X0.here hx rfl (pc0 := 7) (pc' := 33) rfl (hb hby d12_7) rfl (XT.ii_ge_t (by decide)) (by decide) (by decide) kt))))) ?_
  obtain ⟨fs, hr, hrun, hended, hW, hsame⟩ := X0.leave (v := none) (fun _ => rfl)
  refine own_end (X0.returnOut hx Bd.returns (hb hby d12_33) hr) ⟨_, hrun, hended, _, _, rfl, ?_, ⟨_, rfl⟩, hW, hsame.mono (by decide) (by decide)⟩
  show own_inf0Q Z _ _ _ _ h0 n0 _ s₁.heap _
  rw [e0]
  exact ⟨rfl, N0, K0, pr2⟩
theorem d11_0 : decode jdk_43_method_9_code 0 = .ok (.aload_n 0, 1) := by decide +kernel
theorem d11_1 : decode jdk_43_method_9_code 1 = .ok (.arraylength, 1) := by decide +kernel
theorem d11_2 : decode jdk_43_method_9_code 2 = .ok (.newarray .char, 2) := by decide +kernel
theorem d11_4 : decode jdk_43_method_9_code 4 = .ok (.astore_n 1, 1) := by decide +kernel
theorem d11_5 : decode jdk_43_method_9_code 5 = .ok (.aload_n 0, 1) := by decide +kernel
theorem d11_6 : decode jdk_43_method_9_code 6 = .ok (.iconst 0, 1) := by decide +kernel
theorem d11_7 : decode jdk_43_method_9_code 7 = .ok (.aload_n 1, 1) := by decide +kernel
theorem d11_8 : decode jdk_43_method_9_code 8 = .ok (.iconst 0, 1) := by decide +kernel
theorem d11_9 : decode jdk_43_method_9_code 9 = .ok (.aload_n 0, 1) := by decide +kernel
theorem d11_10 : decode jdk_43_method_9_code 10 = .ok (.arraylength, 1) := by decide +kernel
theorem d11_11 : decode jdk_43_method_9_code 11 = .ok (.invokestatic 13, 3) := by decide +kernel
theorem own_pd3 : parseMethodDescriptor "([BI[CII)V" = some ⟨[(.array .byte), .int, (.array .char), .int, .int], none⟩ := by decide +kernel
theorem d11_14 : decode jdk_43_method_9_code 14 = .ok (.aload_n 1, 1) := by decide +kernel
theorem d11_15 : decode jdk_43_method_9_code 15 = .ok (.areturn, 1) := by decide +kernel
set_option maxHeartbeats 4000000 in
theorem own_ef7 (m : MethodId) (x0 : Addr) : entryFrame m #[(.ref x0)] 2 = mkF m 0 #[.val (.ref x0), .unset] [] := by first | (simp [entryFrame, mkF, argsToLocals, Value.category]; done) | rfl
def own_tch0Q (Z : State) (x0 : Addr) (kx : ClassId) (h0 : Heap) (n0 : Nat) (v : Option Value) (h : Heap) (L : List Loc) : Prop := ∃ (b : Addr), ∃ (kb : ClassId), v = some (.ref b) ∧ Fr n0 L ∧ Keep h0 h [] ∧ (Arv Z h b kb .char (0 : Int32) [] (.int (0 : Int32))) ∧ (h0.size ≤ b)
abbrev own_tch0R : Room := { frames := 1, cells := 1, slots := 0, locals := 17 }
set_option maxRecDepth 65536 in
set_option maxHeartbeats 40000000 in
theorem own_tch0 (l : Launch) (Z : State) (a0 : Array Value) (hw : ∀ d ∈ tables_1, d.before a0 Z = true) (ws : List Jvm.Cond) (x0 : Addr) (kx : ClassId) (h0 : Heap) (n0 : Nat) (Z0 : n0 ≤ h0.size) (pr1 : Arv Z h0 x0 kx .byte (0 : Int32) [] (.int (0 : Int32))) :
    own_M l (⟨"java/lang/StringLatin1", "toChars", "([B)[C"⟩ : MethodName) jdk_43_method_9_code 2 (some (.array .char)) ws own_tch0R #[(.ref x0)] Z h0 (own_tch0Q Z x0 kx h0 n0) := by
  refine own_go (plainFor_of_name own_pn3) (fun m => own_ef7 m x0 ) ?_
  intro p e s m below meth c s₁ Bd hx hby hml hZ hh hown hnm X0 e0
  have N0 := Fr.nil n0
  have K0 : Keep h0 h0 [] := Keep.refl h0 _
  refine own_st (T' := s₁) (g' := (mkF m 1 #[.val (.ref x0), .unset] [(.ref x0)])) (fun _ kt => XS.aloadN X0.here hx rfl (hb hby d11_0) rfl rfl kt) ?_
  refine own_st (T' := s₁) (g' := (mkF m 2 #[.val (.ref x0), .unset] [(.int (0 : Int32))])) (own_alen X0 hx hZ e0 pr1 (g := (mkF m 1 #[.val (.ref x0), .unset] [(.ref x0)])) rfl rfl (hb hby d11_1)) ?_
  obtain ⟨T91, h91, k91, X91, e91, E91, A91, st91⟩ := newP X0 hx hZ (aty := .char) (own_k hw 0 rfl) e0 (g := (mkF m 2 #[.val (.ref x0), .unset] [(.int (0 : Int32))])) rfl (hb hby d11_2) rfl (by decide) (cap := 0) (by decide) (by decide) (by decide) (by decide)
  obtain ⟨b91, g91⟩ : ∃ z, z = h0.size := ⟨_, rfl⟩
  rw [← g91] at A91 st91
  have ne92 : x0 ≠ b91 := by rw [g91]; exact Nat.ne_of_lt pr1.lt
  have Z93 : n0 ≤ h91.size := Nat.le_trans Z0 E91.1
  have K93 : Keep h0 h91 [] := (Keep.ext K0 E91)
  have ge_b91 : n0 ≤ b91 := Nat.le_trans Z0 (Nat.le_of_eq g91.symm)
  have F94 : Arv Z h91 b91 k91 .char (0 : Int32) [] (.int (0 : Int32)) := (Arv.new A91 (by decide)).pad (pad_rep [] (.int (0 : Int32)) 0)
  refine own_st (T' := T91) (g' := (mkF m 4 #[.val (.ref x0), .unset] [(.ref b91)])) st91 ?_
  refine own_st (T' := T91) (g' := (mkF m 10 #[.val (.ref x0), .val (.ref b91)] [(.ref x0), (.int (0 : Int32)), (.ref b91), (.int (0 : Int32)), (.ref x0)])) (fun _ kt => XS.astoreN X91.here hx rfl (hb hby d11_4) rfl rfl (l' := #[.val (.ref x0), .val (.ref b91)]) rfl (XS.aloadN X91.here hx rfl (hb hby d11_5) rfl rfl (XS.iconst X91.here hx rfl (hb hby d11_6) (XS.aloadN X91.here hx rfl (hb hby d11_7) rfl rfl (XS.iconst X91.here hx rfl (hb hby d11_8) (XS.aloadN X91.here hx rfl (hb hby d11_9) rfl rfl kt)))))) ?_
  have F95 : Arv Z h91 x0 kx .byte (0 : Int32) [] (.int (0 : Int32)) := (pr1.ext E91)
  refine own_st (T' := T91) (g' := (mkF m 11 #[.val (.ref x0), .val (.ref b91)] [(.int (0 : Int32)), (.int (0 : Int32)), (.ref b91), (.int (0 : Int32)), (.ref x0)])) (own_alen X91 hx hZ e91 F95 (g := (mkF m 10 #[.val (.ref x0), .val (.ref b91)] [(.ref x0), (.int (0 : Int32)), (.ref b91), (.int (0 : Int32)), (.ref x0)])) rfl rfl (hb hby d11_10)) ?_
  obtain ⟨_, _, ⟨T96, L96, k96, n96⟩, -, X96, ⟨Lc96, hQ96, l96, y96, z96⟩, st96⟩ := Jvm.LawKit.callS X91 hx (y := (⟨"java/lang/StringLatin1", "inflate", "([BI[CII)V"⟩ : MethodName)) hown (mvT hZ (own_k hw 55 rfl)) (mvT hZ (own_k hw 56 rfl)) (mvT hZ (own_k hw 53 rfl)) (mvT hZ (own_k hw 57 rfl)) (by decide) (backOf (W := 0) (own_inf0 l Z a0 hw [] x0 b91 kx k91 h91 n0 Z93 F95 F94 ge_b91 ne92) hZ (own_k hw 57 rfl) (own_k hw 53 rfl) (by decide) (by decide)) (g := (mkF m 11 #[.val (.ref x0), .val (.ref b91)] [(.int (0 : Int32)), (.int (0 : Int32)), (.ref b91), (.int (0 : Int32)), (.ref x0)])) rfl hml.symm  (argsL := [(.ref x0), (.int (0 : Int32)), (.ref b91), (.int (0 : Int32)), (.int (0 : Int32))]) (rest := []) (lenOf own_pd3 rfl) rfl (by show 2 * 0 + _ ≤ _; exact Nat.le_of_eq rfl) (hb hby d11_11) (fun _ _ => ⟨rfl, e91, (by decide : 1 + 0 ≤ 1), (by decide : 0 + 0 ≤ 0)⟩)
  dsimp only [Pt.U, Pt.locs, Pt.cells, Pt.slots] at X96 l96 y96 z96 st96 hQ96
  subst l96 y96 z96
  obtain ⟨rfl, N96, K96_, P97⟩ := hQ96
  have N98 := Fr.app N0 N96
  have Z99 : n0 ≤ T96.heap.size := Nat.le_trans Z93 K96_.1
  have K99 : Keep h0 T96.heap [] := (Keep.trans K93 K96_ (allS (Or.inr (Nat.le_trans K0.1 (Nat.le_of_eq g91.symm))) all0))
  refine own_st (T' := T96) (g' := (mkF m 14 #[.val (.ref x0), .val (.ref b91)] [])) st96 ?_
  refine own_st (T' := T96) (g' := (mkF m 15 #[.val (.ref x0), .val (.ref b91)] [(.ref b91)])) (fun _ kt => XS.aloadN X96.here hx rfl (hb hby d11_14) rfl rfl kt) ?_
  obtain ⟨fs, hr, hrun, hended, hW, hsame⟩ := X96.leave (v := some (.ref b91)) (fun h => by rw [Bd.returns] at h; cases h)
  refine own_end (own_retA X96 hx Bd.returns rfl rfl rfl (hb hby d11_15) hr) ⟨_, hrun, hended, _, _, rfl, ?_, ⟨_, rfl⟩, hW, hsame.mono (by decide) (by decide)⟩
  show own_tch0Q Z _ _ h0 n0 _ T96.heap _
  show own_tch0Q Z _ _ h0 n0 _ T96.heap _
  exact ⟨b91, k91, rfl, N98, K99, P97, (Nat.le_trans K0.1 (Nat.le_of_eq g91.symm))⟩
theorem d9_0 : decode jdk_42_method_129_code 0 = .ok (.aload_n 0, 1) := by decide +kernel
theorem d9_1 : decode jdk_42_method_129_code 1 = .ok (.invokevirtual 492, 3) := by decide +kernel
theorem own_pd4 : parseMethodDescriptor "()Z" = some ⟨[], some .boolean⟩ := by decide +kernel
theorem d9_4 : decode jdk_42_method_129_code 4 = .ok (.ifCond .eq 13, 3) := by decide +kernel
theorem d9_7 : decode jdk_42_method_129_code 7 = .ok (.aload_n 0, 1) := by decide +kernel
theorem d9_8 : decode jdk_42_method_129_code 8 = .ok (.getfield 9, 3) := by decide +kernel
theorem d9_11 : decode jdk_42_method_129_code 11 = .ok (.invokestatic 299, 3) := by decide +kernel
theorem own_pd5 : parseMethodDescriptor "([B)[C" = some ⟨[(.array .byte)], some (.array .char)⟩ := by decide +kernel
theorem d9_14 : decode jdk_42_method_129_code 14 = .ok (.goto 10, 3) := by decide +kernel
theorem d9_24 : decode jdk_42_method_129_code 24 = .ok (.areturn, 1) := by decide +kernel
def own_tca0Q (Z : State) (x0 : Addr) (zc : Int32) (t : Addr) (kx : ClassId) (h0 : Heap) (n0 : Nat) (v : Option Value) (h : Heap) (L : List Loc) : Prop := ∃ (b : Addr), ∃ (kb : ClassId), v = some (.ref b) ∧ Fr n0 L ∧ Keep h0 h [] ∧ (Arv Z h b kb .char (0 : Int32) [] (.int (0 : Int32))) ∧ (h0.size ≤ b)
abbrev own_tca0R : Room := { frames := 2, cells := 1, slots := 0, locals := 30 }
set_option maxRecDepth 65536 in
set_option maxHeartbeats 40000000 in
theorem own_tca0 (l : Launch) (Z : State) (a0 : Array Value) (hw : ∀ d ∈ tables_1, d.before a0 Z = true) (ws : List Jvm.Cond) (x0 : Addr) (zc : Int32) (t : Addr) (kx : ClassId) (h0 : Heap) (n0 : Nat) (Z0 : n0 ≤ h0.size) (pr1 : Old Z n0 h0) (pr2 : Sta Z Z.heap "java/lang/String" "COMPACT_STRINGS" "Z" (.int zc)) (pr3 : ¬ zc = 0) (pr4 : Exa Z h0 x0 "java/lang/String") (pr5 : Fld Z h0 x0 "java/lang/String" "coder" "B" (.int (0 : Int32))) (pr6 : Fld Z h0 x0 "java/lang/String" "value" "[B" (.ref t)) (pr7 : Arv Z h0 t kx .byte (0 : Int32) [] (.int (0 : Int32))) :
    own_M l (⟨"java/lang/String", "toCharArray", "()[C"⟩ : MethodName) jdk_42_method_129_code 1 (some (.array .char)) ws own_tca0R #[(.ref x0)] Z h0 (own_tca0Q Z x0 zc t kx h0 n0) := by
  refine own_go (plainFor_of_name own_pn1) (fun m => own_ef3 m x0 ) ?_
  intro p e s m below meth c s₁ Bd hx hby hml hZ hh hown hnm X0 e0
  have N0 := Fr.nil n0
  have K0 : Keep h0 h0 [] := Keep.refl h0 _
  refine own_st (T' := s₁) (g' := (mkF m 1 #[.val (.ref x0)] [(.ref x0)])) (fun _ kt => XS.aloadN X0.here hx rfl (hb hby d9_0) rfl rfl kt) ?_
  obtain ⟨cq101, kq101, qa101, qb101, qc101⟩ := isOf hZ e0 pr4
  obtain ⟨_, _, ⟨T100, L100, k100, n100⟩, -, X100, ⟨Lc100, hQ100, l100, y100, z100⟩, st100⟩ := X0.virtualBack hx (y := (⟨"java/lang/String", "isLatin1", "()Z"⟩ : MethodName)) (z := (⟨"java/lang/String", "isLatin1", "()Z"⟩ : MethodName)) hown (mvT hZ (own_k hw 46 rfl)) (mvT hZ (own_k hw 47 rfl)) (notFace_of_selects (args := #[]) (mvT hZ (own_k hw 49 rfl))) (mvT hZ (own_k hw 49 rfl)) (mvT hZ (own_k hw 48 rfl)) (by decide) (backOf (W := 0) (own_r10 l Z a0 hw [] x0 zc h0 n0 Z0 pr1 pr2 pr3 pr5) hZ (own_k hw 50 rfl) (own_k hw 7 rfl) (by decide) (by decide)) qa101 qc101 (g := (mkF m 1 #[.val (.ref x0)] [(.ref x0)])) rfl hml.symm (Steps.refl _) (argsL := []) (rest := []) (lenOf own_pd4 rfl) rfl (by show 2 * 0 + _ ≤ _; exact Nat.le_of_eq rfl) (hb hby d9_1) (fun _ _ => ⟨rfl, e0, (by decide : 0 + 0 ≤ 1), (by decide : 0 + 0 ≤ 0)⟩)
  dsimp only [Pt.U, Pt.locs, Pt.cells, Pt.slots] at X100 l100 y100 z100 st100 hQ100
  subst l100 y100 z100
  obtain ⟨rfl, N100, e100⟩ := hQ100
  have N102 := Fr.app N0 N100
  refine own_tr (T' := T100) (g' := (mkF m 4 #[.val (.ref x0)] [(.int (1 : Int32))])) st100 ?_
  refine own_st (T' := T100) (g' := (mkF m 8 #[.val (.ref x0)] [(.ref x0)])) (fun _ kt => XS.ifNo X100.here hx rfl (hb hby d9_4) rfl (XT.i0_eq_f (by decide)) (XS.aloadN X100.here hx rfl (hb hby d9_7) rfl rfl kt)) ?_
  obtain ⟨T103, X103, e103, st103⟩ := getF X100 hx hZ hown (host := "") (Or.inl (own_k hw 32 rfl)) Via.refl e100 pr6 (g := (mkF m 8 #[.val (.ref x0)] [(.ref x0)])) rfl rfl (hb hby d9_8)
  refine own_st (T' := T103) (g' := (mkF m 11 #[.val (.ref x0)] [(.ref t)])) st103 ?_
  obtain ⟨_, _, ⟨T104, L104, k104, n104⟩, -, X104, ⟨Lc104, hQ104, l104, y104, z104⟩, st104⟩ := Jvm.LawKit.callS X103 hx (y := (⟨"java/lang/StringLatin1", "toChars", "([B)[C"⟩ : MethodName)) hown (mvT hZ (own_k hw 51 rfl)) (mvT hZ (own_k hw 52 rfl)) (mvT hZ (own_k hw 53 rfl)) (mvT hZ (own_k hw 54 rfl)) (by decide) (backOf (W := 0) (own_tch0 l Z a0 hw [] t kx h0 n0 Z0 pr7) hZ (own_k hw 54 rfl) (own_k hw 53 rfl) (by decide) (by decide)) (g := (mkF m 11 #[.val (.ref x0)] [(.ref t)])) rfl hml.symm  (argsL := [(.ref t)]) (rest := []) (lenOf own_pd5 rfl) rfl (by show 2 * 0 + _ ≤ _; exact Nat.le_of_eq rfl) (hb hby d9_11) (fun _ _ => ⟨rfl, e103, (by decide : 0 + 1 ≤ 1), (by decide : 0 + 0 ≤ 0)⟩)
  dsimp only [Pt.U, Pt.locs, Pt.cells, Pt.slots] at X104 l104 y104 z104 st104 hQ104
  subst l104 y104 z104
  obtain ⟨b_104, kb_104, rfl, N104, K104_, P105, P106⟩ := hQ104
  have N107 := Fr.app N102 N104
  have Z108 : n0 ≤ T104.heap.size := Nat.le_trans Z0 K104_.1
  have K108 : Keep h0 T104.heap [] := (Keep.trans K0 K104_ all0)
  have ne109 : x0 ≠ b_104 := Nat.ne_of_lt (Nat.lt_of_lt_of_le pr4.lt P106)
  have ne110 : t ≠ b_104 := Nat.ne_of_lt (Nat.lt_of_lt_of_le pr7.lt P106)
  have ge111 : n0 ≤ b_104 := Nat.le_trans Z0 P106
  refine own_st (T' := T104) (g' := (mkF m 14 #[.val (.ref x0)] [(.ref b_104)])) st104 ?_
  refine own_st (T' := T104) (g' := (mkF m 24 #[.val (.ref x0)] [(.ref b_104)])) (fun _ kt => XS.goto X104.here hx rfl (pc0 := 14) (pc' := 24) rfl (hb hby d9_14) (by decide) (by decide) kt) ?_
  obtain ⟨fs, hr, hrun, hended, hW, hsame⟩ := X104.leave (v := some (.ref b_104)) (fun h => by rw [Bd.returns] at h; cases h)
  refine own_end (own_retA X104 hx Bd.returns rfl rfl rfl (hb hby d9_24) hr) ⟨_, hrun, hended, _, _, rfl, ?_, ⟨_, rfl⟩, hW, hsame.mono (by decide) (by decide)⟩
  show own_tca0Q Z _ _ _ _ h0 n0 _ T104.heap _
  show own_tca0Q Z _ _ _ _ h0 n0 _ T104.heap _
  exact ⟨b_104, kb_104, rfl, N107, K108, P105, (Nat.le_trans K0.1 P106)⟩
theorem d8_0 : decode prog_22_method_1_code 0 = .ok (.aload_n 0, 1) := by decide +kernel
theorem d8_1 : decode prog_22_method_1_code 1 = .ok (.invokespecial 1, 3) := by decide +kernel
theorem d8_4 : decode prog_22_method_1_code 4 = .ok (.aload_n 0, 1) := by decide +kernel
theorem d8_5 : decode prog_22_method_1_code 5 = .ok (.aload_n 1, 1) := by decide +kernel
theorem d8_6 : decode prog_22_method_1_code 6 = .ok (.invokevirtual 7, 3) := by decide +kernel
theorem own_pd6 : parseMethodDescriptor "()[C" = some ⟨[], some (.array .char)⟩ := by decide +kernel
theorem d8_9 : decode prog_22_method_1_code 9 = .ok (.putfield 13, 3) := by decide +kernel
theorem d8_12 : decode prog_22_method_1_code 12 = .ok (.aload_n 0, 1) := by decide +kernel
theorem d8_13 : decode prog_22_method_1_code 13 = .ok (.aload_n 1, 1) := by decide +kernel
theorem d8_14 : decode prog_22_method_1_code 14 = .ok (.invokevirtual 19, 3) := by decide +kernel
theorem own_pd7 : parseMethodDescriptor "()I" = some ⟨[], some .int⟩ := by decide +kernel
theorem d8_17 : decode prog_22_method_1_code 17 = .ok (.putfield 23, 3) := by decide +kernel
theorem d8_20 : decode prog_22_method_1_code 20 = .ok (.return_, 1) := by decide +kernel
def own_swi0Q (Z : State) (a : Addr) (x0 : Addr) (zc : Int32) (t : Addr) (kx : ClassId) (h0 : Heap) (n0 : Nat) (v : Option Value) (h : Heap) (L : List Loc) : Prop := ∃ (b : Addr), ∃ (kb : ClassId), v = none ∧ Fr n0 L ∧ Keep h0 h [a] ∧ (Exa Z h a "com/example/tally_rank/tallyrank/analysis/SuffixWord") ∧ (Fld Z h a "com/example/tally_rank/tallyrank/analysis/SuffixWord" "letters" "[C" (.ref b)) ∧ (Fld Z h a "com/example/tally_rank/tallyrank/analysis/SuffixWord" "length" "I" (.int (0 : Int32))) ∧ (Arv Z h b kb .char (0 : Int32) [] (.int (0 : Int32))) ∧ (h0.size ≤ b)
theorem own_pn4 : plainName "com/example/tally_rank/tallyrank/analysis/SuffixWord" = true := by first | (simp [plainName, overriddenIn]; done) | decide +kernel
abbrev own_swi0R : Room := { frames := 3, cells := 1, slots := 0, locals := 43 }
set_option maxRecDepth 65536 in
set_option maxHeartbeats 40000000 in
theorem own_swi0 (l : Launch) (Z : State) (a0 : Array Value) (hw : ∀ d ∈ tables_1, d.before a0 Z = true) (ws : List Jvm.Cond) (a : Addr) (x0 : Addr) (zc : Int32) (t : Addr) (kx : ClassId) (h0 : Heap) (n0 : Nat) (Z0 : n0 ≤ h0.size) (pr1 : Old Z n0 h0) (pr2 : Sta Z Z.heap "java/lang/String" "COMPACT_STRINGS" "Z" (.int zc)) (pr3 : ¬ zc = 0) (pr4 : Exa Z h0 a "com/example/tally_rank/tallyrank/analysis/SuffixWord") (pr5 : n0 ≤ a) (pr6 : Fld Z h0 a "com/example/tally_rank/tallyrank/analysis/SuffixWord" "letters" "[C" .null) (pr7 : Fld Z h0 a "com/example/tally_rank/tallyrank/analysis/SuffixWord" "length" "I" (.int (0 : Int32))) (pr8 : Exa Z h0 x0 "java/lang/String") (pr9 : Fld Z h0 x0 "java/lang/String" "coder" "B" (.int (0 : Int32))) (pr10 : Fld Z h0 x0 "java/lang/String" "value" "[B" (.ref t)) (pr11 : Arv Z h0 t kx .byte (0 : Int32) [] (.int (0 : Int32))) :
    own_M l (⟨"com/example/tally_rank/tallyrank/analysis/SuffixWord", "<init>", "(Ljava/lang/String;)V"⟩ : MethodName) prog_22_method_1_code 2 none ws own_swi0R #[(.ref a), (.ref x0)] Z h0 (own_swi0Q Z a x0 zc t kx h0 n0) := by
  refine own_go (plainFor_of_name own_pn4) (fun m => own_ef2 m a x0 ) ?_
  intro p e s m below meth c s₁ Bd hx hby hml hZ hh hown hnm X0 e0
  have N0 := Fr.nil n0
  have K0 : Keep h0 h0 [a] := Keep.refl h0 _
  refine own_st (T' := s₁) (g' := (mkF m 1 #[.val (.ref a), .val (.ref x0)] [(.ref a)])) (fun _ kt => XS.aloadN X0.here hx rfl (hb hby d8_0) rfl rfl kt) ?_
  obtain ⟨T112, X112, e112, st112⟩ := initO X0 hx hZ hown (own_k hw 40 rfl) (own_k hw 16 rfl) (own_k hw 17 rfl) e0 (g := (mkF m 1 #[.val (.ref a), .val (.ref x0)] [(.ref a)])) rfl hml.symm rfl (hb hby d8_1) (by decide) (W := 0) (by show 2 * 0 + _ ≤ _; exact Nat.le_of_eq rfl) (by decide)
  refine own_st (T' := T112) (g' := (mkF m 4 #[.val (.ref a), .val (.ref x0)] [])) st112 ?_
  refine own_st (T' := T112) (g' := (mkF m 6 #[.val (.ref a), .val (.ref x0)] [(.ref x0), (.ref a)])) (fun _ kt => XS.aloadN X112.here hx rfl (hb hby d8_4) rfl rfl (XS.aloadN X112.here hx rfl (hb hby d8_5) rfl rfl kt)) ?_
  obtain ⟨cq114, kq114, qa114, qb114, qc114⟩ := isOf hZ e112 pr8
  obtain ⟨_, _, ⟨T113, L113, k113, n113⟩, -, X113, ⟨Lc113, hQ113, l113, y113, z113⟩, st113⟩ := X112.virtualBack hx (y := (⟨"java/lang/String", "toCharArray", "()[C"⟩ : MethodName)) (z := (⟨"java/lang/String", "toCharArray", "()[C"⟩ : MethodName)) hown (mvT hZ (own_k hw 41 rfl)) (mvT hZ (own_k hw 42 rfl)) (notFace_of_selects (args := #[]) (mvT hZ (own_k hw 44 rfl))) (mvT hZ (own_k hw 44 rfl)) (mvT hZ (own_k hw 43 rfl)) (by decide) (backOf (W := 1) (own_tca0 l Z a0 hw [] x0 zc t kx h0 n0 Z0 pr1 pr2 pr3 pr8 pr9 pr10 pr11) hZ (own_k hw 45 rfl) (own_k hw 7 rfl) (by decide) (by decide)) qa114 qc114 (g := (mkF m 6 #[.val (.ref a), .val (.ref x0)] [(.ref x0), (.ref a)])) rfl hml.symm (Steps.refl _) (argsL := []) (rest := [(.ref a)]) (lenOf own_pd6 rfl) rfl (by show 2 * 0 + _ ≤ _; exact Nat.le_of_eq rfl) (hb hby d8_6) (fun _ _ => ⟨rfl, e112, (by decide : 0 + 1 ≤ 1), (by decide : 0 + 0 ≤ 0)⟩)
  dsimp only [Pt.U, Pt.locs, Pt.cells, Pt.slots] at X113 l113 y113 z113 st113 hQ113
  subst l113 y113 z113
  obtain ⟨b_113, kb_113, rfl, N113, K113_, P115, P116⟩ := hQ113
  have N117 := Fr.app N0 N113
  have Z118 : n0 ≤ T113.heap.size := Nat.le_trans Z0 K113_.1
  have K118 : Keep h0 T113.heap [a] := (Keep.trans K0 K113_ all0)
  have ne119 : a ≠ b_113 := Nat.ne_of_lt (Nat.lt_of_lt_of_le pr4.lt P116)
  have ne120 : x0 ≠ b_113 := Nat.ne_of_lt (Nat.lt_of_lt_of_le pr8.lt P116)
  have ne121 : t ≠ b_113 := Nat.ne_of_lt (Nat.lt_of_lt_of_le pr11.lt P116)
  have ge122 : n0 ≤ b_113 := Nat.le_trans Z0 P116
  refine own_tr (T' := T113) (g' := (mkF m 9 #[.val (.ref a), .val (.ref x0)] [(.ref b_113), (.ref a)])) st113 ?_
  have F123 : Fld Z T113.heap a "com/example/tally_rank/tallyrank/analysis/SuffixWord" "letters" "[C" .null := (Fld.keep pr6 K113_ nin0)
  have F124 : Exa Z T113.heap a "com/example/tally_rank/tallyrank/analysis/SuffixWord" := (Exa.keep pr4 K113_)
  obtain ⟨T125, h125, X125, e125, W125, st125⟩ := putF X113 hx hZ hown (host := "") (Or.inl (own_k hw 58 rfl)) Via.refl rfl F123 F124 (Or.inr ⟨(own_k hw 59 rfl), rfl, hnm⟩) (own_k hw 35 rfl) (ty := (.array .char)) (by decide) rfl rfl (g := (mkF m 9 #[.val (.ref a), .val (.ref x0)] [(.ref b_113), (.ref a)])) rfl rfl (hb hby d8_9)
  have N125 := Fr.snoc X125 N117 pr5
  have Z126 : n0 ≤ h125.size := Nat.le_trans Z118 (Nat.le_of_eq (Wr.size W125).symm)
  have K126 : Keep h0 h125 [a] := (Keep.wr K118 W125 (Or.inl (List.mem_of_getElem? (i := 0) rfl)))
  have F127 : Fld Z h125 a "com/example/tally_rank/tallyrank/analysis/SuffixWord" "letters" "[C" (.ref b_113) := Fld.same W125 F123
  refine own_st (T' := T125) (g' := (mkF m 12 #[.val (.ref a), .val (.ref x0)] [])) st125 ?_
  refine own_st (T' := T125) (g' := (mkF m 14 #[.val (.ref a), .val (.ref x0)] [(.ref x0), (.ref a)])) (fun _ kt => XS.aloadN X125.here hx rfl (hb hby d8_12) rfl rfl (XS.aloadN X125.here hx rfl (hb hby d8_13) rfl rfl kt)) ?_
  have F128 : Exa Z h125 x0 "java/lang/String" := (Exa.wr W125 (Exa.keep pr8 K113_))
  have F129 : Old Z n0 h125 := (Old.wr (Old.keep pr1 K113_ all0) W125 pr5)
  have F130 : Exa Z T113.heap x0 "java/lang/String" := (Exa.keep pr8 K113_)
  have F131 : Fld Z h125 x0 "java/lang/String" "coder" "B" (.int (0 : Int32)) := (Fld.other W125 (Fld.keep pr9 K113_ nin0) (Or.inl (ne_exa F130 F124 (by decide))))
  have F132 : Exa Z T113.heap x0 "java/lang/String" := (Exa.keep pr8 K113_)
  have F133 : Fld Z h125 x0 "java/lang/String" "value" "[B" (.ref t) := (Fld.other W125 (Fld.keep pr10 K113_ nin0) (Or.inl (ne_exa F132 F124 (by decide))))
  have F134 : Arv Z h125 t kx .byte (0 : Int32) [] (.int (0 : Int32)) := (Arv.other (Arv.keep pr11 K113_ nin0) W125 (Ne.symm (Exa.neArv pr4 pr11 (own_k hw 35 rfl))))
  obtain ⟨cq136, kq136, qa136, qb136, qc136⟩ := isOf hZ e125 F128
  obtain ⟨_, _, ⟨T135, L135, k135, n135⟩, -, X135, ⟨Lc135, hQ135, l135, y135, z135⟩, st135⟩ := X125.virtualBack hx (y := (⟨"java/lang/String", "length", "()I"⟩ : MethodName)) (z := (⟨"java/lang/String", "length", "()I"⟩ : MethodName)) hown (mvT hZ (own_k hw 60 rfl)) (mvT hZ (own_k hw 61 rfl)) (notFace_of_selects (args := #[]) (mvT hZ (own_k hw 63 rfl))) (mvT hZ (own_k hw 63 rfl)) (mvT hZ (own_k hw 62 rfl)) (by decide) (backOf (W := 1) (own_len l Z a0 hw [] x0 zc t kx (0 : Int32) [] (.int (0 : Int32)) h125 n0 Z126 F129 pr2 pr3 F128 F131 F133 F134) hZ (own_k hw 64 rfl) (own_k hw 7 rfl) (by decide) (by decide)) qa136 qc136 (g := (mkF m 14 #[.val (.ref a), .val (.ref x0)] [(.ref x0), (.ref a)])) rfl hml.symm (Steps.refl _) (argsL := []) (rest := [(.ref a)]) (lenOf own_pd7 rfl) rfl (by show 2 * 0 + _ ≤ _; exact Nat.le_of_eq rfl) (hb hby d8_14) (fun _ _ => ⟨rfl, e125, (by decide : 1 + 0 ≤ 1), (by decide : 0 + 0 ≤ 0)⟩)
  dsimp only [Pt.U, Pt.locs, Pt.cells, Pt.slots] at X135 l135 y135 z135 st135 hQ135
  subst l135 y135 z135
  obtain ⟨rfl, N135, e135⟩ := hQ135
  have N137 := Fr.app N125 N135
  refine own_tr (T' := T135) (g' := (mkF m 17 #[.val (.ref a), .val (.ref x0)] [(.int (0 : Int32)), (.ref a)])) st135 ?_
  have F138 : Fld Z h125 a "com/example/tally_rank/tallyrank/analysis/SuffixWord" "length" "I" (.int (0 : Int32)) := (Fld.other W125 (Fld.keep pr7 K113_ nin0) (Or.inr (slot_ne (Or.inl (own_k hw 71 rfl)) (Or.inr (own_k hw 59 rfl)) (by decide) (t := .int) (t' := (.array .char)) (by decide) (by decide))))
  have F139 : Exa Z h125 a "com/example/tally_rank/tallyrank/analysis/SuffixWord" := (Exa.wr W125 F124)
  obtain ⟨T140, h140, X140, e140, W140, st140⟩ := putF X135 hx hZ hown (host := "") (Or.inl (own_k hw 70 rfl)) Via.refl e135 F138 F139 (Or.inl (own_k hw 71 rfl)) (own_k hw 35 rfl) (ty := .int) (by decide) rfl rfl (g := (mkF m 17 #[.val (.ref a), .val (.ref x0)] [(.int (0 : Int32)), (.ref a)])) rfl rfl (hb hby d8_17)
  have N140 := Fr.snoc X140 N137 pr5
  have Z141 : n0 ≤ h140.size := Nat.le_trans Z126 (Nat.le_of_eq (Wr.size W140).symm)
  have K141 : Keep h0 h140 [a] := (Keep.wr K126 W140 (Or.inl (List.mem_of_getElem? (i := 0) rfl)))
  have F142 : Fld Z h140 a "com/example/tally_rank/tallyrank/analysis/SuffixWord" "length" "I" (.int (0 : Int32)) := Fld.same W140 F138
  refine own_st (T' := T140) (g' := (mkF m 20 #[.val (.ref a), .val (.ref x0)] [])) st140 ?_
  obtain ⟨fs, hr, hrun, hended, hW, hsame⟩ := X140.leave (v := none) (fun _ => rfl)
  refine own_end (X140.returnOut hx Bd.returns (hb hby d8_20) hr) ⟨_, hrun, hended, _, _, rfl, ?_, ⟨_, rfl⟩, hW, hsame.mono (by decide) (by decide)⟩
  have F143 : Fld Z h140 a "com/example/tally_rank/tallyrank/analysis/SuffixWord" "letters" "[C" (.ref b_113) := (Fld.other W140 F127 (Or.inr (slot_ne (Or.inr (own_k hw 59 rfl)) (Or.inl (own_k hw 71 rfl)) (by decide) (t := (.array .char)) (t' := .int) (by decide) (by decide))))
  have F144 : Exa Z h140 a "com/example/tally_rank/tallyrank/analysis/SuffixWord" := (Exa.wr W140 F139)
  have F145 : Arv Z h140 b_113 kb_113 .char (0 : Int32) [] (.int (0 : Int32)) := (Arv.other (Arv.other P115 W125 (Ne.symm ne119)) W140 (Ne.symm ne119))
  show own_swi0Q Z _ _ _ _ _ h0 n0 _ T140.heap _
  rw [e140]
  exact ⟨b_113, kb_113, rfl, N140, K141, F144, F143, F142, F145, (Nat.le_trans K0.1 P116)⟩
theorem d12_10 : decode jdk_43_method_49_code 10 = .ok (.aload_n 2, 1) := by decide +kernel
theorem d12_11 : decode jdk_43_method_49_code 11 = .ok (.iload_n 3, 1) := by decide +kernel
theorem d12_12 : decode jdk_43_method_49_code 12 = .ok (.iinc 3 1, 3) := by decide +kernel
theorem d12_15 : decode jdk_43_method_49_code 15 = .ok (.aload_n 0, 1) := by decide +kernel
theorem d12_16 : decode jdk_43_method_49_code 16 = .ok (.iload_n 1, 1) := by decide +kernel
theorem d12_17 : decode jdk_43_method_49_code 17 = .ok (.iinc 1 1, 3) := by decide +kernel
theorem d12_20 : decode jdk_43_method_49_code 20 = .ok (.baload, 1) := by decide +kernel
theorem d12_21 : decode jdk_43_method_49_code 21 = .ok (.sipush 255, 3) := by decide +kernel
theorem d12_24 : decode jdk_43_method_49_code 24 = .ok (.iand, 1) := by decide +kernel
theorem d12_25 : decode jdk_43_method_49_code 25 = .ok (.i2c, 1) := by decide +kernel
theorem d12_26 : decode jdk_43_method_49_code 26 = .ok (.castore, 1) := by decide +kernel
theorem d12_27 : decode jdk_43_method_49_code 27 = .ok (.iinc 5 1, 3) := by decide +kernel
theorem d12_30 : decode jdk_43_method_49_code 30 = .ok (.goto (-27), 3) := by decide +kernel
def own_inf1Q (Z : State) (x0 : Addr) (d0 : Addr) (kx : ClassId) (kd : ClassId) (y0 : Int32) (h0 : Heap) (n0 : Nat) (v : Option Value) (h : Heap) (L : List Loc) : Prop := v = none ∧ Fr n0 L ∧ Keep h0 h [d0] ∧ (Arv Z h d0 kd .char (1 : Int32) [(.int y0)] (.int (0 : Int32)))
abbrev own_inf1R : Room := { frames := 0, cells := 0, slots := 0, locals := 0 }
set_option maxRecDepth 65536 in
set_option maxHeartbeats 40000000 in
theorem own_inf1 (l : Launch) (Z : State) (a0 : Array Value) (hw : ∀ d ∈ tables_1, d.before a0 Z = true) (ws : List Jvm.Cond) (x0 : Addr) (d0 : Addr) (kx : ClassId) (kd : ClassId) (y0 : Int32) (h0 : Heap) (n0 : Nat) (Z0 : n0 ≤ h0.size) (pr1 : Arv Z h0 x0 kx .byte (1 : Int32) [(.int y0.toInt8.toInt32)] (.int (0 : Int32))) (pr2 : Arv Z h0 d0 kd .char (1 : Int32) [(.int (0 : Int32))] (.int (0 : Int32))) (pr3 : n0 ≤ d0) (pr4 : x0 ≠ d0) (pr5 : ¬ y0 < 0 ∧ ¬ (255 : Int32) < y0) :
    own_M l (⟨"java/lang/StringLatin1", "inflate", "([BI[CII)V"⟩ : MethodName) jdk_43_method_49_code 6 none ws own_inf1R #[(.ref x0), (.int (0 : Int32)), (.ref d0), (.int (0 : Int32)), (.int (1 : Int32))] Z h0 (own_inf1Q Z x0 d0 kx kd y0 h0 n0) := by
  refine own_go (plainFor_of_name own_pn3) (fun m => own_ef6 m x0 (0 : Int32) d0 (0 : Int32) (1 : Int32) ) ?_
  intro p e s m below meth c s₁ Bd hx hby hml hZ hh hown hnm X0 e0
  have N0 := Fr.nil n0
  have K0 : Keep h0 h0 [d0] := Keep.refl h0 _
  refine own_st (T' := s₁) (g' := (mkF m 20 #[.val (.ref x0), .val (.int (1 : Int32)), .val (.ref d0), .val (.int (1 : Int32)), .val (.int (1 : Int32)), .val (.int (0 : Int32))] [(.int (0 : Int32)), (.ref x0), (.int (0 : Int32)), (.ref d0)])) (fun _ kt => XS.iconst X0.here hx rfl (hb hby d12_0) (XS.istore X0.here hx rfl (hb hby d12_1) rfl (l' := #[.val (.ref x0), .val (.int (0 : Int32)), .val (.ref d0), .val (.int (0 : Int32)), .val (.int (1 : Int32)), .val (.int (0 : Int32))]) rfl (XS.iload X0.here hx rfl (hb hby d12_3) rfl (XS.iload X0.here hx rfl (hb hby d12_5) rfl (XS.icmpNo X0.here hx rfl (hb hby d12_7) rfl (XT.ii_ge_f (by decide)) (XS.aloadN X0.here hx rfl (hb hby d12_10) rfl rfl (XS.iloadN X0.here hx rfl (hb hby d12_11) rfl (XS.iinc X0.here hx rfl (hb hby d12_12) rfl (l' := #[.val (.ref x0), .val (.int (0 : Int32)), .val (.ref d0), .val (.int (1 : Int32)), .val (.int (1 : Int32)), .val (.int (0 : Int32))]) rfl (XS.aloadN X0.here hx rfl (hb hby d12_15) rfl rfl (XS.iloadN X0.here hx rfl (hb hby d12_16) rfl (XS.iinc X0.here hx rfl (hb hby d12_17) rfl (l' := #[.val (.ref x0), .val (.int (1 : Int32)), .val (.ref d0), .val (.int (1 : Int32)), .val (.int (1 : Int32)), .val (.int (0 : Int32))]) rfl kt))))))))))) ?_
  refine own_st (T' := s₁) (g' := (mkF m 21 #[.val (.ref x0), .val (.int (1 : Int32)), .val (.ref d0), .val (.int (1 : Int32)), .val (.int (1 : Int32)), .val (.int (0 : Int32))] [(.int y0.toInt8.toInt32), (.int (0 : Int32)), (.ref d0)])) (own_bal X0 hx hZ e0 pr1 ⟨by decide, by decide⟩ rfl (g := (mkF m 20 #[.val (.ref x0), .val (.int (1 : Int32)), .val (.ref d0), .val (.int (1 : Int32)), .val (.int (1 : Int32)), .val (.int (0 : Int32))] [(.int (0 : Int32)), (.ref x0), (.int (0 : Int32)), (.ref d0)])) rfl rfl (hb hby d12_20)) ?_
  refine own_st (T' := s₁) (g' := (mkF m 26 #[.val (.ref x0), .val (.int (1 : Int32)), .val (.ref d0), .val (.int (1 : Int32)), .val (.int (1 : Int32)), .val (.int (0 : Int32))] [(.int ((y0.toInt8.toInt32 &&& (255 : Int32)).toUInt32.toUInt16.toUInt32.toInt32)), (.int (0 : Int32)), (.ref d0)])) (fun _ kt => XS.sipush X0.here hx rfl (hb hby d12_21) (XS.iand X0.here hx rfl (hb hby d12_24) rfl (XT.i2c X0.here hx rfl (hb hby d12_25) rfl kt))) ?_
  obtain ⟨T146, h146, X146, e146, W146, V146, st146⟩ := own_cst X0 hx hZ e0 pr2 ⟨by decide, by decide⟩ (i := 0) rfl (by simp) (y := y0) (own_back8 pr5) (g := (mkF m 26 #[.val (.ref x0), .val (.int (1 : Int32)), .val (.ref d0), .val (.int (1 : Int32)), .val (.int (1 : Int32)), .val (.int (0 : Int32))] [(.int ((y0.toInt8.toInt32 &&& (255 : Int32)).toUInt32.toUInt16.toUInt32.toInt32)), (.int (0 : Int32)), (.ref d0)])) rfl rfl (hb hby d12_26)
  have N146 := Fr.snoc X146 N0 pr3
  have Z147 : n0 ≤ h146.size := Nat.le_trans Z0 (Nat.le_of_eq (Wr.size W146).symm)
  have K147 : Keep h0 h146 [d0] := (Keep.wr K0 W146 (Or.inl (List.mem_of_getElem? (i := 0) rfl)))
  have F148 : Arv Z h146 d0 kd .char (1 : Int32) [(.int y0)] (.int (0 : Int32)) := V146
  refine own_st (T' := T146) (g' := (mkF m 27 #[.val (.ref x0), .val (.int (1 : Int32)), .val (.ref d0), .val (.int (1 : Int32)), .val (.int (1 : Int32)), .val (.int (0 : Int32))] [])) st146 ?_
  refine own_st (T' := T146) (g' := (mkF m 33 #[.val (.ref x0), .val (.int (1 : Int32)), .val (.ref d0), .val (.int (1 : Int32)), .val (.int (1 : Int32)), .val (.int (1 : Int32))] [])) (fun _ kt => XS.iinc X146.here hx rfl (hb hby d12_27) rfl (l' := #[.val (.ref x0), .val (.int (1 : Int32)), .val (.ref d0), .val (.int (1 : Int32)), .val (.int (1 : Int32)), .val (.int (1 : Int32))]) rfl (XS.goto X146.here hx rfl (pc0 := 30) (pc' := 3) rfl (hb hby d12_30) (by decide) (by decide) (XS.iload X146.here hx rfl (hb hby d12_3) rfl (XS.iload X146.here hx rfl (hb hby d12_5) rfl (XS.icmpYes X146.here hx rfl (pc0 := 7) (pc' := 33) rfl (hb hby d12_7) rfl (XT.ii_ge_t (by decide)) (by decide) (by decide) kt))))) ?_
  obtain ⟨fs, hr, hrun, hended, hW, hsame⟩ := X146.leave (v := none) (fun _ => rfl)
  refine own_end (X146.returnOut hx Bd.returns (hb hby d12_33) hr) ⟨_, hrun, hended, _, _, rfl, ?_, ⟨_, rfl⟩, hW, hsame.mono (by decide) (by decide)⟩
  show own_inf1Q Z _ _ _ _ _ h0 n0 _ T146.heap _
  rw [e146]
  exact ⟨rfl, N146, K147, F148⟩
def own_tch1Q (Z : State) (x0 : Addr) (kx : ClassId) (y0 : Int32) (h0 : Heap) (n0 : Nat) (v : Option Value) (h : Heap) (L : List Loc) : Prop := ∃ (b : Addr), ∃ (kb : ClassId), v = some (.ref b) ∧ Fr n0 L ∧ Keep h0 h [] ∧ (Arv Z h b kb .char (1 : Int32) [(.int y0)] (.int (0 : Int32))) ∧ (h0.size ≤ b)
abbrev own_tch1R : Room := { frames := 1, cells := 1, slots := 1, locals := 17 }
set_option maxRecDepth 65536 in
set_option maxHeartbeats 40000000 in
theorem own_tch1 (l : Launch) (Z : State) (a0 : Array Value) (hw : ∀ d ∈ tables_1, d.before a0 Z = true) (ws : List Jvm.Cond) (x0 : Addr) (kx : ClassId) (y0 : Int32) (h0 : Heap) (n0 : Nat) (Z0 : n0 ≤ h0.size) (pr1 : Arv Z h0 x0 kx .byte (1 : Int32) [(.int y0.toInt8.toInt32)] (.int (0 : Int32))) (pr2 : ¬ y0 < 0 ∧ ¬ (255 : Int32) < y0) :
    own_M l (⟨"java/lang/StringLatin1", "toChars", "([B)[C"⟩ : MethodName) jdk_43_method_9_code 2 (some (.array .char)) ws own_tch1R #[(.ref x0)] Z h0 (own_tch1Q Z x0 kx y0 h0 n0) := by
  refine own_go (plainFor_of_name own_pn3) (fun m => own_ef7 m x0 ) ?_
  intro p e s m below meth c s₁ Bd hx hby hml hZ hh hown hnm X0 e0
  have N0 := Fr.nil n0
  have K0 : Keep h0 h0 [] := Keep.refl h0 _
  refine own_st (T' := s₁) (g' := (mkF m 1 #[.val (.ref x0), .unset] [(.ref x0)])) (fun _ kt => XS.aloadN X0.here hx rfl (hb hby d11_0) rfl rfl kt) ?_
  refine own_st (T' := s₁) (g' := (mkF m 2 #[.val (.ref x0), .unset] [(.int (1 : Int32))])) (own_alen X0 hx hZ e0 pr1 (g := (mkF m 1 #[.val (.ref x0), .unset] [(.ref x0)])) rfl rfl (hb hby d11_1)) ?_
  obtain ⟨T149, h149, k149, X149, e149, E149, A149, st149⟩ := newP X0 hx hZ (aty := .char) (own_k hw 0 rfl) e0 (g := (mkF m 2 #[.val (.ref x0), .unset] [(.int (1 : Int32))])) rfl (hb hby d11_2) rfl (by decide) (cap := 1) (by decide) (by decide) (by decide) (by decide)
  obtain ⟨b149, g149⟩ : ∃ z, z = h0.size := ⟨_, rfl⟩
  rw [← g149] at A149 st149
  have ne150 : x0 ≠ b149 := by rw [g149]; exact Nat.ne_of_lt pr1.lt
  have Z151 : n0 ≤ h149.size := Nat.le_trans Z0 E149.1
  have K151 : Keep h0 h149 [] := (Keep.ext K0 E149)
  have ge_b149 : n0 ≤ b149 := Nat.le_trans Z0 (Nat.le_of_eq g149.symm)
  have F152 : Arv Z h149 b149 k149 .char (1 : Int32) [(.int (0 : Int32))] (.int (0 : Int32)) := (Arv.new A149 (by decide)).pad (pad_rep [] (.int (0 : Int32)) 1)
  refine own_st (T' := T149) (g' := (mkF m 4 #[.val (.ref x0), .unset] [(.ref b149)])) st149 ?_
  refine own_st (T' := T149) (g' := (mkF m 10 #[.val (.ref x0), .val (.ref b149)] [(.ref x0), (.int (0 : Int32)), (.ref b149), (.int (0 : Int32)), (.ref x0)])) (fun _ kt => XS.astoreN X149.here hx rfl (hb hby d11_4) rfl rfl (l' := #[.val (.ref x0), .val (.ref b149)]) rfl (XS.aloadN X149.here hx rfl (hb hby d11_5) rfl rfl (XS.iconst X149.here hx rfl (hb hby d11_6) (XS.aloadN X149.here hx rfl (hb hby d11_7) rfl rfl (XS.iconst X149.here hx rfl (hb hby d11_8) (XS.aloadN X149.here hx rfl (hb hby d11_9) rfl rfl kt)))))) ?_
  have F153 : Arv Z h149 x0 kx .byte (1 : Int32) [(.int y0.toInt8.toInt32)] (.int (0 : Int32)) := (pr1.ext E149)
  refine own_st (T' := T149) (g' := (mkF m 11 #[.val (.ref x0), .val (.ref b149)] [(.int (1 : Int32)), (.int (0 : Int32)), (.ref b149), (.int (0 : Int32)), (.ref x0)])) (own_alen X149 hx hZ e149 F153 (g := (mkF m 10 #[.val (.ref x0), .val (.ref b149)] [(.ref x0), (.int (0 : Int32)), (.ref b149), (.int (0 : Int32)), (.ref x0)])) rfl rfl (hb hby d11_10)) ?_
  obtain ⟨_, _, ⟨T154, L154, k154, n154⟩, -, X154, ⟨Lc154, hQ154, l154, y154, z154⟩, st154⟩ := Jvm.LawKit.callS X149 hx (y := (⟨"java/lang/StringLatin1", "inflate", "([BI[CII)V"⟩ : MethodName)) hown (mvT hZ (own_k hw 55 rfl)) (mvT hZ (own_k hw 56 rfl)) (mvT hZ (own_k hw 53 rfl)) (mvT hZ (own_k hw 57 rfl)) (by decide) (backOf (W := 0) (own_inf1 l Z a0 hw [] x0 b149 kx k149 y0 h149 n0 Z151 F153 F152 ge_b149 ne150 pr2) hZ (own_k hw 57 rfl) (own_k hw 53 rfl) (by decide) (by decide)) (g := (mkF m 11 #[.val (.ref x0), .val (.ref b149)] [(.int (1 : Int32)), (.int (0 : Int32)), (.ref b149), (.int (0 : Int32)), (.ref x0)])) rfl hml.symm  (argsL := [(.ref x0), (.int (0 : Int32)), (.ref b149), (.int (0 : Int32)), (.int (1 : Int32))]) (rest := []) (lenOf own_pd3 rfl) rfl (by show 2 * 0 + _ ≤ _; exact Nat.le_of_eq rfl) (hb hby d11_11) (fun _ _ => ⟨rfl, e149, (by decide : 1 + 0 ≤ 1), (by decide : 1 + 0 ≤ 1)⟩)
  dsimp only [Pt.U, Pt.locs, Pt.cells, Pt.slots] at X154 l154 y154 z154 st154 hQ154
  subst l154 y154 z154
  obtain ⟨rfl, N154, K154_, P155⟩ := hQ154
  have N156 := Fr.app N0 N154
  have Z157 : n0 ≤ T154.heap.size := Nat.le_trans Z151 K154_.1
  have K157 : Keep h0 T154.heap [] := (Keep.trans K151 K154_ (allS (Or.inr (Nat.le_trans K0.1 (Nat.le_of_eq g149.symm))) all0))
  refine own_st (T' := T154) (g' := (mkF m 14 #[.val (.ref x0), .val (.ref b149)] [])) st154 ?_
  refine own_st (T' := T154) (g' := (mkF m 15 #[.val (.ref x0), .val (.ref b149)] [(.ref b149)])) (fun _ kt => XS.aloadN X154.here hx rfl (hb hby d11_14) rfl rfl kt) ?_
  obtain ⟨fs, hr, hrun, hended, hW, hsame⟩ := X154.leave (v := some (.ref b149)) (fun h => by rw [Bd.returns] at h; cases h)
  refine own_end (own_retA X154 hx Bd.returns rfl rfl rfl (hb hby d11_15) hr) ⟨_, hrun, hended, _, _, rfl, ?_, ⟨_, rfl⟩, hW, hsame.mono (by decide) (by decide)⟩
  show own_tch1Q Z _ _ _ h0 n0 _ T154.heap _
  show own_tch1Q Z _ _ _ h0 n0 _ T154.heap _
  exact ⟨b149, k149, rfl, N156, K157, P155, (Nat.le_trans K0.1 (Nat.le_of_eq g149.symm))⟩
def own_tca1Q (Z : State) (x0 : Addr) (zc : Int32) (t : Addr) (kx : ClassId) (y0 : Int32) (h0 : Heap) (n0 : Nat) (v : Option Value) (h : Heap) (L : List Loc) : Prop := ∃ (b : Addr), ∃ (kb : ClassId), v = some (.ref b) ∧ Fr n0 L ∧ Keep h0 h [] ∧ (Arv Z h b kb .char (1 : Int32) [(.int y0)] (.int (0 : Int32))) ∧ (h0.size ≤ b)
abbrev own_tca1R : Room := { frames := 2, cells := 1, slots := 1, locals := 30 }
set_option maxRecDepth 65536 in
set_option maxHeartbeats 40000000 in
theorem own_tca1 (l : Launch) (Z : State) (a0 : Array Value) (hw : ∀ d ∈ tables_1, d.before a0 Z = true) (ws : List Jvm.Cond) (x0 : Addr) (zc : Int32) (t : Addr) (kx : ClassId) (y0 : Int32) (h0 : Heap) (n0 : Nat) (Z0 : n0 ≤ h0.size) (pr1 : Old Z n0 h0) (pr2 : Sta Z Z.heap "java/lang/String" "COMPACT_STRINGS" "Z" (.int zc)) (pr3 : ¬ zc = 0) (pr4 : Exa Z h0 x0 "java/lang/String") (pr5 : Fld Z h0 x0 "java/lang/String" "coder" "B" (.int (0 : Int32))) (pr6 : Fld Z h0 x0 "java/lang/String" "value" "[B" (.ref t)) (pr7 : Arv Z h0 t kx .byte (1 : Int32) [(.int y0.toInt8.toInt32)] (.int (0 : Int32))) (pr8 : ¬ y0 < 0 ∧ ¬ (255 : Int32) < y0) :
    own_M l (⟨"java/lang/String", "toCharArray", "()[C"⟩ : MethodName) jdk_42_method_129_code 1 (some (.array .char)) ws own_tca1R #[(.ref x0)] Z h0 (own_tca1Q Z x0 zc t kx y0 h0 n0) := by
  refine own_go (plainFor_of_name own_pn1) (fun m => own_ef3 m x0 ) ?_
  intro p e s m below meth c s₁ Bd hx hby hml hZ hh hown hnm X0 e0
  have N0 := Fr.nil n0
  have K0 : Keep h0 h0 [] := Keep.refl h0 _
  refine own_st (T' := s₁) (g' := (mkF m 1 #[.val (.ref x0)] [(.ref x0)])) (fun _ kt => XS.aloadN X0.here hx rfl (hb hby d9_0) rfl rfl kt) ?_
  obtain ⟨cq159, kq159, qa159, qb159, qc159⟩ := isOf hZ e0 pr4
  obtain ⟨_, _, ⟨T158, L158, k158, n158⟩, -, X158, ⟨Lc158, hQ158, l158, y158, z158⟩, st158⟩ := X0.virtualBack hx (y := (⟨"java/lang/String", "isLatin1", "()Z"⟩ : MethodName)) (z := (⟨"java/lang/String", "isLatin1", "()Z"⟩ : MethodName)) hown (mvT hZ (own_k hw 46 rfl)) (mvT hZ (own_k hw 47 rfl)) (notFace_of_selects (args := #[]) (mvT hZ (own_k hw 49 rfl))) (mvT hZ (own_k hw 49 rfl)) (mvT hZ (own_k hw 48 rfl)) (by decide) (backOf (W := 0) (own_r10 l Z a0 hw [] x0 zc h0 n0 Z0 pr1 pr2 pr3 pr5) hZ (own_k hw 50 rfl) (own_k hw 7 rfl) (by decide) (by decide)) qa159 qc159 (g := (mkF m 1 #[.val (.ref x0)] [(.ref x0)])) rfl hml.symm (Steps.refl _) (argsL := []) (rest := []) (lenOf own_pd4 rfl) rfl (by show 2 * 0 + _ ≤ _; exact Nat.le_of_eq rfl) (hb hby d9_1) (fun _ _ => ⟨rfl, e0, (by decide : 0 + 0 ≤ 1), (by decide : 0 + 0 ≤ 1)⟩)
  dsimp only [Pt.U, Pt.locs, Pt.cells, Pt.slots] at X158 l158 y158 z158 st158 hQ158
  subst l158 y158 z158
  obtain ⟨rfl, N158, e158⟩ := hQ158
  have N160 := Fr.app N0 N158
  refine own_tr (T' := T158) (g' := (mkF m 4 #[.val (.ref x0)] [(.int (1 : Int32))])) st158 ?_
  refine own_st (T' := T158) (g' := (mkF m 8 #[.val (.ref x0)] [(.ref x0)])) (fun _ kt => XS.ifNo X158.here hx rfl (hb hby d9_4) rfl (XT.i0_eq_f (by decide)) (XS.aloadN X158.here hx rfl (hb hby d9_7) rfl rfl kt)) ?_
  obtain ⟨T161, X161, e161, st161⟩ := getF X158 hx hZ hown (host := "") (Or.inl (own_k hw 32 rfl)) Via.refl e158 pr6 (g := (mkF m 8 #[.val (.ref x0)] [(.ref x0)])) rfl rfl (hb hby d9_8)
  refine own_st (T' := T161) (g' := (mkF m 11 #[.val (.ref x0)] [(.ref t)])) st161 ?_
  obtain ⟨_, _, ⟨T162, L162, k162, n162⟩, -, X162, ⟨Lc162, hQ162, l162, y162, z162⟩, st162⟩ := Jvm.LawKit.callS X161 hx (y := (⟨"java/lang/StringLatin1", "toChars", "([B)[C"⟩ : MethodName)) hown (mvT hZ (own_k hw 51 rfl)) (mvT hZ (own_k hw 52 rfl)) (mvT hZ (own_k hw 53 rfl)) (mvT hZ (own_k hw 54 rfl)) (by decide) (backOf (W := 0) (own_tch1 l Z a0 hw [] t kx y0 h0 n0 Z0 pr7 pr8) hZ (own_k hw 54 rfl) (own_k hw 53 rfl) (by decide) (by decide)) (g := (mkF m 11 #[.val (.ref x0)] [(.ref t)])) rfl hml.symm  (argsL := [(.ref t)]) (rest := []) (lenOf own_pd5 rfl) rfl (by show 2 * 0 + _ ≤ _; exact Nat.le_of_eq rfl) (hb hby d9_11) (fun _ _ => ⟨rfl, e161, (by decide : 0 + 1 ≤ 1), (by decide : 0 + 1 ≤ 1)⟩)
  dsimp only [Pt.U, Pt.locs, Pt.cells, Pt.slots] at X162 l162 y162 z162 st162 hQ162
  subst l162 y162 z162
  obtain ⟨b_162, kb_162, rfl, N162, K162_, P163, P164⟩ := hQ162
  have N165 := Fr.app N160 N162
  have Z166 : n0 ≤ T162.heap.size := Nat.le_trans Z0 K162_.1
  have K166 : Keep h0 T162.heap [] := (Keep.trans K0 K162_ all0)
  have ne167 : x0 ≠ b_162 := Nat.ne_of_lt (Nat.lt_of_lt_of_le pr4.lt P164)
  have ne168 : t ≠ b_162 := Nat.ne_of_lt (Nat.lt_of_lt_of_le pr7.lt P164)
  have ge169 : n0 ≤ b_162 := Nat.le_trans Z0 P164
  refine own_st (T' := T162) (g' := (mkF m 14 #[.val (.ref x0)] [(.ref b_162)])) st162 ?_
  refine own_st (T' := T162) (g' := (mkF m 24 #[.val (.ref x0)] [(.ref b_162)])) (fun _ kt => XS.goto X162.here hx rfl (pc0 := 14) (pc' := 24) rfl (hb hby d9_14) (by decide) (by decide) kt) ?_
  obtain ⟨fs, hr, hrun, hended, hW, hsame⟩ := X162.leave (v := some (.ref b_162)) (fun h => by rw [Bd.returns] at h; cases h)
  refine own_end (own_retA X162 hx Bd.returns rfl rfl rfl (hb hby d9_24) hr) ⟨_, hrun, hended, _, _, rfl, ?_, ⟨_, rfl⟩, hW, hsame.mono (by decide) (by decide)⟩
  show own_tca1Q Z _ _ _ _ _ h0 n0 _ T162.heap _
  show own_tca1Q Z _ _ _ _ _ h0 n0 _ T162.heap _
  exact ⟨b_162, kb_162, rfl, N165, K166, P163, (Nat.le_trans K0.1 P164)⟩
def own_swi1Q (Z : State) (a : Addr) (x0 : Addr) (zc : Int32) (t : Addr) (kx : ClassId) (y0 : Int32) (h0 : Heap) (n0 : Nat) (v : Option Value) (h : Heap) (L : List Loc) : Prop := ∃ (b : Addr), ∃ (kb : ClassId), v = none ∧ Fr n0 L ∧ Keep h0 h [a] ∧ (Exa Z h a "com/example/tally_rank/tallyrank/analysis/SuffixWord") ∧ (Fld Z h a "com/example/tally_rank/tallyrank/analysis/SuffixWord" "letters" "[C" (.ref b)) ∧ (Fld Z h a "com/example/tally_rank/tallyrank/analysis/SuffixWord" "length" "I" (.int (1 : Int32))) ∧ (Arv Z h b kb .char (1 : Int32) [(.int y0)] (.int (0 : Int32))) ∧ (h0.size ≤ b)
abbrev own_swi1R : Room := { frames := 3, cells := 1, slots := 1, locals := 43 }
set_option maxRecDepth 65536 in
set_option maxHeartbeats 40000000 in
theorem own_swi1 (l : Launch) (Z : State) (a0 : Array Value) (hw : ∀ d ∈ tables_1, d.before a0 Z = true) (ws : List Jvm.Cond) (a : Addr) (x0 : Addr) (zc : Int32) (t : Addr) (kx : ClassId) (y0 : Int32) (h0 : Heap) (n0 : Nat) (Z0 : n0 ≤ h0.size) (pr1 : Old Z n0 h0) (pr2 : Sta Z Z.heap "java/lang/String" "COMPACT_STRINGS" "Z" (.int zc)) (pr3 : ¬ zc = 0) (pr4 : Exa Z h0 a "com/example/tally_rank/tallyrank/analysis/SuffixWord") (pr5 : n0 ≤ a) (pr6 : Fld Z h0 a "com/example/tally_rank/tallyrank/analysis/SuffixWord" "letters" "[C" .null) (pr7 : Fld Z h0 a "com/example/tally_rank/tallyrank/analysis/SuffixWord" "length" "I" (.int (0 : Int32))) (pr8 : Exa Z h0 x0 "java/lang/String") (pr9 : Fld Z h0 x0 "java/lang/String" "coder" "B" (.int (0 : Int32))) (pr10 : Fld Z h0 x0 "java/lang/String" "value" "[B" (.ref t)) (pr11 : Arv Z h0 t kx .byte (1 : Int32) [(.int y0.toInt8.toInt32)] (.int (0 : Int32))) (pr12 : ¬ y0 < 0 ∧ ¬ (255 : Int32) < y0) :
    own_M l (⟨"com/example/tally_rank/tallyrank/analysis/SuffixWord", "<init>", "(Ljava/lang/String;)V"⟩ : MethodName) prog_22_method_1_code 2 none ws own_swi1R #[(.ref a), (.ref x0)] Z h0 (own_swi1Q Z a x0 zc t kx y0 h0 n0) := by
  refine own_go (plainFor_of_name own_pn4) (fun m => own_ef2 m a x0 ) ?_
  intro p e s m below meth c s₁ Bd hx hby hml hZ hh hown hnm X0 e0
  have N0 := Fr.nil n0
  have K0 : Keep h0 h0 [a] := Keep.refl h0 _
  refine own_st (T' := s₁) (g' := (mkF m 1 #[.val (.ref a), .val (.ref x0)] [(.ref a)])) (fun _ kt => XS.aloadN X0.here hx rfl (hb hby d8_0) rfl rfl kt) ?_
  obtain ⟨T170, X170, e170, st170⟩ := initO X0 hx hZ hown (own_k hw 40 rfl) (own_k hw 16 rfl) (own_k hw 17 rfl) e0 (g := (mkF m 1 #[.val (.ref a), .val (.ref x0)] [(.ref a)])) rfl hml.symm rfl (hb hby d8_1) (by decide) (W := 0) (by show 2 * 0 + _ ≤ _; exact Nat.le_of_eq rfl) (by decide)
  refine own_st (T' := T170) (g' := (mkF m 4 #[.val (.ref a), .val (.ref x0)] [])) st170 ?_
  refine own_st (T' := T170) (g' := (mkF m 6 #[.val (.ref a), .val (.ref x0)] [(.ref x0), (.ref a)])) (fun _ kt => XS.aloadN X170.here hx rfl (hb hby d8_4) rfl rfl (XS.aloadN X170.here hx rfl (hb hby d8_5) rfl rfl kt)) ?_
  obtain ⟨cq172, kq172, qa172, qb172, qc172⟩ := isOf hZ e170 pr8
  obtain ⟨_, _, ⟨T171, L171, k171, n171⟩, -, X171, ⟨Lc171, hQ171, l171, y171, z171⟩, st171⟩ := X170.virtualBack hx (y := (⟨"java/lang/String", "toCharArray", "()[C"⟩ : MethodName)) (z := (⟨"java/lang/String", "toCharArray", "()[C"⟩ : MethodName)) hown (mvT hZ (own_k hw 41 rfl)) (mvT hZ (own_k hw 42 rfl)) (notFace_of_selects (args := #[]) (mvT hZ (own_k hw 44 rfl))) (mvT hZ (own_k hw 44 rfl)) (mvT hZ (own_k hw 43 rfl)) (by decide) (backOf (W := 1) (own_tca1 l Z a0 hw [] x0 zc t kx y0 h0 n0 Z0 pr1 pr2 pr3 pr8 pr9 pr10 pr11 pr12) hZ (own_k hw 45 rfl) (own_k hw 7 rfl) (by decide) (by decide)) qa172 qc172 (g := (mkF m 6 #[.val (.ref a), .val (.ref x0)] [(.ref x0), (.ref a)])) rfl hml.symm (Steps.refl _) (argsL := []) (rest := [(.ref a)]) (lenOf own_pd6 rfl) rfl (by show 2 * 0 + _ ≤ _; exact Nat.le_of_eq rfl) (hb hby d8_6) (fun _ _ => ⟨rfl, e170, (by decide : 0 + 1 ≤ 1), (by decide : 0 + 1 ≤ 1)⟩)
  dsimp only [Pt.U, Pt.locs, Pt.cells, Pt.slots] at X171 l171 y171 z171 st171 hQ171
  subst l171 y171 z171
  obtain ⟨b_171, kb_171, rfl, N171, K171_, P173, P174⟩ := hQ171
  have N175 := Fr.app N0 N171
  have Z176 : n0 ≤ T171.heap.size := Nat.le_trans Z0 K171_.1
  have K176 : Keep h0 T171.heap [a] := (Keep.trans K0 K171_ all0)
  have ne177 : a ≠ b_171 := Nat.ne_of_lt (Nat.lt_of_lt_of_le pr4.lt P174)
  have ne178 : x0 ≠ b_171 := Nat.ne_of_lt (Nat.lt_of_lt_of_le pr8.lt P174)
  have ne179 : t ≠ b_171 := Nat.ne_of_lt (Nat.lt_of_lt_of_le pr11.lt P174)
  have ge180 : n0 ≤ b_171 := Nat.le_trans Z0 P174
  refine own_tr (T' := T171) (g' := (mkF m 9 #[.val (.ref a), .val (.ref x0)] [(.ref b_171), (.ref a)])) st171 ?_
  have F181 : Fld Z T171.heap a "com/example/tally_rank/tallyrank/analysis/SuffixWord" "letters" "[C" .null := (Fld.keep pr6 K171_ nin0)
  have F182 : Exa Z T171.heap a "com/example/tally_rank/tallyrank/analysis/SuffixWord" := (Exa.keep pr4 K171_)
  obtain ⟨T183, h183, X183, e183, W183, st183⟩ := putF X171 hx hZ hown (host := "") (Or.inl (own_k hw 58 rfl)) Via.refl rfl F181 F182 (Or.inr ⟨(own_k hw 59 rfl), rfl, hnm⟩) (own_k hw 35 rfl) (ty := (.array .char)) (by decide) rfl rfl (g := (mkF m 9 #[.val (.ref a), .val (.ref x0)] [(.ref b_171), (.ref a)])) rfl rfl (hb hby d8_9)
  have N183 := Fr.snoc X183 N175 pr5
  have Z184 : n0 ≤ h183.size := Nat.le_trans Z176 (Nat.le_of_eq (Wr.size W183).symm)
  have K184 : Keep h0 h183 [a] := (Keep.wr K176 W183 (Or.inl (List.mem_of_getElem? (i := 0) rfl)))
  have F185 : Fld Z h183 a "com/example/tally_rank/tallyrank/analysis/SuffixWord" "letters" "[C" (.ref b_171) := Fld.same W183 F181
  refine own_st (T' := T183) (g' := (mkF m 12 #[.val (.ref a), .val (.ref x0)] [])) st183 ?_
  refine own_st (T' := T183) (g' := (mkF m 14 #[.val (.ref a), .val (.ref x0)] [(.ref x0), (.ref a)])) (fun _ kt => XS.aloadN X183.here hx rfl (hb hby d8_12) rfl rfl (XS.aloadN X183.here hx rfl (hb hby d8_13) rfl rfl kt)) ?_
  have F186 : Exa Z h183 x0 "java/lang/String" := (Exa.wr W183 (Exa.keep pr8 K171_))
  have F187 : Old Z n0 h183 := (Old.wr (Old.keep pr1 K171_ all0) W183 pr5)
  have F188 : Exa Z T171.heap x0 "java/lang/String" := (Exa.keep pr8 K171_)
  have F189 : Fld Z h183 x0 "java/lang/String" "coder" "B" (.int (0 : Int32)) := (Fld.other W183 (Fld.keep pr9 K171_ nin0) (Or.inl (ne_exa F188 F182 (by decide))))
  have F190 : Exa Z T171.heap x0 "java/lang/String" := (Exa.keep pr8 K171_)
  have F191 : Fld Z h183 x0 "java/lang/String" "value" "[B" (.ref t) := (Fld.other W183 (Fld.keep pr10 K171_ nin0) (Or.inl (ne_exa F190 F182 (by decide))))
  have F192 : Arv Z h183 t kx .byte (1 : Int32) [(.int y0.toInt8.toInt32)] (.int (0 : Int32)) := (Arv.other (Arv.keep pr11 K171_ nin0) W183 (Ne.symm (Exa.neArv pr4 pr11 (own_k hw 35 rfl))))
  obtain ⟨cq194, kq194, qa194, qb194, qc194⟩ := isOf hZ e183 F186
  obtain ⟨_, _, ⟨T193, L193, k193, n193⟩, -, X193, ⟨Lc193, hQ193, l193, y193, z193⟩, st193⟩ := X183.virtualBack hx (y := (⟨"java/lang/String", "length", "()I"⟩ : MethodName)) (z := (⟨"java/lang/String", "length", "()I"⟩ : MethodName)) hown (mvT hZ (own_k hw 60 rfl)) (mvT hZ (own_k hw 61 rfl)) (notFace_of_selects (args := #[]) (mvT hZ (own_k hw 63 rfl))) (mvT hZ (own_k hw 63 rfl)) (mvT hZ (own_k hw 62 rfl)) (by decide) (backOf (W := 1) (own_len l Z a0 hw [] x0 zc t kx (1 : Int32) [(.int y0.toInt8.toInt32)] (.int (0 : Int32)) h183 n0 Z184 F187 pr2 pr3 F186 F189 F191 F192) hZ (own_k hw 64 rfl) (own_k hw 7 rfl) (by decide) (by decide)) qa194 qc194 (g := (mkF m 14 #[.val (.ref a), .val (.ref x0)] [(.ref x0), (.ref a)])) rfl hml.symm (Steps.refl _) (argsL := []) (rest := [(.ref a)]) (lenOf own_pd7 rfl) rfl (by show 2 * 0 + _ ≤ _; exact Nat.le_of_eq rfl) (hb hby d8_14) (fun _ _ => ⟨rfl, e183, (by decide : 1 + 0 ≤ 1), (by decide : 1 + 0 ≤ 1)⟩)
  dsimp only [Pt.U, Pt.locs, Pt.cells, Pt.slots] at X193 l193 y193 z193 st193 hQ193
  subst l193 y193 z193
  obtain ⟨rfl, N193, e193⟩ := hQ193
  have N195 := Fr.app N183 N193
  refine own_tr (T' := T193) (g' := (mkF m 17 #[.val (.ref a), .val (.ref x0)] [(.int (1 : Int32)), (.ref a)])) st193 ?_
  have F196 : Fld Z h183 a "com/example/tally_rank/tallyrank/analysis/SuffixWord" "length" "I" (.int (0 : Int32)) := (Fld.other W183 (Fld.keep pr7 K171_ nin0) (Or.inr (slot_ne (Or.inl (own_k hw 71 rfl)) (Or.inr (own_k hw 59 rfl)) (by decide) (t := .int) (t' := (.array .char)) (by decide) (by decide))))
  have F197 : Exa Z h183 a "com/example/tally_rank/tallyrank/analysis/SuffixWord" := (Exa.wr W183 F182)
  obtain ⟨T198, h198, X198, e198, W198, st198⟩ := putF X193 hx hZ hown (host := "") (Or.inl (own_k hw 70 rfl)) Via.refl e193 F196 F197 (Or.inl (own_k hw 71 rfl)) (own_k hw 35 rfl) (ty := .int) (by decide) rfl rfl (g := (mkF m 17 #[.val (.ref a), .val (.ref x0)] [(.int (1 : Int32)), (.ref a)])) rfl rfl (hb hby d8_17)
  have N198 := Fr.snoc X198 N195 pr5
  have Z199 : n0 ≤ h198.size := Nat.le_trans Z184 (Nat.le_of_eq (Wr.size W198).symm)
  have K199 : Keep h0 h198 [a] := (Keep.wr K184 W198 (Or.inl (List.mem_of_getElem? (i := 0) rfl)))
  have F200 : Fld Z h198 a "com/example/tally_rank/tallyrank/analysis/SuffixWord" "length" "I" (.int (1 : Int32)) := Fld.same W198 F196
  refine own_st (T' := T198) (g' := (mkF m 20 #[.val (.ref a), .val (.ref x0)] [])) st198 ?_
  obtain ⟨fs, hr, hrun, hended, hW, hsame⟩ := X198.leave (v := none) (fun _ => rfl)
  refine own_end (X198.returnOut hx Bd.returns (hb hby d8_20) hr) ⟨_, hrun, hended, _, _, rfl, ?_, ⟨_, rfl⟩, hW, hsame.mono (by decide) (by decide)⟩
  have F201 : Fld Z h198 a "com/example/tally_rank/tallyrank/analysis/SuffixWord" "letters" "[C" (.ref b_171) := (Fld.other W198 F185 (Or.inr (slot_ne (Or.inr (own_k hw 59 rfl)) (Or.inl (own_k hw 71 rfl)) (by decide) (t := (.array .char)) (t' := .int) (by decide) (by decide))))
  have F202 : Exa Z h198 a "com/example/tally_rank/tallyrank/analysis/SuffixWord" := (Exa.wr W198 F197)
  have F203 : Arv Z h198 b_171 kb_171 .char (1 : Int32) [(.int y0)] (.int (0 : Int32)) := (Arv.other (Arv.other P173 W183 (Ne.symm ne177)) W198 (Ne.symm ne177))
  show own_swi1Q Z _ _ _ _ _ _ h0 n0 _ T198.heap _
  rw [e198]
  exact ⟨b_171, kb_171, rfl, N198, K199, F202, F201, F200, F203, (Nat.le_trans K0.1 P174)⟩
def own_inf2Q (Z : State) (x0 : Addr) (d0 : Addr) (kx : ClassId) (kd : ClassId) (y0 : Int32) (y1 : Int32) (h0 : Heap) (n0 : Nat) (v : Option Value) (h : Heap) (L : List Loc) : Prop := v = none ∧ Fr n0 L ∧ Keep h0 h [d0] ∧ (Arv Z h d0 kd .char (2 : Int32) [(.int y0), (.int y1)] (.int (0 : Int32)))
abbrev own_inf2R : Room := { frames := 0, cells := 0, slots := 0, locals := 0 }
set_option maxRecDepth 65536 in
set_option maxHeartbeats 40000000 in
theorem own_inf2 (l : Launch) (Z : State) (a0 : Array Value) (hw : ∀ d ∈ tables_1, d.before a0 Z = true) (ws : List Jvm.Cond) (x0 : Addr) (d0 : Addr) (kx : ClassId) (kd : ClassId) (y0 : Int32) (y1 : Int32) (h0 : Heap) (n0 : Nat) (Z0 : n0 ≤ h0.size) (pr1 : Arv Z h0 x0 kx .byte (2 : Int32) [(.int y0.toInt8.toInt32), (.int y1.toInt8.toInt32)] (.int (0 : Int32))) (pr2 : Arv Z h0 d0 kd .char (2 : Int32) [(.int (0 : Int32)), (.int (0 : Int32))] (.int (0 : Int32))) (pr3 : n0 ≤ d0) (pr4 : x0 ≠ d0) (pr5 : ¬ y0 < 0 ∧ ¬ (255 : Int32) < y0) (pr6 : ¬ y1 < 0 ∧ ¬ (255 : Int32) < y1) :
    own_M l (⟨"java/lang/StringLatin1", "inflate", "([BI[CII)V"⟩ : MethodName) jdk_43_method_49_code 6 none ws own_inf2R #[(.ref x0), (.int (0 : Int32)), (.ref d0), (.int (0 : Int32)), (.int (2 : Int32))] Z h0 (own_inf2Q Z x0 d0 kx kd y0 y1 h0 n0) := by
  refine own_go (plainFor_of_name own_pn3) (fun m => own_ef6 m x0 (0 : Int32) d0 (0 : Int32) (2 : Int32) ) ?_
  intro p e s m below meth c s₁ Bd hx hby hml hZ hh hown hnm X0 e0
  have N0 := Fr.nil n0
  have K0 : Keep h0 h0 [d0] := Keep.refl h0 _
  refine own_st (T' := s₁) (g' := (mkF m 20 #[.val (.ref x0), .val (.int (1 : Int32)), .val (.ref d0), .val (.int (1 : Int32)), .val (.int (2 : Int32)), .val (.int (0 : Int32))] [(.int (0 : Int32)), (.ref x0), (.int (0 : Int32)), (.ref d0)])) (fun _ kt => XS.iconst X0.here hx rfl (hb hby d12_0) (XS.istore X0.here hx rfl (hb hby d12_1) rfl (l' := #[.val (.ref x0), .val (.int (0 : Int32)), .val (.ref d0), .val (.int (0 : Int32)), .val (.int (2 : Int32)), .val (.int (0 : Int32))]) rfl (XS.iload X0.here hx rfl (hb hby d12_3) rfl (XS.iload X0.here hx rfl (hb hby d12_5) rfl (XS.icmpNo X0.here hx rfl (hb hby d12_7) rfl (XT.ii_ge_f (by decide)) (XS.aloadN X0.here hx rfl (hb hby d12_10) rfl rfl (XS.iloadN X0.here hx rfl (hb hby d12_11) rfl (XS.iinc X0.here hx rfl (hb hby d12_12) rfl (l' := #[.val (.ref x0), .val (.int (0 : Int32)), .val (.ref d0), .val (.int (1 : Int32)), .val (.int (2 : Int32)), .val (.int (0 : Int32))]) rfl (XS.aloadN X0.here hx rfl (hb hby d12_15) rfl rfl (XS.iloadN X0.here hx rfl (hb hby d12_16) rfl (XS.iinc X0.here hx rfl (hb hby d12_17) rfl (l' := #[.val (.ref x0), .val (.int (1 : Int32)), .val (.ref d0), .val (.int (1 : Int32)), .val (.int (2 : Int32)), .val (.int (0 : Int32))]) rfl kt))))))))))) ?_
  refine own_st (T' := s₁) (g' := (mkF m 21 #[.val (.ref x0), .val (.int (1 : Int32)), .val (.ref d0), .val (.int (1 : Int32)), .val (.int (2 : Int32)), .val (.int (0 : Int32))] [(.int y0.toInt8.toInt32), (.int (0 : Int32)), (.ref d0)])) (own_bal X0 hx hZ e0 pr1 ⟨by decide, by decide⟩ rfl (g := (mkF m 20 #[.val (.ref x0), .val (.int (1 : Int32)), .val (.ref d0), .val (.int (1 : Int32)), .val (.int (2 : Int32)), .val (.int (0 : Int32))] [(.int (0 : Int32)), (.ref x0), (.int (0 : Int32)), (.ref d0)])) rfl rfl (hb hby d12_20)) ?_
  refine own_st (T' := s₁) (g' := (mkF m 26 #[.val (.ref x0), .val (.int (1 : Int32)), .val (.ref d0), .val (.int (1 : Int32)), .val (.int (2 : Int32)), .val (.int (0 : Int32))] [(.int ((y0.toInt8.toInt32 &&& (255 : Int32)).toUInt32.toUInt16.toUInt32.toInt32)), (.int (0 : Int32)), (.ref d0)])) (fun _ kt => XS.sipush X0.here hx rfl (hb hby d12_21) (XS.iand X0.here hx rfl (hb hby d12_24) rfl (XT.i2c X0.here hx rfl (hb hby d12_25) rfl kt))) ?_
  obtain ⟨T204, h204, X204, e204, W204, V204, st204⟩ := own_cst X0 hx hZ e0 pr2 ⟨by decide, by decide⟩ (i := 0) rfl (by simp) (y := y0) (own_back8 pr5) (g := (mkF m 26 #[.val (.ref x0), .val (.int (1 : Int32)), .val (.ref d0), .val (.int (1 : Int32)), .val (.int (2 : Int32)), .val (.int (0 : Int32))] [(.int ((y0.toInt8.toInt32 &&& (255 : Int32)).toUInt32.toUInt16.toUInt32.toInt32)), (.int (0 : Int32)), (.ref d0)])) rfl rfl (hb hby d12_26)
  have N204 := Fr.snoc X204 N0 pr3
  have Z205 : n0 ≤ h204.size := Nat.le_trans Z0 (Nat.le_of_eq (Wr.size W204).symm)
  have K205 : Keep h0 h204 [d0] := (Keep.wr K0 W204 (Or.inl (List.mem_of_getElem? (i := 0) rfl)))
  have F206 : Arv Z h204 d0 kd .char (2 : Int32) [(.int y0), (.int (0 : Int32))] (.int (0 : Int32)) := V204
  refine own_st (T' := T204) (g' := (mkF m 27 #[.val (.ref x0), .val (.int (1 : Int32)), .val (.ref d0), .val (.int (1 : Int32)), .val (.int (2 : Int32)), .val (.int (0 : Int32))] [])) st204 ?_
  refine own_st (T' := T204) (g' := (mkF m 20 #[.val (.ref x0), .val (.int (2 : Int32)), .val (.ref d0), .val (.int (2 : Int32)), .val (.int (2 : Int32)), .val (.int (1 : Int32))] [(.int (1 : Int32)), (.ref x0), (.int (1 : Int32)), (.ref d0)])) (fun _ kt => XS.iinc X204.here hx rfl (hb hby d12_27) rfl (l' := #[.val (.ref x0), .val (.int (1 : Int32)), .val (.ref d0), .val (.int (1 : Int32)), .val (.int (2 : Int32)), .val (.int (1 : Int32))]) rfl (XS.goto X204.here hx rfl (pc0 := 30) (pc' := 3) rfl (hb hby d12_30) (by decide) (by decide) (XS.iload X204.here hx rfl (hb hby d12_3) rfl (XS.iload X204.here hx rfl (hb hby d12_5) rfl (XS.icmpNo X204.here hx rfl (hb hby d12_7) rfl (XT.ii_ge_f (by decide)) (XS.aloadN X204.here hx rfl (hb hby d12_10) rfl rfl (XS.iloadN X204.here hx rfl (hb hby d12_11) rfl (XS.iinc X204.here hx rfl (hb hby d12_12) rfl (l' := #[.val (.ref x0), .val (.int (1 : Int32)), .val (.ref d0), .val (.int (2 : Int32)), .val (.int (2 : Int32)), .val (.int (1 : Int32))]) rfl (XS.aloadN X204.here hx rfl (hb hby d12_15) rfl rfl (XS.iloadN X204.here hx rfl (hb hby d12_16) rfl (XS.iinc X204.here hx rfl (hb hby d12_17) rfl (l' := #[.val (.ref x0), .val (.int (2 : Int32)), .val (.ref d0), .val (.int (2 : Int32)), .val (.int (2 : Int32)), .val (.int (1 : Int32))]) rfl kt))))))))))) ?_
  have F207 : Arv Z h204 x0 kx .byte (2 : Int32) [(.int y0.toInt8.toInt32), (.int y1.toInt8.toInt32)] (.int (0 : Int32)) := (Arv.other pr1 W204 pr4)
  refine own_st (T' := T204) (g' := (mkF m 21 #[.val (.ref x0), .val (.int (2 : Int32)), .val (.ref d0), .val (.int (2 : Int32)), .val (.int (2 : Int32)), .val (.int (1 : Int32))] [(.int y1.toInt8.toInt32), (.int (1 : Int32)), (.ref d0)])) (own_bal X204 hx hZ e204 F207 ⟨by decide, by decide⟩ rfl (g := (mkF m 20 #[.val (.ref x0), .val (.int (2 : Int32)), .val (.ref d0), .val (.int (2 : Int32)), .val (.int (2 : Int32)), .val (.int (1 : Int32))] [(.int (1 : Int32)), (.ref x0), (.int (1 : Int32)), (.ref d0)])) rfl rfl (hb hby d12_20)) ?_
  refine own_st (T' := T204) (g' := (mkF m 26 #[.val (.ref x0), .val (.int (2 : Int32)), .val (.ref d0), .val (.int (2 : Int32)), .val (.int (2 : Int32)), .val (.int (1 : Int32))] [(.int ((y1.toInt8.toInt32 &&& (255 : Int32)).toUInt32.toUInt16.toUInt32.toInt32)), (.int (1 : Int32)), (.ref d0)])) (fun _ kt => XS.sipush X204.here hx rfl (hb hby d12_21) (XS.iand X204.here hx rfl (hb hby d12_24) rfl (XT.i2c X204.here hx rfl (hb hby d12_25) rfl kt))) ?_
  obtain ⟨T208, h208, X208, e208, W208, V208, st208⟩ := own_cst X204 hx hZ e204 F206 ⟨by decide, by decide⟩ (i := 1) rfl (by simp) (y := y1) (own_back8 pr6) (g := (mkF m 26 #[.val (.ref x0), .val (.int (2 : Int32)), .val (.ref d0), .val (.int (2 : Int32)), .val (.int (2 : Int32)), .val (.int (1 : Int32))] [(.int ((y1.toInt8.toInt32 &&& (255 : Int32)).toUInt32.toUInt16.toUInt32.toInt32)), (.int (1 : Int32)), (.ref d0)])) rfl rfl (hb hby d12_26)
  have N208 := Fr.snoc X208 N204 pr3
  have Z209 : n0 ≤ h208.size := Nat.le_trans Z205 (Nat.le_of_eq (Wr.size W208).symm)
  have K209 : Keep h0 h208 [d0] := (Keep.wr K205 W208 (Or.inl (List.mem_of_getElem? (i := 0) rfl)))
  have F210 : Arv Z h208 d0 kd .char (2 : Int32) [(.int y0), (.int y1)] (.int (0 : Int32)) := V208
  refine own_st (T' := T208) (g' := (mkF m 27 #[.val (.ref x0), .val (.int (2 : Int32)), .val (.ref d0), .val (.int (2 : Int32)), .val (.int (2 : Int32)), .val (.int (1 : Int32))] [])) st208 ?_
  refine own_st (T' := T208) (g' := (mkF m 33 #[.val (.ref x0), .val (.int (2 : Int32)), .val (.ref d0), .val (.int (2 : Int32)), .val (.int (2 : Int32)), .val (.int (2 : Int32))] [])) (fun _ kt => XS.iinc X208.here hx rfl (hb hby d12_27) rfl (l' := #[.val (.ref x0), .val (.int (2 : Int32)), .val (.ref d0), .val (.int (2 : Int32)), .val (.int (2 : Int32)), .val (.int (2 : Int32))]) rfl (XS.goto X208.here hx rfl (pc0 := 30) (pc' := 3) rfl (hb hby d12_30) (by decide) (by decide) (XS.iload X208.here hx rfl (hb hby d12_3) rfl (XS.iload X208.here hx rfl (hb hby d12_5) rfl (XS.icmpYes X208.here hx rfl (pc0 := 7) (pc' := 33) rfl (hb hby d12_7) rfl (XT.ii_ge_t (by decide)) (by decide) (by decide) kt))))) ?_
  obtain ⟨fs, hr, hrun, hended, hW, hsame⟩ := X208.leave (v := none) (fun _ => rfl)
  refine own_end (X208.returnOut hx Bd.returns (hb hby d12_33) hr) ⟨_, hrun, hended, _, _, rfl, ?_, ⟨_, rfl⟩, hW, hsame.mono (by decide) (by decide)⟩
  show own_inf2Q Z _ _ _ _ _ _ h0 n0 _ T208.heap _
  rw [e208]
  exact ⟨rfl, N208, K209, F210⟩
def own_tch2Q (Z : State) (x0 : Addr) (kx : ClassId) (y0 : Int32) (y1 : Int32) (h0 : Heap) (n0 : Nat) (v : Option Value) (h : Heap) (L : List Loc) : Prop := ∃ (b : Addr), ∃ (kb : ClassId), v = some (.ref b) ∧ Fr n0 L ∧ Keep h0 h [] ∧ (Arv Z h b kb .char (2 : Int32) [(.int y0), (.int y1)] (.int (0 : Int32))) ∧ (h0.size ≤ b)
abbrev own_tch2R : Room := { frames := 1, cells := 1, slots := 2, locals := 17 }
set_option maxRecDepth 65536 in
set_option maxHeartbeats 40000000 in
theorem own_tch2 (l : Launch) (Z : State) (a0 : Array Value) (hw : ∀ d ∈ tables_1, d.before a0 Z = true) (ws : List Jvm.Cond) (x0 : Addr) (kx : ClassId) (y0 : Int32) (y1 : Int32) (h0 : Heap) (n0 : Nat) (Z0 : n0 ≤ h0.size) (pr1 : Arv Z h0 x0 kx .byte (2 : Int32) [(.int y0.toInt8.toInt32), (.int y1.toInt8.toInt32)] (.int (0 : Int32))) (pr2 : ¬ y0 < 0 ∧ ¬ (255 : Int32) < y0) (pr3 : ¬ y1 < 0 ∧ ¬ (255 : Int32) < y1) :
    own_M l (⟨"java/lang/StringLatin1", "toChars", "([B)[C"⟩ : MethodName) jdk_43_method_9_code 2 (some (.array .char)) ws own_tch2R #[(.ref x0)] Z h0 (own_tch2Q Z x0 kx y0 y1 h0 n0) := by
  refine own_go (plainFor_of_name own_pn3) (fun m => own_ef7 m x0 ) ?_
  intro p e s m below meth c s₁ Bd hx hby hml hZ hh hown hnm X0 e0
  have N0 := Fr.nil n0
  have K0 : Keep h0 h0 [] := Keep.refl h0 _
  refine own_st (T' := s₁) (g' := (mkF m 1 #[.val (.ref x0), .unset] [(.ref x0)])) (fun _ kt => XS.aloadN X0.here hx rfl (hb hby d11_0) rfl rfl kt) ?_
  refine own_st (T' := s₁) (g' := (mkF m 2 #[.val (.ref x0), .unset] [(.int (2 : Int32))])) (own_alen X0 hx hZ e0 pr1 (g := (mkF m 1 #[.val (.ref x0), .unset] [(.ref x0)])) rfl rfl (hb hby d11_1)) ?_
  obtain ⟨T211, h211, k211, X211, e211, E211, A211, st211⟩ := newP X0 hx hZ (aty := .char) (own_k hw 0 rfl) e0 (g := (mkF m 2 #[.val (.ref x0), .unset] [(.int (2 : Int32))])) rfl (hb hby d11_2) rfl (by decide) (cap := 2) (by decide) (by decide) (by decide) (by decide)
  obtain ⟨b211, g211⟩ : ∃ z, z = h0.size := ⟨_, rfl⟩
  rw [← g211] at A211 st211
  have ne212 : x0 ≠ b211 := by rw [g211]; exact Nat.ne_of_lt pr1.lt
  have Z213 : n0 ≤ h211.size := Nat.le_trans Z0 E211.1
  have K213 : Keep h0 h211 [] := (Keep.ext K0 E211)
  have ge_b211 : n0 ≤ b211 := Nat.le_trans Z0 (Nat.le_of_eq g211.symm)
  have F214 : Arv Z h211 b211 k211 .char (2 : Int32) [(.int (0 : Int32)), (.int (0 : Int32))] (.int (0 : Int32)) := (Arv.new A211 (by decide)).pad (pad_rep [] (.int (0 : Int32)) 2)
  refine own_st (T' := T211) (g' := (mkF m 4 #[.val (.ref x0), .unset] [(.ref b211)])) st211 ?_
  refine own_st (T' := T211) (g' := (mkF m 10 #[.val (.ref x0), .val (.ref b211)] [(.ref x0), (.int (0 : Int32)), (.ref b211), (.int (0 : Int32)), (.ref x0)])) (fun _ kt => XS.astoreN X211.here hx rfl (hb hby d11_4) rfl rfl (l' := #[.val (.ref x0), .val (.ref b211)]) rfl (XS.aloadN X211.here hx rfl (hb hby d11_5) rfl rfl (XS.iconst X211.here hx rfl (hb hby d11_6) (XS.aloadN X211.here hx rfl (hb hby d11_7) rfl rfl (XS.iconst X211.here hx rfl (hb hby d11_8) (XS.aloadN X211.here hx rfl (hb hby d11_9) rfl rfl kt)))))) ?_
  have F215 : Arv Z h211 x0 kx .byte (2 : Int32) [(.int y0.toInt8.toInt32), (.int y1.toInt8.toInt32)] (.int (0 : Int32)) := (pr1.ext E211)
  refine own_st (T' := T211) (g' := (mkF m 11 #[.val (.ref x0), .val (.ref b211)] [(.int (2 : Int32)), (.int (0 : Int32)), (.ref b211), (.int (0 : Int32)), (.ref x0)])) (own_alen X211 hx hZ e211 F215 (g := (mkF m 10 #[.val (.ref x0), .val (.ref b211)] [(.ref x0), (.int (0 : Int32)), (.ref b211), (.int (0 : Int32)), (.ref x0)])) rfl rfl (hb hby d11_10)) ?_
  obtain ⟨_, _, ⟨T216, L216, k216, n216⟩, -, X216, ⟨Lc216, hQ216, l216, y216, z216⟩, st216⟩ := Jvm.LawKit.callS X211 hx (y := (⟨"java/lang/StringLatin1", "inflate", "([BI[CII)V"⟩ : MethodName)) hown (mvT hZ (own_k hw 55 rfl)) (mvT hZ (own_k hw 56 rfl)) (mvT hZ (own_k hw 53 rfl)) (mvT hZ (own_k hw 57 rfl)) (by decide) (backOf (W := 0) (own_inf2 l Z a0 hw [] x0 b211 kx k211 y0 y1 h211 n0 Z213 F215 F214 ge_b211 ne212 pr2 pr3) hZ (own_k hw 57 rfl) (own_k hw 53 rfl) (by decide) (by decide)) (g := (mkF m 11 #[.val (.ref x0), .val (.ref b211)] [(.int (2 : Int32)), (.int (0 : Int32)), (.ref b211), (.int (0 : Int32)), (.ref x0)])) rfl hml.symm  (argsL := [(.ref x0), (.int (0 : Int32)), (.ref b211), (.int (0 : Int32)), (.int (2 : Int32))]) (rest := []) (lenOf own_pd3 rfl) rfl (by show 2 * 0 + _ ≤ _; exact Nat.le_of_eq rfl) (hb hby d11_11) (fun _ _ => ⟨rfl, e211, (by decide : 1 + 0 ≤ 1), (by decide : 2 + 0 ≤ 2)⟩)
  dsimp only [Pt.U, Pt.locs, Pt.cells, Pt.slots] at X216 l216 y216 z216 st216 hQ216
  subst l216 y216 z216
  obtain ⟨rfl, N216, K216_, P217⟩ := hQ216
  have N218 := Fr.app N0 N216
  have Z219 : n0 ≤ T216.heap.size := Nat.le_trans Z213 K216_.1
  have K219 : Keep h0 T216.heap [] := (Keep.trans K213 K216_ (allS (Or.inr (Nat.le_trans K0.1 (Nat.le_of_eq g211.symm))) all0))
  refine own_st (T' := T216) (g' := (mkF m 14 #[.val (.ref x0), .val (.ref b211)] [])) st216 ?_
  refine own_st (T' := T216) (g' := (mkF m 15 #[.val (.ref x0), .val (.ref b211)] [(.ref b211)])) (fun _ kt => XS.aloadN X216.here hx rfl (hb hby d11_14) rfl rfl kt) ?_
  obtain ⟨fs, hr, hrun, hended, hW, hsame⟩ := X216.leave (v := some (.ref b211)) (fun h => by rw [Bd.returns] at h; cases h)
  refine own_end (own_retA X216 hx Bd.returns rfl rfl rfl (hb hby d11_15) hr) ⟨_, hrun, hended, _, _, rfl, ?_, ⟨_, rfl⟩, hW, hsame.mono (by decide) (by decide)⟩
  show own_tch2Q Z _ _ _ _ h0 n0 _ T216.heap _
  show own_tch2Q Z _ _ _ _ h0 n0 _ T216.heap _
  exact ⟨b211, k211, rfl, N218, K219, P217, (Nat.le_trans K0.1 (Nat.le_of_eq g211.symm))⟩
def own_tca2Q (Z : State) (x0 : Addr) (zc : Int32) (t : Addr) (kx : ClassId) (y0 : Int32) (y1 : Int32) (h0 : Heap) (n0 : Nat) (v : Option Value) (h : Heap) (L : List Loc) : Prop := ∃ (b : Addr), ∃ (kb : ClassId), v = some (.ref b) ∧ Fr n0 L ∧ Keep h0 h [] ∧ (Arv Z h b kb .char (2 : Int32) [(.int y0), (.int y1)] (.int (0 : Int32))) ∧ (h0.size ≤ b)
abbrev own_tca2R : Room := { frames := 2, cells := 1, slots := 2, locals := 30 }
set_option maxRecDepth 65536 in
set_option maxHeartbeats 40000000 in
theorem own_tca2 (l : Launch) (Z : State) (a0 : Array Value) (hw : ∀ d ∈ tables_1, d.before a0 Z = true) (ws : List Jvm.Cond) (x0 : Addr) (zc : Int32) (t : Addr) (kx : ClassId) (y0 : Int32) (y1 : Int32) (h0 : Heap) (n0 : Nat) (Z0 : n0 ≤ h0.size) (pr1 : Old Z n0 h0) (pr2 : Sta Z Z.heap "java/lang/String" "COMPACT_STRINGS" "Z" (.int zc)) (pr3 : ¬ zc = 0) (pr4 : Exa Z h0 x0 "java/lang/String") (pr5 : Fld Z h0 x0 "java/lang/String" "coder" "B" (.int (0 : Int32))) (pr6 : Fld Z h0 x0 "java/lang/String" "value" "[B" (.ref t)) (pr7 : Arv Z h0 t kx .byte (2 : Int32) [(.int y0.toInt8.toInt32), (.int y1.toInt8.toInt32)] (.int (0 : Int32))) (pr8 : ¬ y0 < 0 ∧ ¬ (255 : Int32) < y0) (pr9 : ¬ y1 < 0 ∧ ¬ (255 : Int32) < y1) :
    own_M l (⟨"java/lang/String", "toCharArray", "()[C"⟩ : MethodName) jdk_42_method_129_code 1 (some (.array .char)) ws own_tca2R #[(.ref x0)] Z h0 (own_tca2Q Z x0 zc t kx y0 y1 h0 n0) := by
  refine own_go (plainFor_of_name own_pn1) (fun m => own_ef3 m x0 ) ?_
  intro p e s m below meth c s₁ Bd hx hby hml hZ hh hown hnm X0 e0
  have N0 := Fr.nil n0
  have K0 : Keep h0 h0 [] := Keep.refl h0 _
  refine own_st (T' := s₁) (g' := (mkF m 1 #[.val (.ref x0)] [(.ref x0)])) (fun _ kt => XS.aloadN X0.here hx rfl (hb hby d9_0) rfl rfl kt) ?_
  obtain ⟨cq221, kq221, qa221, qb221, qc221⟩ := isOf hZ e0 pr4
  obtain ⟨_, _, ⟨T220, L220, k220, n220⟩, -, X220, ⟨Lc220, hQ220, l220, y220, z220⟩, st220⟩ := X0.virtualBack hx (y := (⟨"java/lang/String", "isLatin1", "()Z"⟩ : MethodName)) (z := (⟨"java/lang/String", "isLatin1", "()Z"⟩ : MethodName)) hown (mvT hZ (own_k hw 46 rfl)) (mvT hZ (own_k hw 47 rfl)) (notFace_of_selects (args := #[]) (mvT hZ (own_k hw 49 rfl))) (mvT hZ (own_k hw 49 rfl)) (mvT hZ (own_k hw 48 rfl)) (by decide) (backOf (W := 0) (own_r10 l Z a0 hw [] x0 zc h0 n0 Z0 pr1 pr2 pr3 pr5) hZ (own_k hw 50 rfl) (own_k hw 7 rfl) (by decide) (by decide)) qa221 qc221 (g := (mkF m 1 #[.val (.ref x0)] [(.ref x0)])) rfl hml.symm (Steps.refl _) (argsL := []) (rest := []) (lenOf own_pd4 rfl) rfl (by show 2 * 0 + _ ≤ _; exact Nat.le_of_eq rfl) (hb hby d9_1) (fun _ _ => ⟨rfl, e0, (by decide : 0 + 0 ≤ 1), (by decide : 0 + 0 ≤ 2)⟩)
  dsimp only [Pt.U, Pt.locs, Pt.cells, Pt.slots] at X220 l220 y220 z220 st220 hQ220
  subst l220 y220 z220
  obtain ⟨rfl, N220, e220⟩ := hQ220
  have N222 := Fr.app N0 N220
  refine own_tr (T' := T220) (g' := (mkF m 4 #[.val (.ref x0)] [(.int (1 : Int32))])) st220 ?_
  refine own_st (T' := T220) (g' := (mkF m 8 #[.val (.ref x0)] [(.ref x0)])) (fun _ kt => XS.ifNo X220.here hx rfl (hb hby d9_4) rfl (XT.i0_eq_f (by decide)) (XS.aloadN X220.here hx rfl (hb hby d9_7) rfl rfl kt)) ?_
  obtain ⟨T223, X223, e223, st223⟩ := getF X220 hx hZ hown (host := "") (Or.inl (own_k hw 32 rfl)) Via.refl e220 pr6 (g := (mkF m 8 #[.val (.ref x0)] [(.ref x0)])) rfl rfl (hb hby d9_8)
  refine own_st (T' := T223) (g' := (mkF m 11 #[.val (.ref x0)] [(.ref t)])) st223 ?_
  obtain ⟨_, _, ⟨T224, L224, k224, n224⟩, -, X224, ⟨Lc224, hQ224, l224, y224, z224⟩, st224⟩ := Jvm.LawKit.callS X223 hx (y := (⟨"java/lang/StringLatin1", "toChars", "([B)[C"⟩ : MethodName)) hown (mvT hZ (own_k hw 51 rfl)) (mvT hZ (own_k hw 52 rfl)) (mvT hZ (own_k hw 53 rfl)) (mvT hZ (own_k hw 54 rfl)) (by decide) (backOf (W := 0) (own_tch2 l Z a0 hw [] t kx y0 y1 h0 n0 Z0 pr7 pr8 pr9) hZ (own_k hw 54 rfl) (own_k hw 53 rfl) (by decide) (by decide)) (g := (mkF m 11 #[.val (.ref x0)] [(.ref t)])) rfl hml.symm  (argsL := [(.ref t)]) (rest := []) (lenOf own_pd5 rfl) rfl (by show 2 * 0 + _ ≤ _; exact Nat.le_of_eq rfl) (hb hby d9_11) (fun _ _ => ⟨rfl, e223, (by decide : 0 + 1 ≤ 1), (by decide : 0 + 2 ≤ 2)⟩)
  dsimp only [Pt.U, Pt.locs, Pt.cells, Pt.slots] at X224 l224 y224 z224 st224 hQ224
  subst l224 y224 z224
  obtain ⟨b_224, kb_224, rfl, N224, K224_, P225, P226⟩ := hQ224
  have N227 := Fr.app N222 N224
  have Z228 : n0 ≤ T224.heap.size := Nat.le_trans Z0 K224_.1
  have K228 : Keep h0 T224.heap [] := (Keep.trans K0 K224_ all0)
  have ne229 : x0 ≠ b_224 := Nat.ne_of_lt (Nat.lt_of_lt_of_le pr4.lt P226)
  have ne230 : t ≠ b_224 := Nat.ne_of_lt (Nat.lt_of_lt_of_le pr7.lt P226)
  have ge231 : n0 ≤ b_224 := Nat.le_trans Z0 P226
  refine own_st (T' := T224) (g' := (mkF m 14 #[.val (.ref x0)] [(.ref b_224)])) st224 ?_
  refine own_st (T' := T224) (g' := (mkF m 24 #[.val (.ref x0)] [(.ref b_224)])) (fun _ kt => XS.goto X224.here hx rfl (pc0 := 14) (pc' := 24) rfl (hb hby d9_14) (by decide) (by decide) kt) ?_
  obtain ⟨fs, hr, hrun, hended, hW, hsame⟩ := X224.leave (v := some (.ref b_224)) (fun h => by rw [Bd.returns] at h; cases h)
  refine own_end (own_retA X224 hx Bd.returns rfl rfl rfl (hb hby d9_24) hr) ⟨_, hrun, hended, _, _, rfl, ?_, ⟨_, rfl⟩, hW, hsame.mono (by decide) (by decide)⟩
  show own_tca2Q Z _ _ _ _ _ _ h0 n0 _ T224.heap _
  show own_tca2Q Z _ _ _ _ _ _ h0 n0 _ T224.heap _
  exact ⟨b_224, kb_224, rfl, N227, K228, P225, (Nat.le_trans K0.1 P226)⟩
def own_swi2Q (Z : State) (a : Addr) (x0 : Addr) (zc : Int32) (t : Addr) (kx : ClassId) (y0 : Int32) (y1 : Int32) (h0 : Heap) (n0 : Nat) (v : Option Value) (h : Heap) (L : List Loc) : Prop := ∃ (b : Addr), ∃ (kb : ClassId), v = none ∧ Fr n0 L ∧ Keep h0 h [a] ∧ (Exa Z h a "com/example/tally_rank/tallyrank/analysis/SuffixWord") ∧ (Fld Z h a "com/example/tally_rank/tallyrank/analysis/SuffixWord" "letters" "[C" (.ref b)) ∧ (Fld Z h a "com/example/tally_rank/tallyrank/analysis/SuffixWord" "length" "I" (.int (2 : Int32))) ∧ (Arv Z h b kb .char (2 : Int32) [(.int y0), (.int y1)] (.int (0 : Int32))) ∧ (h0.size ≤ b)
abbrev own_swi2R : Room := { frames := 3, cells := 1, slots := 2, locals := 43 }
set_option maxRecDepth 65536 in
set_option maxHeartbeats 40000000 in
theorem own_swi2 (l : Launch) (Z : State) (a0 : Array Value) (hw : ∀ d ∈ tables_1, d.before a0 Z = true) (ws : List Jvm.Cond) (a : Addr) (x0 : Addr) (zc : Int32) (t : Addr) (kx : ClassId) (y0 : Int32) (y1 : Int32) (h0 : Heap) (n0 : Nat) (Z0 : n0 ≤ h0.size) (pr1 : Old Z n0 h0) (pr2 : Sta Z Z.heap "java/lang/String" "COMPACT_STRINGS" "Z" (.int zc)) (pr3 : ¬ zc = 0) (pr4 : Exa Z h0 a "com/example/tally_rank/tallyrank/analysis/SuffixWord") (pr5 : n0 ≤ a) (pr6 : Fld Z h0 a "com/example/tally_rank/tallyrank/analysis/SuffixWord" "letters" "[C" .null) (pr7 : Fld Z h0 a "com/example/tally_rank/tallyrank/analysis/SuffixWord" "length" "I" (.int (0 : Int32))) (pr8 : Exa Z h0 x0 "java/lang/String") (pr9 : Fld Z h0 x0 "java/lang/String" "coder" "B" (.int (0 : Int32))) (pr10 : Fld Z h0 x0 "java/lang/String" "value" "[B" (.ref t)) (pr11 : Arv Z h0 t kx .byte (2 : Int32) [(.int y0.toInt8.toInt32), (.int y1.toInt8.toInt32)] (.int (0 : Int32))) (pr12 : ¬ y0 < 0 ∧ ¬ (255 : Int32) < y0) (pr13 : ¬ y1 < 0 ∧ ¬ (255 : Int32) < y1) :
    own_M l (⟨"com/example/tally_rank/tallyrank/analysis/SuffixWord", "<init>", "(Ljava/lang/String;)V"⟩ : MethodName) prog_22_method_1_code 2 none ws own_swi2R #[(.ref a), (.ref x0)] Z h0 (own_swi2Q Z a x0 zc t kx y0 y1 h0 n0) := by
  refine own_go (plainFor_of_name own_pn4) (fun m => own_ef2 m a x0 ) ?_
  intro p e s m below meth c s₁ Bd hx hby hml hZ hh hown hnm X0 e0
  have N0 := Fr.nil n0
  have K0 : Keep h0 h0 [a] := Keep.refl h0 _
  refine own_st (T' := s₁) (g' := (mkF m 1 #[.val (.ref a), .val (.ref x0)] [(.ref a)])) (fun _ kt => XS.aloadN X0.here hx rfl (hb hby d8_0) rfl rfl kt) ?_
  obtain ⟨T232, X232, e232, st232⟩ := initO X0 hx hZ hown (own_k hw 40 rfl) (own_k hw 16 rfl) (own_k hw 17 rfl) e0 (g := (mkF m 1 #[.val (.ref a), .val (.ref x0)] [(.ref a)])) rfl hml.symm rfl (hb hby d8_1) (by decide) (W := 0) (by show 2 * 0 + _ ≤ _; exact Nat.le_of_eq rfl) (by decide)
  refine own_st (T' := T232) (g' := (mkF m 4 #[.val (.ref a), .val (.ref x0)] [])) st232 ?_
  refine own_st (T' := T232) (g' := (mkF m 6 #[.val (.ref a), .val (.ref x0)] [(.ref x0), (.ref a)])) (fun _ kt => XS.aloadN X232.here hx rfl (hb hby d8_4) rfl rfl (XS.aloadN X232.here hx rfl (hb hby d8_5) rfl rfl kt)) ?_
  obtain ⟨cq234, kq234, qa234, qb234, qc234⟩ := isOf hZ e232 pr8
  obtain ⟨_, _, ⟨T233, L233, k233, n233⟩, -, X233, ⟨Lc233, hQ233, l233, y233, z233⟩, st233⟩ := X232.virtualBack hx (y := (⟨"java/lang/String", "toCharArray", "()[C"⟩ : MethodName)) (z := (⟨"java/lang/String", "toCharArray", "()[C"⟩ : MethodName)) hown (mvT hZ (own_k hw 41 rfl)) (mvT hZ (own_k hw 42 rfl)) (notFace_of_selects (args := #[]) (mvT hZ (own_k hw 44 rfl))) (mvT hZ (own_k hw 44 rfl)) (mvT hZ (own_k hw 43 rfl)) (by decide) (backOf (W := 1) (own_tca2 l Z a0 hw [] x0 zc t kx y0 y1 h0 n0 Z0 pr1 pr2 pr3 pr8 pr9 pr10 pr11 pr12 pr13) hZ (own_k hw 45 rfl) (own_k hw 7 rfl) (by decide) (by decide)) qa234 qc234 (g := (mkF m 6 #[.val (.ref a), .val (.ref x0)] [(.ref x0), (.ref a)])) rfl hml.symm (Steps.refl _) (argsL := []) (rest := [(.ref a)]) (lenOf own_pd6 rfl) rfl (by show 2 * 0 + _ ≤ _; exact Nat.le_of_eq rfl) (hb hby d8_6) (fun _ _ => ⟨rfl, e232, (by decide : 0 + 1 ≤ 1), (by decide : 0 + 2 ≤ 2)⟩)
  dsimp only [Pt.U, Pt.locs, Pt.cells, Pt.slots] at X233 l233 y233 z233 st233 hQ233
  subst l233 y233 z233
  obtain ⟨b_233, kb_233, rfl, N233, K233_, P235, P236⟩ := hQ233
  have N237 := Fr.app N0 N233
  have Z238 : n0 ≤ T233.heap.size := Nat.le_trans Z0 K233_.1
  have K238 : Keep h0 T233.heap [a] := (Keep.trans K0 K233_ all0)
  have ne239 : a ≠ b_233 := Nat.ne_of_lt (Nat.lt_of_lt_of_le pr4.lt P236)
  have ne240 : x0 ≠ b_233 := Nat.ne_of_lt (Nat.lt_of_lt_of_le pr8.lt P236)
  have ne241 : t ≠ b_233 := Nat.ne_of_lt (Nat.lt_of_lt_of_le pr11.lt P236)
  have ge242 : n0 ≤ b_233 := Nat.le_trans Z0 P236
  refine own_tr (T' := T233) (g' := (mkF m 9 #[.val (.ref a), .val (.ref x0)] [(.ref b_233), (.ref a)])) st233 ?_
  have F243 : Fld Z T233.heap a "com/example/tally_rank/tallyrank/analysis/SuffixWord" "letters" "[C" .null := (Fld.keep pr6 K233_ nin0)
  have F244 : Exa Z T233.heap a "com/example/tally_rank/tallyrank/analysis/SuffixWord" := (Exa.keep pr4 K233_)
  obtain ⟨T245, h245, X245, e245, W245, st245⟩ := putF X233 hx hZ hown (host := "") (Or.inl (own_k hw 58 rfl)) Via.refl rfl F243 F244 (Or.inr ⟨(own_k hw 59 rfl), rfl, hnm⟩) (own_k hw 35 rfl) (ty := (.array .char)) (by decide) rfl rfl (g := (mkF m 9 #[.val (.ref a), .val (.ref x0)] [(.ref b_233), (.ref a)])) rfl rfl (hb hby d8_9)
  have N245 := Fr.snoc X245 N237 pr5
  have Z246 : n0 ≤ h245.size := Nat.le_trans Z238 (Nat.le_of_eq (Wr.size W245).symm)
  have K246 : Keep h0 h245 [a] := (Keep.wr K238 W245 (Or.inl (List.mem_of_getElem? (i := 0) rfl)))
  have F247 : Fld Z h245 a "com/example/tally_rank/tallyrank/analysis/SuffixWord" "letters" "[C" (.ref b_233) := Fld.same W245 F243
  refine own_st (T' := T245) (g' := (mkF m 12 #[.val (.ref a), .val (.ref x0)] [])) st245 ?_
  refine own_st (T' := T245) (g' := (mkF m 14 #[.val (.ref a), .val (.ref x0)] [(.ref x0), (.ref a)])) (fun _ kt => XS.aloadN X245.here hx rfl (hb hby d8_12) rfl rfl (XS.aloadN X245.here hx rfl (hb hby d8_13) rfl rfl kt)) ?_
  have F248 : Exa Z h245 x0 "java/lang/String" := (Exa.wr W245 (Exa.keep pr8 K233_))
  have F249 : Old Z n0 h245 := (Old.wr (Old.keep pr1 K233_ all0) W245 pr5)
  have F250 : Exa Z T233.heap x0 "java/lang/String" := (Exa.keep pr8 K233_)
  have F251 : Fld Z h245 x0 "java/lang/String" "coder" "B" (.int (0 : Int32)) := (Fld.other W245 (Fld.keep pr9 K233_ nin0) (Or.inl (ne_exa F250 F244 (by decide))))
  have F252 : Exa Z T233.heap x0 "java/lang/String" := (Exa.keep pr8 K233_)
  have F253 : Fld Z h245 x0 "java/lang/String" "value" "[B" (.ref t) := (Fld.other W245 (Fld.keep pr10 K233_ nin0) (Or.inl (ne_exa F252 F244 (by decide))))
  have F254 : Arv Z h245 t kx .byte (2 : Int32) [(.int y0.toInt8.toInt32), (.int y1.toInt8.toInt32)] (.int (0 : Int32)) := (Arv.other (Arv.keep pr11 K233_ nin0) W245 (Ne.symm (Exa.neArv pr4 pr11 (own_k hw 35 rfl))))
  obtain ⟨cq256, kq256, qa256, qb256, qc256⟩ := isOf hZ e245 F248
  obtain ⟨_, _, ⟨T255, L255, k255, n255⟩, -, X255, ⟨Lc255, hQ255, l255, y255, z255⟩, st255⟩ := X245.virtualBack hx (y := (⟨"java/lang/String", "length", "()I"⟩ : MethodName)) (z := (⟨"java/lang/String", "length", "()I"⟩ : MethodName)) hown (mvT hZ (own_k hw 60 rfl)) (mvT hZ (own_k hw 61 rfl)) (notFace_of_selects (args := #[]) (mvT hZ (own_k hw 63 rfl))) (mvT hZ (own_k hw 63 rfl)) (mvT hZ (own_k hw 62 rfl)) (by decide) (backOf (W := 1) (own_len l Z a0 hw [] x0 zc t kx (2 : Int32) [(.int y0.toInt8.toInt32), (.int y1.toInt8.toInt32)] (.int (0 : Int32)) h245 n0 Z246 F249 pr2 pr3 F248 F251 F253 F254) hZ (own_k hw 64 rfl) (own_k hw 7 rfl) (by decide) (by decide)) qa256 qc256 (g := (mkF m 14 #[.val (.ref a), .val (.ref x0)] [(.ref x0), (.ref a)])) rfl hml.symm (Steps.refl _) (argsL := []) (rest := [(.ref a)]) (lenOf own_pd7 rfl) rfl (by show 2 * 0 + _ ≤ _; exact Nat.le_of_eq rfl) (hb hby d8_14) (fun _ _ => ⟨rfl, e245, (by decide : 1 + 0 ≤ 1), (by decide : 2 + 0 ≤ 2)⟩)
  dsimp only [Pt.U, Pt.locs, Pt.cells, Pt.slots] at X255 l255 y255 z255 st255 hQ255
  subst l255 y255 z255
  obtain ⟨rfl, N255, e255⟩ := hQ255
  have N257 := Fr.app N245 N255
  refine own_tr (T' := T255) (g' := (mkF m 17 #[.val (.ref a), .val (.ref x0)] [(.int (2 : Int32)), (.ref a)])) st255 ?_
  have F258 : Fld Z h245 a "com/example/tally_rank/tallyrank/analysis/SuffixWord" "length" "I" (.int (0 : Int32)) := (Fld.other W245 (Fld.keep pr7 K233_ nin0) (Or.inr (slot_ne (Or.inl (own_k hw 71 rfl)) (Or.inr (own_k hw 59 rfl)) (by decide) (t := .int) (t' := (.array .char)) (by decide) (by decide))))
  have F259 : Exa Z h245 a "com/example/tally_rank/tallyrank/analysis/SuffixWord" := (Exa.wr W245 F244)
  obtain ⟨T260, h260, X260, e260, W260, st260⟩ := putF X255 hx hZ hown (host := "") (Or.inl (own_k hw 70 rfl)) Via.refl e255 F258 F259 (Or.inl (own_k hw 71 rfl)) (own_k hw 35 rfl) (ty := .int) (by decide) rfl rfl (g := (mkF m 17 #[.val (.ref a), .val (.ref x0)] [(.int (2 : Int32)), (.ref a)])) rfl rfl (hb hby d8_17)
  have N260 := Fr.snoc X260 N257 pr5
  have Z261 : n0 ≤ h260.size := Nat.le_trans Z246 (Nat.le_of_eq (Wr.size W260).symm)
  have K261 : Keep h0 h260 [a] := (Keep.wr K246 W260 (Or.inl (List.mem_of_getElem? (i := 0) rfl)))
  have F262 : Fld Z h260 a "com/example/tally_rank/tallyrank/analysis/SuffixWord" "length" "I" (.int (2 : Int32)) := Fld.same W260 F258
  refine own_st (T' := T260) (g' := (mkF m 20 #[.val (.ref a), .val (.ref x0)] [])) st260 ?_
  obtain ⟨fs, hr, hrun, hended, hW, hsame⟩ := X260.leave (v := none) (fun _ => rfl)
  refine own_end (X260.returnOut hx Bd.returns (hb hby d8_20) hr) ⟨_, hrun, hended, _, _, rfl, ?_, ⟨_, rfl⟩, hW, hsame.mono (by decide) (by decide)⟩
  have F263 : Fld Z h260 a "com/example/tally_rank/tallyrank/analysis/SuffixWord" "letters" "[C" (.ref b_233) := (Fld.other W260 F247 (Or.inr (slot_ne (Or.inr (own_k hw 59 rfl)) (Or.inl (own_k hw 71 rfl)) (by decide) (t := (.array .char)) (t' := .int) (by decide) (by decide))))
  have F264 : Exa Z h260 a "com/example/tally_rank/tallyrank/analysis/SuffixWord" := (Exa.wr W260 F259)
  have F265 : Arv Z h260 b_233 kb_233 .char (2 : Int32) [(.int y0), (.int y1)] (.int (0 : Int32)) := (Arv.other (Arv.other P235 W245 (Ne.symm ne239)) W260 (Ne.symm ne239))
  show own_swi2Q Z _ _ _ _ _ _ _ h0 n0 _ T260.heap _
  rw [e260]
  exact ⟨b_233, kb_233, rfl, N260, K261, F264, F263, F262, F265, (Nat.le_trans K0.1 P236)⟩
def own_inf3Q (Z : State) (x0 : Addr) (d0 : Addr) (kx : ClassId) (kd : ClassId) (y0 : Int32) (y1 : Int32) (y2 : Int32) (h0 : Heap) (n0 : Nat) (v : Option Value) (h : Heap) (L : List Loc) : Prop := v = none ∧ Fr n0 L ∧ Keep h0 h [d0] ∧ (Arv Z h d0 kd .char (3 : Int32) [(.int y0), (.int y1), (.int y2)] (.int (0 : Int32)))
abbrev own_inf3R : Room := { frames := 0, cells := 0, slots := 0, locals := 0 }
set_option maxRecDepth 65536 in
set_option maxHeartbeats 40000000 in
theorem own_inf3 (l : Launch) (Z : State) (a0 : Array Value) (hw : ∀ d ∈ tables_1, d.before a0 Z = true) (ws : List Jvm.Cond) (x0 : Addr) (d0 : Addr) (kx : ClassId) (kd : ClassId) (y0 : Int32) (y1 : Int32) (y2 : Int32) (h0 : Heap) (n0 : Nat) (Z0 : n0 ≤ h0.size) (pr1 : Arv Z h0 x0 kx .byte (3 : Int32) [(.int y0.toInt8.toInt32), (.int y1.toInt8.toInt32), (.int y2.toInt8.toInt32)] (.int (0 : Int32))) (pr2 : Arv Z h0 d0 kd .char (3 : Int32) [(.int (0 : Int32)), (.int (0 : Int32)), (.int (0 : Int32))] (.int (0 : Int32))) (pr3 : n0 ≤ d0) (pr4 : x0 ≠ d0) (pr5 : ¬ y0 < 0 ∧ ¬ (255 : Int32) < y0) (pr6 : ¬ y1 < 0 ∧ ¬ (255 : Int32) < y1) (pr7 : ¬ y2 < 0 ∧ ¬ (255 : Int32) < y2) :
    own_M l (⟨"java/lang/StringLatin1", "inflate", "([BI[CII)V"⟩ : MethodName) jdk_43_method_49_code 6 none ws own_inf3R #[(.ref x0), (.int (0 : Int32)), (.ref d0), (.int (0 : Int32)), (.int (3 : Int32))] Z h0 (own_inf3Q Z x0 d0 kx kd y0 y1 y2 h0 n0) := by
  refine own_go (plainFor_of_name own_pn3) (fun m => own_ef6 m x0 (0 : Int32) d0 (0 : Int32) (3 : Int32) ) ?_
  intro p e s m below meth c s₁ Bd hx hby hml hZ hh hown hnm X0 e0
  have N0 := Fr.nil n0
  have K0 : Keep h0 h0 [d0] := Keep.refl h0 _
  refine own_st (T' := s₁) (g' := (mkF m 20 #[.val (.ref x0), .val (.int (1 : Int32)), .val (.ref d0), .val (.int (1 : Int32)), .val (.int (3 : Int32)), .val (.int (0 : Int32))] [(.int (0 : Int32)), (.ref x0), (.int (0 : Int32)), (.ref d0)])) (fun _ kt => XS.iconst X0.here hx rfl (hb hby d12_0) (XS.istore X0.here hx rfl (hb hby d12_1) rfl (l' := #[.val (.ref x0), .val (.int (0 : Int32)), .val (.ref d0), .val (.int (0 : Int32)), .val (.int (3 : Int32)), .val (.int (0 : Int32))]) rfl (XS.iload X0.here hx rfl (hb hby d12_3) rfl (XS.iload X0.here hx rfl (hb hby d12_5) rfl (XS.icmpNo X0.here hx rfl (hb hby d12_7) rfl (XT.ii_ge_f (by decide)) (XS.aloadN X0.here hx rfl (hb hby d12_10) rfl rfl (XS.iloadN X0.here hx rfl (hb hby d12_11) rfl (XS.iinc X0.here hx rfl (hb hby d12_12) rfl (l' := #[.val (.ref x0), .val (.int (0 : Int32)), .val (.ref d0), .val (.int (1 : Int32)), .val (.int (3 : Int32)), .val (.int (0 : Int32))]) rfl (XS.aloadN X0.here hx rfl (hb hby d12_15) rfl rfl (XS.iloadN X0.here hx rfl (hb hby d12_16) rfl (XS.iinc X0.here hx rfl (hb hby d12_17) rfl (l' := #[.val (.ref x0), .val (.int (1 : Int32)), .val (.ref d0), .val (.int (1 : Int32)), .val (.int (3 : Int32)), .val (.int (0 : Int32))]) rfl kt))))))))))) ?_
  refine own_st (T' := s₁) (g' := (mkF m 21 #[.val (.ref x0), .val (.int (1 : Int32)), .val (.ref d0), .val (.int (1 : Int32)), .val (.int (3 : Int32)), .val (.int (0 : Int32))] [(.int y0.toInt8.toInt32), (.int (0 : Int32)), (.ref d0)])) (own_bal X0 hx hZ e0 pr1 ⟨by decide, by decide⟩ rfl (g := (mkF m 20 #[.val (.ref x0), .val (.int (1 : Int32)), .val (.ref d0), .val (.int (1 : Int32)), .val (.int (3 : Int32)), .val (.int (0 : Int32))] [(.int (0 : Int32)), (.ref x0), (.int (0 : Int32)), (.ref d0)])) rfl rfl (hb hby d12_20)) ?_
  refine own_st (T' := s₁) (g' := (mkF m 26 #[.val (.ref x0), .val (.int (1 : Int32)), .val (.ref d0), .val (.int (1 : Int32)), .val (.int (3 : Int32)), .val (.int (0 : Int32))] [(.int ((y0.toInt8.toInt32 &&& (255 : Int32)).toUInt32.toUInt16.toUInt32.toInt32)), (.int (0 : Int32)), (.ref d0)])) (fun _ kt => XS.sipush X0.here hx rfl (hb hby d12_21) (XS.iand X0.here hx rfl (hb hby d12_24) rfl (XT.i2c X0.here hx rfl (hb hby d12_25) rfl kt))) ?_
  obtain ⟨T266, h266, X266, e266, W266, V266, st266⟩ := own_cst X0 hx hZ e0 pr2 ⟨by decide, by decide⟩ (i := 0) rfl (by simp) (y := y0) (own_back8 pr5) (g := (mkF m 26 #[.val (.ref x0), .val (.int (1 : Int32)), .val (.ref d0), .val (.int (1 : Int32)), .val (.int (3 : Int32)), .val (.int (0 : Int32))] [(.int ((y0.toInt8.toInt32 &&& (255 : Int32)).toUInt32.toUInt16.toUInt32.toInt32)), (.int (0 : Int32)), (.ref d0)])) rfl rfl (hb hby d12_26)
  have N266 := Fr.snoc X266 N0 pr3
  have Z267 : n0 ≤ h266.size := Nat.le_trans Z0 (Nat.le_of_eq (Wr.size W266).symm)
  have K267 : Keep h0 h266 [d0] := (Keep.wr K0 W266 (Or.inl (List.mem_of_getElem? (i := 0) rfl)))
  have F268 : Arv Z h266 d0 kd .char (3 : Int32) [(.int y0), (.int (0 : Int32)), (.int (0 : Int32))] (.int (0 : Int32)) := V266
  refine own_st (T' := T266) (g' := (mkF m 27 #[.val (.ref x0), .val (.int (1 : Int32)), .val (.ref d0), .val (.int (1 : Int32)), .val (.int (3 : Int32)), .val (.int (0 : Int32))] [])) st266 ?_
  refine own_st (T' := T266) (g' := (mkF m 20 #[.val (.ref x0), .val (.int (2 : Int32)), .val (.ref d0), .val (.int (2 : Int32)), .val (.int (3 : Int32)), .val (.int (1 : Int32))] [(.int (1 : Int32)), (.ref x0), (.int (1 : Int32)), (.ref d0)])) (fun _ kt => XS.iinc X266.here hx rfl (hb hby d12_27) rfl (l' := #[.val (.ref x0), .val (.int (1 : Int32)), .val (.ref d0), .val (.int (1 : Int32)), .val (.int (3 : Int32)), .val (.int (1 : Int32))]) rfl (XS.goto X266.here hx rfl (pc0 := 30) (pc' := 3) rfl (hb hby d12_30) (by decide) (by decide) (XS.iload X266.here hx rfl (hb hby d12_3) rfl (XS.iload X266.here hx rfl (hb hby d12_5) rfl (XS.icmpNo X266.here hx rfl (hb hby d12_7) rfl (XT.ii_ge_f (by decide)) (XS.aloadN X266.here hx rfl (hb hby d12_10) rfl rfl (XS.iloadN X266.here hx rfl (hb hby d12_11) rfl (XS.iinc X266.here hx rfl (hb hby d12_12) rfl (l' := #[.val (.ref x0), .val (.int (1 : Int32)), .val (.ref d0), .val (.int (2 : Int32)), .val (.int (3 : Int32)), .val (.int (1 : Int32))]) rfl (XS.aloadN X266.here hx rfl (hb hby d12_15) rfl rfl (XS.iloadN X266.here hx rfl (hb hby d12_16) rfl (XS.iinc X266.here hx rfl (hb hby d12_17) rfl (l' := #[.val (.ref x0), .val (.int (2 : Int32)), .val (.ref d0), .val (.int (2 : Int32)), .val (.int (3 : Int32)), .val (.int (1 : Int32))]) rfl kt))))))))))) ?_
  have F269 : Arv Z h266 x0 kx .byte (3 : Int32) [(.int y0.toInt8.toInt32), (.int y1.toInt8.toInt32), (.int y2.toInt8.toInt32)] (.int (0 : Int32)) := (Arv.other pr1 W266 pr4)
  refine own_st (T' := T266) (g' := (mkF m 21 #[.val (.ref x0), .val (.int (2 : Int32)), .val (.ref d0), .val (.int (2 : Int32)), .val (.int (3 : Int32)), .val (.int (1 : Int32))] [(.int y1.toInt8.toInt32), (.int (1 : Int32)), (.ref d0)])) (own_bal X266 hx hZ e266 F269 ⟨by decide, by decide⟩ rfl (g := (mkF m 20 #[.val (.ref x0), .val (.int (2 : Int32)), .val (.ref d0), .val (.int (2 : Int32)), .val (.int (3 : Int32)), .val (.int (1 : Int32))] [(.int (1 : Int32)), (.ref x0), (.int (1 : Int32)), (.ref d0)])) rfl rfl (hb hby d12_20)) ?_
  refine own_st (T' := T266) (g' := (mkF m 26 #[.val (.ref x0), .val (.int (2 : Int32)), .val (.ref d0), .val (.int (2 : Int32)), .val (.int (3 : Int32)), .val (.int (1 : Int32))] [(.int ((y1.toInt8.toInt32 &&& (255 : Int32)).toUInt32.toUInt16.toUInt32.toInt32)), (.int (1 : Int32)), (.ref d0)])) (fun _ kt => XS.sipush X266.here hx rfl (hb hby d12_21) (XS.iand X266.here hx rfl (hb hby d12_24) rfl (XT.i2c X266.here hx rfl (hb hby d12_25) rfl kt))) ?_
  obtain ⟨T270, h270, X270, e270, W270, V270, st270⟩ := own_cst X266 hx hZ e266 F268 ⟨by decide, by decide⟩ (i := 1) rfl (by simp) (y := y1) (own_back8 pr6) (g := (mkF m 26 #[.val (.ref x0), .val (.int (2 : Int32)), .val (.ref d0), .val (.int (2 : Int32)), .val (.int (3 : Int32)), .val (.int (1 : Int32))] [(.int ((y1.toInt8.toInt32 &&& (255 : Int32)).toUInt32.toUInt16.toUInt32.toInt32)), (.int (1 : Int32)), (.ref d0)])) rfl rfl (hb hby d12_26)
  have N270 := Fr.snoc X270 N266 pr3
  have Z271 : n0 ≤ h270.size := Nat.le_trans Z267 (Nat.le_of_eq (Wr.size W270).symm)
  have K271 : Keep h0 h270 [d0] := (Keep.wr K267 W270 (Or.inl (List.mem_of_getElem? (i := 0) rfl)))
  have F272 : Arv Z h270 d0 kd .char (3 : Int32) [(.int y0), (.int y1), (.int (0 : Int32))] (.int (0 : Int32)) := V270
  refine own_st (T' := T270) (g' := (mkF m 27 #[.val (.ref x0), .val (.int (2 : Int32)), .val (.ref d0), .val (.int (2 : Int32)), .val (.int (3 : Int32)), .val (.int (1 : Int32))] [])) st270 ?_
  refine own_st (T' := T270) (g' := (mkF m 20 #[.val (.ref x0), .val (.int (3 : Int32)), .val (.ref d0), .val (.int (3 : Int32)), .val (.int (3 : Int32)), .val (.int (2 : Int32))] [(.int (2 : Int32)), (.ref x0), (.int (2 : Int32)), (.ref d0)])) (fun _ kt => XS.iinc X270.here hx rfl (hb hby d12_27) rfl (l' := #[.val (.ref x0), .val (.int (2 : Int32)), .val (.ref d0), .val (.int (2 : Int32)), .val (.int (3 : Int32)), .val (.int (2 : Int32))]) rfl (XS.goto X270.here hx rfl (pc0 := 30) (pc' := 3) rfl (hb hby d12_30) (by decide) (by decide) (XS.iload X270.here hx rfl (hb hby d12_3) rfl (XS.iload X270.here hx rfl (hb hby d12_5) rfl (XS.icmpNo X270.here hx rfl (hb hby d12_7) rfl (XT.ii_ge_f (by decide)) (XS.aloadN X270.here hx rfl (hb hby d12_10) rfl rfl (XS.iloadN X270.here hx rfl (hb hby d12_11) rfl (XS.iinc X270.here hx rfl (hb hby d12_12) rfl (l' := #[.val (.ref x0), .val (.int (2 : Int32)), .val (.ref d0), .val (.int (3 : Int32)), .val (.int (3 : Int32)), .val (.int (2 : Int32))]) rfl (XS.aloadN X270.here hx rfl (hb hby d12_15) rfl rfl (XS.iloadN X270.here hx rfl (hb hby d12_16) rfl (XS.iinc X270.here hx rfl (hb hby d12_17) rfl (l' := #[.val (.ref x0), .val (.int (3 : Int32)), .val (.ref d0), .val (.int (3 : Int32)), .val (.int (3 : Int32)), .val (.int (2 : Int32))]) rfl kt))))))))))) ?_
  have F273 : Arv Z h270 x0 kx .byte (3 : Int32) [(.int y0.toInt8.toInt32), (.int y1.toInt8.toInt32), (.int y2.toInt8.toInt32)] (.int (0 : Int32)) := (Arv.other F269 W270 pr4)
  refine own_st (T' := T270) (g' := (mkF m 21 #[.val (.ref x0), .val (.int (3 : Int32)), .val (.ref d0), .val (.int (3 : Int32)), .val (.int (3 : Int32)), .val (.int (2 : Int32))] [(.int y2.toInt8.toInt32), (.int (2 : Int32)), (.ref d0)])) (own_bal X270 hx hZ e270 F273 ⟨by decide, by decide⟩ rfl (g := (mkF m 20 #[.val (.ref x0), .val (.int (3 : Int32)), .val (.ref d0), .val (.int (3 : Int32)), .val (.int (3 : Int32)), .val (.int (2 : Int32))] [(.int (2 : Int32)), (.ref x0), (.int (2 : Int32)), (.ref d0)])) rfl rfl (hb hby d12_20)) ?_
  refine own_st (T' := T270) (g' := (mkF m 26 #[.val (.ref x0), .val (.int (3 : Int32)), .val (.ref d0), .val (.int (3 : Int32)), .val (.int (3 : Int32)), .val (.int (2 : Int32))] [(.int ((y2.toInt8.toInt32 &&& (255 : Int32)).toUInt32.toUInt16.toUInt32.toInt32)), (.int (2 : Int32)), (.ref d0)])) (fun _ kt => XS.sipush X270.here hx rfl (hb hby d12_21) (XS.iand X270.here hx rfl (hb hby d12_24) rfl (XT.i2c X270.here hx rfl (hb hby d12_25) rfl kt))) ?_
  obtain ⟨T274, h274, X274, e274, W274, V274, st274⟩ := own_cst X270 hx hZ e270 F272 ⟨by decide, by decide⟩ (i := 2) rfl (by simp) (y := y2) (own_back8 pr7) (g := (mkF m 26 #[.val (.ref x0), .val (.int (3 : Int32)), .val (.ref d0), .val (.int (3 : Int32)), .val (.int (3 : Int32)), .val (.int (2 : Int32))] [(.int ((y2.toInt8.toInt32 &&& (255 : Int32)).toUInt32.toUInt16.toUInt32.toInt32)), (.int (2 : Int32)), (.ref d0)])) rfl rfl (hb hby d12_26)
  have N274 := Fr.snoc X274 N270 pr3
  have Z275 : n0 ≤ h274.size := Nat.le_trans Z271 (Nat.le_of_eq (Wr.size W274).symm)
  have K275 : Keep h0 h274 [d0] := (Keep.wr K271 W274 (Or.inl (List.mem_of_getElem? (i := 0) rfl)))
  have F276 : Arv Z h274 d0 kd .char (3 : Int32) [(.int y0), (.int y1), (.int y2)] (.int (0 : Int32)) := V274
  refine own_st (T' := T274) (g' := (mkF m 27 #[.val (.ref x0), .val (.int (3 : Int32)), .val (.ref d0), .val (.int (3 : Int32)), .val (.int (3 : Int32)), .val (.int (2 : Int32))] [])) st274 ?_
  refine own_st (T' := T274) (g' := (mkF m 33 #[.val (.ref x0), .val (.int (3 : Int32)), .val (.ref d0), .val (.int (3 : Int32)), .val (.int (3 : Int32)), .val (.int (3 : Int32))] [])) (fun _ kt => XS.iinc X274.here hx rfl (hb hby d12_27) rfl (l' := #[.val (.ref x0), .val (.int (3 : Int32)), .val (.ref d0), .val (.int (3 : Int32)), .val (.int (3 : Int32)), .val (.int (3 : Int32))]) rfl (XS.goto X274.here hx rfl (pc0 := 30) (pc' := 3) rfl (hb hby d12_30) (by decide) (by decide) (XS.iload X274.here hx rfl (hb hby d12_3) rfl (XS.iload X274.here hx rfl (hb hby d12_5) rfl (XS.icmpYes X274.here hx rfl (pc0 := 7) (pc' := 33) rfl (hb hby d12_7) rfl (XT.ii_ge_t (by decide)) (by decide) (by decide) kt))))) ?_
  obtain ⟨fs, hr, hrun, hended, hW, hsame⟩ := X274.leave (v := none) (fun _ => rfl)
  refine own_end (X274.returnOut hx Bd.returns (hb hby d12_33) hr) ⟨_, hrun, hended, _, _, rfl, ?_, ⟨_, rfl⟩, hW, hsame.mono (by decide) (by decide)⟩
  show own_inf3Q Z _ _ _ _ _ _ _ h0 n0 _ T274.heap _
  rw [e274]
  exact ⟨rfl, N274, K275, F276⟩
def own_tch3Q (Z : State) (x0 : Addr) (kx : ClassId) (y0 : Int32) (y1 : Int32) (y2 : Int32) (h0 : Heap) (n0 : Nat) (v : Option Value) (h : Heap) (L : List Loc) : Prop := ∃ (b : Addr), ∃ (kb : ClassId), v = some (.ref b) ∧ Fr n0 L ∧ Keep h0 h [] ∧ (Arv Z h b kb .char (3 : Int32) [(.int y0), (.int y1), (.int y2)] (.int (0 : Int32))) ∧ (h0.size ≤ b)
abbrev own_tch3R : Room := { frames := 1, cells := 1, slots := 3, locals := 17 }
set_option maxRecDepth 65536 in
set_option maxHeartbeats 40000000 in
theorem own_tch3 (l : Launch) (Z : State) (a0 : Array Value) (hw : ∀ d ∈ tables_1, d.before a0 Z = true) (ws : List Jvm.Cond) (x0 : Addr) (kx : ClassId) (y0 : Int32) (y1 : Int32) (y2 : Int32) (h0 : Heap) (n0 : Nat) (Z0 : n0 ≤ h0.size) (pr1 : Arv Z h0 x0 kx .byte (3 : Int32) [(.int y0.toInt8.toInt32), (.int y1.toInt8.toInt32), (.int y2.toInt8.toInt32)] (.int (0 : Int32))) (pr2 : ¬ y0 < 0 ∧ ¬ (255 : Int32) < y0) (pr3 : ¬ y1 < 0 ∧ ¬ (255 : Int32) < y1) (pr4 : ¬ y2 < 0 ∧ ¬ (255 : Int32) < y2) :
    own_M l (⟨"java/lang/StringLatin1", "toChars", "([B)[C"⟩ : MethodName) jdk_43_method_9_code 2 (some (.array .char)) ws own_tch3R #[(.ref x0)] Z h0 (own_tch3Q Z x0 kx y0 y1 y2 h0 n0) := by
  refine own_go (plainFor_of_name own_pn3) (fun m => own_ef7 m x0 ) ?_
  intro p e s m below meth c s₁ Bd hx hby hml hZ hh hown hnm X0 e0
  have N0 := Fr.nil n0
  have K0 : Keep h0 h0 [] := Keep.refl h0 _
  refine own_st (T' := s₁) (g' := (mkF m 1 #[.val (.ref x0), .unset] [(.ref x0)])) (fun _ kt => XS.aloadN X0.here hx rfl (hb hby d11_0) rfl rfl kt) ?_
  refine own_st (T' := s₁) (g' := (mkF m 2 #[.val (.ref x0), .unset] [(.int (3 : Int32))])) (own_alen X0 hx hZ e0 pr1 (g := (mkF m 1 #[.val (.ref x0), .unset] [(.ref x0)])) rfl rfl (hb hby d11_1)) ?_
  obtain ⟨T277, h277, k277, X277, e277, E277, A277, st277⟩ := newP X0 hx hZ (aty := .char) (own_k hw 0 rfl) e0 (g := (mkF m 2 #[.val (.ref x0), .unset] [(.int (3 : Int32))])) rfl (hb hby d11_2) rfl (by decide) (cap := 3) (by decide) (by decide) (by decide) (by decide)
  obtain ⟨b277, g277⟩ : ∃ z, z = h0.size := ⟨_, rfl⟩
  rw [← g277] at A277 st277
  have ne278 : x0 ≠ b277 := by rw [g277]; exact Nat.ne_of_lt pr1.lt
  have Z279 : n0 ≤ h277.size := Nat.le_trans Z0 E277.1
  have K279 : Keep h0 h277 [] := (Keep.ext K0 E277)
  have ge_b277 : n0 ≤ b277 := Nat.le_trans Z0 (Nat.le_of_eq g277.symm)
  have F280 : Arv Z h277 b277 k277 .char (3 : Int32) [(.int (0 : Int32)), (.int (0 : Int32)), (.int (0 : Int32))] (.int (0 : Int32)) := (Arv.new A277 (by decide)).pad (pad_rep [] (.int (0 : Int32)) 3)
  refine own_st (T' := T277) (g' := (mkF m 4 #[.val (.ref x0), .unset] [(.ref b277)])) st277 ?_
  refine own_st (T' := T277) (g' := (mkF m 10 #[.val (.ref x0), .val (.ref b277)] [(.ref x0), (.int (0 : Int32)), (.ref b277), (.int (0 : Int32)), (.ref x0)])) (fun _ kt => XS.astoreN X277.here hx rfl (hb hby d11_4) rfl rfl (l' := #[.val (.ref x0), .val (.ref b277)]) rfl (XS.aloadN X277.here hx rfl (hb hby d11_5) rfl rfl (XS.iconst X277.here hx rfl (hb hby d11_6) (XS.aloadN X277.here hx rfl (hb hby d11_7) rfl rfl (XS.iconst X277.here hx rfl (hb hby d11_8) (XS.aloadN X277.here hx rfl (hb hby d11_9) rfl rfl kt)))))) ?_
  have F281 : Arv Z h277 x0 kx .byte (3 : Int32) [(.int y0.toInt8.toInt32), (.int y1.toInt8.toInt32), (.int y2.toInt8.toInt32)] (.int (0 : Int32)) := (pr1.ext E277)
  refine own_st (T' := T277) (g' := (mkF m 11 #[.val (.ref x0), .val (.ref b277)] [(.int (3 : Int32)), (.int (0 : Int32)), (.ref b277), (.int (0 : Int32)), (.ref x0)])) (own_alen X277 hx hZ e277 F281 (g := (mkF m 10 #[.val (.ref x0), .val (.ref b277)] [(.ref x0), (.int (0 : Int32)), (.ref b277), (.int (0 : Int32)), (.ref x0)])) rfl rfl (hb hby d11_10)) ?_
  obtain ⟨_, _, ⟨T282, L282, k282, n282⟩, -, X282, ⟨Lc282, hQ282, l282, y282, z282⟩, st282⟩ := Jvm.LawKit.callS X277 hx (y := (⟨"java/lang/StringLatin1", "inflate", "([BI[CII)V"⟩ : MethodName)) hown (mvT hZ (own_k hw 55 rfl)) (mvT hZ (own_k hw 56 rfl)) (mvT hZ (own_k hw 53 rfl)) (mvT hZ (own_k hw 57 rfl)) (by decide) (backOf (W := 0) (own_inf3 l Z a0 hw [] x0 b277 kx k277 y0 y1 y2 h277 n0 Z279 F281 F280 ge_b277 ne278 pr2 pr3 pr4) hZ (own_k hw 57 rfl) (own_k hw 53 rfl) (by decide) (by decide)) (g := (mkF m 11 #[.val (.ref x0), .val (.ref b277)] [(.int (3 : Int32)), (.int (0 : Int32)), (.ref b277), (.int (0 : Int32)), (.ref x0)])) rfl hml.symm  (argsL := [(.ref x0), (.int (0 : Int32)), (.ref b277), (.int (0 : Int32)), (.int (3 : Int32))]) (rest := []) (lenOf own_pd3 rfl) rfl (by show 2 * 0 + _ ≤ _; exact Nat.le_of_eq rfl) (hb hby d11_11) (fun _ _ => ⟨rfl, e277, (by decide : 1 + 0 ≤ 1), (by decide : 3 + 0 ≤ 3)⟩)
  dsimp only [Pt.U, Pt.locs, Pt.cells, Pt.slots] at X282 l282 y282 z282 st282 hQ282
  subst l282 y282 z282
  obtain ⟨rfl, N282, K282_, P283⟩ := hQ282
  have N284 := Fr.app N0 N282
  have Z285 : n0 ≤ T282.heap.size := Nat.le_trans Z279 K282_.1
  have K285 : Keep h0 T282.heap [] := (Keep.trans K279 K282_ (allS (Or.inr (Nat.le_trans K0.1 (Nat.le_of_eq g277.symm))) all0))
  refine own_st (T' := T282) (g' := (mkF m 14 #[.val (.ref x0), .val (.ref b277)] [])) st282 ?_
  refine own_st (T' := T282) (g' := (mkF m 15 #[.val (.ref x0), .val (.ref b277)] [(.ref b277)])) (fun _ kt => XS.aloadN X282.here hx rfl (hb hby d11_14) rfl rfl kt) ?_
  obtain ⟨fs, hr, hrun, hended, hW, hsame⟩ := X282.leave (v := some (.ref b277)) (fun h => by rw [Bd.returns] at h; cases h)
  refine own_end (own_retA X282 hx Bd.returns rfl rfl rfl (hb hby d11_15) hr) ⟨_, hrun, hended, _, _, rfl, ?_, ⟨_, rfl⟩, hW, hsame.mono (by decide) (by decide)⟩
  show own_tch3Q Z _ _ _ _ _ h0 n0 _ T282.heap _
  show own_tch3Q Z _ _ _ _ _ h0 n0 _ T282.heap _
  exact ⟨b277, k277, rfl, N284, K285, P283, (Nat.le_trans K0.1 (Nat.le_of_eq g277.symm))⟩
def own_tca3Q (Z : State) (x0 : Addr) (zc : Int32) (t : Addr) (kx : ClassId) (y0 : Int32) (y1 : Int32) (y2 : Int32) (h0 : Heap) (n0 : Nat) (v : Option Value) (h : Heap) (L : List Loc) : Prop := ∃ (b : Addr), ∃ (kb : ClassId), v = some (.ref b) ∧ Fr n0 L ∧ Keep h0 h [] ∧ (Arv Z h b kb .char (3 : Int32) [(.int y0), (.int y1), (.int y2)] (.int (0 : Int32))) ∧ (h0.size ≤ b)
abbrev own_tca3R : Room := { frames := 2, cells := 1, slots := 3, locals := 30 }
set_option maxRecDepth 65536 in
set_option maxHeartbeats 40000000 in
theorem own_tca3 (l : Launch) (Z : State) (a0 : Array Value) (hw : ∀ d ∈ tables_1, d.before a0 Z = true) (ws : List Jvm.Cond) (x0 : Addr) (zc : Int32) (t : Addr) (kx : ClassId) (y0 : Int32) (y1 : Int32) (y2 : Int32) (h0 : Heap) (n0 : Nat) (Z0 : n0 ≤ h0.size) (pr1 : Old Z n0 h0) (pr2 : Sta Z Z.heap "java/lang/String" "COMPACT_STRINGS" "Z" (.int zc)) (pr3 : ¬ zc = 0) (pr4 : Exa Z h0 x0 "java/lang/String") (pr5 : Fld Z h0 x0 "java/lang/String" "coder" "B" (.int (0 : Int32))) (pr6 : Fld Z h0 x0 "java/lang/String" "value" "[B" (.ref t)) (pr7 : Arv Z h0 t kx .byte (3 : Int32) [(.int y0.toInt8.toInt32), (.int y1.toInt8.toInt32), (.int y2.toInt8.toInt32)] (.int (0 : Int32))) (pr8 : ¬ y0 < 0 ∧ ¬ (255 : Int32) < y0) (pr9 : ¬ y1 < 0 ∧ ¬ (255 : Int32) < y1) (pr10 : ¬ y2 < 0 ∧ ¬ (255 : Int32) < y2) :
    own_M l (⟨"java/lang/String", "toCharArray", "()[C"⟩ : MethodName) jdk_42_method_129_code 1 (some (.array .char)) ws own_tca3R #[(.ref x0)] Z h0 (own_tca3Q Z x0 zc t kx y0 y1 y2 h0 n0) := by
  refine own_go (plainFor_of_name own_pn1) (fun m => own_ef3 m x0 ) ?_
  intro p e s m below meth c s₁ Bd hx hby hml hZ hh hown hnm X0 e0
  have N0 := Fr.nil n0
  have K0 : Keep h0 h0 [] := Keep.refl h0 _
  refine own_st (T' := s₁) (g' := (mkF m 1 #[.val (.ref x0)] [(.ref x0)])) (fun _ kt => XS.aloadN X0.here hx rfl (hb hby d9_0) rfl rfl kt) ?_
  obtain ⟨cq287, kq287, qa287, qb287, qc287⟩ := isOf hZ e0 pr4
  obtain ⟨_, _, ⟨T286, L286, k286, n286⟩, -, X286, ⟨Lc286, hQ286, l286, y286, z286⟩, st286⟩ := X0.virtualBack hx (y := (⟨"java/lang/String", "isLatin1", "()Z"⟩ : MethodName)) (z := (⟨"java/lang/String", "isLatin1", "()Z"⟩ : MethodName)) hown (mvT hZ (own_k hw 46 rfl)) (mvT hZ (own_k hw 47 rfl)) (notFace_of_selects (args := #[]) (mvT hZ (own_k hw 49 rfl))) (mvT hZ (own_k hw 49 rfl)) (mvT hZ (own_k hw 48 rfl)) (by decide) (backOf (W := 0) (own_r10 l Z a0 hw [] x0 zc h0 n0 Z0 pr1 pr2 pr3 pr5) hZ (own_k hw 50 rfl) (own_k hw 7 rfl) (by decide) (by decide)) qa287 qc287 (g := (mkF m 1 #[.val (.ref x0)] [(.ref x0)])) rfl hml.symm (Steps.refl _) (argsL := []) (rest := []) (lenOf own_pd4 rfl) rfl (by show 2 * 0 + _ ≤ _; exact Nat.le_of_eq rfl) (hb hby d9_1) (fun _ _ => ⟨rfl, e0, (by decide : 0 + 0 ≤ 1), (by decide : 0 + 0 ≤ 3)⟩)
  dsimp only [Pt.U, Pt.locs, Pt.cells, Pt.slots] at X286 l286 y286 z286 st286 hQ286
  subst l286 y286 z286
  obtain ⟨rfl, N286, e286⟩ := hQ286
  have N288 := Fr.app N0 N286
  refine own_tr (T' := T286) (g' := (mkF m 4 #[.val (.ref x0)] [(.int (1 : Int32))])) st286 ?_
  refine own_st (T' := T286) (g' := (mkF m 8 #[.val (.ref x0)] [(.ref x0)])) (fun _ kt => XS.ifNo X286.here hx rfl (hb hby d9_4) rfl (XT.i0_eq_f (by decide)) (XS.aloadN X286.here hx rfl (hb hby d9_7) rfl rfl kt)) ?_
  obtain ⟨T289, X289, e289, st289⟩ := getF X286 hx hZ hown (host := "") (Or.inl (own_k hw 32 rfl)) Via.refl e286 pr6 (g := (mkF m 8 #[.val (.ref x0)] [(.ref x0)])) rfl rfl (hb hby d9_8)
  refine own_st (T' := T289) (g' := (mkF m 11 #[.val (.ref x0)] [(.ref t)])) st289 ?_
  obtain ⟨_, _, ⟨T290, L290, k290, n290⟩, -, X290, ⟨Lc290, hQ290, l290, y290, z290⟩, st290⟩ := Jvm.LawKit.callS X289 hx (y := (⟨"java/lang/StringLatin1", "toChars", "([B)[C"⟩ : MethodName)) hown (mvT hZ (own_k hw 51 rfl)) (mvT hZ (own_k hw 52 rfl)) (mvT hZ (own_k hw 53 rfl)) (mvT hZ (own_k hw 54 rfl)) (by decide) (backOf (W := 0) (own_tch3 l Z a0 hw [] t kx y0 y1 y2 h0 n0 Z0 pr7 pr8 pr9 pr10) hZ (own_k hw 54 rfl) (own_k hw 53 rfl) (by decide) (by decide)) (g := (mkF m 11 #[.val (.ref x0)] [(.ref t)])) rfl hml.symm  (argsL := [(.ref t)]) (rest := []) (lenOf own_pd5 rfl) rfl (by show 2 * 0 + _ ≤ _; exact Nat.le_of_eq rfl) (hb hby d9_11) (fun _ _ => ⟨rfl, e289, (by decide : 0 + 1 ≤ 1), (by decide : 0 + 3 ≤ 3)⟩)
  dsimp only [Pt.U, Pt.locs, Pt.cells, Pt.slots] at X290 l290 y290 z290 st290 hQ290
  subst l290 y290 z290
  obtain ⟨b_290, kb_290, rfl, N290, K290_, P291, P292⟩ := hQ290
  have N293 := Fr.app N288 N290
  have Z294 : n0 ≤ T290.heap.size := Nat.le_trans Z0 K290_.1
  have K294 : Keep h0 T290.heap [] := (Keep.trans K0 K290_ all0)
  have ne295 : x0 ≠ b_290 := Nat.ne_of_lt (Nat.lt_of_lt_of_le pr4.lt P292)
  have ne296 : t ≠ b_290 := Nat.ne_of_lt (Nat.lt_of_lt_of_le pr7.lt P292)
  have ge297 : n0 ≤ b_290 := Nat.le_trans Z0 P292
  refine own_st (T' := T290) (g' := (mkF m 14 #[.val (.ref x0)] [(.ref b_290)])) st290 ?_
  refine own_st (T' := T290) (g' := (mkF m 24 #[.val (.ref x0)] [(.ref b_290)])) (fun _ kt => XS.goto X290.here hx rfl (pc0 := 14) (pc' := 24) rfl (hb hby d9_14) (by decide) (by decide) kt) ?_
  obtain ⟨fs, hr, hrun, hended, hW, hsame⟩ := X290.leave (v := some (.ref b_290)) (fun h => by rw [Bd.returns] at h; cases h)
  refine own_end (own_retA X290 hx Bd.returns rfl rfl rfl (hb hby d9_24) hr) ⟨_, hrun, hended, _, _, rfl, ?_, ⟨_, rfl⟩, hW, hsame.mono (by decide) (by decide)⟩
  show own_tca3Q Z _ _ _ _ _ _ _ h0 n0 _ T290.heap _
  show own_tca3Q Z _ _ _ _ _ _ _ h0 n0 _ T290.heap _
  exact ⟨b_290, kb_290, rfl, N293, K294, P291, (Nat.le_trans K0.1 P292)⟩
def own_swi3Q (Z : State) (a : Addr) (x0 : Addr) (zc : Int32) (t : Addr) (kx : ClassId) (y0 : Int32) (y1 : Int32) (y2 : Int32) (h0 : Heap) (n0 : Nat) (v : Option Value) (h : Heap) (L : List Loc) : Prop := ∃ (b : Addr), ∃ (kb : ClassId), v = none ∧ Fr n0 L ∧ Keep h0 h [a] ∧ (Exa Z h a "com/example/tally_rank/tallyrank/analysis/SuffixWord") ∧ (Fld Z h a "com/example/tally_rank/tallyrank/analysis/SuffixWord" "letters" "[C" (.ref b)) ∧ (Fld Z h a "com/example/tally_rank/tallyrank/analysis/SuffixWord" "length" "I" (.int (3 : Int32))) ∧ (Arv Z h b kb .char (3 : Int32) [(.int y0), (.int y1), (.int y2)] (.int (0 : Int32))) ∧ (h0.size ≤ b)
abbrev own_swi3R : Room := { frames := 3, cells := 1, slots := 3, locals := 43 }
set_option maxRecDepth 65536 in
set_option maxHeartbeats 40000000 in
theorem own_swi3 (l : Launch) (Z : State) (a0 : Array Value) (hw : ∀ d ∈ tables_1, d.before a0 Z = true) (ws : List Jvm.Cond) (a : Addr) (x0 : Addr) (zc : Int32) (t : Addr) (kx : ClassId) (y0 : Int32) (y1 : Int32) (y2 : Int32) (h0 : Heap) (n0 : Nat) (Z0 : n0 ≤ h0.size) (pr1 : Old Z n0 h0) (pr2 : Sta Z Z.heap "java/lang/String" "COMPACT_STRINGS" "Z" (.int zc)) (pr3 : ¬ zc = 0) (pr4 : Exa Z h0 a "com/example/tally_rank/tallyrank/analysis/SuffixWord") (pr5 : n0 ≤ a) (pr6 : Fld Z h0 a "com/example/tally_rank/tallyrank/analysis/SuffixWord" "letters" "[C" .null) (pr7 : Fld Z h0 a "com/example/tally_rank/tallyrank/analysis/SuffixWord" "length" "I" (.int (0 : Int32))) (pr8 : Exa Z h0 x0 "java/lang/String") (pr9 : Fld Z h0 x0 "java/lang/String" "coder" "B" (.int (0 : Int32))) (pr10 : Fld Z h0 x0 "java/lang/String" "value" "[B" (.ref t)) (pr11 : Arv Z h0 t kx .byte (3 : Int32) [(.int y0.toInt8.toInt32), (.int y1.toInt8.toInt32), (.int y2.toInt8.toInt32)] (.int (0 : Int32))) (pr12 : ¬ y0 < 0 ∧ ¬ (255 : Int32) < y0) (pr13 : ¬ y1 < 0 ∧ ¬ (255 : Int32) < y1) (pr14 : ¬ y2 < 0 ∧ ¬ (255 : Int32) < y2) :
    own_M l (⟨"com/example/tally_rank/tallyrank/analysis/SuffixWord", "<init>", "(Ljava/lang/String;)V"⟩ : MethodName) prog_22_method_1_code 2 none ws own_swi3R #[(.ref a), (.ref x0)] Z h0 (own_swi3Q Z a x0 zc t kx y0 y1 y2 h0 n0) := by
  refine own_go (plainFor_of_name own_pn4) (fun m => own_ef2 m a x0 ) ?_
  intro p e s m below meth c s₁ Bd hx hby hml hZ hh hown hnm X0 e0
  have N0 := Fr.nil n0
  have K0 : Keep h0 h0 [a] := Keep.refl h0 _
  refine own_st (T' := s₁) (g' := (mkF m 1 #[.val (.ref a), .val (.ref x0)] [(.ref a)])) (fun _ kt => XS.aloadN X0.here hx rfl (hb hby d8_0) rfl rfl kt) ?_
  obtain ⟨T298, X298, e298, st298⟩ := initO X0 hx hZ hown (own_k hw 40 rfl) (own_k hw 16 rfl) (own_k hw 17 rfl) e0 (g := (mkF m 1 #[.val (.ref a), .val (.ref x0)] [(.ref a)])) rfl hml.symm rfl (hb hby d8_1) (by decide) (W := 0) (by show 2 * 0 + _ ≤ _; exact Nat.le_of_eq rfl) (by decide)
  refine own_st (T' := T298) (g' := (mkF m 4 #[.val (.ref a), .val (.ref x0)] [])) st298 ?_
  refine own_st (T' := T298) (g' := (mkF m 6 #[.val (.ref a), .val (.ref x0)] [(.ref x0), (.ref a)])) (fun _ kt => XS.aloadN X298.here hx rfl (hb hby d8_4) rfl rfl (XS.aloadN X298.here hx rfl (hb hby d8_5) rfl rfl kt)) ?_
  obtain ⟨cq300, kq300, qa300, qb300, qc300⟩ := isOf hZ e298 pr8
  obtain ⟨_, _, ⟨T299, L299, k299, n299⟩, -, X299, ⟨Lc299, hQ299, l299, y299, z299⟩, st299⟩ := X298.virtualBack hx (y := (⟨"java/lang/String", "toCharArray", "()[C"⟩ : MethodName)) (z := (⟨"java/lang/String", "toCharArray", "()[C"⟩ : MethodName)) hown (mvT hZ (own_k hw 41 rfl)) (mvT hZ (own_k hw 42 rfl)) (notFace_of_selects (args := #[]) (mvT hZ (own_k hw 44 rfl))) (mvT hZ (own_k hw 44 rfl)) (mvT hZ (own_k hw 43 rfl)) (by decide) (backOf (W := 1) (own_tca3 l Z a0 hw [] x0 zc t kx y0 y1 y2 h0 n0 Z0 pr1 pr2 pr3 pr8 pr9 pr10 pr11 pr12 pr13 pr14) hZ (own_k hw 45 rfl) (own_k hw 7 rfl) (by decide) (by decide)) qa300 qc300 (g := (mkF m 6 #[.val (.ref a), .val (.ref x0)] [(.ref x0), (.ref a)])) rfl hml.symm (Steps.refl _) (argsL := []) (rest := [(.ref a)]) (lenOf own_pd6 rfl) rfl (by show 2 * 0 + _ ≤ _; exact Nat.le_of_eq rfl) (hb hby d8_6) (fun _ _ => ⟨rfl, e298, (by decide : 0 + 1 ≤ 1), (by decide : 0 + 3 ≤ 3)⟩)
  dsimp only [Pt.U, Pt.locs, Pt.cells, Pt.slots] at X299 l299 y299 z299 st299 hQ299
  subst l299 y299 z299
  obtain ⟨b_299, kb_299, rfl, N299, K299_, P301, P302⟩ := hQ299
  have N303 := Fr.app N0 N299
  have Z304 : n0 ≤ T299.heap.size := Nat.le_trans Z0 K299_.1
  have K304 : Keep h0 T299.heap [a] := (Keep.trans K0 K299_ all0)
  have ne305 : a ≠ b_299 := Nat.ne_of_lt (Nat.lt_of_lt_of_le pr4.lt P302)
  have ne306 : x0 ≠ b_299 := Nat.ne_of_lt (Nat.lt_of_lt_of_le pr8.lt P302)
  have ne307 : t ≠ b_299 := Nat.ne_of_lt (Nat.lt_of_lt_of_le pr11.lt P302)
  have ge308 : n0 ≤ b_299 := Nat.le_trans Z0 P302
  refine own_tr (T' := T299) (g' := (mkF m 9 #[.val (.ref a), .val (.ref x0)] [(.ref b_299), (.ref a)])) st299 ?_
  have F309 : Fld Z T299.heap a "com/example/tally_rank/tallyrank/analysis/SuffixWord" "letters" "[C" .null := (Fld.keep pr6 K299_ nin0)
  have F310 : Exa Z T299.heap a "com/example/tally_rank/tallyrank/analysis/SuffixWord" := (Exa.keep pr4 K299_)
  obtain ⟨T311, h311, X311, e311, W311, st311⟩ := putF X299 hx hZ hown (host := "") (Or.inl (own_k hw 58 rfl)) Via.refl rfl F309 F310 (Or.inr ⟨(own_k hw 59 rfl), rfl, hnm⟩) (own_k hw 35 rfl) (ty := (.array .char)) (by decide) rfl rfl (g := (mkF m 9 #[.val (.ref a), .val (.ref x0)] [(.ref b_299), (.ref a)])) rfl rfl (hb hby d8_9)
  have N311 := Fr.snoc X311 N303 pr5
  have Z312 : n0 ≤ h311.size := Nat.le_trans Z304 (Nat.le_of_eq (Wr.size W311).symm)
  have K312 : Keep h0 h311 [a] := (Keep.wr K304 W311 (Or.inl (List.mem_of_getElem? (i := 0) rfl)))
  have F313 : Fld Z h311 a "com/example/tally_rank/tallyrank/analysis/SuffixWord" "letters" "[C" (.ref b_299) := Fld.same W311 F309
  refine own_st (T' := T311) (g' := (mkF m 12 #[.val (.ref a), .val (.ref x0)] [])) st311 ?_
  refine own_st (T' := T311) (g' := (mkF m 14 #[.val (.ref a), .val (.ref x0)] [(.ref x0), (.ref a)])) (fun _ kt => XS.aloadN X311.here hx rfl (hb hby d8_12) rfl rfl (XS.aloadN X311.here hx rfl (hb hby d8_13) rfl rfl kt)) ?_
  have F314 : Exa Z h311 x0 "java/lang/String" := (Exa.wr W311 (Exa.keep pr8 K299_))
  have F315 : Old Z n0 h311 := (Old.wr (Old.keep pr1 K299_ all0) W311 pr5)
  have F316 : Exa Z T299.heap x0 "java/lang/String" := (Exa.keep pr8 K299_)
  have F317 : Fld Z h311 x0 "java/lang/String" "coder" "B" (.int (0 : Int32)) := (Fld.other W311 (Fld.keep pr9 K299_ nin0) (Or.inl (ne_exa F316 F310 (by decide))))
  have F318 : Exa Z T299.heap x0 "java/lang/String" := (Exa.keep pr8 K299_)
  have F319 : Fld Z h311 x0 "java/lang/String" "value" "[B" (.ref t) := (Fld.other W311 (Fld.keep pr10 K299_ nin0) (Or.inl (ne_exa F318 F310 (by decide))))
  have F320 : Arv Z h311 t kx .byte (3 : Int32) [(.int y0.toInt8.toInt32), (.int y1.toInt8.toInt32), (.int y2.toInt8.toInt32)] (.int (0 : Int32)) := (Arv.other (Arv.keep pr11 K299_ nin0) W311 (Ne.symm (Exa.neArv pr4 pr11 (own_k hw 35 rfl))))
  obtain ⟨cq322, kq322, qa322, qb322, qc322⟩ := isOf hZ e311 F314
  obtain ⟨_, _, ⟨T321, L321, k321, n321⟩, -, X321, ⟨Lc321, hQ321, l321, y321, z321⟩, st321⟩ := X311.virtualBack hx (y := (⟨"java/lang/String", "length", "()I"⟩ : MethodName)) (z := (⟨"java/lang/String", "length", "()I"⟩ : MethodName)) hown (mvT hZ (own_k hw 60 rfl)) (mvT hZ (own_k hw 61 rfl)) (notFace_of_selects (args := #[]) (mvT hZ (own_k hw 63 rfl))) (mvT hZ (own_k hw 63 rfl)) (mvT hZ (own_k hw 62 rfl)) (by decide) (backOf (W := 1) (own_len l Z a0 hw [] x0 zc t kx (3 : Int32) [(.int y0.toInt8.toInt32), (.int y1.toInt8.toInt32), (.int y2.toInt8.toInt32)] (.int (0 : Int32)) h311 n0 Z312 F315 pr2 pr3 F314 F317 F319 F320) hZ (own_k hw 64 rfl) (own_k hw 7 rfl) (by decide) (by decide)) qa322 qc322 (g := (mkF m 14 #[.val (.ref a), .val (.ref x0)] [(.ref x0), (.ref a)])) rfl hml.symm (Steps.refl _) (argsL := []) (rest := [(.ref a)]) (lenOf own_pd7 rfl) rfl (by show 2 * 0 + _ ≤ _; exact Nat.le_of_eq rfl) (hb hby d8_14) (fun _ _ => ⟨rfl, e311, (by decide : 1 + 0 ≤ 1), (by decide : 3 + 0 ≤ 3)⟩)
  dsimp only [Pt.U, Pt.locs, Pt.cells, Pt.slots] at X321 l321 y321 z321 st321 hQ321
  subst l321 y321 z321
  obtain ⟨rfl, N321, e321⟩ := hQ321
  have N323 := Fr.app N311 N321
  refine own_tr (T' := T321) (g' := (mkF m 17 #[.val (.ref a), .val (.ref x0)] [(.int (3 : Int32)), (.ref a)])) st321 ?_
  have F324 : Fld Z h311 a "com/example/tally_rank/tallyrank/analysis/SuffixWord" "length" "I" (.int (0 : Int32)) := (Fld.other W311 (Fld.keep pr7 K299_ nin0) (Or.inr (slot_ne (Or.inl (own_k hw 71 rfl)) (Or.inr (own_k hw 59 rfl)) (by decide) (t := .int) (t' := (.array .char)) (by decide) (by decide))))
  have F325 : Exa Z h311 a "com/example/tally_rank/tallyrank/analysis/SuffixWord" := (Exa.wr W311 F310)
  obtain ⟨T326, h326, X326, e326, W326, st326⟩ := putF X321 hx hZ hown (host := "") (Or.inl (own_k hw 70 rfl)) Via.refl e321 F324 F325 (Or.inl (own_k hw 71 rfl)) (own_k hw 35 rfl) (ty := .int) (by decide) rfl rfl (g := (mkF m 17 #[.val (.ref a), .val (.ref x0)] [(.int (3 : Int32)), (.ref a)])) rfl rfl (hb hby d8_17)
  have N326 := Fr.snoc X326 N323 pr5
  have Z327 : n0 ≤ h326.size := Nat.le_trans Z312 (Nat.le_of_eq (Wr.size W326).symm)
  have K327 : Keep h0 h326 [a] := (Keep.wr K312 W326 (Or.inl (List.mem_of_getElem? (i := 0) rfl)))
  have F328 : Fld Z h326 a "com/example/tally_rank/tallyrank/analysis/SuffixWord" "length" "I" (.int (3 : Int32)) := Fld.same W326 F324
  refine own_st (T' := T326) (g' := (mkF m 20 #[.val (.ref a), .val (.ref x0)] [])) st326 ?_
  obtain ⟨fs, hr, hrun, hended, hW, hsame⟩ := X326.leave (v := none) (fun _ => rfl)
  refine own_end (X326.returnOut hx Bd.returns (hb hby d8_20) hr) ⟨_, hrun, hended, _, _, rfl, ?_, ⟨_, rfl⟩, hW, hsame.mono (by decide) (by decide)⟩
  have F329 : Fld Z h326 a "com/example/tally_rank/tallyrank/analysis/SuffixWord" "letters" "[C" (.ref b_299) := (Fld.other W326 F313 (Or.inr (slot_ne (Or.inr (own_k hw 59 rfl)) (Or.inl (own_k hw 71 rfl)) (by decide) (t := (.array .char)) (t' := .int) (by decide) (by decide))))
  have F330 : Exa Z h326 a "com/example/tally_rank/tallyrank/analysis/SuffixWord" := (Exa.wr W326 F325)
  have F331 : Arv Z h326 b_299 kb_299 .char (3 : Int32) [(.int y0), (.int y1), (.int y2)] (.int (0 : Int32)) := (Arv.other (Arv.other P301 W311 (Ne.symm ne305)) W326 (Ne.symm ne305))
  show own_swi3Q Z _ _ _ _ _ _ _ _ h0 n0 _ T326.heap _
  rw [e326]
  exact ⟨b_299, kb_299, rfl, N326, K327, F330, F329, F328, F331, (Nat.le_trans K0.1 P302)⟩
theorem d18_0 : decode prog_22_method_8_code 0 = .ok (.aload_n 0, 1) := by decide +kernel
theorem d18_1 : decode prog_22_method_8_code 1 = .ok (.iload_n 1, 1) := by decide +kernel
theorem d18_2 : decode prog_22_method_8_code 2 = .ok (.putfield 23, 3) := by decide +kernel
theorem d18_5 : decode prog_22_method_8_code 5 = .ok (.return_, 1) := by decide +kernel
def own_r27Q (Z : State) (a : Addr) (u : Int32) (u0 : Int32) (la : Addr) (h0 : Heap) (n0 : Nat) (v : Option Value) (h : Heap) (L : List Loc) : Prop := v = none ∧ Fr n0 L ∧ Keep h0 h [a] ∧ (Exa Z h a "com/example/tally_rank/tallyrank/analysis/SuffixWord") ∧ (Fld Z h a "com/example/tally_rank/tallyrank/analysis/SuffixWord" "length" "I" (.int u)) ∧ (Fld Z h a "com/example/tally_rank/tallyrank/analysis/SuffixWord" "letters" "[C" (.ref la))
abbrev own_r27R : Room := { frames := 0, cells := 0, slots := 0, locals := 0 }
set_option maxRecDepth 65536 in
set_option maxHeartbeats 40000000 in
theorem own_r27 (l : Launch) (Z : State) (a0 : Array Value) (hw : ∀ d ∈ tables_1, d.before a0 Z = true) (ws : List Jvm.Cond) (a : Addr) (u : Int32) (u0 : Int32) (la : Addr) (h0 : Heap) (n0 : Nat) (Z0 : n0 ≤ h0.size) (pr1 : Exa Z h0 a "com/example/tally_rank/tallyrank/analysis/SuffixWord") (pr2 : n0 ≤ a) (pr3 : Fld Z h0 a "com/example/tally_rank/tallyrank/analysis/SuffixWord" "length" "I" (.int u0)) (pr4 : Fld Z h0 a "com/example/tally_rank/tallyrank/analysis/SuffixWord" "letters" "[C" (.ref la)) :
    own_M l (⟨"com/example/tally_rank/tallyrank/analysis/SuffixWord", "cut", "(I)V"⟩ : MethodName) prog_22_method_8_code 2 none ws own_r27R #[(.ref a), (.int u)] Z h0 (own_r27Q Z a u u0 la h0 n0) := by
  refine own_go (plainFor_of_name own_pn4) (fun m => own_ef5 m a u ) ?_
  intro p e s m below meth c s₁ Bd hx hby hml hZ hh hown hnm X0 e0
  have N0 := Fr.nil n0
  have K0 : Keep h0 h0 [a] := Keep.refl h0 _
  refine own_st (T' := s₁) (g' := (mkF m 2 #[.val (.ref a), .val (.int u)] [(.int u), (.ref a)])) (fun _ kt => XS.aloadN X0.here hx rfl (hb hby d18_0) rfl rfl (XS.iloadN X0.here hx rfl (hb hby d18_1) rfl kt)) ?_
  obtain ⟨T332, h332, X332, e332, W332, st332⟩ := putF X0 hx hZ hown (host := "") (Or.inl (own_k hw 70 rfl)) Via.refl e0 pr3 pr1 (Or.inl (own_k hw 71 rfl)) (own_k hw 35 rfl) (ty := .int) (by decide) rfl rfl (g := (mkF m 2 #[.val (.ref a), .val (.int u)] [(.int u), (.ref a)])) rfl rfl (hb hby d18_2)
  have N332 := Fr.snoc X332 N0 pr2
  have Z333 : n0 ≤ h332.size := Nat.le_trans Z0 (Nat.le_of_eq (Wr.size W332).symm)
  have K333 : Keep h0 h332 [a] := (Keep.wr K0 W332 (Or.inl (List.mem_of_getElem? (i := 0) rfl)))
  have F334 : Fld Z h332 a "com/example/tally_rank/tallyrank/analysis/SuffixWord" "length" "I" (.int u) := Fld.same W332 pr3
  refine own_st (T' := T332) (g' := (mkF m 5 #[.val (.ref a), .val (.int u)] [])) st332 ?_
  obtain ⟨fs, hr, hrun, hended, hW, hsame⟩ := X332.leave (v := none) (fun _ => rfl)
  refine own_end (X332.returnOut hx Bd.returns (hb hby d18_5) hr) ⟨_, hrun, hended, _, _, rfl, ?_, ⟨_, rfl⟩, hW, hsame.mono (by decide) (by decide)⟩
  have F335 : Exa Z h332 a "com/example/tally_rank/tallyrank/analysis/SuffixWord" := (Exa.wr W332 pr1)
  have F336 : Fld Z h332 a "com/example/tally_rank/tallyrank/analysis/SuffixWord" "letters" "[C" (.ref la) := (Fld.other W332 pr4 (Or.inr (slot_ne (Or.inr (own_k hw 59 rfl)) (Or.inl (own_k hw 71 rfl)) (by decide) (t := (.array .char)) (t' := .int) (by decide) (by decide))))
  show own_r27Q Z _ _ _ _ h0 n0 _ T332.heap _
  rw [e332]
  exact ⟨rfl, N332, K333, F335, F334, F336⟩
theorem d15_0 : decode method_4_code 0 = .ok (.iload_n 3, 1) := by decide +kernel
theorem d15_1 : decode method_4_code 1 = .ok (.iload_n 1, 1) := by decide +kernel
theorem d15_2 : decode method_4_code 2 = .ok (.if_icmp .le 5, 3) := by decide +kernel
theorem d15_7 : decode method_4_code 7 = .ok (.iload_n 1, 1) := by decide +kernel
theorem d15_8 : decode method_4_code 8 = .ok (.iload_n 3, 1) := by decide +kernel
theorem d15_9 : decode method_4_code 9 = .ok (.isub, 1) := by decide +kernel
theorem d15_10 : decode method_4_code 10 = .ok (.istore 4, 2) := by decide +kernel
theorem d15_12 : decode method_4_code 12 = .ok (.iload_n 3, 1) := by decide +kernel
theorem d15_13 : decode method_4_code 13 = .ok (.ifCond .le 15, 3) := by decide +kernel
theorem d15_28 : decode method_4_code 28 = .ok (.iload_n 3, 1) := by decide +kernel
theorem d15_29 : decode method_4_code 29 = .ok (.iconst 1, 1) := by decide +kernel
theorem d15_30 : decode method_4_code 30 = .ok (.if_icmp .le 17, 3) := by decide +kernel
theorem d15_47 : decode method_4_code 47 = .ok (.iload_n 3, 1) := by decide +kernel
theorem d15_48 : decode method_4_code 48 = .ok (.iconst 2, 1) := by decide +kernel
theorem d15_49 : decode method_4_code 49 = .ok (.if_icmp .le 17, 3) := by decide +kernel
theorem d15_66 : decode method_4_code 66 = .ok (.iconst 1, 1) := by decide +kernel
theorem d15_67 : decode method_4_code 67 = .ok (.ireturn, 1) := by decide +kernel
theorem d15_5 : decode method_4_code 5 = .ok (.iconst 0, 1) := by decide +kernel
theorem d15_6 : decode method_4_code 6 = .ok (.ireturn, 1) := by decide +kernel
theorem d15_16 : decode method_4_code 16 = .ok (.aload_n 0, 1) := by decide +kernel
theorem d15_17 : decode method_4_code 17 = .ok (.iload 4, 2) := by decide +kernel
theorem d15_19 : decode method_4_code 19 = .ok (.caload, 1) := by decide +kernel
theorem d15_20 : decode method_4_code 20 = .ok (.aload_n 2, 1) := by decide +kernel
theorem d15_21 : decode method_4_code 21 = .ok (.iconst 0, 1) := by decide +kernel
theorem d15_22 : decode method_4_code 22 = .ok (.caload, 1) := by decide +kernel
theorem d15_23 : decode method_4_code 23 = .ok (.if_icmp .eq 5, 3) := by decide +kernel
theorem d15_26 : decode method_4_code 26 = .ok (.iconst 0, 1) := by decide +kernel
theorem d15_27 : decode method_4_code 27 = .ok (.ireturn, 1) := by decide +kernel
theorem d15_33 : decode method_4_code 33 = .ok (.aload_n 0, 1) := by decide +kernel
theorem d15_34 : decode method_4_code 34 = .ok (.iload 4, 2) := by decide +kernel
theorem d15_36 : decode method_4_code 36 = .ok (.iconst 1, 1) := by decide +kernel
theorem d15_37 : decode method_4_code 37 = .ok (.iadd, 1) := by decide +kernel
theorem d15_38 : decode method_4_code 38 = .ok (.caload, 1) := by decide +kernel
theorem d15_39 : decode method_4_code 39 = .ok (.aload_n 2, 1) := by decide +kernel
theorem d15_40 : decode method_4_code 40 = .ok (.iconst 1, 1) := by decide +kernel
theorem d15_41 : decode method_4_code 41 = .ok (.caload, 1) := by decide +kernel
theorem d15_42 : decode method_4_code 42 = .ok (.if_icmp .eq 5, 3) := by decide +kernel
theorem d15_45 : decode method_4_code 45 = .ok (.iconst 0, 1) := by decide +kernel
theorem d15_46 : decode method_4_code 46 = .ok (.ireturn, 1) := by decide +kernel
theorem d15_52 : decode method_4_code 52 = .ok (.aload_n 0, 1) := by decide +kernel
theorem d15_53 : decode method_4_code 53 = .ok (.iload 4, 2) := by decide +kernel
theorem d15_55 : decode method_4_code 55 = .ok (.iconst 2, 1) := by decide +kernel
theorem d15_56 : decode method_4_code 56 = .ok (.iadd, 1) := by decide +kernel
theorem d15_57 : decode method_4_code 57 = .ok (.caload, 1) := by decide +kernel
theorem d15_58 : decode method_4_code 58 = .ok (.aload_n 2, 1) := by decide +kernel
theorem d15_59 : decode method_4_code 59 = .ok (.iconst 2, 1) := by decide +kernel
theorem d15_60 : decode method_4_code 60 = .ok (.caload, 1) := by decide +kernel
theorem d15_61 : decode method_4_code 61 = .ok (.if_icmp .eq 5, 3) := by decide +kernel
theorem d15_64 : decode method_4_code 64 = .ok (.iconst 0, 1) := by decide +kernel
theorem d15_65 : decode method_4_code 65 = .ok (.ireturn, 1) := by decide +kernel
set_option maxHeartbeats 4000000 in
theorem own_ef8 (m : MethodId) (x0 : Addr) (x1 : Int32) (x2 : Addr) (x3 : Int32) : entryFrame m #[(.ref x0), (.int x1), (.ref x2), (.int x3)] 5 = mkF m 0 #[.val (.ref x0), .val (.int x1), .val (.ref x2), .val (.int x3), .unset] [] := by first | (simp [entryFrame, mkF, argsToLocals, Value.category]; done) | rfl
def own_refQ (Z : State) (x0 : Addr) (ln : Int32) (y0 : Addr) (mm : Int32) (kx : ClassId) (ky : ClassId) (w0 : Int32) (w1 : Int32) (w2 : Int32) (s0 : Int32) (s1 : Int32) (s2 : Int32) (h0 : Heap) (n0 : Nat) (v : Option Value) (h : Heap) (L : List Loc) : Prop := v = some (.int (own_rf w0 w1 w2 ln s0 s1 s2 mm)) ∧ Fr n0 L ∧ h = h0
abbrev own_refR : Room := { frames := 0, cells := 0, slots := 0, locals := 0 }
set_option maxRecDepth 65536 in
set_option maxHeartbeats 40000000 in
theorem own_ref (l : Launch) (Z : State) (a0 : Array Value) (hw : ∀ d ∈ tables_1, d.before a0 Z = true) (ws : List Jvm.Cond) (x0 : Addr) (ln : Int32) (y0 : Addr) (mm : Int32) (kx : ClassId) (ky : ClassId) (w0 : Int32) (w1 : Int32) (w2 : Int32) (s0 : Int32) (s1 : Int32) (s2 : Int32) (h0 : Heap) (n0 : Nat) (Z0 : n0 ≤ h0.size) (pr1 : Arv Z h0 x0 kx .char (3 : Int32) [(.int w0), (.int w1), (.int w2)] (.int (0 : Int32))) (pr2 : Arv Z h0 y0 ky .char (3 : Int32) [(.int s0), (.int s1), (.int s2)] (.int (0 : Int32))) (pr3 : own_q mm) (pr4 : own_q ln) :
    own_M l (⟨"com/example/tally_rank/tallyrank/analysis/SuffixWordEndsWithPinLaw", "ref", "([CI[CI)Z"⟩ : MethodName) method_4_code 5 (some .boolean) ws own_refR #[(.ref x0), (.int ln), (.ref y0), (.int mm)] Z h0 (own_refQ Z x0 ln y0 mm kx ky w0 w1 w2 s0 s1 s2 h0 n0) := by
  refine own_go (plainFor_of_name own_pn2) (fun m => own_ef8 m x0 ln y0 mm ) ?_
  intro p e s m below meth c s₁ Bd hx hby hml hZ hh hown hnm X0 e0
  have N0 := Fr.nil n0
  rcases pr3 with rfl | rfl | rfl | rfl <;> rcases pr4 with rfl | rfl | rfl | rfl
  · -- m = 0, len = 0
    refine own_st (T' := s₁) (g' := (mkF m 47 #[.val (.ref x0), .val (.int (0 : Int32)), .val (.ref y0), .val (.int (0 : Int32)), .val (.int ((0 : Int32) - (0 : Int32)))] [])) (fun _ kt => XS.iloadN X0.here hx rfl (hb hby d15_0) rfl (XS.iloadN X0.here hx rfl (hb hby d15_1) rfl (XS.icmpYes X0.here hx rfl (pc0 := 2) (pc' := 7) rfl (hb hby d15_2) rfl (XT.ii_le_t (by decide)) (by decide) (by decide) (XS.iloadN X0.here hx rfl (hb hby d15_7) rfl (XS.iloadN X0.here hx rfl (hb hby d15_8) rfl (XS.isub X0.here hx rfl (hb hby d15_9) rfl (XS.istore X0.here hx rfl (hb hby d15_10) rfl (l' := #[.val (.ref x0), .val (.int (0 : Int32)), .val (.ref y0), .val (.int (0 : Int32)), .val (.int ((0 : Int32) - (0 : Int32)))]) rfl (XS.iloadN X0.here hx rfl (hb hby d15_12) rfl (XS.ifYes X0.here hx rfl (pc0 := 13) (pc' := 28) rfl (hb hby d15_13) rfl (XT.i0_le_t (by decide)) (by decide) (by decide) (XS.iloadN X0.here hx rfl (hb hby d15_28) rfl (XS.iconst X0.here hx rfl (hb hby d15_29) (XS.icmpYes X0.here hx rfl (pc0 := 30) (pc' := 47) rfl (hb hby d15_30) rfl (XT.ii_le_t (by decide)) (by decide) (by decide) kt)))))))))))) ?_
    refine own_st (T' := s₁) (g' := (mkF m 67 #[.val (.ref x0), .val (.int (0 : Int32)), .val (.ref y0), .val (.int (0 : Int32)), .val (.int ((0 : Int32) - (0 : Int32)))] [(.int (1 : Int32))])) (fun _ kt => XS.iloadN X0.here hx rfl (hb hby d15_47) rfl (XS.iconst X0.here hx rfl (hb hby d15_48) (XS.icmpYes X0.here hx rfl (pc0 := 49) (pc' := 66) rfl (hb hby d15_49) rfl (XT.ii_le_t (by decide)) (by decide) (by decide) (XS.iconst X0.here hx rfl (hb hby d15_66) kt)))) ?_
    obtain ⟨fs, hr, hrun, hended, hW, hsame⟩ := X0.leave (v := some (.int (1 : Int32))) (fun h => by rw [Bd.returns] at h; cases h)
    refine own_end (retN X0 hx (t := .boolean) Bd.returns (by simp) (hb hby d15_67) hr) ⟨_, hrun, hended, _, _, rfl, ?_, ⟨_, rfl⟩, hW, hsame.mono (by decide) (by decide)⟩
    show own_refQ Z _ _ _ _ _ _ _ _ _ _ _ _ h0 n0 _ s₁.heap _
    rw [e0]
    exact ⟨(by simp +decide [own_rf, own_W]), N0, rfl⟩
  · -- m = 0, len = 1
    refine own_st (T' := s₁) (g' := (mkF m 47 #[.val (.ref x0), .val (.int (1 : Int32)), .val (.ref y0), .val (.int (0 : Int32)), .val (.int ((1 : Int32) - (0 : Int32)))] [])) (fun _ kt => XS.iloadN X0.here hx rfl (hb hby d15_0) rfl (XS.iloadN X0.here hx rfl (hb hby d15_1) rfl (XS.icmpYes X0.here hx rfl (pc0 := 2) (pc' := 7) rfl (hb hby d15_2) rfl (XT.ii_le_t (by decide)) (by decide) (by decide) (XS.iloadN X0.here hx rfl (hb hby d15_7) rfl (XS.iloadN X0.here hx rfl (hb hby d15_8) rfl (XS.isub X0.here hx rfl (hb hby d15_9) rfl (XS.istore X0.here hx rfl (hb hby d15_10) rfl (l' := #[.val (.ref x0), .val (.int (1 : Int32)), .val (.ref y0), .val (.int (0 : Int32)), .val (.int ((1 : Int32) - (0 : Int32)))]) rfl (XS.iloadN X0.here hx rfl (hb hby d15_12) rfl (XS.ifYes X0.here hx rfl (pc0 := 13) (pc' := 28) rfl (hb hby d15_13) rfl (XT.i0_le_t (by decide)) (by decide) (by decide) (XS.iloadN X0.here hx rfl (hb hby d15_28) rfl (XS.iconst X0.here hx rfl (hb hby d15_29) (XS.icmpYes X0.here hx rfl (pc0 := 30) (pc' := 47) rfl (hb hby d15_30) rfl (XT.ii_le_t (by decide)) (by decide) (by decide) kt)))))))))))) ?_
    refine own_st (T' := s₁) (g' := (mkF m 67 #[.val (.ref x0), .val (.int (1 : Int32)), .val (.ref y0), .val (.int (0 : Int32)), .val (.int ((1 : Int32) - (0 : Int32)))] [(.int (1 : Int32))])) (fun _ kt => XS.iloadN X0.here hx rfl (hb hby d15_47) rfl (XS.iconst X0.here hx rfl (hb hby d15_48) (XS.icmpYes X0.here hx rfl (pc0 := 49) (pc' := 66) rfl (hb hby d15_49) rfl (XT.ii_le_t (by decide)) (by decide) (by decide) (XS.iconst X0.here hx rfl (hb hby d15_66) kt)))) ?_
    obtain ⟨fs, hr, hrun, hended, hW, hsame⟩ := X0.leave (v := some (.int (1 : Int32))) (fun h => by rw [Bd.returns] at h; cases h)
    refine own_end (retN X0 hx (t := .boolean) Bd.returns (by simp) (hb hby d15_67) hr) ⟨_, hrun, hended, _, _, rfl, ?_, ⟨_, rfl⟩, hW, hsame.mono (by decide) (by decide)⟩
    show own_refQ Z _ _ _ _ _ _ _ _ _ _ _ _ h0 n0 _ s₁.heap _
    rw [e0]
    exact ⟨(by simp +decide [own_rf, own_W]), N0, rfl⟩
  · -- m = 0, len = 2
    refine own_st (T' := s₁) (g' := (mkF m 47 #[.val (.ref x0), .val (.int (2 : Int32)), .val (.ref y0), .val (.int (0 : Int32)), .val (.int ((2 : Int32) - (0 : Int32)))] [])) (fun _ kt => XS.iloadN X0.here hx rfl (hb hby d15_0) rfl (XS.iloadN X0.here hx rfl (hb hby d15_1) rfl (XS.icmpYes X0.here hx rfl (pc0 := 2) (pc' := 7) rfl (hb hby d15_2) rfl (XT.ii_le_t (by decide)) (by decide) (by decide) (XS.iloadN X0.here hx rfl (hb hby d15_7) rfl (XS.iloadN X0.here hx rfl (hb hby d15_8) rfl (XS.isub X0.here hx rfl (hb hby d15_9) rfl (XS.istore X0.here hx rfl (hb hby d15_10) rfl (l' := #[.val (.ref x0), .val (.int (2 : Int32)), .val (.ref y0), .val (.int (0 : Int32)), .val (.int ((2 : Int32) - (0 : Int32)))]) rfl (XS.iloadN X0.here hx rfl (hb hby d15_12) rfl (XS.ifYes X0.here hx rfl (pc0 := 13) (pc' := 28) rfl (hb hby d15_13) rfl (XT.i0_le_t (by decide)) (by decide) (by decide) (XS.iloadN X0.here hx rfl (hb hby d15_28) rfl (XS.iconst X0.here hx rfl (hb hby d15_29) (XS.icmpYes X0.here hx rfl (pc0 := 30) (pc' := 47) rfl (hb hby d15_30) rfl (XT.ii_le_t (by decide)) (by decide) (by decide) kt)))))))))))) ?_
    refine own_st (T' := s₁) (g' := (mkF m 67 #[.val (.ref x0), .val (.int (2 : Int32)), .val (.ref y0), .val (.int (0 : Int32)), .val (.int ((2 : Int32) - (0 : Int32)))] [(.int (1 : Int32))])) (fun _ kt => XS.iloadN X0.here hx rfl (hb hby d15_47) rfl (XS.iconst X0.here hx rfl (hb hby d15_48) (XS.icmpYes X0.here hx rfl (pc0 := 49) (pc' := 66) rfl (hb hby d15_49) rfl (XT.ii_le_t (by decide)) (by decide) (by decide) (XS.iconst X0.here hx rfl (hb hby d15_66) kt)))) ?_
    obtain ⟨fs, hr, hrun, hended, hW, hsame⟩ := X0.leave (v := some (.int (1 : Int32))) (fun h => by rw [Bd.returns] at h; cases h)
    refine own_end (retN X0 hx (t := .boolean) Bd.returns (by simp) (hb hby d15_67) hr) ⟨_, hrun, hended, _, _, rfl, ?_, ⟨_, rfl⟩, hW, hsame.mono (by decide) (by decide)⟩
    show own_refQ Z _ _ _ _ _ _ _ _ _ _ _ _ h0 n0 _ s₁.heap _
    rw [e0]
    exact ⟨(by simp +decide [own_rf, own_W]), N0, rfl⟩
  · -- m = 0, len = 3
    refine own_st (T' := s₁) (g' := (mkF m 47 #[.val (.ref x0), .val (.int (3 : Int32)), .val (.ref y0), .val (.int (0 : Int32)), .val (.int ((3 : Int32) - (0 : Int32)))] [])) (fun _ kt => XS.iloadN X0.here hx rfl (hb hby d15_0) rfl (XS.iloadN X0.here hx rfl (hb hby d15_1) rfl (XS.icmpYes X0.here hx rfl (pc0 := 2) (pc' := 7) rfl (hb hby d15_2) rfl (XT.ii_le_t (by decide)) (by decide) (by decide) (XS.iloadN X0.here hx rfl (hb hby d15_7) rfl (XS.iloadN X0.here hx rfl (hb hby d15_8) rfl (XS.isub X0.here hx rfl (hb hby d15_9) rfl (XS.istore X0.here hx rfl (hb hby d15_10) rfl (l' := #[.val (.ref x0), .val (.int (3 : Int32)), .val (.ref y0), .val (.int (0 : Int32)), .val (.int ((3 : Int32) - (0 : Int32)))]) rfl (XS.iloadN X0.here hx rfl (hb hby d15_12) rfl (XS.ifYes X0.here hx rfl (pc0 := 13) (pc' := 28) rfl (hb hby d15_13) rfl (XT.i0_le_t (by decide)) (by decide) (by decide) (XS.iloadN X0.here hx rfl (hb hby d15_28) rfl (XS.iconst X0.here hx rfl (hb hby d15_29) (XS.icmpYes X0.here hx rfl (pc0 := 30) (pc' := 47) rfl (hb hby d15_30) rfl (XT.ii_le_t (by decide)) (by decide) (by decide) kt)))))))))))) ?_
    refine own_st (T' := s₁) (g' := (mkF m 67 #[.val (.ref x0), .val (.int (3 : Int32)), .val (.ref y0), .val (.int (0 : Int32)), .val (.int ((3 : Int32) - (0 : Int32)))] [(.int (1 : Int32))])) (fun _ kt => XS.iloadN X0.here hx rfl (hb hby d15_47) rfl (XS.iconst X0.here hx rfl (hb hby d15_48) (XS.icmpYes X0.here hx rfl (pc0 := 49) (pc' := 66) rfl (hb hby d15_49) rfl (XT.ii_le_t (by decide)) (by decide) (by decide) (XS.iconst X0.here hx rfl (hb hby d15_66) kt)))) ?_
    obtain ⟨fs, hr, hrun, hended, hW, hsame⟩ := X0.leave (v := some (.int (1 : Int32))) (fun h => by rw [Bd.returns] at h; cases h)
    refine own_end (retN X0 hx (t := .boolean) Bd.returns (by simp) (hb hby d15_67) hr) ⟨_, hrun, hended, _, _, rfl, ?_, ⟨_, rfl⟩, hW, hsame.mono (by decide) (by decide)⟩
    show own_refQ Z _ _ _ _ _ _ _ _ _ _ _ _ h0 n0 _ s₁.heap _
    rw [e0]
    exact ⟨(by simp +decide [own_rf, own_W]), N0, rfl⟩
  · -- m = 1, len = 0
    refine own_st (T' := s₁) (g' := (mkF m 6 #[.val (.ref x0), .val (.int (0 : Int32)), .val (.ref y0), .val (.int (1 : Int32)), .unset] [(.int (0 : Int32))])) (fun _ kt => XS.iloadN X0.here hx rfl (hb hby d15_0) rfl (XS.iloadN X0.here hx rfl (hb hby d15_1) rfl (XS.icmpNo X0.here hx rfl (hb hby d15_2) rfl (XT.ii_le_f (by decide)) (XS.iconst X0.here hx rfl (hb hby d15_5) kt)))) ?_
    obtain ⟨fs, hr, hrun, hended, hW, hsame⟩ := X0.leave (v := some (.int (0 : Int32))) (fun h => by rw [Bd.returns] at h; cases h)
    refine own_end (retN X0 hx (t := .boolean) Bd.returns (by simp) (hb hby d15_6) hr) ⟨_, hrun, hended, _, _, rfl, ?_, ⟨_, rfl⟩, hW, hsame.mono (by decide) (by decide)⟩
    show own_refQ Z _ _ _ _ _ _ _ _ _ _ _ _ h0 n0 _ s₁.heap _
    rw [e0]
    exact ⟨(by simp +decide [own_rf, own_W]), N0, rfl⟩
  · -- m = 1, len = 1
    refine own_st (T' := s₁) (g' := (mkF m 19 #[.val (.ref x0), .val (.int (1 : Int32)), .val (.ref y0), .val (.int (1 : Int32)), .val (.int ((1 : Int32) - (1 : Int32)))] [(.int ((1 : Int32) - (1 : Int32))), (.ref x0)])) (fun _ kt => XS.iloadN X0.here hx rfl (hb hby d15_0) rfl (XS.iloadN X0.here hx rfl (hb hby d15_1) rfl (XS.icmpYes X0.here hx rfl (pc0 := 2) (pc' := 7) rfl (hb hby d15_2) rfl (XT.ii_le_t (by decide)) (by decide) (by decide) (XS.iloadN X0.here hx rfl (hb hby d15_7) rfl (XS.iloadN X0.here hx rfl (hb hby d15_8) rfl (XS.isub X0.here hx rfl (hb hby d15_9) rfl (XS.istore X0.here hx rfl (hb hby d15_10) rfl (l' := #[.val (.ref x0), .val (.int (1 : Int32)), .val (.ref y0), .val (.int (1 : Int32)), .val (.int ((1 : Int32) - (1 : Int32)))]) rfl (XS.iloadN X0.here hx rfl (hb hby d15_12) rfl (XS.ifNo X0.here hx rfl (hb hby d15_13) rfl (XT.i0_le_f (by decide)) (XS.aloadN X0.here hx rfl (hb hby d15_16) rfl rfl (XS.iload X0.here hx rfl (hb hby d15_17) rfl kt))))))))))) ?_
    refine own_st (T' := s₁) (g' := (mkF m 20 #[.val (.ref x0), .val (.int (1 : Int32)), .val (.ref y0), .val (.int (1 : Int32)), .val (.int ((1 : Int32) - (1 : Int32)))] [(.int w0)])) (own_cal X0 hx hZ e0 pr1 ⟨by decide, by decide⟩ rfl (g := (mkF m 19 #[.val (.ref x0), .val (.int (1 : Int32)), .val (.ref y0), .val (.int (1 : Int32)), .val (.int ((1 : Int32) - (1 : Int32)))] [(.int ((1 : Int32) - (1 : Int32))), (.ref x0)])) rfl rfl (hb hby d15_19)) ?_
    refine own_st (T' := s₁) (g' := (mkF m 22 #[.val (.ref x0), .val (.int (1 : Int32)), .val (.ref y0), .val (.int (1 : Int32)), .val (.int ((1 : Int32) - (1 : Int32)))] [(.int (0 : Int32)), (.ref y0), (.int w0)])) (fun _ kt => XS.aloadN X0.here hx rfl (hb hby d15_20) rfl rfl (XS.iconst X0.here hx rfl (hb hby d15_21) kt)) ?_
    refine own_st (T' := s₁) (g' := (mkF m 23 #[.val (.ref x0), .val (.int (1 : Int32)), .val (.ref y0), .val (.int (1 : Int32)), .val (.int ((1 : Int32) - (1 : Int32)))] [(.int s0), (.int w0)])) (own_cal X0 hx hZ e0 pr2 ⟨by decide, by decide⟩ rfl (g := (mkF m 22 #[.val (.ref x0), .val (.int (1 : Int32)), .val (.ref y0), .val (.int (1 : Int32)), .val (.int ((1 : Int32) - (1 : Int32)))] [(.int (0 : Int32)), (.ref y0), (.int w0)])) rfl rfl (hb hby d15_22)) ?_
    by_cases hc337 : w0 = s0
    · -- pc 23: w0 = s0
      refine own_st (T' := s₁) (g' := (mkF m 67 #[.val (.ref x0), .val (.int (1 : Int32)), .val (.ref y0), .val (.int (1 : Int32)), .val (.int ((1 : Int32) - (1 : Int32)))] [(.int (1 : Int32))])) (fun _ kt => XS.icmpYes X0.here hx rfl (pc0 := 23) (pc' := 28) rfl (hb hby d15_23) rfl (XT.ii_eq_t hc337) (by decide) (by decide) (XS.iloadN X0.here hx rfl (hb hby d15_28) rfl (XS.iconst X0.here hx rfl (hb hby d15_29) (XS.icmpYes X0.here hx rfl (pc0 := 30) (pc' := 47) rfl (hb hby d15_30) rfl (XT.ii_le_t (by decide)) (by decide) (by decide) (XS.iloadN X0.here hx rfl (hb hby d15_47) rfl (XS.iconst X0.here hx rfl (hb hby d15_48) (XS.icmpYes X0.here hx rfl (pc0 := 49) (pc' := 66) rfl (hb hby d15_49) rfl (XT.ii_le_t (by decide)) (by decide) (by decide) (XS.iconst X0.here hx rfl (hb hby d15_66) kt)))))))) ?_
      obtain ⟨fs, hr, hrun, hended, hW, hsame⟩ := X0.leave (v := some (.int (1 : Int32))) (fun h => by rw [Bd.returns] at h; cases h)
      refine own_end (retN X0 hx (t := .boolean) Bd.returns (by simp) (hb hby d15_67) hr) ⟨_, hrun, hended, _, _, rfl, ?_, ⟨_, rfl⟩, hW, hsame.mono (by decide) (by decide)⟩
      show own_refQ Z _ _ _ _ _ _ _ _ _ _ _ _ h0 n0 _ s₁.heap _
      rw [e0]
      exact ⟨(by simp +decide [own_rf, own_W, hc337]), N0, rfl⟩
    · -- pc 23: not w0 = s0
      refine own_st (T' := s₁) (g' := (mkF m 27 #[.val (.ref x0), .val (.int (1 : Int32)), .val (.ref y0), .val (.int (1 : Int32)), .val (.int ((1 : Int32) - (1 : Int32)))] [(.int (0 : Int32))])) (fun _ kt => XS.icmpNo X0.here hx rfl (hb hby d15_23) rfl (XT.ii_eq_f hc337) (XS.iconst X0.here hx rfl (hb hby d15_26) kt)) ?_
      obtain ⟨fs, hr, hrun, hended, hW, hsame⟩ := X0.leave (v := some (.int (0 : Int32))) (fun h => by rw [Bd.returns] at h; cases h)
      refine own_end (retN X0 hx (t := .boolean) Bd.returns (by simp) (hb hby d15_27) hr) ⟨_, hrun, hended, _, _, rfl, ?_, ⟨_, rfl⟩, hW, hsame.mono (by decide) (by decide)⟩
      show own_refQ Z _ _ _ _ _ _ _ _ _ _ _ _ h0 n0 _ s₁.heap _
      rw [e0]
      exact ⟨(by simp +decide [own_rf, own_W, hc337]), N0, rfl⟩
  · -- m = 1, len = 2
    refine own_st (T' := s₁) (g' := (mkF m 19 #[.val (.ref x0), .val (.int (2 : Int32)), .val (.ref y0), .val (.int (1 : Int32)), .val (.int ((2 : Int32) - (1 : Int32)))] [(.int ((2 : Int32) - (1 : Int32))), (.ref x0)])) (fun _ kt => XS.iloadN X0.here hx rfl (hb hby d15_0) rfl (XS.iloadN X0.here hx rfl (hb hby d15_1) rfl (XS.icmpYes X0.here hx rfl (pc0 := 2) (pc' := 7) rfl (hb hby d15_2) rfl (XT.ii_le_t (by decide)) (by decide) (by decide) (XS.iloadN X0.here hx rfl (hb hby d15_7) rfl (XS.iloadN X0.here hx rfl (hb hby d15_8) rfl (XS.isub X0.here hx rfl (hb hby d15_9) rfl (XS.istore X0.here hx rfl (hb hby d15_10) rfl (l' := #[.val (.ref x0), .val (.int (2 : Int32)), .val (.ref y0), .val (.int (1 : Int32)), .val (.int ((2 : Int32) - (1 : Int32)))]) rfl (XS.iloadN X0.here hx rfl (hb hby d15_12) rfl (XS.ifNo X0.here hx rfl (hb hby d15_13) rfl (XT.i0_le_f (by decide)) (XS.aloadN X0.here hx rfl (hb hby d15_16) rfl rfl (XS.iload X0.here hx rfl (hb hby d15_17) rfl kt))))))))))) ?_
    refine own_st (T' := s₁) (g' := (mkF m 20 #[.val (.ref x0), .val (.int (2 : Int32)), .val (.ref y0), .val (.int (1 : Int32)), .val (.int ((2 : Int32) - (1 : Int32)))] [(.int w1)])) (own_cal X0 hx hZ e0 pr1 ⟨by decide, by decide⟩ rfl (g := (mkF m 19 #[.val (.ref x0), .val (.int (2 : Int32)), .val (.ref y0), .val (.int (1 : Int32)), .val (.int ((2 : Int32) - (1 : Int32)))] [(.int ((2 : Int32) - (1 : Int32))), (.ref x0)])) rfl rfl (hb hby d15_19)) ?_
    refine own_st (T' := s₁) (g' := (mkF m 22 #[.val (.ref x0), .val (.int (2 : Int32)), .val (.ref y0), .val (.int (1 : Int32)), .val (.int ((2 : Int32) - (1 : Int32)))] [(.int (0 : Int32)), (.ref y0), (.int w1)])) (fun _ kt => XS.aloadN X0.here hx rfl (hb hby d15_20) rfl rfl (XS.iconst X0.here hx rfl (hb hby d15_21) kt)) ?_
    refine own_st (T' := s₁) (g' := (mkF m 23 #[.val (.ref x0), .val (.int (2 : Int32)), .val (.ref y0), .val (.int (1 : Int32)), .val (.int ((2 : Int32) - (1 : Int32)))] [(.int s0), (.int w1)])) (own_cal X0 hx hZ e0 pr2 ⟨by decide, by decide⟩ rfl (g := (mkF m 22 #[.val (.ref x0), .val (.int (2 : Int32)), .val (.ref y0), .val (.int (1 : Int32)), .val (.int ((2 : Int32) - (1 : Int32)))] [(.int (0 : Int32)), (.ref y0), (.int w1)])) rfl rfl (hb hby d15_22)) ?_
    by_cases hc338 : w1 = s0
    · -- pc 23: w1 = s0
      refine own_st (T' := s₁) (g' := (mkF m 67 #[.val (.ref x0), .val (.int (2 : Int32)), .val (.ref y0), .val (.int (1 : Int32)), .val (.int ((2 : Int32) - (1 : Int32)))] [(.int (1 : Int32))])) (fun _ kt => XS.icmpYes X0.here hx rfl (pc0 := 23) (pc' := 28) rfl (hb hby d15_23) rfl (XT.ii_eq_t hc338) (by decide) (by decide) (XS.iloadN X0.here hx rfl (hb hby d15_28) rfl (XS.iconst X0.here hx rfl (hb hby d15_29) (XS.icmpYes X0.here hx rfl (pc0 := 30) (pc' := 47) rfl (hb hby d15_30) rfl (XT.ii_le_t (by decide)) (by decide) (by decide) (XS.iloadN X0.here hx rfl (hb hby d15_47) rfl (XS.iconst X0.here hx rfl (hb hby d15_48) (XS.icmpYes X0.here hx rfl (pc0 := 49) (pc' := 66) rfl (hb hby d15_49) rfl (XT.ii_le_t (by decide)) (by decide) (by decide) (XS.iconst X0.here hx rfl (hb hby d15_66) kt)))))))) ?_
      obtain ⟨fs, hr, hrun, hended, hW, hsame⟩ := X0.leave (v := some (.int (1 : Int32))) (fun h => by rw [Bd.returns] at h; cases h)
      refine own_end (retN X0 hx (t := .boolean) Bd.returns (by simp) (hb hby d15_67) hr) ⟨_, hrun, hended, _, _, rfl, ?_, ⟨_, rfl⟩, hW, hsame.mono (by decide) (by decide)⟩
      show own_refQ Z _ _ _ _ _ _ _ _ _ _ _ _ h0 n0 _ s₁.heap _
      rw [e0]
      exact ⟨(by simp +decide [own_rf, own_W, hc338]), N0, rfl⟩
    · -- pc 23: not w1 = s0
      refine own_st (T' := s₁) (g' := (mkF m 27 #[.val (.ref x0), .val (.int (2 : Int32)), .val (.ref y0), .val (.int (1 : Int32)), .val (.int ((2 : Int32) - (1 : Int32)))] [(.int (0 : Int32))])) (fun _ kt => XS.icmpNo X0.here hx rfl (hb hby d15_23) rfl (XT.ii_eq_f hc338) (XS.iconst X0.here hx rfl (hb hby d15_26) kt)) ?_
      obtain ⟨fs, hr, hrun, hended, hW, hsame⟩ := X0.leave (v := some (.int (0 : Int32))) (fun h => by rw [Bd.returns] at h; cases h)
      refine own_end (retN X0 hx (t := .boolean) Bd.returns (by simp) (hb hby d15_27) hr) ⟨_, hrun, hended, _, _, rfl, ?_, ⟨_, rfl⟩, hW, hsame.mono (by decide) (by decide)⟩
      show own_refQ Z _ _ _ _ _ _ _ _ _ _ _ _ h0 n0 _ s₁.heap _
      rw [e0]
      exact ⟨(by simp +decide [own_rf, own_W, hc338]), N0, rfl⟩
  · -- m = 1, len = 3
    refine own_st (T' := s₁) (g' := (mkF m 19 #[.val (.ref x0), .val (.int (3 : Int32)), .val (.ref y0), .val (.int (1 : Int32)), .val (.int ((3 : Int32) - (1 : Int32)))] [(.int ((3 : Int32) - (1 : Int32))), (.ref x0)])) (fun _ kt => XS.iloadN X0.here hx rfl (hb hby d15_0) rfl (XS.iloadN X0.here hx rfl (hb hby d15_1) rfl (XS.icmpYes X0.here hx rfl (pc0 := 2) (pc' := 7) rfl (hb hby d15_2) rfl (XT.ii_le_t (by decide)) (by decide) (by decide) (XS.iloadN X0.here hx rfl (hb hby d15_7) rfl (XS.iloadN X0.here hx rfl (hb hby d15_8) rfl (XS.isub X0.here hx rfl (hb hby d15_9) rfl (XS.istore X0.here hx rfl (hb hby d15_10) rfl (l' := #[.val (.ref x0), .val (.int (3 : Int32)), .val (.ref y0), .val (.int (1 : Int32)), .val (.int ((3 : Int32) - (1 : Int32)))]) rfl (XS.iloadN X0.here hx rfl (hb hby d15_12) rfl (XS.ifNo X0.here hx rfl (hb hby d15_13) rfl (XT.i0_le_f (by decide)) (XS.aloadN X0.here hx rfl (hb hby d15_16) rfl rfl (XS.iload X0.here hx rfl (hb hby d15_17) rfl kt))))))))))) ?_
    refine own_st (T' := s₁) (g' := (mkF m 20 #[.val (.ref x0), .val (.int (3 : Int32)), .val (.ref y0), .val (.int (1 : Int32)), .val (.int ((3 : Int32) - (1 : Int32)))] [(.int w2)])) (own_cal X0 hx hZ e0 pr1 ⟨by decide, by decide⟩ rfl (g := (mkF m 19 #[.val (.ref x0), .val (.int (3 : Int32)), .val (.ref y0), .val (.int (1 : Int32)), .val (.int ((3 : Int32) - (1 : Int32)))] [(.int ((3 : Int32) - (1 : Int32))), (.ref x0)])) rfl rfl (hb hby d15_19)) ?_
    refine own_st (T' := s₁) (g' := (mkF m 22 #[.val (.ref x0), .val (.int (3 : Int32)), .val (.ref y0), .val (.int (1 : Int32)), .val (.int ((3 : Int32) - (1 : Int32)))] [(.int (0 : Int32)), (.ref y0), (.int w2)])) (fun _ kt => XS.aloadN X0.here hx rfl (hb hby d15_20) rfl rfl (XS.iconst X0.here hx rfl (hb hby d15_21) kt)) ?_
    refine own_st (T' := s₁) (g' := (mkF m 23 #[.val (.ref x0), .val (.int (3 : Int32)), .val (.ref y0), .val (.int (1 : Int32)), .val (.int ((3 : Int32) - (1 : Int32)))] [(.int s0), (.int w2)])) (own_cal X0 hx hZ e0 pr2 ⟨by decide, by decide⟩ rfl (g := (mkF m 22 #[.val (.ref x0), .val (.int (3 : Int32)), .val (.ref y0), .val (.int (1 : Int32)), .val (.int ((3 : Int32) - (1 : Int32)))] [(.int (0 : Int32)), (.ref y0), (.int w2)])) rfl rfl (hb hby d15_22)) ?_
    by_cases hc339 : w2 = s0
    · -- pc 23: w2 = s0
      refine own_st (T' := s₁) (g' := (mkF m 67 #[.val (.ref x0), .val (.int (3 : Int32)), .val (.ref y0), .val (.int (1 : Int32)), .val (.int ((3 : Int32) - (1 : Int32)))] [(.int (1 : Int32))])) (fun _ kt => XS.icmpYes X0.here hx rfl (pc0 := 23) (pc' := 28) rfl (hb hby d15_23) rfl (XT.ii_eq_t hc339) (by decide) (by decide) (XS.iloadN X0.here hx rfl (hb hby d15_28) rfl (XS.iconst X0.here hx rfl (hb hby d15_29) (XS.icmpYes X0.here hx rfl (pc0 := 30) (pc' := 47) rfl (hb hby d15_30) rfl (XT.ii_le_t (by decide)) (by decide) (by decide) (XS.iloadN X0.here hx rfl (hb hby d15_47) rfl (XS.iconst X0.here hx rfl (hb hby d15_48) (XS.icmpYes X0.here hx rfl (pc0 := 49) (pc' := 66) rfl (hb hby d15_49) rfl (XT.ii_le_t (by decide)) (by decide) (by decide) (XS.iconst X0.here hx rfl (hb hby d15_66) kt)))))))) ?_
      obtain ⟨fs, hr, hrun, hended, hW, hsame⟩ := X0.leave (v := some (.int (1 : Int32))) (fun h => by rw [Bd.returns] at h; cases h)
      refine own_end (retN X0 hx (t := .boolean) Bd.returns (by simp) (hb hby d15_67) hr) ⟨_, hrun, hended, _, _, rfl, ?_, ⟨_, rfl⟩, hW, hsame.mono (by decide) (by decide)⟩
      show own_refQ Z _ _ _ _ _ _ _ _ _ _ _ _ h0 n0 _ s₁.heap _
      rw [e0]
      exact ⟨(by simp +decide [own_rf, own_W, hc339]), N0, rfl⟩
    · -- pc 23: not w2 = s0
      refine own_st (T' := s₁) (g' := (mkF m 27 #[.val (.ref x0), .val (.int (3 : Int32)), .val (.ref y0), .val (.int (1 : Int32)), .val (.int ((3 : Int32) - (1 : Int32)))] [(.int (0 : Int32))])) (fun _ kt => XS.icmpNo X0.here hx rfl (hb hby d15_23) rfl (XT.ii_eq_f hc339) (XS.iconst X0.here hx rfl (hb hby d15_26) kt)) ?_
      obtain ⟨fs, hr, hrun, hended, hW, hsame⟩ := X0.leave (v := some (.int (0 : Int32))) (fun h => by rw [Bd.returns] at h; cases h)
      refine own_end (retN X0 hx (t := .boolean) Bd.returns (by simp) (hb hby d15_27) hr) ⟨_, hrun, hended, _, _, rfl, ?_, ⟨_, rfl⟩, hW, hsame.mono (by decide) (by decide)⟩
      show own_refQ Z _ _ _ _ _ _ _ _ _ _ _ _ h0 n0 _ s₁.heap _
      rw [e0]
      exact ⟨(by simp +decide [own_rf, own_W, hc339]), N0, rfl⟩
  · -- m = 2, len = 0
    refine own_st (T' := s₁) (g' := (mkF m 6 #[.val (.ref x0), .val (.int (0 : Int32)), .val (.ref y0), .val (.int (2 : Int32)), .unset] [(.int (0 : Int32))])) (fun _ kt => XS.iloadN X0.here hx rfl (hb hby d15_0) rfl (XS.iloadN X0.here hx rfl (hb hby d15_1) rfl (XS.icmpNo X0.here hx rfl (hb hby d15_2) rfl (XT.ii_le_f (by decide)) (XS.iconst X0.here hx rfl (hb hby d15_5) kt)))) ?_
    obtain ⟨fs, hr, hrun, hended, hW, hsame⟩ := X0.leave (v := some (.int (0 : Int32))) (fun h => by rw [Bd.returns] at h; cases h)
    refine own_end (retN X0 hx (t := .boolean) Bd.returns (by simp) (hb hby d15_6) hr) ⟨_, hrun, hended, _, _, rfl, ?_, ⟨_, rfl⟩, hW, hsame.mono (by decide) (by decide)⟩
    show own_refQ Z _ _ _ _ _ _ _ _ _ _ _ _ h0 n0 _ s₁.heap _
    rw [e0]
    exact ⟨(by simp +decide [own_rf, own_W]), N0, rfl⟩
  · -- m = 2, len = 1
    refine own_st (T' := s₁) (g' := (mkF m 6 #[.val (.ref x0), .val (.int (1 : Int32)), .val (.ref y0), .val (.int (2 : Int32)), .unset] [(.int (0 : Int32))])) (fun _ kt => XS.iloadN X0.here hx rfl (hb hby d15_0) rfl (XS.iloadN X0.here hx rfl (hb hby d15_1) rfl (XS.icmpNo X0.here hx rfl (hb hby d15_2) rfl (XT.ii_le_f (by decide)) (XS.iconst X0.here hx rfl (hb hby d15_5) kt)))) ?_
    obtain ⟨fs, hr, hrun, hended, hW, hsame⟩ := X0.leave (v := some (.int (0 : Int32))) (fun h => by rw [Bd.returns] at h; cases h)
    refine own_end (retN X0 hx (t := .boolean) Bd.returns (by simp) (hb hby d15_6) hr) ⟨_, hrun, hended, _, _, rfl, ?_, ⟨_, rfl⟩, hW, hsame.mono (by decide) (by decide)⟩
    show own_refQ Z _ _ _ _ _ _ _ _ _ _ _ _ h0 n0 _ s₁.heap _
    rw [e0]
    exact ⟨(by simp +decide [own_rf, own_W]), N0, rfl⟩
  · -- m = 2, len = 2
    refine own_st (T' := s₁) (g' := (mkF m 19 #[.val (.ref x0), .val (.int (2 : Int32)), .val (.ref y0), .val (.int (2 : Int32)), .val (.int ((2 : Int32) - (2 : Int32)))] [(.int ((2 : Int32) - (2 : Int32))), (.ref x0)])) (fun _ kt => XS.iloadN X0.here hx rfl (hb hby d15_0) rfl (XS.iloadN X0.here hx rfl (hb hby d15_1) rfl (XS.icmpYes X0.here hx rfl (pc0 := 2) (pc' := 7) rfl (hb hby d15_2) rfl (XT.ii_le_t (by decide)) (by decide) (by decide) (XS.iloadN X0.here hx rfl (hb hby d15_7) rfl (XS.iloadN X0.here hx rfl (hb hby d15_8) rfl (XS.isub X0.here hx rfl (hb hby d15_9) rfl (XS.istore X0.here hx rfl (hb hby d15_10) rfl (l' := #[.val (.ref x0), .val (.int (2 : Int32)), .val (.ref y0), .val (.int (2 : Int32)), .val (.int ((2 : Int32) - (2 : Int32)))]) rfl (XS.iloadN X0.here hx rfl (hb hby d15_12) rfl (XS.ifNo X0.here hx rfl (hb hby d15_13) rfl (XT.i0_le_f (by decide)) (XS.aloadN X0.here hx rfl (hb hby d15_16) rfl rfl (XS.iload X0.here hx rfl (hb hby d15_17) rfl kt))))))))))) ?_
    refine own_st (T' := s₁) (g' := (mkF m 20 #[.val (.ref x0), .val (.int (2 : Int32)), .val (.ref y0), .val (.int (2 : Int32)), .val (.int ((2 : Int32) - (2 : Int32)))] [(.int w0)])) (own_cal X0 hx hZ e0 pr1 ⟨by decide, by decide⟩ rfl (g := (mkF m 19 #[.val (.ref x0), .val (.int (2 : Int32)), .val (.ref y0), .val (.int (2 : Int32)), .val (.int ((2 : Int32) - (2 : Int32)))] [(.int ((2 : Int32) - (2 : Int32))), (.ref x0)])) rfl rfl (hb hby d15_19)) ?_
    refine own_st (T' := s₁) (g' := (mkF m 22 #[.val (.ref x0), .val (.int (2 : Int32)), .val (.ref y0), .val (.int (2 : Int32)), .val (.int ((2 : Int32) - (2 : Int32)))] [(.int (0 : Int32)), (.ref y0), (.int w0)])) (fun _ kt => XS.aloadN X0.here hx rfl (hb hby d15_20) rfl rfl (XS.iconst X0.here hx rfl (hb hby d15_21) kt)) ?_
    refine own_st (T' := s₁) (g' := (mkF m 23 #[.val (.ref x0), .val (.int (2 : Int32)), .val (.ref y0), .val (.int (2 : Int32)), .val (.int ((2 : Int32) - (2 : Int32)))] [(.int s0), (.int w0)])) (own_cal X0 hx hZ e0 pr2 ⟨by decide, by decide⟩ rfl (g := (mkF m 22 #[.val (.ref x0), .val (.int (2 : Int32)), .val (.ref y0), .val (.int (2 : Int32)), .val (.int ((2 : Int32) - (2 : Int32)))] [(.int (0 : Int32)), (.ref y0), (.int w0)])) rfl rfl (hb hby d15_22)) ?_
    by_cases hc340 : w0 = s0
    · -- pc 23: w0 = s0
      refine own_st (T' := s₁) (g' := (mkF m 38 #[.val (.ref x0), .val (.int (2 : Int32)), .val (.ref y0), .val (.int (2 : Int32)), .val (.int ((2 : Int32) - (2 : Int32)))] [(.int (((2 : Int32) - (2 : Int32)) + (1 : Int32))), (.ref x0)])) (fun _ kt => XS.icmpYes X0.here hx rfl (pc0 := 23) (pc' := 28) rfl (hb hby d15_23) rfl (XT.ii_eq_t hc340) (by decide) (by decide) (XS.iloadN X0.here hx rfl (hb hby d15_28) rfl (XS.iconst X0.here hx rfl (hb hby d15_29) (XS.icmpNo X0.here hx rfl (hb hby d15_30) rfl (XT.ii_le_f (by decide)) (XS.aloadN X0.here hx rfl (hb hby d15_33) rfl rfl (XS.iload X0.here hx rfl (hb hby d15_34) rfl (XS.iconst X0.here hx rfl (hb hby d15_36) (XS.iadd X0.here hx rfl (hb hby d15_37) rfl kt)))))))) ?_
      refine own_st (T' := s₁) (g' := (mkF m 39 #[.val (.ref x0), .val (.int (2 : Int32)), .val (.ref y0), .val (.int (2 : Int32)), .val (.int ((2 : Int32) - (2 : Int32)))] [(.int w1)])) (own_cal X0 hx hZ e0 pr1 ⟨by decide, by decide⟩ rfl (g := (mkF m 38 #[.val (.ref x0), .val (.int (2 : Int32)), .val (.ref y0), .val (.int (2 : Int32)), .val (.int ((2 : Int32) - (2 : Int32)))] [(.int (((2 : Int32) - (2 : Int32)) + (1 : Int32))), (.ref x0)])) rfl rfl (hb hby d15_38)) ?_
      refine own_st (T' := s₁) (g' := (mkF m 41 #[.val (.ref x0), .val (.int (2 : Int32)), .val (.ref y0), .val (.int (2 : Int32)), .val (.int ((2 : Int32) - (2 : Int32)))] [(.int (1 : Int32)), (.ref y0), (.int w1)])) (fun _ kt => XS.aloadN X0.here hx rfl (hb hby d15_39) rfl rfl (XS.iconst X0.here hx rfl (hb hby d15_40) kt)) ?_
      refine own_st (T' := s₁) (g' := (mkF m 42 #[.val (.ref x0), .val (.int (2 : Int32)), .val (.ref y0), .val (.int (2 : Int32)), .val (.int ((2 : Int32) - (2 : Int32)))] [(.int s1), (.int w1)])) (own_cal X0 hx hZ e0 pr2 ⟨by decide, by decide⟩ rfl (g := (mkF m 41 #[.val (.ref x0), .val (.int (2 : Int32)), .val (.ref y0), .val (.int (2 : Int32)), .val (.int ((2 : Int32) - (2 : Int32)))] [(.int (1 : Int32)), (.ref y0), (.int w1)])) rfl rfl (hb hby d15_41)) ?_
      by_cases hc341 : w1 = s1
      · -- pc 42: w1 = s1
        refine own_st (T' := s₁) (g' := (mkF m 67 #[.val (.ref x0), .val (.int (2 : Int32)), .val (.ref y0), .val (.int (2 : Int32)), .val (.int ((2 : Int32) - (2 : Int32)))] [(.int (1 : Int32))])) (fun _ kt => XS.icmpYes X0.here hx rfl (pc0 := 42) (pc' := 47) rfl (hb hby d15_42) rfl (XT.ii_eq_t hc341) (by decide) (by decide) (XS.iloadN X0.here hx rfl (hb hby d15_47) rfl (XS.iconst X0.here hx rfl (hb hby d15_48) (XS.icmpYes X0.here hx rfl (pc0 := 49) (pc' := 66) rfl (hb hby d15_49) rfl (XT.ii_le_t (by decide)) (by decide) (by decide) (XS.iconst X0.here hx rfl (hb hby d15_66) kt))))) ?_
        obtain ⟨fs, hr, hrun, hended, hW, hsame⟩ := X0.leave (v := some (.int (1 : Int32))) (fun h => by rw [Bd.returns] at h; cases h)
        refine own_end (retN X0 hx (t := .boolean) Bd.returns (by simp) (hb hby d15_67) hr) ⟨_, hrun, hended, _, _, rfl, ?_, ⟨_, rfl⟩, hW, hsame.mono (by decide) (by decide)⟩
        show own_refQ Z _ _ _ _ _ _ _ _ _ _ _ _ h0 n0 _ s₁.heap _
        rw [e0]
        exact ⟨(by simp +decide [own_rf, own_W, hc340, hc341]), N0, rfl⟩
      · -- pc 42: not w1 = s1
        refine own_st (T' := s₁) (g' := (mkF m 46 #[.val (.ref x0), .val (.int (2 : Int32)), .val (.ref y0), .val (.int (2 : Int32)), .val (.int ((2 : Int32) - (2 : Int32)))] [(.int (0 : Int32))])) (fun _ kt => XS.icmpNo X0.here hx rfl (hb hby d15_42) rfl (XT.ii_eq_f hc341) (XS.iconst X0.here hx rfl (hb hby d15_45) kt)) ?_
        obtain ⟨fs, hr, hrun, hended, hW, hsame⟩ := X0.leave (v := some (.int (0 : Int32))) (fun h => by rw [Bd.returns] at h; cases h)
        refine own_end (retN X0 hx (t := .boolean) Bd.returns (by simp) (hb hby d15_46) hr) ⟨_, hrun, hended, _, _, rfl, ?_, ⟨_, rfl⟩, hW, hsame.mono (by decide) (by decide)⟩
        show own_refQ Z _ _ _ _ _ _ _ _ _ _ _ _ h0 n0 _ s₁.heap _
        rw [e0]
        exact ⟨(by simp +decide [own_rf, own_W, hc340, hc341]), N0, rfl⟩
    · -- pc 23: not w0 = s0
      refine own_st (T' := s₁) (g' := (mkF m 27 #[.val (.ref x0), .val (.int (2 : Int32)), .val (.ref y0), .val (.int (2 : Int32)), .val (.int ((2 : Int32) - (2 : Int32)))] [(.int (0 : Int32))])) (fun _ kt => XS.icmpNo X0.here hx rfl (hb hby d15_23) rfl (XT.ii_eq_f hc340) (XS.iconst X0.here hx rfl (hb hby d15_26) kt)) ?_
      obtain ⟨fs, hr, hrun, hended, hW, hsame⟩ := X0.leave (v := some (.int (0 : Int32))) (fun h => by rw [Bd.returns] at h; cases h)
      refine own_end (retN X0 hx (t := .boolean) Bd.returns (by simp) (hb hby d15_27) hr) ⟨_, hrun, hended, _, _, rfl, ?_, ⟨_, rfl⟩, hW, hsame.mono (by decide) (by decide)⟩
      show own_refQ Z _ _ _ _ _ _ _ _ _ _ _ _ h0 n0 _ s₁.heap _
      rw [e0]
      exact ⟨(by simp +decide [own_rf, own_W, hc340]), N0, rfl⟩
  · -- m = 2, len = 3
    refine own_st (T' := s₁) (g' := (mkF m 19 #[.val (.ref x0), .val (.int (3 : Int32)), .val (.ref y0), .val (.int (2 : Int32)), .val (.int ((3 : Int32) - (2 : Int32)))] [(.int ((3 : Int32) - (2 : Int32))), (.ref x0)])) (fun _ kt => XS.iloadN X0.here hx rfl (hb hby d15_0) rfl (XS.iloadN X0.here hx rfl (hb hby d15_1) rfl (XS.icmpYes X0.here hx rfl (pc0 := 2) (pc' := 7) rfl (hb hby d15_2) rfl (XT.ii_le_t (by decide)) (by decide) (by decide) (XS.iloadN X0.here hx rfl (hb hby d15_7) rfl (XS.iloadN X0.here hx rfl (hb hby d15_8) rfl (XS.isub X0.here hx rfl (hb hby d15_9) rfl (XS.istore X0.here hx rfl (hb hby d15_10) rfl (l' := #[.val (.ref x0), .val (.int (3 : Int32)), .val (.ref y0), .val (.int (2 : Int32)), .val (.int ((3 : Int32) - (2 : Int32)))]) rfl (XS.iloadN X0.here hx rfl (hb hby d15_12) rfl (XS.ifNo X0.here hx rfl (hb hby d15_13) rfl (XT.i0_le_f (by decide)) (XS.aloadN X0.here hx rfl (hb hby d15_16) rfl rfl (XS.iload X0.here hx rfl (hb hby d15_17) rfl kt))))))))))) ?_
    refine own_st (T' := s₁) (g' := (mkF m 20 #[.val (.ref x0), .val (.int (3 : Int32)), .val (.ref y0), .val (.int (2 : Int32)), .val (.int ((3 : Int32) - (2 : Int32)))] [(.int w1)])) (own_cal X0 hx hZ e0 pr1 ⟨by decide, by decide⟩ rfl (g := (mkF m 19 #[.val (.ref x0), .val (.int (3 : Int32)), .val (.ref y0), .val (.int (2 : Int32)), .val (.int ((3 : Int32) - (2 : Int32)))] [(.int ((3 : Int32) - (2 : Int32))), (.ref x0)])) rfl rfl (hb hby d15_19)) ?_
    refine own_st (T' := s₁) (g' := (mkF m 22 #[.val (.ref x0), .val (.int (3 : Int32)), .val (.ref y0), .val (.int (2 : Int32)), .val (.int ((3 : Int32) - (2 : Int32)))] [(.int (0 : Int32)), (.ref y0), (.int w1)])) (fun _ kt => XS.aloadN X0.here hx rfl (hb hby d15_20) rfl rfl (XS.iconst X0.here hx rfl (hb hby d15_21) kt)) ?_
    refine own_st (T' := s₁) (g' := (mkF m 23 #[.val (.ref x0), .val (.int (3 : Int32)), .val (.ref y0), .val (.int (2 : Int32)), .val (.int ((3 : Int32) - (2 : Int32)))] [(.int s0), (.int w1)])) (own_cal X0 hx hZ e0 pr2 ⟨by decide, by decide⟩ rfl (g := (mkF m 22 #[.val (.ref x0), .val (.int (3 : Int32)), .val (.ref y0), .val (.int (2 : Int32)), .val (.int ((3 : Int32) - (2 : Int32)))] [(.int (0 : Int32)), (.ref y0), (.int w1)])) rfl rfl (hb hby d15_22)) ?_
    by_cases hc342 : w1 = s0
    · -- pc 23: w1 = s0
      refine own_st (T' := s₁) (g' := (mkF m 38 #[.val (.ref x0), .val (.int (3 : Int32)), .val (.ref y0), .val (.int (2 : Int32)), .val (.int ((3 : Int32) - (2 : Int32)))] [(.int (((3 : Int32) - (2 : Int32)) + (1 : Int32))), (.ref x0)])) (fun _ kt => XS.icmpYes X0.here hx rfl (pc0 := 23) (pc' := 28) rfl (hb hby d15_23) rfl (XT.ii_eq_t hc342) (by decide) (by decide) (XS.iloadN X0.here hx rfl (hb hby d15_28) rfl (XS.iconst X0.here hx rfl (hb hby d15_29) (XS.icmpNo X0.here hx rfl (hb hby d15_30) rfl (XT.ii_le_f (by decide)) (XS.aloadN X0.here hx rfl (hb hby d15_33) rfl rfl (XS.iload X0.here hx rfl (hb hby d15_34) rfl (XS.iconst X0.here hx rfl (hb hby d15_36) (XS.iadd X0.here hx rfl (hb hby d15_37) rfl kt)))))))) ?_
      refine own_st (T' := s₁) (g' := (mkF m 39 #[.val (.ref x0), .val (.int (3 : Int32)), .val (.ref y0), .val (.int (2 : Int32)), .val (.int ((3 : Int32) - (2 : Int32)))] [(.int w2)])) (own_cal X0 hx hZ e0 pr1 ⟨by decide, by decide⟩ rfl (g := (mkF m 38 #[.val (.ref x0), .val (.int (3 : Int32)), .val (.ref y0), .val (.int (2 : Int32)), .val (.int ((3 : Int32) - (2 : Int32)))] [(.int (((3 : Int32) - (2 : Int32)) + (1 : Int32))), (.ref x0)])) rfl rfl (hb hby d15_38)) ?_
      refine own_st (T' := s₁) (g' := (mkF m 41 #[.val (.ref x0), .val (.int (3 : Int32)), .val (.ref y0), .val (.int (2 : Int32)), .val (.int ((3 : Int32) - (2 : Int32)))] [(.int (1 : Int32)), (.ref y0), (.int w2)])) (fun _ kt => XS.aloadN X0.here hx rfl (hb hby d15_39) rfl rfl (XS.iconst X0.here hx rfl (hb hby d15_40) kt)) ?_
      refine own_st (T' := s₁) (g' := (mkF m 42 #[.val (.ref x0), .val (.int (3 : Int32)), .val (.ref y0), .val (.int (2 : Int32)), .val (.int ((3 : Int32) - (2 : Int32)))] [(.int s1), (.int w2)])) (own_cal X0 hx hZ e0 pr2 ⟨by decide, by decide⟩ rfl (g := (mkF m 41 #[.val (.ref x0), .val (.int (3 : Int32)), .val (.ref y0), .val (.int (2 : Int32)), .val (.int ((3 : Int32) - (2 : Int32)))] [(.int (1 : Int32)), (.ref y0), (.int w2)])) rfl rfl (hb hby d15_41)) ?_
      by_cases hc343 : w2 = s1
      · -- pc 42: w2 = s1
        refine own_st (T' := s₁) (g' := (mkF m 67 #[.val (.ref x0), .val (.int (3 : Int32)), .val (.ref y0), .val (.int (2 : Int32)), .val (.int ((3 : Int32) - (2 : Int32)))] [(.int (1 : Int32))])) (fun _ kt => XS.icmpYes X0.here hx rfl (pc0 := 42) (pc' := 47) rfl (hb hby d15_42) rfl (XT.ii_eq_t hc343) (by decide) (by decide) (XS.iloadN X0.here hx rfl (hb hby d15_47) rfl (XS.iconst X0.here hx rfl (hb hby d15_48) (XS.icmpYes X0.here hx rfl (pc0 := 49) (pc' := 66) rfl (hb hby d15_49) rfl (XT.ii_le_t (by decide)) (by decide) (by decide) (XS.iconst X0.here hx rfl (hb hby d15_66) kt))))) ?_
        obtain ⟨fs, hr, hrun, hended, hW, hsame⟩ := X0.leave (v := some (.int (1 : Int32))) (fun h => by rw [Bd.returns] at h; cases h)
        refine own_end (retN X0 hx (t := .boolean) Bd.returns (by simp) (hb hby d15_67) hr) ⟨_, hrun, hended, _, _, rfl, ?_, ⟨_, rfl⟩, hW, hsame.mono (by decide) (by decide)⟩
        show own_refQ Z _ _ _ _ _ _ _ _ _ _ _ _ h0 n0 _ s₁.heap _
        rw [e0]
        exact ⟨(by simp +decide [own_rf, own_W, hc342, hc343]), N0, rfl⟩
      · -- pc 42: not w2 = s1
        refine own_st (T' := s₁) (g' := (mkF m 46 #[.val (.ref x0), .val (.int (3 : Int32)), .val (.ref y0), .val (.int (2 : Int32)), .val (.int ((3 : Int32) - (2 : Int32)))] [(.int (0 : Int32))])) (fun _ kt => XS.icmpNo X0.here hx rfl (hb hby d15_42) rfl (XT.ii_eq_f hc343) (XS.iconst X0.here hx rfl (hb hby d15_45) kt)) ?_
        obtain ⟨fs, hr, hrun, hended, hW, hsame⟩ := X0.leave (v := some (.int (0 : Int32))) (fun h => by rw [Bd.returns] at h; cases h)
        refine own_end (retN X0 hx (t := .boolean) Bd.returns (by simp) (hb hby d15_46) hr) ⟨_, hrun, hended, _, _, rfl, ?_, ⟨_, rfl⟩, hW, hsame.mono (by decide) (by decide)⟩
        show own_refQ Z _ _ _ _ _ _ _ _ _ _ _ _ h0 n0 _ s₁.heap _
        rw [e0]
        exact ⟨(by simp +decide [own_rf, own_W, hc342, hc343]), N0, rfl⟩
    · -- pc 23: not w1 = s0
      refine own_st (T' := s₁) (g' := (mkF m 27 #[.val (.ref x0), .val (.int (3 : Int32)), .val (.ref y0), .val (.int (2 : Int32)), .val (.int ((3 : Int32) - (2 : Int32)))] [(.int (0 : Int32))])) (fun _ kt => XS.icmpNo X0.here hx rfl (hb hby d15_23) rfl (XT.ii_eq_f hc342) (XS.iconst X0.here hx rfl (hb hby d15_26) kt)) ?_
      obtain ⟨fs, hr, hrun, hended, hW, hsame⟩ := X0.leave (v := some (.int (0 : Int32))) (fun h => by rw [Bd.returns] at h; cases h)
      refine own_end (retN X0 hx (t := .boolean) Bd.returns (by simp) (hb hby d15_27) hr) ⟨_, hrun, hended, _, _, rfl, ?_, ⟨_, rfl⟩, hW, hsame.mono (by decide) (by decide)⟩
      show own_refQ Z _ _ _ _ _ _ _ _ _ _ _ _ h0 n0 _ s₁.heap _
      rw [e0]
      exact ⟨(by simp +decide [own_rf, own_W, hc342]), N0, rfl⟩
  · -- m = 3, len = 0
    refine own_st (T' := s₁) (g' := (mkF m 6 #[.val (.ref x0), .val (.int (0 : Int32)), .val (.ref y0), .val (.int (3 : Int32)), .unset] [(.int (0 : Int32))])) (fun _ kt => XS.iloadN X0.here hx rfl (hb hby d15_0) rfl (XS.iloadN X0.here hx rfl (hb hby d15_1) rfl (XS.icmpNo X0.here hx rfl (hb hby d15_2) rfl (XT.ii_le_f (by decide)) (XS.iconst X0.here hx rfl (hb hby d15_5) kt)))) ?_
    obtain ⟨fs, hr, hrun, hended, hW, hsame⟩ := X0.leave (v := some (.int (0 : Int32))) (fun h => by rw [Bd.returns] at h; cases h)
    refine own_end (retN X0 hx (t := .boolean) Bd.returns (by simp) (hb hby d15_6) hr) ⟨_, hrun, hended, _, _, rfl, ?_, ⟨_, rfl⟩, hW, hsame.mono (by decide) (by decide)⟩
    show own_refQ Z _ _ _ _ _ _ _ _ _ _ _ _ h0 n0 _ s₁.heap _
    rw [e0]
    exact ⟨(by simp +decide [own_rf, own_W]), N0, rfl⟩
  · -- m = 3, len = 1
    refine own_st (T' := s₁) (g' := (mkF m 6 #[.val (.ref x0), .val (.int (1 : Int32)), .val (.ref y0), .val (.int (3 : Int32)), .unset] [(.int (0 : Int32))])) (fun _ kt => XS.iloadN X0.here hx rfl (hb hby d15_0) rfl (XS.iloadN X0.here hx rfl (hb hby d15_1) rfl (XS.icmpNo X0.here hx rfl (hb hby d15_2) rfl (XT.ii_le_f (by decide)) (XS.iconst X0.here hx rfl (hb hby d15_5) kt)))) ?_
    obtain ⟨fs, hr, hrun, hended, hW, hsame⟩ := X0.leave (v := some (.int (0 : Int32))) (fun h => by rw [Bd.returns] at h; cases h)
    refine own_end (retN X0 hx (t := .boolean) Bd.returns (by simp) (hb hby d15_6) hr) ⟨_, hrun, hended, _, _, rfl, ?_, ⟨_, rfl⟩, hW, hsame.mono (by decide) (by decide)⟩
    show own_refQ Z _ _ _ _ _ _ _ _ _ _ _ _ h0 n0 _ s₁.heap _
    rw [e0]
    exact ⟨(by simp +decide [own_rf, own_W]), N0, rfl⟩
  · -- m = 3, len = 2
    refine own_st (T' := s₁) (g' := (mkF m 6 #[.val (.ref x0), .val (.int (2 : Int32)), .val (.ref y0), .val (.int (3 : Int32)), .unset] [(.int (0 : Int32))])) (fun _ kt => XS.iloadN X0.here hx rfl (hb hby d15_0) rfl (XS.iloadN X0.here hx rfl (hb hby d15_1) rfl (XS.icmpNo X0.here hx rfl (hb hby d15_2) rfl (XT.ii_le_f (by decide)) (XS.iconst X0.here hx rfl (hb hby d15_5) kt)))) ?_
    obtain ⟨fs, hr, hrun, hended, hW, hsame⟩ := X0.leave (v := some (.int (0 : Int32))) (fun h => by rw [Bd.returns] at h; cases h)
    refine own_end (retN X0 hx (t := .boolean) Bd.returns (by simp) (hb hby d15_6) hr) ⟨_, hrun, hended, _, _, rfl, ?_, ⟨_, rfl⟩, hW, hsame.mono (by decide) (by decide)⟩
    show own_refQ Z _ _ _ _ _ _ _ _ _ _ _ _ h0 n0 _ s₁.heap _
    rw [e0]
    exact ⟨(by simp +decide [own_rf, own_W]), N0, rfl⟩
  · -- m = 3, len = 3
    refine own_st (T' := s₁) (g' := (mkF m 19 #[.val (.ref x0), .val (.int (3 : Int32)), .val (.ref y0), .val (.int (3 : Int32)), .val (.int ((3 : Int32) - (3 : Int32)))] [(.int ((3 : Int32) - (3 : Int32))), (.ref x0)])) (fun _ kt => XS.iloadN X0.here hx rfl (hb hby d15_0) rfl (XS.iloadN X0.here hx rfl (hb hby d15_1) rfl (XS.icmpYes X0.here hx rfl (pc0 := 2) (pc' := 7) rfl (hb hby d15_2) rfl (XT.ii_le_t (by decide)) (by decide) (by decide) (XS.iloadN X0.here hx rfl (hb hby d15_7) rfl (XS.iloadN X0.here hx rfl (hb hby d15_8) rfl (XS.isub X0.here hx rfl (hb hby d15_9) rfl (XS.istore X0.here hx rfl (hb hby d15_10) rfl (l' := #[.val (.ref x0), .val (.int (3 : Int32)), .val (.ref y0), .val (.int (3 : Int32)), .val (.int ((3 : Int32) - (3 : Int32)))]) rfl (XS.iloadN X0.here hx rfl (hb hby d15_12) rfl (XS.ifNo X0.here hx rfl (hb hby d15_13) rfl (XT.i0_le_f (by decide)) (XS.aloadN X0.here hx rfl (hb hby d15_16) rfl rfl (XS.iload X0.here hx rfl (hb hby d15_17) rfl kt))))))))))) ?_
    refine own_st (T' := s₁) (g' := (mkF m 20 #[.val (.ref x0), .val (.int (3 : Int32)), .val (.ref y0), .val (.int (3 : Int32)), .val (.int ((3 : Int32) - (3 : Int32)))] [(.int w0)])) (own_cal X0 hx hZ e0 pr1 ⟨by decide, by decide⟩ rfl (g := (mkF m 19 #[.val (.ref x0), .val (.int (3 : Int32)), .val (.ref y0), .val (.int (3 : Int32)), .val (.int ((3 : Int32) - (3 : Int32)))] [(.int ((3 : Int32) - (3 : Int32))), (.ref x0)])) rfl rfl (hb hby d15_19)) ?_
    refine own_st (T' := s₁) (g' := (mkF m 22 #[.val (.ref x0), .val (.int (3 : Int32)), .val (.ref y0), .val (.int (3 : Int32)), .val (.int ((3 : Int32) - (3 : Int32)))] [(.int (0 : Int32)), (.ref y0), (.int w0)])) (fun _ kt => XS.aloadN X0.here hx rfl (hb hby d15_20) rfl rfl (XS.iconst X0.here hx rfl (hb hby d15_21) kt)) ?_
    refine own_st (T' := s₁) (g' := (mkF m 23 #[.val (.ref x0), .val (.int (3 : Int32)), .val (.ref y0), .val (.int (3 : Int32)), .val (.int ((3 : Int32) - (3 : Int32)))] [(.int s0), (.int w0)])) (own_cal X0 hx hZ e0 pr2 ⟨by decide, by decide⟩ rfl (g := (mkF m 22 #[.val (.ref x0), .val (.int (3 : Int32)), .val (.ref y0), .val (.int (3 : Int32)), .val (.int ((3 : Int32) - (3 : Int32)))] [(.int (0 : Int32)), (.ref y0), (.int w0)])) rfl rfl (hb hby d15_22)) ?_
    by_cases hc344 : w0 = s0
    · -- pc 23: w0 = s0
      refine own_st (T' := s₁) (g' := (mkF m 38 #[.val (.ref x0), .val (.int (3 : Int32)), .val (.ref y0), .val (.int (3 : Int32)), .val (.int ((3 : Int32) - (3 : Int32)))] [(.int (((3 : Int32) - (3 : Int32)) + (1 : Int32))), (.ref x0)])) (fun _ kt => XS.icmpYes X0.here hx rfl (pc0 := 23) (pc' := 28) rfl (hb hby d15_23) rfl (XT.ii_eq_t hc344) (by decide) (by decide) (XS.iloadN X0.here hx rfl (hb hby d15_28) rfl (XS.iconst X0.here hx rfl (hb hby d15_29) (XS.icmpNo X0.here hx rfl (hb hby d15_30) rfl (XT.ii_le_f (by decide)) (XS.aloadN X0.here hx rfl (hb hby d15_33) rfl rfl (XS.iload X0.here hx rfl (hb hby d15_34) rfl (XS.iconst X0.here hx rfl (hb hby d15_36) (XS.iadd X0.here hx rfl (hb hby d15_37) rfl kt)))))))) ?_
      refine own_st (T' := s₁) (g' := (mkF m 39 #[.val (.ref x0), .val (.int (3 : Int32)), .val (.ref y0), .val (.int (3 : Int32)), .val (.int ((3 : Int32) - (3 : Int32)))] [(.int w1)])) (own_cal X0 hx hZ e0 pr1 ⟨by decide, by decide⟩ rfl (g := (mkF m 38 #[.val (.ref x0), .val (.int (3 : Int32)), .val (.ref y0), .val (.int (3 : Int32)), .val (.int ((3 : Int32) - (3 : Int32)))] [(.int (((3 : Int32) - (3 : Int32)) + (1 : Int32))), (.ref x0)])) rfl rfl (hb hby d15_38)) ?_
      refine own_st (T' := s₁) (g' := (mkF m 41 #[.val (.ref x0), .val (.int (3 : Int32)), .val (.ref y0), .val (.int (3 : Int32)), .val (.int ((3 : Int32) - (3 : Int32)))] [(.int (1 : Int32)), (.ref y0), (.int w1)])) (fun _ kt => XS.aloadN X0.here hx rfl (hb hby d15_39) rfl rfl (XS.iconst X0.here hx rfl (hb hby d15_40) kt)) ?_
      refine own_st (T' := s₁) (g' := (mkF m 42 #[.val (.ref x0), .val (.int (3 : Int32)), .val (.ref y0), .val (.int (3 : Int32)), .val (.int ((3 : Int32) - (3 : Int32)))] [(.int s1), (.int w1)])) (own_cal X0 hx hZ e0 pr2 ⟨by decide, by decide⟩ rfl (g := (mkF m 41 #[.val (.ref x0), .val (.int (3 : Int32)), .val (.ref y0), .val (.int (3 : Int32)), .val (.int ((3 : Int32) - (3 : Int32)))] [(.int (1 : Int32)), (.ref y0), (.int w1)])) rfl rfl (hb hby d15_41)) ?_
      by_cases hc345 : w1 = s1
      · -- pc 42: w1 = s1
        refine own_st (T' := s₁) (g' := (mkF m 57 #[.val (.ref x0), .val (.int (3 : Int32)), .val (.ref y0), .val (.int (3 : Int32)), .val (.int ((3 : Int32) - (3 : Int32)))] [(.int (((3 : Int32) - (3 : Int32)) + (2 : Int32))), (.ref x0)])) (fun _ kt => XS.icmpYes X0.here hx rfl (pc0 := 42) (pc' := 47) rfl (hb hby d15_42) rfl (XT.ii_eq_t hc345) (by decide) (by decide) (XS.iloadN X0.here hx rfl (hb hby d15_47) rfl (XS.iconst X0.here hx rfl (hb hby d15_48) (XS.icmpNo X0.here hx rfl (hb hby d15_49) rfl (XT.ii_le_f (by decide)) (XS.aloadN X0.here hx rfl (hb hby d15_52) rfl rfl (XS.iload X0.here hx rfl (hb hby d15_53) rfl (XS.iconst X0.here hx rfl (hb hby d15_55) (XS.iadd X0.here hx rfl (hb hby d15_56) rfl kt)))))))) ?_
        refine own_st (T' := s₁) (g' := (mkF m 58 #[.val (.ref x0), .val (.int (3 : Int32)), .val (.ref y0), .val (.int (3 : Int32)), .val (.int ((3 : Int32) - (3 : Int32)))] [(.int w2)])) (own_cal X0 hx hZ e0 pr1 ⟨by decide, by decide⟩ rfl (g := (mkF m 57 #[.val (.ref x0), .val (.int (3 : Int32)), .val (.ref y0), .val (.int (3 : Int32)), .val (.int ((3 : Int32) - (3 : Int32)))] [(.int (((3 : Int32) - (3 : Int32)) + (2 : Int32))), (.ref x0)])) rfl rfl (hb hby d15_57)) ?_
        refine own_st (T' := s₁) (g' := (mkF m 60 #[.val (.ref x0), .val (.int (3 : Int32)), .val (.ref y0), .val (.int (3 : Int32)), .val (.int ((3 : Int32) - (3 : Int32)))] [(.int (2 : Int32)), (.ref y0), (.int w2)])) (fun _ kt => XS.aloadN X0.here hx rfl (hb hby d15_58) rfl rfl (XS.iconst X0.here hx rfl (hb hby d15_59) kt)) ?_
        refine own_st (T' := s₁) (g' := (mkF m 61 #[.val (.ref x0), .val (.int (3 : Int32)), .val (.ref y0), .val (.int (3 : Int32)), .val (.int ((3 : Int32) - (3 : Int32)))] [(.int s2), (.int w2)])) (own_cal X0 hx hZ e0 pr2 ⟨by decide, by decide⟩ rfl (g := (mkF m 60 #[.val (.ref x0), .val (.int (3 : Int32)), .val (.ref y0), .val (.int (3 : Int32)), .val (.int ((3 : Int32) - (3 : Int32)))] [(.int (2 : Int32)), (.ref y0), (.int w2)])) rfl rfl (hb hby d15_60)) ?_
        by_cases hc346 : w2 = s2
        · -- pc 61: w2 = s2
          refine own_st (T' := s₁) (g' := (mkF m 67 #[.val (.ref x0), .val (.int (3 : Int32)), .val (.ref y0), .val (.int (3 : Int32)), .val (.int ((3 : Int32) - (3 : Int32)))] [(.int (1 : Int32))])) (fun _ kt => XS.icmpYes X0.here hx rfl (pc0 := 61) (pc' := 66) rfl (hb hby d15_61) rfl (XT.ii_eq_t hc346) (by decide) (by decide) (XS.iconst X0.here hx rfl (hb hby d15_66) kt)) ?_
          obtain ⟨fs, hr, hrun, hended, hW, hsame⟩ := X0.leave (v := some (.int (1 : Int32))) (fun h => by rw [Bd.returns] at h; cases h)
          refine own_end (retN X0 hx (t := .boolean) Bd.returns (by simp) (hb hby d15_67) hr) ⟨_, hrun, hended, _, _, rfl, ?_, ⟨_, rfl⟩, hW, hsame.mono (by decide) (by decide)⟩
          show own_refQ Z _ _ _ _ _ _ _ _ _ _ _ _ h0 n0 _ s₁.heap _
          rw [e0]
          exact ⟨(by simp +decide [own_rf, own_W, hc344, hc345, hc346]), N0, rfl⟩
        · -- pc 61: not w2 = s2
          refine own_st (T' := s₁) (g' := (mkF m 65 #[.val (.ref x0), .val (.int (3 : Int32)), .val (.ref y0), .val (.int (3 : Int32)), .val (.int ((3 : Int32) - (3 : Int32)))] [(.int (0 : Int32))])) (fun _ kt => XS.icmpNo X0.here hx rfl (hb hby d15_61) rfl (XT.ii_eq_f hc346) (XS.iconst X0.here hx rfl (hb hby d15_64) kt)) ?_
          obtain ⟨fs, hr, hrun, hended, hW, hsame⟩ := X0.leave (v := some (.int (0 : Int32))) (fun h => by rw [Bd.returns] at h; cases h)
          refine own_end (retN X0 hx (t := .boolean) Bd.returns (by simp) (hb hby d15_65) hr) ⟨_, hrun, hended, _, _, rfl, ?_, ⟨_, rfl⟩, hW, hsame.mono (by decide) (by decide)⟩
          show own_refQ Z _ _ _ _ _ _ _ _ _ _ _ _ h0 n0 _ s₁.heap _
          rw [e0]
          exact ⟨(by simp +decide [own_rf, own_W, hc344, hc345, hc346]), N0, rfl⟩
      · -- pc 42: not w1 = s1
        refine own_st (T' := s₁) (g' := (mkF m 46 #[.val (.ref x0), .val (.int (3 : Int32)), .val (.ref y0), .val (.int (3 : Int32)), .val (.int ((3 : Int32) - (3 : Int32)))] [(.int (0 : Int32))])) (fun _ kt => XS.icmpNo X0.here hx rfl (hb hby d15_42) rfl (XT.ii_eq_f hc345) (XS.iconst X0.here hx rfl (hb hby d15_45) kt)) ?_
        obtain ⟨fs, hr, hrun, hended, hW, hsame⟩ := X0.leave (v := some (.int (0 : Int32))) (fun h => by rw [Bd.returns] at h; cases h)
        refine own_end (retN X0 hx (t := .boolean) Bd.returns (by simp) (hb hby d15_46) hr) ⟨_, hrun, hended, _, _, rfl, ?_, ⟨_, rfl⟩, hW, hsame.mono (by decide) (by decide)⟩
        show own_refQ Z _ _ _ _ _ _ _ _ _ _ _ _ h0 n0 _ s₁.heap _
        rw [e0]
        exact ⟨(by simp +decide [own_rf, own_W, hc344, hc345]), N0, rfl⟩
    · -- pc 23: not w0 = s0
      refine own_st (T' := s₁) (g' := (mkF m 27 #[.val (.ref x0), .val (.int (3 : Int32)), .val (.ref y0), .val (.int (3 : Int32)), .val (.int ((3 : Int32) - (3 : Int32)))] [(.int (0 : Int32))])) (fun _ kt => XS.icmpNo X0.here hx rfl (hb hby d15_23) rfl (XT.ii_eq_f hc344) (XS.iconst X0.here hx rfl (hb hby d15_26) kt)) ?_
      obtain ⟨fs, hr, hrun, hended, hW, hsame⟩ := X0.leave (v := some (.int (0 : Int32))) (fun h => by rw [Bd.returns] at h; cases h)
      refine own_end (retN X0 hx (t := .boolean) Bd.returns (by simp) (hb hby d15_27) hr) ⟨_, hrun, hended, _, _, rfl, ?_, ⟨_, rfl⟩, hW, hsame.mono (by decide) (by decide)⟩
      show own_refQ Z _ _ _ _ _ _ _ _ _ _ _ _ h0 n0 _ s₁.heap _
      rw [e0]
      exact ⟨(by simp +decide [own_rf, own_W, hc344]), N0, rfl⟩
theorem d16_0 : decode prog_22_method_5_code 0 = .ok (.aload_n 0, 1) := by decide +kernel
theorem d16_1 : decode prog_22_method_5_code 1 = .ok (.getfield 23, 3) := by decide +kernel
theorem d16_4 : decode prog_22_method_5_code 4 = .ok (.aload_n 1, 1) := by decide +kernel
theorem d16_5 : decode prog_22_method_5_code 5 = .ok (.arraylength, 1) := by decide +kernel
theorem d16_6 : decode prog_22_method_5_code 6 = .ok (.isub, 1) := by decide +kernel
theorem d16_7 : decode prog_22_method_5_code 7 = .ok (.istore_n 2, 1) := by decide +kernel
theorem d16_8 : decode prog_22_method_5_code 8 = .ok (.iload_n 2, 1) := by decide +kernel
theorem d16_9 : decode prog_22_method_5_code 9 = .ok (.ifCond .ge 5, 3) := by decide +kernel
theorem d16_14 : decode prog_22_method_5_code 14 = .ok (.aload_n 1, 1) := by decide +kernel
theorem d16_15 : decode prog_22_method_5_code 15 = .ok (.arraylength, 1) := by decide +kernel
theorem d16_16 : decode prog_22_method_5_code 16 = .ok (.iconst 1, 1) := by decide +kernel
theorem d16_17 : decode prog_22_method_5_code 17 = .ok (.isub, 1) := by decide +kernel
theorem d16_18 : decode prog_22_method_5_code 18 = .ok (.istore_n 3, 1) := by decide +kernel
theorem d16_19 : decode prog_22_method_5_code 19 = .ok (.iload_n 3, 1) := by decide +kernel
theorem d16_20 : decode prog_22_method_5_code 20 = .ok (.ifCond .lt 25, 3) := by decide +kernel
theorem d16_45 : decode prog_22_method_5_code 45 = .ok (.iconst 1, 1) := by decide +kernel
theorem d16_46 : decode prog_22_method_5_code 46 = .ok (.ireturn, 1) := by decide +kernel
theorem d16_12 : decode prog_22_method_5_code 12 = .ok (.iconst 0, 1) := by decide +kernel
theorem d16_13 : decode prog_22_method_5_code 13 = .ok (.ireturn, 1) := by decide +kernel
theorem d16_23 : decode prog_22_method_5_code 23 = .ok (.aload_n 0, 1) := by decide +kernel
theorem d16_24 : decode prog_22_method_5_code 24 = .ok (.getfield 13, 3) := by decide +kernel
theorem d16_27 : decode prog_22_method_5_code 27 = .ok (.iload_n 2, 1) := by decide +kernel
theorem d16_28 : decode prog_22_method_5_code 28 = .ok (.iload_n 3, 1) := by decide +kernel
theorem d16_29 : decode prog_22_method_5_code 29 = .ok (.iadd, 1) := by decide +kernel
theorem d16_30 : decode prog_22_method_5_code 30 = .ok (.caload, 1) := by decide +kernel
theorem d16_31 : decode prog_22_method_5_code 31 = .ok (.aload_n 1, 1) := by decide +kernel
theorem d16_32 : decode prog_22_method_5_code 32 = .ok (.iload_n 3, 1) := by decide +kernel
theorem d16_33 : decode prog_22_method_5_code 33 = .ok (.caload, 1) := by decide +kernel
theorem d16_34 : decode prog_22_method_5_code 34 = .ok (.if_icmp .eq 5, 3) := by decide +kernel
theorem d16_39 : decode prog_22_method_5_code 39 = .ok (.iinc 3 (-1), 3) := by decide +kernel
theorem d16_42 : decode prog_22_method_5_code 42 = .ok (.goto (-23), 3) := by decide +kernel
theorem d16_37 : decode prog_22_method_5_code 37 = .ok (.iconst 0, 1) := by decide +kernel
theorem d16_38 : decode prog_22_method_5_code 38 = .ok (.ireturn, 1) := by decide +kernel
set_option maxHeartbeats 4000000 in
theorem own_ef9 (m : MethodId) (x0 : Addr) (x1 : Addr) : entryFrame m #[(.ref x0), (.ref x1)] 4 = mkF m 0 #[.val (.ref x0), .val (.ref x1), .unset, .unset] [] := by first | (simp [entryFrame, mkF, argsToLocals, Value.category]; done) | rfl
def own_endsQ (Z : State) (a : Addr) (y0 : Addr) (ln : Int32) (mm : Int32) (la : Addr) (kl : ClassId) (zn : Int32) (ky : ClassId) (w0 : Int32) (w1 : Int32) (w2 : Int32) (s0 : Int32) (s1 : Int32) (s2 : Int32) (h0 : Heap) (n0 : Nat) (v : Option Value) (h : Heap) (L : List Loc) : Prop := v = some (.int (own_rf w0 w1 w2 ln s0 s1 s2 mm)) ∧ Fr n0 L ∧ h = h0
abbrev own_endsR : Room := { frames := 0, cells := 0, slots := 0, locals := 0 }
set_option maxRecDepth 65536 in
set_option maxHeartbeats 40000000 in
theorem own_ends (l : Launch) (Z : State) (a0 : Array Value) (hw : ∀ d ∈ tables_1, d.before a0 Z = true) (ws : List Jvm.Cond) (a : Addr) (y0 : Addr) (ln : Int32) (mm : Int32) (la : Addr) (kl : ClassId) (zn : Int32) (ky : ClassId) (w0 : Int32) (w1 : Int32) (w2 : Int32) (s0 : Int32) (s1 : Int32) (s2 : Int32) (h0 : Heap) (n0 : Nat) (Z0 : n0 ≤ h0.size) (pr1 : Fld Z h0 a "com/example/tally_rank/tallyrank/analysis/SuffixWord" "length" "I" (.int ln)) (pr2 : Fld Z h0 a "com/example/tally_rank/tallyrank/analysis/SuffixWord" "letters" "[C" (.ref la)) (pr3 : Arv Z h0 la kl .char zn (own_tk zn w0 w1 w2) (.int (0 : Int32))) (pr4 : Arv Z h0 y0 ky .char mm (own_tk mm s0 s1 s2) (.int (0 : Int32))) (pr5 : own_q mm) (pr6 : own_q ln) (pr7 : own_q zn) (pr8 : ¬ zn < ln) :
    own_M l (⟨"com/example/tally_rank/tallyrank/analysis/SuffixWord", "endsWith", "([C)Z"⟩ : MethodName) prog_22_method_5_code 4 (some .boolean) ws own_endsR #[(.ref a), (.ref y0)] Z h0 (own_endsQ Z a y0 ln mm la kl zn ky w0 w1 w2 s0 s1 s2 h0 n0) := by
  refine own_go (plainFor_of_name own_pn4) (fun m => own_ef9 m a y0 ) ?_
  intro p e s m below meth c s₁ Bd hx hby hml hZ hh hown hnm X0 e0
  have N0 := Fr.nil n0
  rcases pr5 with rfl | rfl | rfl | rfl <;> rcases pr6 with rfl | rfl | rfl | rfl
  · -- m = 0, len = 0
    refine own_st (T' := s₁) (g' := (mkF m 1 #[.val (.ref a), .val (.ref y0), .unset, .unset] [(.ref a)])) (fun _ kt => XS.aloadN X0.here hx rfl (hb hby d16_0) rfl rfl kt) ?_
    obtain ⟨T347, X347, e347, st347⟩ := getF X0 hx hZ hown (host := "") (Or.inl (own_k hw 70 rfl)) Via.refl e0 pr1 (g := (mkF m 1 #[.val (.ref a), .val (.ref y0), .unset, .unset] [(.ref a)])) rfl rfl (hb hby d16_1)
    refine own_st (T' := T347) (g' := (mkF m 4 #[.val (.ref a), .val (.ref y0), .unset, .unset] [(.int (0 : Int32))])) st347 ?_
    refine own_st (T' := T347) (g' := (mkF m 5 #[.val (.ref a), .val (.ref y0), .unset, .unset] [(.ref y0), (.int (0 : Int32))])) (fun _ kt => XS.aloadN X347.here hx rfl (hb hby d16_4) rfl rfl kt) ?_
    refine own_st (T' := T347) (g' := (mkF m 6 #[.val (.ref a), .val (.ref y0), .unset, .unset] [(.int (0 : Int32)), (.int (0 : Int32))])) (own_alen X347 hx hZ e347 pr4 (g := (mkF m 5 #[.val (.ref a), .val (.ref y0), .unset, .unset] [(.ref y0), (.int (0 : Int32))])) rfl rfl (hb hby d16_5)) ?_
    refine own_st (T' := T347) (g' := (mkF m 15 #[.val (.ref a), .val (.ref y0), .val (.int ((0 : Int32) - (0 : Int32))), .unset] [(.ref y0)])) (fun _ kt => XS.isub X347.here hx rfl (hb hby d16_6) rfl (XS.istoreN X347.here hx rfl (hb hby d16_7) rfl (l' := #[.val (.ref a), .val (.ref y0), .val (.int ((0 : Int32) - (0 : Int32))), .unset]) rfl (XS.iloadN X347.here hx rfl (hb hby d16_8) rfl (XS.ifYes X347.here hx rfl (pc0 := 9) (pc' := 14) rfl (hb hby d16_9) rfl (XT.i0_ge_t (by decide)) (by decide) (by decide) (XS.aloadN X347.here hx rfl (hb hby d16_14) rfl rfl kt))))) ?_
    refine own_st (T' := T347) (g' := (mkF m 16 #[.val (.ref a), .val (.ref y0), .val (.int ((0 : Int32) - (0 : Int32))), .unset] [(.int (0 : Int32))])) (own_alen X347 hx hZ e347 pr4 (g := (mkF m 15 #[.val (.ref a), .val (.ref y0), .val (.int ((0 : Int32) - (0 : Int32))), .unset] [(.ref y0)])) rfl rfl (hb hby d16_15)) ?_
    refine own_st (T' := T347) (g' := (mkF m 46 #[.val (.ref a), .val (.ref y0), .val (.int ((0 : Int32) - (0 : Int32))), .val (.int ((0 : Int32) - (1 : Int32)))] [(.int (1 : Int32))])) (fun _ kt => XS.iconst X347.here hx rfl (hb hby d16_16) (XS.isub X347.here hx rfl (hb hby d16_17) rfl (XS.istoreN X347.here hx rfl (hb hby d16_18) rfl (l' := #[.val (.ref a), .val (.ref y0), .val (.int ((0 : Int32) - (0 : Int32))), .val (.int ((0 : Int32) - (1 : Int32)))]) rfl (XS.iloadN X347.here hx rfl (hb hby d16_19) rfl (XS.ifYes X347.here hx rfl (pc0 := 20) (pc' := 45) rfl (hb hby d16_20) rfl (XT.i0_lt_t (by decide)) (by decide) (by decide) (XS.iconst X347.here hx rfl (hb hby d16_45) kt)))))) ?_
    obtain ⟨fs, hr, hrun, hended, hW, hsame⟩ := X347.leave (v := some (.int (1 : Int32))) (fun h => by rw [Bd.returns] at h; cases h)
    refine own_end (retN X347 hx (t := .boolean) Bd.returns (by simp) (hb hby d16_46) hr) ⟨_, hrun, hended, _, _, rfl, ?_, ⟨_, rfl⟩, hW, hsame.mono (by decide) (by decide)⟩
    show own_endsQ Z _ _ _ _ _ _ _ _ _ _ _ _ _ _ h0 n0 _ T347.heap _
    rw [e347]
    exact ⟨(by simp +decide [own_rf, own_W]), N0, rfl⟩
  · -- m = 0, len = 1
    refine own_st (T' := s₁) (g' := (mkF m 1 #[.val (.ref a), .val (.ref y0), .unset, .unset] [(.ref a)])) (fun _ kt => XS.aloadN X0.here hx rfl (hb hby d16_0) rfl rfl kt) ?_
    obtain ⟨T348, X348, e348, st348⟩ := getF X0 hx hZ hown (host := "") (Or.inl (own_k hw 70 rfl)) Via.refl e0 pr1 (g := (mkF m 1 #[.val (.ref a), .val (.ref y0), .unset, .unset] [(.ref a)])) rfl rfl (hb hby d16_1)
    refine own_st (T' := T348) (g' := (mkF m 4 #[.val (.ref a), .val (.ref y0), .unset, .unset] [(.int (1 : Int32))])) st348 ?_
    refine own_st (T' := T348) (g' := (mkF m 5 #[.val (.ref a), .val (.ref y0), .unset, .unset] [(.ref y0), (.int (1 : Int32))])) (fun _ kt => XS.aloadN X348.here hx rfl (hb hby d16_4) rfl rfl kt) ?_
    refine own_st (T' := T348) (g' := (mkF m 6 #[.val (.ref a), .val (.ref y0), .unset, .unset] [(.int (0 : Int32)), (.int (1 : Int32))])) (own_alen X348 hx hZ e348 pr4 (g := (mkF m 5 #[.val (.ref a), .val (.ref y0), .unset, .unset] [(.ref y0), (.int (1 : Int32))])) rfl rfl (hb hby d16_5)) ?_
    refine own_st (T' := T348) (g' := (mkF m 15 #[.val (.ref a), .val (.ref y0), .val (.int ((1 : Int32) - (0 : Int32))), .unset] [(.ref y0)])) (fun _ kt => XS.isub X348.here hx rfl (hb hby d16_6) rfl (XS.istoreN X348.here hx rfl (hb hby d16_7) rfl (l' := #[.val (.ref a), .val (.ref y0), .val (.int ((1 : Int32) - (0 : Int32))), .unset]) rfl (XS.iloadN X348.here hx rfl (hb hby d16_8) rfl (XS.ifYes X348.here hx rfl (pc0 := 9) (pc' := 14) rfl (hb hby d16_9) rfl (XT.i0_ge_t (by decide)) (by decide) (by decide) (XS.aloadN X348.here hx rfl (hb hby d16_14) rfl rfl kt))))) ?_
    refine own_st (T' := T348) (g' := (mkF m 16 #[.val (.ref a), .val (.ref y0), .val (.int ((1 : Int32) - (0 : Int32))), .unset] [(.int (0 : Int32))])) (own_alen X348 hx hZ e348 pr4 (g := (mkF m 15 #[.val (.ref a), .val (.ref y0), .val (.int ((1 : Int32) - (0 : Int32))), .unset] [(.ref y0)])) rfl rfl (hb hby d16_15)) ?_
    refine own_st (T' := T348) (g' := (mkF m 46 #[.val (.ref a), .val (.ref y0), .val (.int ((1 : Int32) - (0 : Int32))), .val (.int ((0 : Int32) - (1 : Int32)))] [(.int (1 : Int32))])) (fun _ kt => XS.iconst X348.here hx rfl (hb hby d16_16) (XS.isub X348.here hx rfl (hb hby d16_17) rfl (XS.istoreN X348.here hx rfl (hb hby d16_18) rfl (l' := #[.val (.ref a), .val (.ref y0), .val (.int ((1 : Int32) - (0 : Int32))), .val (.int ((0 : Int32) - (1 : Int32)))]) rfl (XS.iloadN X348.here hx rfl (hb hby d16_19) rfl (XS.ifYes X348.here hx rfl (pc0 := 20) (pc' := 45) rfl (hb hby d16_20) rfl (XT.i0_lt_t (by decide)) (by decide) (by decide) (XS.iconst X348.here hx rfl (hb hby d16_45) kt)))))) ?_
    obtain ⟨fs, hr, hrun, hended, hW, hsame⟩ := X348.leave (v := some (.int (1 : Int32))) (fun h => by rw [Bd.returns] at h; cases h)
    refine own_end (retN X348 hx (t := .boolean) Bd.returns (by simp) (hb hby d16_46) hr) ⟨_, hrun, hended, _, _, rfl, ?_, ⟨_, rfl⟩, hW, hsame.mono (by decide) (by decide)⟩
    show own_endsQ Z _ _ _ _ _ _ _ _ _ _ _ _ _ _ h0 n0 _ T348.heap _
    rw [e348]
    exact ⟨(by simp +decide [own_rf, own_W]), N0, rfl⟩
  · -- m = 0, len = 2
    refine own_st (T' := s₁) (g' := (mkF m 1 #[.val (.ref a), .val (.ref y0), .unset, .unset] [(.ref a)])) (fun _ kt => XS.aloadN X0.here hx rfl (hb hby d16_0) rfl rfl kt) ?_
    obtain ⟨T349, X349, e349, st349⟩ := getF X0 hx hZ hown (host := "") (Or.inl (own_k hw 70 rfl)) Via.refl e0 pr1 (g := (mkF m 1 #[.val (.ref a), .val (.ref y0), .unset, .unset] [(.ref a)])) rfl rfl (hb hby d16_1)
    refine own_st (T' := T349) (g' := (mkF m 4 #[.val (.ref a), .val (.ref y0), .unset, .unset] [(.int (2 : Int32))])) st349 ?_
    refine own_st (T' := T349) (g' := (mkF m 5 #[.val (.ref a), .val (.ref y0), .unset, .unset] [(.ref y0), (.int (2 : Int32))])) (fun _ kt => XS.aloadN X349.here hx rfl (hb hby d16_4) rfl rfl kt) ?_
    refine own_st (T' := T349) (g' := (mkF m 6 #[.val (.ref a), .val (.ref y0), .unset, .unset] [(.int (0 : Int32)), (.int (2 : Int32))])) (own_alen X349 hx hZ e349 pr4 (g := (mkF m 5 #[.val (.ref a), .val (.ref y0), .unset, .unset] [(.ref y0), (.int (2 : Int32))])) rfl rfl (hb hby d16_5)) ?_
    refine own_st (T' := T349) (g' := (mkF m 15 #[.val (.ref a), .val (.ref y0), .val (.int ((2 : Int32) - (0 : Int32))), .unset] [(.ref y0)])) (fun _ kt => XS.isub X349.here hx rfl (hb hby d16_6) rfl (XS.istoreN X349.here hx rfl (hb hby d16_7) rfl (l' := #[.val (.ref a), .val (.ref y0), .val (.int ((2 : Int32) - (0 : Int32))), .unset]) rfl (XS.iloadN X349.here hx rfl (hb hby d16_8) rfl (XS.ifYes X349.here hx rfl (pc0 := 9) (pc' := 14) rfl (hb hby d16_9) rfl (XT.i0_ge_t (by decide)) (by decide) (by decide) (XS.aloadN X349.here hx rfl (hb hby d16_14) rfl rfl kt))))) ?_
    refine own_st (T' := T349) (g' := (mkF m 16 #[.val (.ref a), .val (.ref y0), .val (.int ((2 : Int32) - (0 : Int32))), .unset] [(.int (0 : Int32))])) (own_alen X349 hx hZ e349 pr4 (g := (mkF m 15 #[.val (.ref a), .val (.ref y0), .val (.int ((2 : Int32) - (0 : Int32))), .unset] [(.ref y0)])) rfl rfl (hb hby d16_15)) ?_
    refine own_st (T' := T349) (g' := (mkF m 46 #[.val (.ref a), .val (.ref y0), .val (.int ((2 : Int32) - (0 : Int32))), .val (.int ((0 : Int32) - (1 : Int32)))] [(.int (1 : Int32))])) (fun _ kt => XS.iconst X349.here hx rfl (hb hby d16_16) (XS.isub X349.here hx rfl (hb hby d16_17) rfl (XS.istoreN X349.here hx rfl (hb hby d16_18) rfl (l' := #[.val (.ref a), .val (.ref y0), .val (.int ((2 : Int32) - (0 : Int32))), .val (.int ((0 : Int32) - (1 : Int32)))]) rfl (XS.iloadN X349.here hx rfl (hb hby d16_19) rfl (XS.ifYes X349.here hx rfl (pc0 := 20) (pc' := 45) rfl (hb hby d16_20) rfl (XT.i0_lt_t (by decide)) (by decide) (by decide) (XS.iconst X349.here hx rfl (hb hby d16_45) kt)))))) ?_
    obtain ⟨fs, hr, hrun, hended, hW, hsame⟩ := X349.leave (v := some (.int (1 : Int32))) (fun h => by rw [Bd.returns] at h; cases h)
    refine own_end (retN X349 hx (t := .boolean) Bd.returns (by simp) (hb hby d16_46) hr) ⟨_, hrun, hended, _, _, rfl, ?_, ⟨_, rfl⟩, hW, hsame.mono (by decide) (by decide)⟩
    show own_endsQ Z _ _ _ _ _ _ _ _ _ _ _ _ _ _ h0 n0 _ T349.heap _
    rw [e349]
    exact ⟨(by simp +decide [own_rf, own_W]), N0, rfl⟩
  · -- m = 0, len = 3
    refine own_st (T' := s₁) (g' := (mkF m 1 #[.val (.ref a), .val (.ref y0), .unset, .unset] [(.ref a)])) (fun _ kt => XS.aloadN X0.here hx rfl (hb hby d16_0) rfl rfl kt) ?_
    obtain ⟨T350, X350, e350, st350⟩ := getF X0 hx hZ hown (host := "") (Or.inl (own_k hw 70 rfl)) Via.refl e0 pr1 (g := (mkF m 1 #[.val (.ref a), .val (.ref y0), .unset, .unset] [(.ref a)])) rfl rfl (hb hby d16_1)
    refine own_st (T' := T350) (g' := (mkF m 4 #[.val (.ref a), .val (.ref y0), .unset, .unset] [(.int (3 : Int32))])) st350 ?_
    refine own_st (T' := T350) (g' := (mkF m 5 #[.val (.ref a), .val (.ref y0), .unset, .unset] [(.ref y0), (.int (3 : Int32))])) (fun _ kt => XS.aloadN X350.here hx rfl (hb hby d16_4) rfl rfl kt) ?_
    refine own_st (T' := T350) (g' := (mkF m 6 #[.val (.ref a), .val (.ref y0), .unset, .unset] [(.int (0 : Int32)), (.int (3 : Int32))])) (own_alen X350 hx hZ e350 pr4 (g := (mkF m 5 #[.val (.ref a), .val (.ref y0), .unset, .unset] [(.ref y0), (.int (3 : Int32))])) rfl rfl (hb hby d16_5)) ?_
    refine own_st (T' := T350) (g' := (mkF m 15 #[.val (.ref a), .val (.ref y0), .val (.int ((3 : Int32) - (0 : Int32))), .unset] [(.ref y0)])) (fun _ kt => XS.isub X350.here hx rfl (hb hby d16_6) rfl (XS.istoreN X350.here hx rfl (hb hby d16_7) rfl (l' := #[.val (.ref a), .val (.ref y0), .val (.int ((3 : Int32) - (0 : Int32))), .unset]) rfl (XS.iloadN X350.here hx rfl (hb hby d16_8) rfl (XS.ifYes X350.here hx rfl (pc0 := 9) (pc' := 14) rfl (hb hby d16_9) rfl (XT.i0_ge_t (by decide)) (by decide) (by decide) (XS.aloadN X350.here hx rfl (hb hby d16_14) rfl rfl kt))))) ?_
    refine own_st (T' := T350) (g' := (mkF m 16 #[.val (.ref a), .val (.ref y0), .val (.int ((3 : Int32) - (0 : Int32))), .unset] [(.int (0 : Int32))])) (own_alen X350 hx hZ e350 pr4 (g := (mkF m 15 #[.val (.ref a), .val (.ref y0), .val (.int ((3 : Int32) - (0 : Int32))), .unset] [(.ref y0)])) rfl rfl (hb hby d16_15)) ?_
    refine own_st (T' := T350) (g' := (mkF m 46 #[.val (.ref a), .val (.ref y0), .val (.int ((3 : Int32) - (0 : Int32))), .val (.int ((0 : Int32) - (1 : Int32)))] [(.int (1 : Int32))])) (fun _ kt => XS.iconst X350.here hx rfl (hb hby d16_16) (XS.isub X350.here hx rfl (hb hby d16_17) rfl (XS.istoreN X350.here hx rfl (hb hby d16_18) rfl (l' := #[.val (.ref a), .val (.ref y0), .val (.int ((3 : Int32) - (0 : Int32))), .val (.int ((0 : Int32) - (1 : Int32)))]) rfl (XS.iloadN X350.here hx rfl (hb hby d16_19) rfl (XS.ifYes X350.here hx rfl (pc0 := 20) (pc' := 45) rfl (hb hby d16_20) rfl (XT.i0_lt_t (by decide)) (by decide) (by decide) (XS.iconst X350.here hx rfl (hb hby d16_45) kt)))))) ?_
    obtain ⟨fs, hr, hrun, hended, hW, hsame⟩ := X350.leave (v := some (.int (1 : Int32))) (fun h => by rw [Bd.returns] at h; cases h)
    refine own_end (retN X350 hx (t := .boolean) Bd.returns (by simp) (hb hby d16_46) hr) ⟨_, hrun, hended, _, _, rfl, ?_, ⟨_, rfl⟩, hW, hsame.mono (by decide) (by decide)⟩
    show own_endsQ Z _ _ _ _ _ _ _ _ _ _ _ _ _ _ h0 n0 _ T350.heap _
    rw [e350]
    exact ⟨(by simp +decide [own_rf, own_W]), N0, rfl⟩
  · -- m = 1, len = 0
    refine own_st (T' := s₁) (g' := (mkF m 1 #[.val (.ref a), .val (.ref y0), .unset, .unset] [(.ref a)])) (fun _ kt => XS.aloadN X0.here hx rfl (hb hby d16_0) rfl rfl kt) ?_
    obtain ⟨T351, X351, e351, st351⟩ := getF X0 hx hZ hown (host := "") (Or.inl (own_k hw 70 rfl)) Via.refl e0 pr1 (g := (mkF m 1 #[.val (.ref a), .val (.ref y0), .unset, .unset] [(.ref a)])) rfl rfl (hb hby d16_1)
    refine own_st (T' := T351) (g' := (mkF m 4 #[.val (.ref a), .val (.ref y0), .unset, .unset] [(.int (0 : Int32))])) st351 ?_
    refine own_st (T' := T351) (g' := (mkF m 5 #[.val (.ref a), .val (.ref y0), .unset, .unset] [(.ref y0), (.int (0 : Int32))])) (fun _ kt => XS.aloadN X351.here hx rfl (hb hby d16_4) rfl rfl kt) ?_
    refine own_st (T' := T351) (g' := (mkF m 6 #[.val (.ref a), .val (.ref y0), .unset, .unset] [(.int (1 : Int32)), (.int (0 : Int32))])) (own_alen X351 hx hZ e351 pr4 (g := (mkF m 5 #[.val (.ref a), .val (.ref y0), .unset, .unset] [(.ref y0), (.int (0 : Int32))])) rfl rfl (hb hby d16_5)) ?_
    refine own_st (T' := T351) (g' := (mkF m 13 #[.val (.ref a), .val (.ref y0), .val (.int ((0 : Int32) - (1 : Int32))), .unset] [(.int (0 : Int32))])) (fun _ kt => XS.isub X351.here hx rfl (hb hby d16_6) rfl (XS.istoreN X351.here hx rfl (hb hby d16_7) rfl (l' := #[.val (.ref a), .val (.ref y0), .val (.int ((0 : Int32) - (1 : Int32))), .unset]) rfl (XS.iloadN X351.here hx rfl (hb hby d16_8) rfl (XS.ifNo X351.here hx rfl (hb hby d16_9) rfl (XT.i0_ge_f (by decide)) (XS.iconst X351.here hx rfl (hb hby d16_12) kt))))) ?_
    obtain ⟨fs, hr, hrun, hended, hW, hsame⟩ := X351.leave (v := some (.int (0 : Int32))) (fun h => by rw [Bd.returns] at h; cases h)
    refine own_end (retN X351 hx (t := .boolean) Bd.returns (by simp) (hb hby d16_13) hr) ⟨_, hrun, hended, _, _, rfl, ?_, ⟨_, rfl⟩, hW, hsame.mono (by decide) (by decide)⟩
    show own_endsQ Z _ _ _ _ _ _ _ _ _ _ _ _ _ _ h0 n0 _ T351.heap _
    rw [e351]
    exact ⟨(by simp +decide [own_rf, own_W]), N0, rfl⟩
  · -- m = 1, len = 1
    refine own_st (T' := s₁) (g' := (mkF m 1 #[.val (.ref a), .val (.ref y0), .unset, .unset] [(.ref a)])) (fun _ kt => XS.aloadN X0.here hx rfl (hb hby d16_0) rfl rfl kt) ?_
    obtain ⟨T352, X352, e352, st352⟩ := getF X0 hx hZ hown (host := "") (Or.inl (own_k hw 70 rfl)) Via.refl e0 pr1 (g := (mkF m 1 #[.val (.ref a), .val (.ref y0), .unset, .unset] [(.ref a)])) rfl rfl (hb hby d16_1)
    refine own_st (T' := T352) (g' := (mkF m 4 #[.val (.ref a), .val (.ref y0), .unset, .unset] [(.int (1 : Int32))])) st352 ?_
    refine own_st (T' := T352) (g' := (mkF m 5 #[.val (.ref a), .val (.ref y0), .unset, .unset] [(.ref y0), (.int (1 : Int32))])) (fun _ kt => XS.aloadN X352.here hx rfl (hb hby d16_4) rfl rfl kt) ?_
    refine own_st (T' := T352) (g' := (mkF m 6 #[.val (.ref a), .val (.ref y0), .unset, .unset] [(.int (1 : Int32)), (.int (1 : Int32))])) (own_alen X352 hx hZ e352 pr4 (g := (mkF m 5 #[.val (.ref a), .val (.ref y0), .unset, .unset] [(.ref y0), (.int (1 : Int32))])) rfl rfl (hb hby d16_5)) ?_
    refine own_st (T' := T352) (g' := (mkF m 15 #[.val (.ref a), .val (.ref y0), .val (.int ((1 : Int32) - (1 : Int32))), .unset] [(.ref y0)])) (fun _ kt => XS.isub X352.here hx rfl (hb hby d16_6) rfl (XS.istoreN X352.here hx rfl (hb hby d16_7) rfl (l' := #[.val (.ref a), .val (.ref y0), .val (.int ((1 : Int32) - (1 : Int32))), .unset]) rfl (XS.iloadN X352.here hx rfl (hb hby d16_8) rfl (XS.ifYes X352.here hx rfl (pc0 := 9) (pc' := 14) rfl (hb hby d16_9) rfl (XT.i0_ge_t (by decide)) (by decide) (by decide) (XS.aloadN X352.here hx rfl (hb hby d16_14) rfl rfl kt))))) ?_
    refine own_st (T' := T352) (g' := (mkF m 16 #[.val (.ref a), .val (.ref y0), .val (.int ((1 : Int32) - (1 : Int32))), .unset] [(.int (1 : Int32))])) (own_alen X352 hx hZ e352 pr4 (g := (mkF m 15 #[.val (.ref a), .val (.ref y0), .val (.int ((1 : Int32) - (1 : Int32))), .unset] [(.ref y0)])) rfl rfl (hb hby d16_15)) ?_
    refine own_st (T' := T352) (g' := (mkF m 24 #[.val (.ref a), .val (.ref y0), .val (.int ((1 : Int32) - (1 : Int32))), .val (.int ((1 : Int32) - (1 : Int32)))] [(.ref a)])) (fun _ kt => XS.iconst X352.here hx rfl (hb hby d16_16) (XS.isub X352.here hx rfl (hb hby d16_17) rfl (XS.istoreN X352.here hx rfl (hb hby d16_18) rfl (l' := #[.val (.ref a), .val (.ref y0), .val (.int ((1 : Int32) - (1 : Int32))), .val (.int ((1 : Int32) - (1 : Int32)))]) rfl (XS.iloadN X352.here hx rfl (hb hby d16_19) rfl (XS.ifNo X352.here hx rfl (hb hby d16_20) rfl (XT.i0_lt_f (by decide)) (XS.aloadN X352.here hx rfl (hb hby d16_23) rfl rfl kt)))))) ?_
    obtain ⟨T353, X353, e353, st353⟩ := getF X352 hx hZ hown (host := "") (Or.inl (own_k hw 58 rfl)) Via.refl e352 pr2 (g := (mkF m 24 #[.val (.ref a), .val (.ref y0), .val (.int ((1 : Int32) - (1 : Int32))), .val (.int ((1 : Int32) - (1 : Int32)))] [(.ref a)])) rfl rfl (hb hby d16_24)
    refine own_st (T' := T353) (g' := (mkF m 27 #[.val (.ref a), .val (.ref y0), .val (.int ((1 : Int32) - (1 : Int32))), .val (.int ((1 : Int32) - (1 : Int32)))] [(.ref la)])) st353 ?_
    refine own_st (T' := T353) (g' := (mkF m 30 #[.val (.ref a), .val (.ref y0), .val (.int ((1 : Int32) - (1 : Int32))), .val (.int ((1 : Int32) - (1 : Int32)))] [(.int (((1 : Int32) - (1 : Int32)) + ((1 : Int32) - (1 : Int32)))), (.ref la)])) (fun _ kt => XS.iloadN X353.here hx rfl (hb hby d16_27) rfl (XS.iloadN X353.here hx rfl (hb hby d16_28) rfl (XS.iadd X353.here hx rfl (hb hby d16_29) rfl kt))) ?_
    refine own_st (T' := T353) (g' := (mkF m 31 #[.val (.ref a), .val (.ref y0), .val (.int ((1 : Int32) - (1 : Int32))), .val (.int ((1 : Int32) - (1 : Int32)))] [(.int w0)])) (own_cal X353 hx hZ e353 pr3 (own_ltj pr8 (by decide) (by decide)) ((own_tkg pr7).1 (own_ltj pr8 (by decide) (by decide)).2) (g := (mkF m 30 #[.val (.ref a), .val (.ref y0), .val (.int ((1 : Int32) - (1 : Int32))), .val (.int ((1 : Int32) - (1 : Int32)))] [(.int (((1 : Int32) - (1 : Int32)) + ((1 : Int32) - (1 : Int32)))), (.ref la)])) rfl rfl (hb hby d16_30)) ?_
    refine own_st (T' := T353) (g' := (mkF m 33 #[.val (.ref a), .val (.ref y0), .val (.int ((1 : Int32) - (1 : Int32))), .val (.int ((1 : Int32) - (1 : Int32)))] [(.int ((1 : Int32) - (1 : Int32))), (.ref y0), (.int w0)])) (fun _ kt => XS.aloadN X353.here hx rfl (hb hby d16_31) rfl rfl (XS.iloadN X353.here hx rfl (hb hby d16_32) rfl kt)) ?_
    refine own_st (T' := T353) (g' := (mkF m 34 #[.val (.ref a), .val (.ref y0), .val (.int ((1 : Int32) - (1 : Int32))), .val (.int ((1 : Int32) - (1 : Int32)))] [(.int s0), (.int w0)])) (own_cal X353 hx hZ e353 pr4 ⟨by decide, by decide⟩ rfl (g := (mkF m 33 #[.val (.ref a), .val (.ref y0), .val (.int ((1 : Int32) - (1 : Int32))), .val (.int ((1 : Int32) - (1 : Int32)))] [(.int ((1 : Int32) - (1 : Int32))), (.ref y0), (.int w0)])) rfl rfl (hb hby d16_33)) ?_
    by_cases hc354 : w0 = s0
    · -- pc 34: w0 = s0
      refine own_st (T' := T353) (g' := (mkF m 46 #[.val (.ref a), .val (.ref y0), .val (.int ((1 : Int32) - (1 : Int32))), .val (.int (((1 : Int32) - (1 : Int32)) + (-1 : Int32)))] [(.int (1 : Int32))])) (fun _ kt => XS.icmpYes X353.here hx rfl (pc0 := 34) (pc' := 39) rfl (hb hby d16_34) rfl (XT.ii_eq_t hc354) (by decide) (by decide) (XS.iinc X353.here hx rfl (hb hby d16_39) rfl (l' := #[.val (.ref a), .val (.ref y0), .val (.int ((1 : Int32) - (1 : Int32))), .val (.int (((1 : Int32) - (1 : Int32)) + (-1 : Int32)))]) rfl (XS.goto X353.here hx rfl (pc0 := 42) (pc' := 19) rfl (hb hby d16_42) (by decide) (by decide) (XS.iloadN X353.here hx rfl (hb hby d16_19) rfl (XS.ifYes X353.here hx rfl (pc0 := 20) (pc' := 45) rfl (hb hby d16_20) rfl (XT.i0_lt_t (by decide)) (by decide) (by decide) (XS.iconst X353.here hx rfl (hb hby d16_45) kt)))))) ?_
      obtain ⟨fs, hr, hrun, hended, hW, hsame⟩ := X353.leave (v := some (.int (1 : Int32))) (fun h => by rw [Bd.returns] at h; cases h)
      refine own_end (retN X353 hx (t := .boolean) Bd.returns (by simp) (hb hby d16_46) hr) ⟨_, hrun, hended, _, _, rfl, ?_, ⟨_, rfl⟩, hW, hsame.mono (by decide) (by decide)⟩
      show own_endsQ Z _ _ _ _ _ _ _ _ _ _ _ _ _ _ h0 n0 _ T353.heap _
      rw [e353]
      exact ⟨(by simp +decide [own_rf, own_W, hc354]), N0, rfl⟩
    · -- pc 34: not w0 = s0
      refine own_st (T' := T353) (g' := (mkF m 38 #[.val (.ref a), .val (.ref y0), .val (.int ((1 : Int32) - (1 : Int32))), .val (.int ((1 : Int32) - (1 : Int32)))] [(.int (0 : Int32))])) (fun _ kt => XS.icmpNo X353.here hx rfl (hb hby d16_34) rfl (XT.ii_eq_f hc354) (XS.iconst X353.here hx rfl (hb hby d16_37) kt)) ?_
      obtain ⟨fs, hr, hrun, hended, hW, hsame⟩ := X353.leave (v := some (.int (0 : Int32))) (fun h => by rw [Bd.returns] at h; cases h)
      refine own_end (retN X353 hx (t := .boolean) Bd.returns (by simp) (hb hby d16_38) hr) ⟨_, hrun, hended, _, _, rfl, ?_, ⟨_, rfl⟩, hW, hsame.mono (by decide) (by decide)⟩
      show own_endsQ Z _ _ _ _ _ _ _ _ _ _ _ _ _ _ h0 n0 _ T353.heap _
      rw [e353]
      exact ⟨(by simp +decide [own_rf, own_W, hc354]), N0, rfl⟩
  · -- m = 1, len = 2
    refine own_st (T' := s₁) (g' := (mkF m 1 #[.val (.ref a), .val (.ref y0), .unset, .unset] [(.ref a)])) (fun _ kt => XS.aloadN X0.here hx rfl (hb hby d16_0) rfl rfl kt) ?_
    obtain ⟨T355, X355, e355, st355⟩ := getF X0 hx hZ hown (host := "") (Or.inl (own_k hw 70 rfl)) Via.refl e0 pr1 (g := (mkF m 1 #[.val (.ref a), .val (.ref y0), .unset, .unset] [(.ref a)])) rfl rfl (hb hby d16_1)
    refine own_st (T' := T355) (g' := (mkF m 4 #[.val (.ref a), .val (.ref y0), .unset, .unset] [(.int (2 : Int32))])) st355 ?_
    refine own_st (T' := T355) (g' := (mkF m 5 #[.val (.ref a), .val (.ref y0), .unset, .unset] [(.ref y0), (.int (2 : Int32))])) (fun _ kt => XS.aloadN X355.here hx rfl (hb hby d16_4) rfl rfl kt) ?_
    refine own_st (T' := T355) (g' := (mkF m 6 #[.val (.ref a), .val (.ref y0), .unset, .unset] [(.int (1 : Int32)), (.int (2 : Int32))])) (own_alen X355 hx hZ e355 pr4 (g := (mkF m 5 #[.val (.ref a), .val (.ref y0), .unset, .unset] [(.ref y0), (.int (2 : Int32))])) rfl rfl (hb hby d16_5)) ?_
    refine own_st (T' := T355) (g' := (mkF m 15 #[.val (.ref a), .val (.ref y0), .val (.int ((2 : Int32) - (1 : Int32))), .unset] [(.ref y0)])) (fun _ kt => XS.isub X355.here hx rfl (hb hby d16_6) rfl (XS.istoreN X355.here hx rfl (hb hby d16_7) rfl (l' := #[.val (.ref a), .val (.ref y0), .val (.int ((2 : Int32) - (1 : Int32))), .unset]) rfl (XS.iloadN X355.here hx rfl (hb hby d16_8) rfl (XS.ifYes X355.here hx rfl (pc0 := 9) (pc' := 14) rfl (hb hby d16_9) rfl (XT.i0_ge_t (by decide)) (by decide) (by decide) (XS.aloadN X355.here hx rfl (hb hby d16_14) rfl rfl kt))))) ?_
    refine own_st (T' := T355) (g' := (mkF m 16 #[.val (.ref a), .val (.ref y0), .val (.int ((2 : Int32) - (1 : Int32))), .unset] [(.int (1 : Int32))])) (own_alen X355 hx hZ e355 pr4 (g := (mkF m 15 #[.val (.ref a), .val (.ref y0), .val (.int ((2 : Int32) - (1 : Int32))), .unset] [(.ref y0)])) rfl rfl (hb hby d16_15)) ?_
    refine own_st (T' := T355) (g' := (mkF m 24 #[.val (.ref a), .val (.ref y0), .val (.int ((2 : Int32) - (1 : Int32))), .val (.int ((1 : Int32) - (1 : Int32)))] [(.ref a)])) (fun _ kt => XS.iconst X355.here hx rfl (hb hby d16_16) (XS.isub X355.here hx rfl (hb hby d16_17) rfl (XS.istoreN X355.here hx rfl (hb hby d16_18) rfl (l' := #[.val (.ref a), .val (.ref y0), .val (.int ((2 : Int32) - (1 : Int32))), .val (.int ((1 : Int32) - (1 : Int32)))]) rfl (XS.iloadN X355.here hx rfl (hb hby d16_19) rfl (XS.ifNo X355.here hx rfl (hb hby d16_20) rfl (XT.i0_lt_f (by decide)) (XS.aloadN X355.here hx rfl (hb hby d16_23) rfl rfl kt)))))) ?_
    obtain ⟨T356, X356, e356, st356⟩ := getF X355 hx hZ hown (host := "") (Or.inl (own_k hw 58 rfl)) Via.refl e355 pr2 (g := (mkF m 24 #[.val (.ref a), .val (.ref y0), .val (.int ((2 : Int32) - (1 : Int32))), .val (.int ((1 : Int32) - (1 : Int32)))] [(.ref a)])) rfl rfl (hb hby d16_24)
    refine own_st (T' := T356) (g' := (mkF m 27 #[.val (.ref a), .val (.ref y0), .val (.int ((2 : Int32) - (1 : Int32))), .val (.int ((1 : Int32) - (1 : Int32)))] [(.ref la)])) st356 ?_
    refine own_st (T' := T356) (g' := (mkF m 30 #[.val (.ref a), .val (.ref y0), .val (.int ((2 : Int32) - (1 : Int32))), .val (.int ((1 : Int32) - (1 : Int32)))] [(.int (((2 : Int32) - (1 : Int32)) + ((1 : Int32) - (1 : Int32)))), (.ref la)])) (fun _ kt => XS.iloadN X356.here hx rfl (hb hby d16_27) rfl (XS.iloadN X356.here hx rfl (hb hby d16_28) rfl (XS.iadd X356.here hx rfl (hb hby d16_29) rfl kt))) ?_
    refine own_st (T' := T356) (g' := (mkF m 31 #[.val (.ref a), .val (.ref y0), .val (.int ((2 : Int32) - (1 : Int32))), .val (.int ((1 : Int32) - (1 : Int32)))] [(.int w1)])) (own_cal X356 hx hZ e356 pr3 (own_ltj pr8 (by decide) (by decide)) ((own_tkg pr7).2.1 (own_ltj pr8 (by decide) (by decide)).2) (g := (mkF m 30 #[.val (.ref a), .val (.ref y0), .val (.int ((2 : Int32) - (1 : Int32))), .val (.int ((1 : Int32) - (1 : Int32)))] [(.int (((2 : Int32) - (1 : Int32)) + ((1 : Int32) - (1 : Int32)))), (.ref la)])) rfl rfl (hb hby d16_30)) ?_
    refine own_st (T' := T356) (g' := (mkF m 33 #[.val (.ref a), .val (.ref y0), .val (.int ((2 : Int32) - (1 : Int32))), .val (.int ((1 : Int32) - (1 : Int32)))] [(.int ((1 : Int32) - (1 : Int32))), (.ref y0), (.int w1)])) (fun _ kt => XS.aloadN X356.here hx rfl (hb hby d16_31) rfl rfl (XS.iloadN X356.here hx rfl (hb hby d16_32) rfl kt)) ?_
    refine own_st (T' := T356) (g' := (mkF m 34 #[.val (.ref a), .val (.ref y0), .val (.int ((2 : Int32) - (1 : Int32))), .val (.int ((1 : Int32) - (1 : Int32)))] [(.int s0), (.int w1)])) (own_cal X356 hx hZ e356 pr4 ⟨by decide, by decide⟩ rfl (g := (mkF m 33 #[.val (.ref a), .val (.ref y0), .val (.int ((2 : Int32) - (1 : Int32))), .val (.int ((1 : Int32) - (1 : Int32)))] [(.int ((1 : Int32) - (1 : Int32))), (.ref y0), (.int w1)])) rfl rfl (hb hby d16_33)) ?_
    by_cases hc357 : w1 = s0
    · -- pc 34: w1 = s0
      refine own_st (T' := T356) (g' := (mkF m 46 #[.val (.ref a), .val (.ref y0), .val (.int ((2 : Int32) - (1 : Int32))), .val (.int (((1 : Int32) - (1 : Int32)) + (-1 : Int32)))] [(.int (1 : Int32))])) (fun _ kt => XS.icmpYes X356.here hx rfl (pc0 := 34) (pc' := 39) rfl (hb hby d16_34) rfl (XT.ii_eq_t hc357) (by decide) (by decide) (XS.iinc X356.here hx rfl (hb hby d16_39) rfl (l' := #[.val (.ref a), .val (.ref y0), .val (.int ((2 : Int32) - (1 : Int32))), .val (.int (((1 : Int32) - (1 : Int32)) + (-1 : Int32)))]) rfl (XS.goto X356.here hx rfl (pc0 := 42) (pc' := 19) rfl (hb hby d16_42) (by decide) (by decide) (XS.iloadN X356.here hx rfl (hb hby d16_19) rfl (XS.ifYes X356.here hx rfl (pc0 := 20) (pc' := 45) rfl (hb hby d16_20) rfl (XT.i0_lt_t (by decide)) (by decide) (by decide) (XS.iconst X356.here hx rfl (hb hby d16_45) kt)))))) ?_
      obtain ⟨fs, hr, hrun, hended, hW, hsame⟩ := X356.leave (v := some (.int (1 : Int32))) (fun h => by rw [Bd.returns] at h; cases h)
      refine own_end (retN X356 hx (t := .boolean) Bd.returns (by simp) (hb hby d16_46) hr) ⟨_, hrun, hended, _, _, rfl, ?_, ⟨_, rfl⟩, hW, hsame.mono (by decide) (by decide)⟩
      show own_endsQ Z _ _ _ _ _ _ _ _ _ _ _ _ _ _ h0 n0 _ T356.heap _
      rw [e356]
      exact ⟨(by simp +decide [own_rf, own_W, hc357]), N0, rfl⟩
    · -- pc 34: not w1 = s0
      refine own_st (T' := T356) (g' := (mkF m 38 #[.val (.ref a), .val (.ref y0), .val (.int ((2 : Int32) - (1 : Int32))), .val (.int ((1 : Int32) - (1 : Int32)))] [(.int (0 : Int32))])) (fun _ kt => XS.icmpNo X356.here hx rfl (hb hby d16_34) rfl (XT.ii_eq_f hc357) (XS.iconst X356.here hx rfl (hb hby d16_37) kt)) ?_
      obtain ⟨fs, hr, hrun, hended, hW, hsame⟩ := X356.leave (v := some (.int (0 : Int32))) (fun h => by rw [Bd.returns] at h; cases h)
      refine own_end (retN X356 hx (t := .boolean) Bd.returns (by simp) (hb hby d16_38) hr) ⟨_, hrun, hended, _, _, rfl, ?_, ⟨_, rfl⟩, hW, hsame.mono (by decide) (by decide)⟩
      show own_endsQ Z _ _ _ _ _ _ _ _ _ _ _ _ _ _ h0 n0 _ T356.heap _
      rw [e356]
      exact ⟨(by simp +decide [own_rf, own_W, hc357]), N0, rfl⟩
  · -- m = 1, len = 3
    refine own_st (T' := s₁) (g' := (mkF m 1 #[.val (.ref a), .val (.ref y0), .unset, .unset] [(.ref a)])) (fun _ kt => XS.aloadN X0.here hx rfl (hb hby d16_0) rfl rfl kt) ?_
    obtain ⟨T358, X358, e358, st358⟩ := getF X0 hx hZ hown (host := "") (Or.inl (own_k hw 70 rfl)) Via.refl e0 pr1 (g := (mkF m 1 #[.val (.ref a), .val (.ref y0), .unset, .unset] [(.ref a)])) rfl rfl (hb hby d16_1)
    refine own_st (T' := T358) (g' := (mkF m 4 #[.val (.ref a), .val (.ref y0), .unset, .unset] [(.int (3 : Int32))])) st358 ?_
    refine own_st (T' := T358) (g' := (mkF m 5 #[.val (.ref a), .val (.ref y0), .unset, .unset] [(.ref y0), (.int (3 : Int32))])) (fun _ kt => XS.aloadN X358.here hx rfl (hb hby d16_4) rfl rfl kt) ?_
    refine own_st (T' := T358) (g' := (mkF m 6 #[.val (.ref a), .val (.ref y0), .unset, .unset] [(.int (1 : Int32)), (.int (3 : Int32))])) (own_alen X358 hx hZ e358 pr4 (g := (mkF m 5 #[.val (.ref a), .val (.ref y0), .unset, .unset] [(.ref y0), (.int (3 : Int32))])) rfl rfl (hb hby d16_5)) ?_
    refine own_st (T' := T358) (g' := (mkF m 15 #[.val (.ref a), .val (.ref y0), .val (.int ((3 : Int32) - (1 : Int32))), .unset] [(.ref y0)])) (fun _ kt => XS.isub X358.here hx rfl (hb hby d16_6) rfl (XS.istoreN X358.here hx rfl (hb hby d16_7) rfl (l' := #[.val (.ref a), .val (.ref y0), .val (.int ((3 : Int32) - (1 : Int32))), .unset]) rfl (XS.iloadN X358.here hx rfl (hb hby d16_8) rfl (XS.ifYes X358.here hx rfl (pc0 := 9) (pc' := 14) rfl (hb hby d16_9) rfl (XT.i0_ge_t (by decide)) (by decide) (by decide) (XS.aloadN X358.here hx rfl (hb hby d16_14) rfl rfl kt))))) ?_
    refine own_st (T' := T358) (g' := (mkF m 16 #[.val (.ref a), .val (.ref y0), .val (.int ((3 : Int32) - (1 : Int32))), .unset] [(.int (1 : Int32))])) (own_alen X358 hx hZ e358 pr4 (g := (mkF m 15 #[.val (.ref a), .val (.ref y0), .val (.int ((3 : Int32) - (1 : Int32))), .unset] [(.ref y0)])) rfl rfl (hb hby d16_15)) ?_
    refine own_st (T' := T358) (g' := (mkF m 24 #[.val (.ref a), .val (.ref y0), .val (.int ((3 : Int32) - (1 : Int32))), .val (.int ((1 : Int32) - (1 : Int32)))] [(.ref a)])) (fun _ kt => XS.iconst X358.here hx rfl (hb hby d16_16) (XS.isub X358.here hx rfl (hb hby d16_17) rfl (XS.istoreN X358.here hx rfl (hb hby d16_18) rfl (l' := #[.val (.ref a), .val (.ref y0), .val (.int ((3 : Int32) - (1 : Int32))), .val (.int ((1 : Int32) - (1 : Int32)))]) rfl (XS.iloadN X358.here hx rfl (hb hby d16_19) rfl (XS.ifNo X358.here hx rfl (hb hby d16_20) rfl (XT.i0_lt_f (by decide)) (XS.aloadN X358.here hx rfl (hb hby d16_23) rfl rfl kt)))))) ?_
    obtain ⟨T359, X359, e359, st359⟩ := getF X358 hx hZ hown (host := "") (Or.inl (own_k hw 58 rfl)) Via.refl e358 pr2 (g := (mkF m 24 #[.val (.ref a), .val (.ref y0), .val (.int ((3 : Int32) - (1 : Int32))), .val (.int ((1 : Int32) - (1 : Int32)))] [(.ref a)])) rfl rfl (hb hby d16_24)
    refine own_st (T' := T359) (g' := (mkF m 27 #[.val (.ref a), .val (.ref y0), .val (.int ((3 : Int32) - (1 : Int32))), .val (.int ((1 : Int32) - (1 : Int32)))] [(.ref la)])) st359 ?_
    refine own_st (T' := T359) (g' := (mkF m 30 #[.val (.ref a), .val (.ref y0), .val (.int ((3 : Int32) - (1 : Int32))), .val (.int ((1 : Int32) - (1 : Int32)))] [(.int (((3 : Int32) - (1 : Int32)) + ((1 : Int32) - (1 : Int32)))), (.ref la)])) (fun _ kt => XS.iloadN X359.here hx rfl (hb hby d16_27) rfl (XS.iloadN X359.here hx rfl (hb hby d16_28) rfl (XS.iadd X359.here hx rfl (hb hby d16_29) rfl kt))) ?_
    refine own_st (T' := T359) (g' := (mkF m 31 #[.val (.ref a), .val (.ref y0), .val (.int ((3 : Int32) - (1 : Int32))), .val (.int ((1 : Int32) - (1 : Int32)))] [(.int w2)])) (own_cal X359 hx hZ e359 pr3 (own_ltj pr8 (by decide) (by decide)) ((own_tkg pr7).2.2 (own_ltj pr8 (by decide) (by decide)).2) (g := (mkF m 30 #[.val (.ref a), .val (.ref y0), .val (.int ((3 : Int32) - (1 : Int32))), .val (.int ((1 : Int32) - (1 : Int32)))] [(.int (((3 : Int32) - (1 : Int32)) + ((1 : Int32) - (1 : Int32)))), (.ref la)])) rfl rfl (hb hby d16_30)) ?_
    refine own_st (T' := T359) (g' := (mkF m 33 #[.val (.ref a), .val (.ref y0), .val (.int ((3 : Int32) - (1 : Int32))), .val (.int ((1 : Int32) - (1 : Int32)))] [(.int ((1 : Int32) - (1 : Int32))), (.ref y0), (.int w2)])) (fun _ kt => XS.aloadN X359.here hx rfl (hb hby d16_31) rfl rfl (XS.iloadN X359.here hx rfl (hb hby d16_32) rfl kt)) ?_
    refine own_st (T' := T359) (g' := (mkF m 34 #[.val (.ref a), .val (.ref y0), .val (.int ((3 : Int32) - (1 : Int32))), .val (.int ((1 : Int32) - (1 : Int32)))] [(.int s0), (.int w2)])) (own_cal X359 hx hZ e359 pr4 ⟨by decide, by decide⟩ rfl (g := (mkF m 33 #[.val (.ref a), .val (.ref y0), .val (.int ((3 : Int32) - (1 : Int32))), .val (.int ((1 : Int32) - (1 : Int32)))] [(.int ((1 : Int32) - (1 : Int32))), (.ref y0), (.int w2)])) rfl rfl (hb hby d16_33)) ?_
    by_cases hc360 : w2 = s0
    · -- pc 34: w2 = s0
      refine own_st (T' := T359) (g' := (mkF m 46 #[.val (.ref a), .val (.ref y0), .val (.int ((3 : Int32) - (1 : Int32))), .val (.int (((1 : Int32) - (1 : Int32)) + (-1 : Int32)))] [(.int (1 : Int32))])) (fun _ kt => XS.icmpYes X359.here hx rfl (pc0 := 34) (pc' := 39) rfl (hb hby d16_34) rfl (XT.ii_eq_t hc360) (by decide) (by decide) (XS.iinc X359.here hx rfl (hb hby d16_39) rfl (l' := #[.val (.ref a), .val (.ref y0), .val (.int ((3 : Int32) - (1 : Int32))), .val (.int (((1 : Int32) - (1 : Int32)) + (-1 : Int32)))]) rfl (XS.goto X359.here hx rfl (pc0 := 42) (pc' := 19) rfl (hb hby d16_42) (by decide) (by decide) (XS.iloadN X359.here hx rfl (hb hby d16_19) rfl (XS.ifYes X359.here hx rfl (pc0 := 20) (pc' := 45) rfl (hb hby d16_20) rfl (XT.i0_lt_t (by decide)) (by decide) (by decide) (XS.iconst X359.here hx rfl (hb hby d16_45) kt)))))) ?_
      obtain ⟨fs, hr, hrun, hended, hW, hsame⟩ := X359.leave (v := some (.int (1 : Int32))) (fun h => by rw [Bd.returns] at h; cases h)
      refine own_end (retN X359 hx (t := .boolean) Bd.returns (by simp) (hb hby d16_46) hr) ⟨_, hrun, hended, _, _, rfl, ?_, ⟨_, rfl⟩, hW, hsame.mono (by decide) (by decide)⟩
      show own_endsQ Z _ _ _ _ _ _ _ _ _ _ _ _ _ _ h0 n0 _ T359.heap _
      rw [e359]
      exact ⟨(by simp +decide [own_rf, own_W, hc360]), N0, rfl⟩
    · -- pc 34: not w2 = s0
      refine own_st (T' := T359) (g' := (mkF m 38 #[.val (.ref a), .val (.ref y0), .val (.int ((3 : Int32) - (1 : Int32))), .val (.int ((1 : Int32) - (1 : Int32)))] [(.int (0 : Int32))])) (fun _ kt => XS.icmpNo X359.here hx rfl (hb hby d16_34) rfl (XT.ii_eq_f hc360) (XS.iconst X359.here hx rfl (hb hby d16_37) kt)) ?_
      obtain ⟨fs, hr, hrun, hended, hW, hsame⟩ := X359.leave (v := some (.int (0 : Int32))) (fun h => by rw [Bd.returns] at h; cases h)
      refine own_end (retN X359 hx (t := .boolean) Bd.returns (by simp) (hb hby d16_38) hr) ⟨_, hrun, hended, _, _, rfl, ?_, ⟨_, rfl⟩, hW, hsame.mono (by decide) (by decide)⟩
      show own_endsQ Z _ _ _ _ _ _ _ _ _ _ _ _ _ _ h0 n0 _ T359.heap _
      rw [e359]
      exact ⟨(by simp +decide [own_rf, own_W, hc360]), N0, rfl⟩
  · -- m = 2, len = 0
    refine own_st (T' := s₁) (g' := (mkF m 1 #[.val (.ref a), .val (.ref y0), .unset, .unset] [(.ref a)])) (fun _ kt => XS.aloadN X0.here hx rfl (hb hby d16_0) rfl rfl kt) ?_
    obtain ⟨T361, X361, e361, st361⟩ := getF X0 hx hZ hown (host := "") (Or.inl (own_k hw 70 rfl)) Via.refl e0 pr1 (g := (mkF m 1 #[.val (.ref a), .val (.ref y0), .unset, .unset] [(.ref a)])) rfl rfl (hb hby d16_1)
    refine own_st (T' := T361) (g' := (mkF m 4 #[.val (.ref a), .val (.ref y0), .unset, .unset] [(.int (0 : Int32))])) st361 ?_
    refine own_st (T' := T361) (g' := (mkF m 5 #[.val (.ref a), .val (.ref y0), .unset, .unset] [(.ref y0), (.int (0 : Int32))])) (fun _ kt => XS.aloadN X361.here hx rfl (hb hby d16_4) rfl rfl kt) ?_
    refine own_st (T' := T361) (g' := (mkF m 6 #[.val (.ref a), .val (.ref y0), .unset, .unset] [(.int (2 : Int32)), (.int (0 : Int32))])) (own_alen X361 hx hZ e361 pr4 (g := (mkF m 5 #[.val (.ref a), .val (.ref y0), .unset, .unset] [(.ref y0), (.int (0 : Int32))])) rfl rfl (hb hby d16_5)) ?_
    refine own_st (T' := T361) (g' := (mkF m 13 #[.val (.ref a), .val (.ref y0), .val (.int ((0 : Int32) - (2 : Int32))), .unset] [(.int (0 : Int32))])) (fun _ kt => XS.isub X361.here hx rfl (hb hby d16_6) rfl (XS.istoreN X361.here hx rfl (hb hby d16_7) rfl (l' := #[.val (.ref a), .val (.ref y0), .val (.int ((0 : Int32) - (2 : Int32))), .unset]) rfl (XS.iloadN X361.here hx rfl (hb hby d16_8) rfl (XS.ifNo X361.here hx rfl (hb hby d16_9) rfl (XT.i0_ge_f (by decide)) (XS.iconst X361.here hx rfl (hb hby d16_12) kt))))) ?_
    obtain ⟨fs, hr, hrun, hended, hW, hsame⟩ := X361.leave (v := some (.int (0 : Int32))) (fun h => by rw [Bd.returns] at h; cases h)
    refine own_end (retN X361 hx (t := .boolean) Bd.returns (by simp) (hb hby d16_13) hr) ⟨_, hrun, hended, _, _, rfl, ?_, ⟨_, rfl⟩, hW, hsame.mono (by decide) (by decide)⟩
    show own_endsQ Z _ _ _ _ _ _ _ _ _ _ _ _ _ _ h0 n0 _ T361.heap _
    rw [e361]
    exact ⟨(by simp +decide [own_rf, own_W]), N0, rfl⟩
  · -- m = 2, len = 1
    refine own_st (T' := s₁) (g' := (mkF m 1 #[.val (.ref a), .val (.ref y0), .unset, .unset] [(.ref a)])) (fun _ kt => XS.aloadN X0.here hx rfl (hb hby d16_0) rfl rfl kt) ?_
    obtain ⟨T362, X362, e362, st362⟩ := getF X0 hx hZ hown (host := "") (Or.inl (own_k hw 70 rfl)) Via.refl e0 pr1 (g := (mkF m 1 #[.val (.ref a), .val (.ref y0), .unset, .unset] [(.ref a)])) rfl rfl (hb hby d16_1)
    refine own_st (T' := T362) (g' := (mkF m 4 #[.val (.ref a), .val (.ref y0), .unset, .unset] [(.int (1 : Int32))])) st362 ?_
    refine own_st (T' := T362) (g' := (mkF m 5 #[.val (.ref a), .val (.ref y0), .unset, .unset] [(.ref y0), (.int (1 : Int32))])) (fun _ kt => XS.aloadN X362.here hx rfl (hb hby d16_4) rfl rfl kt) ?_
    refine own_st (T' := T362) (g' := (mkF m 6 #[.val (.ref a), .val (.ref y0), .unset, .unset] [(.int (2 : Int32)), (.int (1 : Int32))])) (own_alen X362 hx hZ e362 pr4 (g := (mkF m 5 #[.val (.ref a), .val (.ref y0), .unset, .unset] [(.ref y0), (.int (1 : Int32))])) rfl rfl (hb hby d16_5)) ?_
    refine own_st (T' := T362) (g' := (mkF m 13 #[.val (.ref a), .val (.ref y0), .val (.int ((1 : Int32) - (2 : Int32))), .unset] [(.int (0 : Int32))])) (fun _ kt => XS.isub X362.here hx rfl (hb hby d16_6) rfl (XS.istoreN X362.here hx rfl (hb hby d16_7) rfl (l' := #[.val (.ref a), .val (.ref y0), .val (.int ((1 : Int32) - (2 : Int32))), .unset]) rfl (XS.iloadN X362.here hx rfl (hb hby d16_8) rfl (XS.ifNo X362.here hx rfl (hb hby d16_9) rfl (XT.i0_ge_f (by decide)) (XS.iconst X362.here hx rfl (hb hby d16_12) kt))))) ?_
    obtain ⟨fs, hr, hrun, hended, hW, hsame⟩ := X362.leave (v := some (.int (0 : Int32))) (fun h => by rw [Bd.returns] at h; cases h)
    refine own_end (retN X362 hx (t := .boolean) Bd.returns (by simp) (hb hby d16_13) hr) ⟨_, hrun, hended, _, _, rfl, ?_, ⟨_, rfl⟩, hW, hsame.mono (by decide) (by decide)⟩
    show own_endsQ Z _ _ _ _ _ _ _ _ _ _ _ _ _ _ h0 n0 _ T362.heap _
    rw [e362]
    exact ⟨(by simp +decide [own_rf, own_W]), N0, rfl⟩
  · -- m = 2, len = 2
    refine own_st (T' := s₁) (g' := (mkF m 1 #[.val (.ref a), .val (.ref y0), .unset, .unset] [(.ref a)])) (fun _ kt => XS.aloadN X0.here hx rfl (hb hby d16_0) rfl rfl kt) ?_
    obtain ⟨T363, X363, e363, st363⟩ := getF X0 hx hZ hown (host := "") (Or.inl (own_k hw 70 rfl)) Via.refl e0 pr1 (g := (mkF m 1 #[.val (.ref a), .val (.ref y0), .unset, .unset] [(.ref a)])) rfl rfl (hb hby d16_1)
    refine own_st (T' := T363) (g' := (mkF m 4 #[.val (.ref a), .val (.ref y0), .unset, .unset] [(.int (2 : Int32))])) st363 ?_
    refine own_st (T' := T363) (g' := (mkF m 5 #[.val (.ref a), .val (.ref y0), .unset, .unset] [(.ref y0), (.int (2 : Int32))])) (fun _ kt => XS.aloadN X363.here hx rfl (hb hby d16_4) rfl rfl kt) ?_
    refine own_st (T' := T363) (g' := (mkF m 6 #[.val (.ref a), .val (.ref y0), .unset, .unset] [(.int (2 : Int32)), (.int (2 : Int32))])) (own_alen X363 hx hZ e363 pr4 (g := (mkF m 5 #[.val (.ref a), .val (.ref y0), .unset, .unset] [(.ref y0), (.int (2 : Int32))])) rfl rfl (hb hby d16_5)) ?_
    refine own_st (T' := T363) (g' := (mkF m 15 #[.val (.ref a), .val (.ref y0), .val (.int ((2 : Int32) - (2 : Int32))), .unset] [(.ref y0)])) (fun _ kt => XS.isub X363.here hx rfl (hb hby d16_6) rfl (XS.istoreN X363.here hx rfl (hb hby d16_7) rfl (l' := #[.val (.ref a), .val (.ref y0), .val (.int ((2 : Int32) - (2 : Int32))), .unset]) rfl (XS.iloadN X363.here hx rfl (hb hby d16_8) rfl (XS.ifYes X363.here hx rfl (pc0 := 9) (pc' := 14) rfl (hb hby d16_9) rfl (XT.i0_ge_t (by decide)) (by decide) (by decide) (XS.aloadN X363.here hx rfl (hb hby d16_14) rfl rfl kt))))) ?_
    refine own_st (T' := T363) (g' := (mkF m 16 #[.val (.ref a), .val (.ref y0), .val (.int ((2 : Int32) - (2 : Int32))), .unset] [(.int (2 : Int32))])) (own_alen X363 hx hZ e363 pr4 (g := (mkF m 15 #[.val (.ref a), .val (.ref y0), .val (.int ((2 : Int32) - (2 : Int32))), .unset] [(.ref y0)])) rfl rfl (hb hby d16_15)) ?_
    refine own_st (T' := T363) (g' := (mkF m 24 #[.val (.ref a), .val (.ref y0), .val (.int ((2 : Int32) - (2 : Int32))), .val (.int ((2 : Int32) - (1 : Int32)))] [(.ref a)])) (fun _ kt => XS.iconst X363.here hx rfl (hb hby d16_16) (XS.isub X363.here hx rfl (hb hby d16_17) rfl (XS.istoreN X363.here hx rfl (hb hby d16_18) rfl (l' := #[.val (.ref a), .val (.ref y0), .val (.int ((2 : Int32) - (2 : Int32))), .val (.int ((2 : Int32) - (1 : Int32)))]) rfl (XS.iloadN X363.here hx rfl (hb hby d16_19) rfl (XS.ifNo X363.here hx rfl (hb hby d16_20) rfl (XT.i0_lt_f (by decide)) (XS.aloadN X363.here hx rfl (hb hby d16_23) rfl rfl kt)))))) ?_
    obtain ⟨T364, X364, e364, st364⟩ := getF X363 hx hZ hown (host := "") (Or.inl (own_k hw 58 rfl)) Via.refl e363 pr2 (g := (mkF m 24 #[.val (.ref a), .val (.ref y0), .val (.int ((2 : Int32) - (2 : Int32))), .val (.int ((2 : Int32) - (1 : Int32)))] [(.ref a)])) rfl rfl (hb hby d16_24)
    refine own_st (T' := T364) (g' := (mkF m 27 #[.val (.ref a), .val (.ref y0), .val (.int ((2 : Int32) - (2 : Int32))), .val (.int ((2 : Int32) - (1 : Int32)))] [(.ref la)])) st364 ?_
    refine own_st (T' := T364) (g' := (mkF m 30 #[.val (.ref a), .val (.ref y0), .val (.int ((2 : Int32) - (2 : Int32))), .val (.int ((2 : Int32) - (1 : Int32)))] [(.int (((2 : Int32) - (2 : Int32)) + ((2 : Int32) - (1 : Int32)))), (.ref la)])) (fun _ kt => XS.iloadN X364.here hx rfl (hb hby d16_27) rfl (XS.iloadN X364.here hx rfl (hb hby d16_28) rfl (XS.iadd X364.here hx rfl (hb hby d16_29) rfl kt))) ?_
    refine own_st (T' := T364) (g' := (mkF m 31 #[.val (.ref a), .val (.ref y0), .val (.int ((2 : Int32) - (2 : Int32))), .val (.int ((2 : Int32) - (1 : Int32)))] [(.int w1)])) (own_cal X364 hx hZ e364 pr3 (own_ltj pr8 (by decide) (by decide)) ((own_tkg pr7).2.1 (own_ltj pr8 (by decide) (by decide)).2) (g := (mkF m 30 #[.val (.ref a), .val (.ref y0), .val (.int ((2 : Int32) - (2 : Int32))), .val (.int ((2 : Int32) - (1 : Int32)))] [(.int (((2 : Int32) - (2 : Int32)) + ((2 : Int32) - (1 : Int32)))), (.ref la)])) rfl rfl (hb hby d16_30)) ?_
    refine own_st (T' := T364) (g' := (mkF m 33 #[.val (.ref a), .val (.ref y0), .val (.int ((2 : Int32) - (2 : Int32))), .val (.int ((2 : Int32) - (1 : Int32)))] [(.int ((2 : Int32) - (1 : Int32))), (.ref y0), (.int w1)])) (fun _ kt => XS.aloadN X364.here hx rfl (hb hby d16_31) rfl rfl (XS.iloadN X364.here hx rfl (hb hby d16_32) rfl kt)) ?_
    refine own_st (T' := T364) (g' := (mkF m 34 #[.val (.ref a), .val (.ref y0), .val (.int ((2 : Int32) - (2 : Int32))), .val (.int ((2 : Int32) - (1 : Int32)))] [(.int s1), (.int w1)])) (own_cal X364 hx hZ e364 pr4 ⟨by decide, by decide⟩ rfl (g := (mkF m 33 #[.val (.ref a), .val (.ref y0), .val (.int ((2 : Int32) - (2 : Int32))), .val (.int ((2 : Int32) - (1 : Int32)))] [(.int ((2 : Int32) - (1 : Int32))), (.ref y0), (.int w1)])) rfl rfl (hb hby d16_33)) ?_
    by_cases hc365 : w1 = s1
    · -- pc 34: w1 = s1
      refine own_st (T' := T364) (g' := (mkF m 24 #[.val (.ref a), .val (.ref y0), .val (.int ((2 : Int32) - (2 : Int32))), .val (.int (((2 : Int32) - (1 : Int32)) + (-1 : Int32)))] [(.ref a)])) (fun _ kt => XS.icmpYes X364.here hx rfl (pc0 := 34) (pc' := 39) rfl (hb hby d16_34) rfl (XT.ii_eq_t hc365) (by decide) (by decide) (XS.iinc X364.here hx rfl (hb hby d16_39) rfl (l' := #[.val (.ref a), .val (.ref y0), .val (.int ((2 : Int32) - (2 : Int32))), .val (.int (((2 : Int32) - (1 : Int32)) + (-1 : Int32)))]) rfl (XS.goto X364.here hx rfl (pc0 := 42) (pc' := 19) rfl (hb hby d16_42) (by decide) (by decide) (XS.iloadN X364.here hx rfl (hb hby d16_19) rfl (XS.ifNo X364.here hx rfl (hb hby d16_20) rfl (XT.i0_lt_f (by decide)) (XS.aloadN X364.here hx rfl (hb hby d16_23) rfl rfl kt)))))) ?_
      obtain ⟨T366, X366, e366, st366⟩ := getF X364 hx hZ hown (host := "") (Or.inl (own_k hw 58 rfl)) Via.refl e364 pr2 (g := (mkF m 24 #[.val (.ref a), .val (.ref y0), .val (.int ((2 : Int32) - (2 : Int32))), .val (.int (((2 : Int32) - (1 : Int32)) + (-1 : Int32)))] [(.ref a)])) rfl rfl (hb hby d16_24)
      refine own_st (T' := T366) (g' := (mkF m 27 #[.val (.ref a), .val (.ref y0), .val (.int ((2 : Int32) - (2 : Int32))), .val (.int (((2 : Int32) - (1 : Int32)) + (-1 : Int32)))] [(.ref la)])) st366 ?_
      refine own_st (T' := T366) (g' := (mkF m 30 #[.val (.ref a), .val (.ref y0), .val (.int ((2 : Int32) - (2 : Int32))), .val (.int (((2 : Int32) - (1 : Int32)) + (-1 : Int32)))] [(.int (((2 : Int32) - (2 : Int32)) + (((2 : Int32) - (1 : Int32)) + (-1 : Int32)))), (.ref la)])) (fun _ kt => XS.iloadN X366.here hx rfl (hb hby d16_27) rfl (XS.iloadN X366.here hx rfl (hb hby d16_28) rfl (XS.iadd X366.here hx rfl (hb hby d16_29) rfl kt))) ?_
      refine own_st (T' := T366) (g' := (mkF m 31 #[.val (.ref a), .val (.ref y0), .val (.int ((2 : Int32) - (2 : Int32))), .val (.int (((2 : Int32) - (1 : Int32)) + (-1 : Int32)))] [(.int w0)])) (own_cal X366 hx hZ e366 pr3 (own_ltj pr8 (by decide) (by decide)) ((own_tkg pr7).1 (own_ltj pr8 (by decide) (by decide)).2) (g := (mkF m 30 #[.val (.ref a), .val (.ref y0), .val (.int ((2 : Int32) - (2 : Int32))), .val (.int (((2 : Int32) - (1 : Int32)) + (-1 : Int32)))] [(.int (((2 : Int32) - (2 : Int32)) + (((2 : Int32) - (1 : Int32)) + (-1 : Int32)))), (.ref la)])) rfl rfl (hb hby d16_30)) ?_
      refine own_st (T' := T366) (g' := (mkF m 33 #[.val (.ref a), .val (.ref y0), .val (.int ((2 : Int32) - (2 : Int32))), .val (.int (((2 : Int32) - (1 : Int32)) + (-1 : Int32)))] [(.int (((2 : Int32) - (1 : Int32)) + (-1 : Int32))), (.ref y0), (.int w0)])) (fun _ kt => XS.aloadN X366.here hx rfl (hb hby d16_31) rfl rfl (XS.iloadN X366.here hx rfl (hb hby d16_32) rfl kt)) ?_
      refine own_st (T' := T366) (g' := (mkF m 34 #[.val (.ref a), .val (.ref y0), .val (.int ((2 : Int32) - (2 : Int32))), .val (.int (((2 : Int32) - (1 : Int32)) + (-1 : Int32)))] [(.int s0), (.int w0)])) (own_cal X366 hx hZ e366 pr4 ⟨by decide, by decide⟩ rfl (g := (mkF m 33 #[.val (.ref a), .val (.ref y0), .val (.int ((2 : Int32) - (2 : Int32))), .val (.int (((2 : Int32) - (1 : Int32)) + (-1 : Int32)))] [(.int (((2 : Int32) - (1 : Int32)) + (-1 : Int32))), (.ref y0), (.int w0)])) rfl rfl (hb hby d16_33)) ?_
      by_cases hc367 : w0 = s0
      · -- pc 34: w0 = s0
        refine own_st (T' := T366) (g' := (mkF m 46 #[.val (.ref a), .val (.ref y0), .val (.int ((2 : Int32) - (2 : Int32))), .val (.int ((((2 : Int32) - (1 : Int32)) + (-1 : Int32)) + (-1 : Int32)))] [(.int (1 : Int32))])) (fun _ kt => XS.icmpYes X366.here hx rfl (pc0 := 34) (pc' := 39) rfl (hb hby d16_34) rfl (XT.ii_eq_t hc367) (by decide) (by decide) (XS.iinc X366.here hx rfl (hb hby d16_39) rfl (l' := #[.val (.ref a), .val (.ref y0), .val (.int ((2 : Int32) - (2 : Int32))), .val (.int ((((2 : Int32) - (1 : Int32)) + (-1 : Int32)) + (-1 : Int32)))]) rfl (XS.goto X366.here hx rfl (pc0 := 42) (pc' := 19) rfl (hb hby d16_42) (by decide) (by decide) (XS.iloadN X366.here hx rfl (hb hby d16_19) rfl (XS.ifYes X366.here hx rfl (pc0 := 20) (pc' := 45) rfl (hb hby d16_20) rfl (XT.i0_lt_t (by decide)) (by decide) (by decide) (XS.iconst X366.here hx rfl (hb hby d16_45) kt)))))) ?_
        obtain ⟨fs, hr, hrun, hended, hW, hsame⟩ := X366.leave (v := some (.int (1 : Int32))) (fun h => by rw [Bd.returns] at h; cases h)
        refine own_end (retN X366 hx (t := .boolean) Bd.returns (by simp) (hb hby d16_46) hr) ⟨_, hrun, hended, _, _, rfl, ?_, ⟨_, rfl⟩, hW, hsame.mono (by decide) (by decide)⟩
        show own_endsQ Z _ _ _ _ _ _ _ _ _ _ _ _ _ _ h0 n0 _ T366.heap _
        rw [e366]
        exact ⟨(by simp +decide [own_rf, own_W, hc365, hc367]), N0, rfl⟩
      · -- pc 34: not w0 = s0
        refine own_st (T' := T366) (g' := (mkF m 38 #[.val (.ref a), .val (.ref y0), .val (.int ((2 : Int32) - (2 : Int32))), .val (.int (((2 : Int32) - (1 : Int32)) + (-1 : Int32)))] [(.int (0 : Int32))])) (fun _ kt => XS.icmpNo X366.here hx rfl (hb hby d16_34) rfl (XT.ii_eq_f hc367) (XS.iconst X366.here hx rfl (hb hby d16_37) kt)) ?_
        obtain ⟨fs, hr, hrun, hended, hW, hsame⟩ := X366.leave (v := some (.int (0 : Int32))) (fun h => by rw [Bd.returns] at h; cases h)
        refine own_end (retN X366 hx (t := .boolean) Bd.returns (by simp) (hb hby d16_38) hr) ⟨_, hrun, hended, _, _, rfl, ?_, ⟨_, rfl⟩, hW, hsame.mono (by decide) (by decide)⟩
        show own_endsQ Z _ _ _ _ _ _ _ _ _ _ _ _ _ _ h0 n0 _ T366.heap _
        rw [e366]
        exact ⟨(by simp +decide [own_rf, own_W, hc365, hc367]), N0, rfl⟩
    · -- pc 34: not w1 = s1
      refine own_st (T' := T364) (g' := (mkF m 38 #[.val (.ref a), .val (.ref y0), .val (.int ((2 : Int32) - (2 : Int32))), .val (.int ((2 : Int32) - (1 : Int32)))] [(.int (0 : Int32))])) (fun _ kt => XS.icmpNo X364.here hx rfl (hb hby d16_34) rfl (XT.ii_eq_f hc365) (XS.iconst X364.here hx rfl (hb hby d16_37) kt)) ?_
      obtain ⟨fs, hr, hrun, hended, hW, hsame⟩ := X364.leave (v := some (.int (0 : Int32))) (fun h => by rw [Bd.returns] at h; cases h)
      refine own_end (retN X364 hx (t := .boolean) Bd.returns (by simp) (hb hby d16_38) hr) ⟨_, hrun, hended, _, _, rfl, ?_, ⟨_, rfl⟩, hW, hsame.mono (by decide) (by decide)⟩
      show own_endsQ Z _ _ _ _ _ _ _ _ _ _ _ _ _ _ h0 n0 _ T364.heap _
      rw [e364]
      exact ⟨(by simp +decide [own_rf, own_W, hc365]), N0, rfl⟩
  · -- m = 2, len = 3
    refine own_st (T' := s₁) (g' := (mkF m 1 #[.val (.ref a), .val (.ref y0), .unset, .unset] [(.ref a)])) (fun _ kt => XS.aloadN X0.here hx rfl (hb hby d16_0) rfl rfl kt) ?_
    obtain ⟨T368, X368, e368, st368⟩ := getF X0 hx hZ hown (host := "") (Or.inl (own_k hw 70 rfl)) Via.refl e0 pr1 (g := (mkF m 1 #[.val (.ref a), .val (.ref y0), .unset, .unset] [(.ref a)])) rfl rfl (hb hby d16_1)
    refine own_st (T' := T368) (g' := (mkF m 4 #[.val (.ref a), .val (.ref y0), .unset, .unset] [(.int (3 : Int32))])) st368 ?_
    refine own_st (T' := T368) (g' := (mkF m 5 #[.val (.ref a), .val (.ref y0), .unset, .unset] [(.ref y0), (.int (3 : Int32))])) (fun _ kt => XS.aloadN X368.here hx rfl (hb hby d16_4) rfl rfl kt) ?_
    refine own_st (T' := T368) (g' := (mkF m 6 #[.val (.ref a), .val (.ref y0), .unset, .unset] [(.int (2 : Int32)), (.int (3 : Int32))])) (own_alen X368 hx hZ e368 pr4 (g := (mkF m 5 #[.val (.ref a), .val (.ref y0), .unset, .unset] [(.ref y0), (.int (3 : Int32))])) rfl rfl (hb hby d16_5)) ?_
    refine own_st (T' := T368) (g' := (mkF m 15 #[.val (.ref a), .val (.ref y0), .val (.int ((3 : Int32) - (2 : Int32))), .unset] [(.ref y0)])) (fun _ kt => XS.isub X368.here hx rfl (hb hby d16_6) rfl (XS.istoreN X368.here hx rfl (hb hby d16_7) rfl (l' := #[.val (.ref a), .val (.ref y0), .val (.int ((3 : Int32) - (2 : Int32))), .unset]) rfl (XS.iloadN X368.here hx rfl (hb hby d16_8) rfl (XS.ifYes X368.here hx rfl (pc0 := 9) (pc' := 14) rfl (hb hby d16_9) rfl (XT.i0_ge_t (by decide)) (by decide) (by decide) (XS.aloadN X368.here hx rfl (hb hby d16_14) rfl rfl kt))))) ?_
    refine own_st (T' := T368) (g' := (mkF m 16 #[.val (.ref a), .val (.ref y0), .val (.int ((3 : Int32) - (2 : Int32))), .unset] [(.int (2 : Int32))])) (own_alen X368 hx hZ e368 pr4 (g := (mkF m 15 #[.val (.ref a), .val (.ref y0), .val (.int ((3 : Int32) - (2 : Int32))), .unset] [(.ref y0)])) rfl rfl (hb hby d16_15)) ?_
    refine own_st (T' := T368) (g' := (mkF m 24 #[.val (.ref a), .val (.ref y0), .val (.int ((3 : Int32) - (2 : Int32))), .val (.int ((2 : Int32) - (1 : Int32)))] [(.ref a)])) (fun _ kt => XS.iconst X368.here hx rfl (hb hby d16_16) (XS.isub X368.here hx rfl (hb hby d16_17) rfl (XS.istoreN X368.here hx rfl (hb hby d16_18) rfl (l' := #[.val (.ref a), .val (.ref y0), .val (.int ((3 : Int32) - (2 : Int32))), .val (.int ((2 : Int32) - (1 : Int32)))]) rfl (XS.iloadN X368.here hx rfl (hb hby d16_19) rfl (XS.ifNo X368.here hx rfl (hb hby d16_20) rfl (XT.i0_lt_f (by decide)) (XS.aloadN X368.here hx rfl (hb hby d16_23) rfl rfl kt)))))) ?_
    obtain ⟨T369, X369, e369, st369⟩ := getF X368 hx hZ hown (host := "") (Or.inl (own_k hw 58 rfl)) Via.refl e368 pr2 (g := (mkF m 24 #[.val (.ref a), .val (.ref y0), .val (.int ((3 : Int32) - (2 : Int32))), .val (.int ((2 : Int32) - (1 : Int32)))] [(.ref a)])) rfl rfl (hb hby d16_24)
    refine own_st (T' := T369) (g' := (mkF m 27 #[.val (.ref a), .val (.ref y0), .val (.int ((3 : Int32) - (2 : Int32))), .val (.int ((2 : Int32) - (1 : Int32)))] [(.ref la)])) st369 ?_
    refine own_st (T' := T369) (g' := (mkF m 30 #[.val (.ref a), .val (.ref y0), .val (.int ((3 : Int32) - (2 : Int32))), .val (.int ((2 : Int32) - (1 : Int32)))] [(.int (((3 : Int32) - (2 : Int32)) + ((2 : Int32) - (1 : Int32)))), (.ref la)])) (fun _ kt => XS.iloadN X369.here hx rfl (hb hby d16_27) rfl (XS.iloadN X369.here hx rfl (hb hby d16_28) rfl (XS.iadd X369.here hx rfl (hb hby d16_29) rfl kt))) ?_
    refine own_st (T' := T369) (g' := (mkF m 31 #[.val (.ref a), .val (.ref y0), .val (.int ((3 : Int32) - (2 : Int32))), .val (.int ((2 : Int32) - (1 : Int32)))] [(.int w2)])) (own_cal X369 hx hZ e369 pr3 (own_ltj pr8 (by decide) (by decide)) ((own_tkg pr7).2.2 (own_ltj pr8 (by decide) (by decide)).2) (g := (mkF m 30 #[.val (.ref a), .val (.ref y0), .val (.int ((3 : Int32) - (2 : Int32))), .val (.int ((2 : Int32) - (1 : Int32)))] [(.int (((3 : Int32) - (2 : Int32)) + ((2 : Int32) - (1 : Int32)))), (.ref la)])) rfl rfl (hb hby d16_30)) ?_
    refine own_st (T' := T369) (g' := (mkF m 33 #[.val (.ref a), .val (.ref y0), .val (.int ((3 : Int32) - (2 : Int32))), .val (.int ((2 : Int32) - (1 : Int32)))] [(.int ((2 : Int32) - (1 : Int32))), (.ref y0), (.int w2)])) (fun _ kt => XS.aloadN X369.here hx rfl (hb hby d16_31) rfl rfl (XS.iloadN X369.here hx rfl (hb hby d16_32) rfl kt)) ?_
    refine own_st (T' := T369) (g' := (mkF m 34 #[.val (.ref a), .val (.ref y0), .val (.int ((3 : Int32) - (2 : Int32))), .val (.int ((2 : Int32) - (1 : Int32)))] [(.int s1), (.int w2)])) (own_cal X369 hx hZ e369 pr4 ⟨by decide, by decide⟩ rfl (g := (mkF m 33 #[.val (.ref a), .val (.ref y0), .val (.int ((3 : Int32) - (2 : Int32))), .val (.int ((2 : Int32) - (1 : Int32)))] [(.int ((2 : Int32) - (1 : Int32))), (.ref y0), (.int w2)])) rfl rfl (hb hby d16_33)) ?_
    by_cases hc370 : w2 = s1
    · -- pc 34: w2 = s1
      refine own_st (T' := T369) (g' := (mkF m 24 #[.val (.ref a), .val (.ref y0), .val (.int ((3 : Int32) - (2 : Int32))), .val (.int (((2 : Int32) - (1 : Int32)) + (-1 : Int32)))] [(.ref a)])) (fun _ kt => XS.icmpYes X369.here hx rfl (pc0 := 34) (pc' := 39) rfl (hb hby d16_34) rfl (XT.ii_eq_t hc370) (by decide) (by decide) (XS.iinc X369.here hx rfl (hb hby d16_39) rfl (l' := #[.val (.ref a), .val (.ref y0), .val (.int ((3 : Int32) - (2 : Int32))), .val (.int (((2 : Int32) - (1 : Int32)) + (-1 : Int32)))]) rfl (XS.goto X369.here hx rfl (pc0 := 42) (pc' := 19) rfl (hb hby d16_42) (by decide) (by decide) (XS.iloadN X369.here hx rfl (hb hby d16_19) rfl (XS.ifNo X369.here hx rfl (hb hby d16_20) rfl (XT.i0_lt_f (by decide)) (XS.aloadN X369.here hx rfl (hb hby d16_23) rfl rfl kt)))))) ?_
      obtain ⟨T371, X371, e371, st371⟩ := getF X369 hx hZ hown (host := "") (Or.inl (own_k hw 58 rfl)) Via.refl e369 pr2 (g := (mkF m 24 #[.val (.ref a), .val (.ref y0), .val (.int ((3 : Int32) - (2 : Int32))), .val (.int (((2 : Int32) - (1 : Int32)) + (-1 : Int32)))] [(.ref a)])) rfl rfl (hb hby d16_24)
      refine own_st (T' := T371) (g' := (mkF m 27 #[.val (.ref a), .val (.ref y0), .val (.int ((3 : Int32) - (2 : Int32))), .val (.int (((2 : Int32) - (1 : Int32)) + (-1 : Int32)))] [(.ref la)])) st371 ?_
      refine own_st (T' := T371) (g' := (mkF m 30 #[.val (.ref a), .val (.ref y0), .val (.int ((3 : Int32) - (2 : Int32))), .val (.int (((2 : Int32) - (1 : Int32)) + (-1 : Int32)))] [(.int (((3 : Int32) - (2 : Int32)) + (((2 : Int32) - (1 : Int32)) + (-1 : Int32)))), (.ref la)])) (fun _ kt => XS.iloadN X371.here hx rfl (hb hby d16_27) rfl (XS.iloadN X371.here hx rfl (hb hby d16_28) rfl (XS.iadd X371.here hx rfl (hb hby d16_29) rfl kt))) ?_
      refine own_st (T' := T371) (g' := (mkF m 31 #[.val (.ref a), .val (.ref y0), .val (.int ((3 : Int32) - (2 : Int32))), .val (.int (((2 : Int32) - (1 : Int32)) + (-1 : Int32)))] [(.int w1)])) (own_cal X371 hx hZ e371 pr3 (own_ltj pr8 (by decide) (by decide)) ((own_tkg pr7).2.1 (own_ltj pr8 (by decide) (by decide)).2) (g := (mkF m 30 #[.val (.ref a), .val (.ref y0), .val (.int ((3 : Int32) - (2 : Int32))), .val (.int (((2 : Int32) - (1 : Int32)) + (-1 : Int32)))] [(.int (((3 : Int32) - (2 : Int32)) + (((2 : Int32) - (1 : Int32)) + (-1 : Int32)))), (.ref la)])) rfl rfl (hb hby d16_30)) ?_
      refine own_st (T' := T371) (g' := (mkF m 33 #[.val (.ref a), .val (.ref y0), .val (.int ((3 : Int32) - (2 : Int32))), .val (.int (((2 : Int32) - (1 : Int32)) + (-1 : Int32)))] [(.int (((2 : Int32) - (1 : Int32)) + (-1 : Int32))), (.ref y0), (.int w1)])) (fun _ kt => XS.aloadN X371.here hx rfl (hb hby d16_31) rfl rfl (XS.iloadN X371.here hx rfl (hb hby d16_32) rfl kt)) ?_
      refine own_st (T' := T371) (g' := (mkF m 34 #[.val (.ref a), .val (.ref y0), .val (.int ((3 : Int32) - (2 : Int32))), .val (.int (((2 : Int32) - (1 : Int32)) + (-1 : Int32)))] [(.int s0), (.int w1)])) (own_cal X371 hx hZ e371 pr4 ⟨by decide, by decide⟩ rfl (g := (mkF m 33 #[.val (.ref a), .val (.ref y0), .val (.int ((3 : Int32) - (2 : Int32))), .val (.int (((2 : Int32) - (1 : Int32)) + (-1 : Int32)))] [(.int (((2 : Int32) - (1 : Int32)) + (-1 : Int32))), (.ref y0), (.int w1)])) rfl rfl (hb hby d16_33)) ?_
      by_cases hc372 : w1 = s0
      · -- pc 34: w1 = s0
        refine own_st (T' := T371) (g' := (mkF m 46 #[.val (.ref a), .val (.ref y0), .val (.int ((3 : Int32) - (2 : Int32))), .val (.int ((((2 : Int32) - (1 : Int32)) + (-1 : Int32)) + (-1 : Int32)))] [(.int (1 : Int32))])) (fun _ kt => XS.icmpYes X371.here hx rfl (pc0 := 34) (pc' := 39) rfl (hb hby d16_34) rfl (XT.ii_eq_t hc372) (by decide) (by decide) (XS.iinc X371.here hx rfl (hb hby d16_39) rfl (l' := #[.val (.ref a), .val (.ref y0), .val (.int ((3 : Int32) - (2 : Int32))), .val (.int ((((2 : Int32) - (1 : Int32)) + (-1 : Int32)) + (-1 : Int32)))]) rfl (XS.goto X371.here hx rfl (pc0 := 42) (pc' := 19) rfl (hb hby d16_42) (by decide) (by decide) (XS.iloadN X371.here hx rfl (hb hby d16_19) rfl (XS.ifYes X371.here hx rfl (pc0 := 20) (pc' := 45) rfl (hb hby d16_20) rfl (XT.i0_lt_t (by decide)) (by decide) (by decide) (XS.iconst X371.here hx rfl (hb hby d16_45) kt)))))) ?_
        obtain ⟨fs, hr, hrun, hended, hW, hsame⟩ := X371.leave (v := some (.int (1 : Int32))) (fun h => by rw [Bd.returns] at h; cases h)
        refine own_end (retN X371 hx (t := .boolean) Bd.returns (by simp) (hb hby d16_46) hr) ⟨_, hrun, hended, _, _, rfl, ?_, ⟨_, rfl⟩, hW, hsame.mono (by decide) (by decide)⟩
        show own_endsQ Z _ _ _ _ _ _ _ _ _ _ _ _ _ _ h0 n0 _ T371.heap _
        rw [e371]
        exact ⟨(by simp +decide [own_rf, own_W, hc370, hc372]), N0, rfl⟩
      · -- pc 34: not w1 = s0
        refine own_st (T' := T371) (g' := (mkF m 38 #[.val (.ref a), .val (.ref y0), .val (.int ((3 : Int32) - (2 : Int32))), .val (.int (((2 : Int32) - (1 : Int32)) + (-1 : Int32)))] [(.int (0 : Int32))])) (fun _ kt => XS.icmpNo X371.here hx rfl (hb hby d16_34) rfl (XT.ii_eq_f hc372) (XS.iconst X371.here hx rfl (hb hby d16_37) kt)) ?_
        obtain ⟨fs, hr, hrun, hended, hW, hsame⟩ := X371.leave (v := some (.int (0 : Int32))) (fun h => by rw [Bd.returns] at h; cases h)
        refine own_end (retN X371 hx (t := .boolean) Bd.returns (by simp) (hb hby d16_38) hr) ⟨_, hrun, hended, _, _, rfl, ?_, ⟨_, rfl⟩, hW, hsame.mono (by decide) (by decide)⟩
        show own_endsQ Z _ _ _ _ _ _ _ _ _ _ _ _ _ _ h0 n0 _ T371.heap _
        rw [e371]
        exact ⟨(by simp +decide [own_rf, own_W, hc370, hc372]), N0, rfl⟩
    · -- pc 34: not w2 = s1
      refine own_st (T' := T369) (g' := (mkF m 38 #[.val (.ref a), .val (.ref y0), .val (.int ((3 : Int32) - (2 : Int32))), .val (.int ((2 : Int32) - (1 : Int32)))] [(.int (0 : Int32))])) (fun _ kt => XS.icmpNo X369.here hx rfl (hb hby d16_34) rfl (XT.ii_eq_f hc370) (XS.iconst X369.here hx rfl (hb hby d16_37) kt)) ?_
      obtain ⟨fs, hr, hrun, hended, hW, hsame⟩ := X369.leave (v := some (.int (0 : Int32))) (fun h => by rw [Bd.returns] at h; cases h)
      refine own_end (retN X369 hx (t := .boolean) Bd.returns (by simp) (hb hby d16_38) hr) ⟨_, hrun, hended, _, _, rfl, ?_, ⟨_, rfl⟩, hW, hsame.mono (by decide) (by decide)⟩
      show own_endsQ Z _ _ _ _ _ _ _ _ _ _ _ _ _ _ h0 n0 _ T369.heap _
      rw [e369]
      exact ⟨(by simp +decide [own_rf, own_W, hc370]), N0, rfl⟩
  · -- m = 3, len = 0
    refine own_st (T' := s₁) (g' := (mkF m 1 #[.val (.ref a), .val (.ref y0), .unset, .unset] [(.ref a)])) (fun _ kt => XS.aloadN X0.here hx rfl (hb hby d16_0) rfl rfl kt) ?_
    obtain ⟨T373, X373, e373, st373⟩ := getF X0 hx hZ hown (host := "") (Or.inl (own_k hw 70 rfl)) Via.refl e0 pr1 (g := (mkF m 1 #[.val (.ref a), .val (.ref y0), .unset, .unset] [(.ref a)])) rfl rfl (hb hby d16_1)
    refine own_st (T' := T373) (g' := (mkF m 4 #[.val (.ref a), .val (.ref y0), .unset, .unset] [(.int (0 : Int32))])) st373 ?_
    refine own_st (T' := T373) (g' := (mkF m 5 #[.val (.ref a), .val (.ref y0), .unset, .unset] [(.ref y0), (.int (0 : Int32))])) (fun _ kt => XS.aloadN X373.here hx rfl (hb hby d16_4) rfl rfl kt) ?_
    refine own_st (T' := T373) (g' := (mkF m 6 #[.val (.ref a), .val (.ref y0), .unset, .unset] [(.int (3 : Int32)), (.int (0 : Int32))])) (own_alen X373 hx hZ e373 pr4 (g := (mkF m 5 #[.val (.ref a), .val (.ref y0), .unset, .unset] [(.ref y0), (.int (0 : Int32))])) rfl rfl (hb hby d16_5)) ?_
    refine own_st (T' := T373) (g' := (mkF m 13 #[.val (.ref a), .val (.ref y0), .val (.int ((0 : Int32) - (3 : Int32))), .unset] [(.int (0 : Int32))])) (fun _ kt => XS.isub X373.here hx rfl (hb hby d16_6) rfl (XS.istoreN X373.here hx rfl (hb hby d16_7) rfl (l' := #[.val (.ref a), .val (.ref y0), .val (.int ((0 : Int32) - (3 : Int32))), .unset]) rfl (XS.iloadN X373.here hx rfl (hb hby d16_8) rfl (XS.ifNo X373.here hx rfl (hb hby d16_9) rfl (XT.i0_ge_f (by decide)) (XS.iconst X373.here hx rfl (hb hby d16_12) kt))))) ?_
    obtain ⟨fs, hr, hrun, hended, hW, hsame⟩ := X373.leave (v := some (.int (0 : Int32))) (fun h => by rw [Bd.returns] at h; cases h)
    refine own_end (retN X373 hx (t := .boolean) Bd.returns (by simp) (hb hby d16_13) hr) ⟨_, hrun, hended, _, _, rfl, ?_, ⟨_, rfl⟩, hW, hsame.mono (by decide) (by decide)⟩
    show own_endsQ Z _ _ _ _ _ _ _ _ _ _ _ _ _ _ h0 n0 _ T373.heap _
    rw [e373]
    exact ⟨(by simp +decide [own_rf, own_W]), N0, rfl⟩
  · -- m = 3, len = 1
    refine own_st (T' := s₁) (g' := (mkF m 1 #[.val (.ref a), .val (.ref y0), .unset, .unset] [(.ref a)])) (fun _ kt => XS.aloadN X0.here hx rfl (hb hby d16_0) rfl rfl kt) ?_
    obtain ⟨T374, X374, e374, st374⟩ := getF X0 hx hZ hown (host := "") (Or.inl (own_k hw 70 rfl)) Via.refl e0 pr1 (g := (mkF m 1 #[.val (.ref a), .val (.ref y0), .unset, .unset] [(.ref a)])) rfl rfl (hb hby d16_1)
    refine own_st (T' := T374) (g' := (mkF m 4 #[.val (.ref a), .val (.ref y0), .unset, .unset] [(.int (1 : Int32))])) st374 ?_
    refine own_st (T' := T374) (g' := (mkF m 5 #[.val (.ref a), .val (.ref y0), .unset, .unset] [(.ref y0), (.int (1 : Int32))])) (fun _ kt => XS.aloadN X374.here hx rfl (hb hby d16_4) rfl rfl kt) ?_
    refine own_st (T' := T374) (g' := (mkF m 6 #[.val (.ref a), .val (.ref y0), .unset, .unset] [(.int (3 : Int32)), (.int (1 : Int32))])) (own_alen X374 hx hZ e374 pr4 (g := (mkF m 5 #[.val (.ref a), .val (.ref y0), .unset, .unset] [(.ref y0), (.int (1 : Int32))])) rfl rfl (hb hby d16_5)) ?_
    refine own_st (T' := T374) (g' := (mkF m 13 #[.val (.ref a), .val (.ref y0), .val (.int ((1 : Int32) - (3 : Int32))), .unset] [(.int (0 : Int32))])) (fun _ kt => XS.isub X374.here hx rfl (hb hby d16_6) rfl (XS.istoreN X374.here hx rfl (hb hby d16_7) rfl (l' := #[.val (.ref a), .val (.ref y0), .val (.int ((1 : Int32) - (3 : Int32))), .unset]) rfl (XS.iloadN X374.here hx rfl (hb hby d16_8) rfl (XS.ifNo X374.here hx rfl (hb hby d16_9) rfl (XT.i0_ge_f (by decide)) (XS.iconst X374.here hx rfl (hb hby d16_12) kt))))) ?_
    obtain ⟨fs, hr, hrun, hended, hW, hsame⟩ := X374.leave (v := some (.int (0 : Int32))) (fun h => by rw [Bd.returns] at h; cases h)
    refine own_end (retN X374 hx (t := .boolean) Bd.returns (by simp) (hb hby d16_13) hr) ⟨_, hrun, hended, _, _, rfl, ?_, ⟨_, rfl⟩, hW, hsame.mono (by decide) (by decide)⟩
    show own_endsQ Z _ _ _ _ _ _ _ _ _ _ _ _ _ _ h0 n0 _ T374.heap _
    rw [e374]
    exact ⟨(by simp +decide [own_rf, own_W]), N0, rfl⟩
  · -- m = 3, len = 2
    refine own_st (T' := s₁) (g' := (mkF m 1 #[.val (.ref a), .val (.ref y0), .unset, .unset] [(.ref a)])) (fun _ kt => XS.aloadN X0.here hx rfl (hb hby d16_0) rfl rfl kt) ?_
    obtain ⟨T375, X375, e375, st375⟩ := getF X0 hx hZ hown (host := "") (Or.inl (own_k hw 70 rfl)) Via.refl e0 pr1 (g := (mkF m 1 #[.val (.ref a), .val (.ref y0), .unset, .unset] [(.ref a)])) rfl rfl (hb hby d16_1)
    refine own_st (T' := T375) (g' := (mkF m 4 #[.val (.ref a), .val (.ref y0), .unset, .unset] [(.int (2 : Int32))])) st375 ?_
    refine own_st (T' := T375) (g' := (mkF m 5 #[.val (.ref a), .val (.ref y0), .unset, .unset] [(.ref y0), (.int (2 : Int32))])) (fun _ kt => XS.aloadN X375.here hx rfl (hb hby d16_4) rfl rfl kt) ?_
    refine own_st (T' := T375) (g' := (mkF m 6 #[.val (.ref a), .val (.ref y0), .unset, .unset] [(.int (3 : Int32)), (.int (2 : Int32))])) (own_alen X375 hx hZ e375 pr4 (g := (mkF m 5 #[.val (.ref a), .val (.ref y0), .unset, .unset] [(.ref y0), (.int (2 : Int32))])) rfl rfl (hb hby d16_5)) ?_
    refine own_st (T' := T375) (g' := (mkF m 13 #[.val (.ref a), .val (.ref y0), .val (.int ((2 : Int32) - (3 : Int32))), .unset] [(.int (0 : Int32))])) (fun _ kt => XS.isub X375.here hx rfl (hb hby d16_6) rfl (XS.istoreN X375.here hx rfl (hb hby d16_7) rfl (l' := #[.val (.ref a), .val (.ref y0), .val (.int ((2 : Int32) - (3 : Int32))), .unset]) rfl (XS.iloadN X375.here hx rfl (hb hby d16_8) rfl (XS.ifNo X375.here hx rfl (hb hby d16_9) rfl (XT.i0_ge_f (by decide)) (XS.iconst X375.here hx rfl (hb hby d16_12) kt))))) ?_
    obtain ⟨fs, hr, hrun, hended, hW, hsame⟩ := X375.leave (v := some (.int (0 : Int32))) (fun h => by rw [Bd.returns] at h; cases h)
    refine own_end (retN X375 hx (t := .boolean) Bd.returns (by simp) (hb hby d16_13) hr) ⟨_, hrun, hended, _, _, rfl, ?_, ⟨_, rfl⟩, hW, hsame.mono (by decide) (by decide)⟩
    show own_endsQ Z _ _ _ _ _ _ _ _ _ _ _ _ _ _ h0 n0 _ T375.heap _
    rw [e375]
    exact ⟨(by simp +decide [own_rf, own_W]), N0, rfl⟩
  · -- m = 3, len = 3
    refine own_st (T' := s₁) (g' := (mkF m 1 #[.val (.ref a), .val (.ref y0), .unset, .unset] [(.ref a)])) (fun _ kt => XS.aloadN X0.here hx rfl (hb hby d16_0) rfl rfl kt) ?_
    obtain ⟨T376, X376, e376, st376⟩ := getF X0 hx hZ hown (host := "") (Or.inl (own_k hw 70 rfl)) Via.refl e0 pr1 (g := (mkF m 1 #[.val (.ref a), .val (.ref y0), .unset, .unset] [(.ref a)])) rfl rfl (hb hby d16_1)
    refine own_st (T' := T376) (g' := (mkF m 4 #[.val (.ref a), .val (.ref y0), .unset, .unset] [(.int (3 : Int32))])) st376 ?_
    refine own_st (T' := T376) (g' := (mkF m 5 #[.val (.ref a), .val (.ref y0), .unset, .unset] [(.ref y0), (.int (3 : Int32))])) (fun _ kt => XS.aloadN X376.here hx rfl (hb hby d16_4) rfl rfl kt) ?_
    refine own_st (T' := T376) (g' := (mkF m 6 #[.val (.ref a), .val (.ref y0), .unset, .unset] [(.int (3 : Int32)), (.int (3 : Int32))])) (own_alen X376 hx hZ e376 pr4 (g := (mkF m 5 #[.val (.ref a), .val (.ref y0), .unset, .unset] [(.ref y0), (.int (3 : Int32))])) rfl rfl (hb hby d16_5)) ?_
    refine own_st (T' := T376) (g' := (mkF m 15 #[.val (.ref a), .val (.ref y0), .val (.int ((3 : Int32) - (3 : Int32))), .unset] [(.ref y0)])) (fun _ kt => XS.isub X376.here hx rfl (hb hby d16_6) rfl (XS.istoreN X376.here hx rfl (hb hby d16_7) rfl (l' := #[.val (.ref a), .val (.ref y0), .val (.int ((3 : Int32) - (3 : Int32))), .unset]) rfl (XS.iloadN X376.here hx rfl (hb hby d16_8) rfl (XS.ifYes X376.here hx rfl (pc0 := 9) (pc' := 14) rfl (hb hby d16_9) rfl (XT.i0_ge_t (by decide)) (by decide) (by decide) (XS.aloadN X376.here hx rfl (hb hby d16_14) rfl rfl kt))))) ?_
    refine own_st (T' := T376) (g' := (mkF m 16 #[.val (.ref a), .val (.ref y0), .val (.int ((3 : Int32) - (3 : Int32))), .unset] [(.int (3 : Int32))])) (own_alen X376 hx hZ e376 pr4 (g := (mkF m 15 #[.val (.ref a), .val (.ref y0), .val (.int ((3 : Int32) - (3 : Int32))), .unset] [(.ref y0)])) rfl rfl (hb hby d16_15)) ?_
    refine own_st (T' := T376) (g' := (mkF m 24 #[.val (.ref a), .val (.ref y0), .val (.int ((3 : Int32) - (3 : Int32))), .val (.int ((3 : Int32) - (1 : Int32)))] [(.ref a)])) (fun _ kt => XS.iconst X376.here hx rfl (hb hby d16_16) (XS.isub X376.here hx rfl (hb hby d16_17) rfl (XS.istoreN X376.here hx rfl (hb hby d16_18) rfl (l' := #[.val (.ref a), .val (.ref y0), .val (.int ((3 : Int32) - (3 : Int32))), .val (.int ((3 : Int32) - (1 : Int32)))]) rfl (XS.iloadN X376.here hx rfl (hb hby d16_19) rfl (XS.ifNo X376.here hx rfl (hb hby d16_20) rfl (XT.i0_lt_f (by decide)) (XS.aloadN X376.here hx rfl (hb hby d16_23) rfl rfl kt)))))) ?_
    obtain ⟨T377, X377, e377, st377⟩ := getF X376 hx hZ hown (host := "") (Or.inl (own_k hw 58 rfl)) Via.refl e376 pr2 (g := (mkF m 24 #[.val (.ref a), .val (.ref y0), .val (.int ((3 : Int32) - (3 : Int32))), .val (.int ((3 : Int32) - (1 : Int32)))] [(.ref a)])) rfl rfl (hb hby d16_24)
    refine own_st (T' := T377) (g' := (mkF m 27 #[.val (.ref a), .val (.ref y0), .val (.int ((3 : Int32) - (3 : Int32))), .val (.int ((3 : Int32) - (1 : Int32)))] [(.ref la)])) st377 ?_
    refine own_st (T' := T377) (g' := (mkF m 30 #[.val (.ref a), .val (.ref y0), .val (.int ((3 : Int32) - (3 : Int32))), .val (.int ((3 : Int32) - (1 : Int32)))] [(.int (((3 : Int32) - (3 : Int32)) + ((3 : Int32) - (1 : Int32)))), (.ref la)])) (fun _ kt => XS.iloadN X377.here hx rfl (hb hby d16_27) rfl (XS.iloadN X377.here hx rfl (hb hby d16_28) rfl (XS.iadd X377.here hx rfl (hb hby d16_29) rfl kt))) ?_
    refine own_st (T' := T377) (g' := (mkF m 31 #[.val (.ref a), .val (.ref y0), .val (.int ((3 : Int32) - (3 : Int32))), .val (.int ((3 : Int32) - (1 : Int32)))] [(.int w2)])) (own_cal X377 hx hZ e377 pr3 (own_ltj pr8 (by decide) (by decide)) ((own_tkg pr7).2.2 (own_ltj pr8 (by decide) (by decide)).2) (g := (mkF m 30 #[.val (.ref a), .val (.ref y0), .val (.int ((3 : Int32) - (3 : Int32))), .val (.int ((3 : Int32) - (1 : Int32)))] [(.int (((3 : Int32) - (3 : Int32)) + ((3 : Int32) - (1 : Int32)))), (.ref la)])) rfl rfl (hb hby d16_30)) ?_
    refine own_st (T' := T377) (g' := (mkF m 33 #[.val (.ref a), .val (.ref y0), .val (.int ((3 : Int32) - (3 : Int32))), .val (.int ((3 : Int32) - (1 : Int32)))] [(.int ((3 : Int32) - (1 : Int32))), (.ref y0), (.int w2)])) (fun _ kt => XS.aloadN X377.here hx rfl (hb hby d16_31) rfl rfl (XS.iloadN X377.here hx rfl (hb hby d16_32) rfl kt)) ?_
    refine own_st (T' := T377) (g' := (mkF m 34 #[.val (.ref a), .val (.ref y0), .val (.int ((3 : Int32) - (3 : Int32))), .val (.int ((3 : Int32) - (1 : Int32)))] [(.int s2), (.int w2)])) (own_cal X377 hx hZ e377 pr4 ⟨by decide, by decide⟩ rfl (g := (mkF m 33 #[.val (.ref a), .val (.ref y0), .val (.int ((3 : Int32) - (3 : Int32))), .val (.int ((3 : Int32) - (1 : Int32)))] [(.int ((3 : Int32) - (1 : Int32))), (.ref y0), (.int w2)])) rfl rfl (hb hby d16_33)) ?_
    by_cases hc378 : w2 = s2
    · -- pc 34: w2 = s2
      refine own_st (T' := T377) (g' := (mkF m 24 #[.val (.ref a), .val (.ref y0), .val (.int ((3 : Int32) - (3 : Int32))), .val (.int (((3 : Int32) - (1 : Int32)) + (-1 : Int32)))] [(.ref a)])) (fun _ kt => XS.icmpYes X377.here hx rfl (pc0 := 34) (pc' := 39) rfl (hb hby d16_34) rfl (XT.ii_eq_t hc378) (by decide) (by decide) (XS.iinc X377.here hx rfl (hb hby d16_39) rfl (l' := #[.val (.ref a), .val (.ref y0), .val (.int ((3 : Int32) - (3 : Int32))), .val (.int (((3 : Int32) - (1 : Int32)) + (-1 : Int32)))]) rfl (XS.goto X377.here hx rfl (pc0 := 42) (pc' := 19) rfl (hb hby d16_42) (by decide) (by decide) (XS.iloadN X377.here hx rfl (hb hby d16_19) rfl (XS.ifNo X377.here hx rfl (hb hby d16_20) rfl (XT.i0_lt_f (by decide)) (XS.aloadN X377.here hx rfl (hb hby d16_23) rfl rfl kt)))))) ?_
      obtain ⟨T379, X379, e379, st379⟩ := getF X377 hx hZ hown (host := "") (Or.inl (own_k hw 58 rfl)) Via.refl e377 pr2 (g := (mkF m 24 #[.val (.ref a), .val (.ref y0), .val (.int ((3 : Int32) - (3 : Int32))), .val (.int (((3 : Int32) - (1 : Int32)) + (-1 : Int32)))] [(.ref a)])) rfl rfl (hb hby d16_24)
      refine own_st (T' := T379) (g' := (mkF m 27 #[.val (.ref a), .val (.ref y0), .val (.int ((3 : Int32) - (3 : Int32))), .val (.int (((3 : Int32) - (1 : Int32)) + (-1 : Int32)))] [(.ref la)])) st379 ?_
      refine own_st (T' := T379) (g' := (mkF m 30 #[.val (.ref a), .val (.ref y0), .val (.int ((3 : Int32) - (3 : Int32))), .val (.int (((3 : Int32) - (1 : Int32)) + (-1 : Int32)))] [(.int (((3 : Int32) - (3 : Int32)) + (((3 : Int32) - (1 : Int32)) + (-1 : Int32)))), (.ref la)])) (fun _ kt => XS.iloadN X379.here hx rfl (hb hby d16_27) rfl (XS.iloadN X379.here hx rfl (hb hby d16_28) rfl (XS.iadd X379.here hx rfl (hb hby d16_29) rfl kt))) ?_
      refine own_st (T' := T379) (g' := (mkF m 31 #[.val (.ref a), .val (.ref y0), .val (.int ((3 : Int32) - (3 : Int32))), .val (.int (((3 : Int32) - (1 : Int32)) + (-1 : Int32)))] [(.int w1)])) (own_cal X379 hx hZ e379 pr3 (own_ltj pr8 (by decide) (by decide)) ((own_tkg pr7).2.1 (own_ltj pr8 (by decide) (by decide)).2) (g := (mkF m 30 #[.val (.ref a), .val (.ref y0), .val (.int ((3 : Int32) - (3 : Int32))), .val (.int (((3 : Int32) - (1 : Int32)) + (-1 : Int32)))] [(.int (((3 : Int32) - (3 : Int32)) + (((3 : Int32) - (1 : Int32)) + (-1 : Int32)))), (.ref la)])) rfl rfl (hb hby d16_30)) ?_
      refine own_st (T' := T379) (g' := (mkF m 33 #[.val (.ref a), .val (.ref y0), .val (.int ((3 : Int32) - (3 : Int32))), .val (.int (((3 : Int32) - (1 : Int32)) + (-1 : Int32)))] [(.int (((3 : Int32) - (1 : Int32)) + (-1 : Int32))), (.ref y0), (.int w1)])) (fun _ kt => XS.aloadN X379.here hx rfl (hb hby d16_31) rfl rfl (XS.iloadN X379.here hx rfl (hb hby d16_32) rfl kt)) ?_
      refine own_st (T' := T379) (g' := (mkF m 34 #[.val (.ref a), .val (.ref y0), .val (.int ((3 : Int32) - (3 : Int32))), .val (.int (((3 : Int32) - (1 : Int32)) + (-1 : Int32)))] [(.int s1), (.int w1)])) (own_cal X379 hx hZ e379 pr4 ⟨by decide, by decide⟩ rfl (g := (mkF m 33 #[.val (.ref a), .val (.ref y0), .val (.int ((3 : Int32) - (3 : Int32))), .val (.int (((3 : Int32) - (1 : Int32)) + (-1 : Int32)))] [(.int (((3 : Int32) - (1 : Int32)) + (-1 : Int32))), (.ref y0), (.int w1)])) rfl rfl (hb hby d16_33)) ?_
      by_cases hc380 : w1 = s1
      · -- pc 34: w1 = s1
        refine own_st (T' := T379) (g' := (mkF m 24 #[.val (.ref a), .val (.ref y0), .val (.int ((3 : Int32) - (3 : Int32))), .val (.int ((((3 : Int32) - (1 : Int32)) + (-1 : Int32)) + (-1 : Int32)))] [(.ref a)])) (fun _ kt => XS.icmpYes X379.here hx rfl (pc0 := 34) (pc' := 39) rfl (hb hby d16_34) rfl (XT.ii_eq_t hc380) (by decide) (by decide) (XS.iinc X379.here hx rfl (hb hby d16_39) rfl (l' := #[.val (.ref a), .val (.ref y0), .val (.int ((3 : Int32) - (3 : Int32))), .val (.int ((((3 : Int32) - (1 : Int32)) + (-1 : Int32)) + (-1 : Int32)))]) rfl (XS.goto X379.here hx rfl (pc0 := 42) (pc' := 19) rfl (hb hby d16_42) (by decide) (by decide) (XS.iloadN X379.here hx rfl (hb hby d16_19) rfl (XS.ifNo X379.here hx rfl (hb hby d16_20) rfl (XT.i0_lt_f (by decide)) (XS.aloadN X379.here hx rfl (hb hby d16_23) rfl rfl kt)))))) ?_
        obtain ⟨T381, X381, e381, st381⟩ := getF X379 hx hZ hown (host := "") (Or.inl (own_k hw 58 rfl)) Via.refl e379 pr2 (g := (mkF m 24 #[.val (.ref a), .val (.ref y0), .val (.int ((3 : Int32) - (3 : Int32))), .val (.int ((((3 : Int32) - (1 : Int32)) + (-1 : Int32)) + (-1 : Int32)))] [(.ref a)])) rfl rfl (hb hby d16_24)
        refine own_st (T' := T381) (g' := (mkF m 27 #[.val (.ref a), .val (.ref y0), .val (.int ((3 : Int32) - (3 : Int32))), .val (.int ((((3 : Int32) - (1 : Int32)) + (-1 : Int32)) + (-1 : Int32)))] [(.ref la)])) st381 ?_
        refine own_st (T' := T381) (g' := (mkF m 30 #[.val (.ref a), .val (.ref y0), .val (.int ((3 : Int32) - (3 : Int32))), .val (.int ((((3 : Int32) - (1 : Int32)) + (-1 : Int32)) + (-1 : Int32)))] [(.int (((3 : Int32) - (3 : Int32)) + ((((3 : Int32) - (1 : Int32)) + (-1 : Int32)) + (-1 : Int32)))), (.ref la)])) (fun _ kt => XS.iloadN X381.here hx rfl (hb hby d16_27) rfl (XS.iloadN X381.here hx rfl (hb hby d16_28) rfl (XS.iadd X381.here hx rfl (hb hby d16_29) rfl kt))) ?_
        refine own_st (T' := T381) (g' := (mkF m 31 #[.val (.ref a), .val (.ref y0), .val (.int ((3 : Int32) - (3 : Int32))), .val (.int ((((3 : Int32) - (1 : Int32)) + (-1 : Int32)) + (-1 : Int32)))] [(.int w0)])) (own_cal X381 hx hZ e381 pr3 (own_ltj pr8 (by decide) (by decide)) ((own_tkg pr7).1 (own_ltj pr8 (by decide) (by decide)).2) (g := (mkF m 30 #[.val (.ref a), .val (.ref y0), .val (.int ((3 : Int32) - (3 : Int32))), .val (.int ((((3 : Int32) - (1 : Int32)) + (-1 : Int32)) + (-1 : Int32)))] [(.int (((3 : Int32) - (3 : Int32)) + ((((3 : Int32) - (1 : Int32)) + (-1 : Int32)) + (-1 : Int32)))), (.ref la)])) rfl rfl (hb hby d16_30)) ?_
        refine own_st (T' := T381) (g' := (mkF m 33 #[.val (.ref a), .val (.ref y0), .val (.int ((3 : Int32) - (3 : Int32))), .val (.int ((((3 : Int32) - (1 : Int32)) + (-1 : Int32)) + (-1 : Int32)))] [(.int ((((3 : Int32) - (1 : Int32)) + (-1 : Int32)) + (-1 : Int32))), (.ref y0), (.int w0)])) (fun _ kt => XS.aloadN X381.here hx rfl (hb hby d16_31) rfl rfl (XS.iloadN X381.here hx rfl (hb hby d16_32) rfl kt)) ?_
        refine own_st (T' := T381) (g' := (mkF m 34 #[.val (.ref a), .val (.ref y0), .val (.int ((3 : Int32) - (3 : Int32))), .val (.int ((((3 : Int32) - (1 : Int32)) + (-1 : Int32)) + (-1 : Int32)))] [(.int s0), (.int w0)])) (own_cal X381 hx hZ e381 pr4 ⟨by decide, by decide⟩ rfl (g := (mkF m 33 #[.val (.ref a), .val (.ref y0), .val (.int ((3 : Int32) - (3 : Int32))), .val (.int ((((3 : Int32) - (1 : Int32)) + (-1 : Int32)) + (-1 : Int32)))] [(.int ((((3 : Int32) - (1 : Int32)) + (-1 : Int32)) + (-1 : Int32))), (.ref y0), (.int w0)])) rfl rfl (hb hby d16_33)) ?_
        by_cases hc382 : w0 = s0
        · -- pc 34: w0 = s0
          refine own_st (T' := T381) (g' := (mkF m 46 #[.val (.ref a), .val (.ref y0), .val (.int ((3 : Int32) - (3 : Int32))), .val (.int (((((3 : Int32) - (1 : Int32)) + (-1 : Int32)) + (-1 : Int32)) + (-1 : Int32)))] [(.int (1 : Int32))])) (fun _ kt => XS.icmpYes X381.here hx rfl (pc0 := 34) (pc' := 39) rfl (hb hby d16_34) rfl (XT.ii_eq_t hc382) (by decide) (by decide) (XS.iinc X381.here hx rfl (hb hby d16_39) rfl (l' := #[.val (.ref a), .val (.ref y0), .val (.int ((3 : Int32) - (3 : Int32))), .val (.int (((((3 : Int32) - (1 : Int32)) + (-1 : Int32)) + (-1 : Int32)) + (-1 : Int32)))]) rfl (XS.goto X381.here hx rfl (pc0 := 42) (pc' := 19) rfl (hb hby d16_42) (by decide) (by decide) (XS.iloadN X381.here hx rfl (hb hby d16_19) rfl (XS.ifYes X381.here hx rfl (pc0 := 20) (pc' := 45) rfl (hb hby d16_20) rfl (XT.i0_lt_t (by decide)) (by decide) (by decide) (XS.iconst X381.here hx rfl (hb hby d16_45) kt)))))) ?_
          obtain ⟨fs, hr, hrun, hended, hW, hsame⟩ := X381.leave (v := some (.int (1 : Int32))) (fun h => by rw [Bd.returns] at h; cases h)
          refine own_end (retN X381 hx (t := .boolean) Bd.returns (by simp) (hb hby d16_46) hr) ⟨_, hrun, hended, _, _, rfl, ?_, ⟨_, rfl⟩, hW, hsame.mono (by decide) (by decide)⟩
          show own_endsQ Z _ _ _ _ _ _ _ _ _ _ _ _ _ _ h0 n0 _ T381.heap _
          rw [e381]
          exact ⟨(by simp +decide [own_rf, own_W, hc378, hc380, hc382]), N0, rfl⟩
        · -- pc 34: not w0 = s0
          refine own_st (T' := T381) (g' := (mkF m 38 #[.val (.ref a), .val (.ref y0), .val (.int ((3 : Int32) - (3 : Int32))), .val (.int ((((3 : Int32) - (1 : Int32)) + (-1 : Int32)) + (-1 : Int32)))] [(.int (0 : Int32))])) (fun _ kt => XS.icmpNo X381.here hx rfl (hb hby d16_34) rfl (XT.ii_eq_f hc382) (XS.iconst X381.here hx rfl (hb hby d16_37) kt)) ?_
          obtain ⟨fs, hr, hrun, hended, hW, hsame⟩ := X381.leave (v := some (.int (0 : Int32))) (fun h => by rw [Bd.returns] at h; cases h)
          refine own_end (retN X381 hx (t := .boolean) Bd.returns (by simp) (hb hby d16_38) hr) ⟨_, hrun, hended, _, _, rfl, ?_, ⟨_, rfl⟩, hW, hsame.mono (by decide) (by decide)⟩
          show own_endsQ Z _ _ _ _ _ _ _ _ _ _ _ _ _ _ h0 n0 _ T381.heap _
          rw [e381]
          exact ⟨(by simp +decide [own_rf, own_W, hc378, hc380, hc382]), N0, rfl⟩
      · -- pc 34: not w1 = s1
        refine own_st (T' := T379) (g' := (mkF m 38 #[.val (.ref a), .val (.ref y0), .val (.int ((3 : Int32) - (3 : Int32))), .val (.int (((3 : Int32) - (1 : Int32)) + (-1 : Int32)))] [(.int (0 : Int32))])) (fun _ kt => XS.icmpNo X379.here hx rfl (hb hby d16_34) rfl (XT.ii_eq_f hc380) (XS.iconst X379.here hx rfl (hb hby d16_37) kt)) ?_
        obtain ⟨fs, hr, hrun, hended, hW, hsame⟩ := X379.leave (v := some (.int (0 : Int32))) (fun h => by rw [Bd.returns] at h; cases h)
        refine own_end (retN X379 hx (t := .boolean) Bd.returns (by simp) (hb hby d16_38) hr) ⟨_, hrun, hended, _, _, rfl, ?_, ⟨_, rfl⟩, hW, hsame.mono (by decide) (by decide)⟩
        show own_endsQ Z _ _ _ _ _ _ _ _ _ _ _ _ _ _ h0 n0 _ T379.heap _
        rw [e379]
        exact ⟨(by simp +decide [own_rf, own_W, hc378, hc380]), N0, rfl⟩
    · -- pc 34: not w2 = s2
      refine own_st (T' := T377) (g' := (mkF m 38 #[.val (.ref a), .val (.ref y0), .val (.int ((3 : Int32) - (3 : Int32))), .val (.int ((3 : Int32) - (1 : Int32)))] [(.int (0 : Int32))])) (fun _ kt => XS.icmpNo X377.here hx rfl (hb hby d16_34) rfl (XT.ii_eq_f hc378) (XS.iconst X377.here hx rfl (hb hby d16_37) kt)) ?_
      obtain ⟨fs, hr, hrun, hended, hW, hsame⟩ := X377.leave (v := some (.int (0 : Int32))) (fun h => by rw [Bd.returns] at h; cases h)
      refine own_end (retN X377 hx (t := .boolean) Bd.returns (by simp) (hb hby d16_38) hr) ⟨_, hrun, hended, _, _, rfl, ?_, ⟨_, rfl⟩, hW, hsame.mono (by decide) (by decide)⟩
      show own_endsQ Z _ _ _ _ _ _ _ _ _ _ _ _ _ _ h0 n0 _ T377.heap _
      rw [e377]
      exact ⟨(by simp +decide [own_rf, own_W, hc378]), N0, rfl⟩
theorem own_pd8 : parseMethodDescriptor "([CI[CI)Z" = some ⟨[(.array .char), .int, (.array .char), .int], some .boolean⟩ := by decide +kernel
theorem own_pd9 : parseMethodDescriptor "([C)Z" = some ⟨[(.array .char)], some .boolean⟩ := by decide +kernel
theorem own_pd10 : parseMethodDescriptor "(I)V" = some ⟨[.int], none⟩ := by decide +kernel
theorem own_pd11 : parseMethodDescriptor "([CI)[C" = some ⟨[(.array .char), .int], some (.array .char)⟩ := by decide +kernel
theorem own_pd12 : parseMethodDescriptor "([C)V" = some ⟨[(.array .char)], none⟩ := by decide +kernel
theorem own_pd13 : parseMethodDescriptor "(Ljava/lang/String;)V" = some ⟨[(.object "java/lang/String")], none⟩ := by decide +kernel
theorem own_pd14 : parseMethodDescriptor "(II)I" = some ⟨[.int, .int], some .int⟩ := by decide +kernel
set_option maxHeartbeats 4000000 in
theorem own_ef10 (m : MethodId) (x0 : Int32) (x1 : Int32) (x2 : Int32) : entryFrame m #[(.int x0), (.int x1), (.int x2)] 14 = mkF m 0 #[.val (.int x0), .val (.int x1), .val (.int x2), .unset, .unset, .unset, .unset, .unset, .unset, .unset, .unset, .unset, .unset, .unset] [] := by first | (simp [entryFrame, mkF, argsToLocals, Value.category]; done) | rfl
def own_lawQ (Z : State) (p1 : Int32) (p2 : Int32) (p3 : Int32) (zc : Int32) (h0 : Heap) (n0 : Nat) (v : Option Value) (h : Heap) (L : List Loc) : Prop := v = some (.int (1 : Int32)) ∧ Fr n0 L
set_option maxRecDepth 65536 in
set_option maxHeartbeats 40000000 in
theorem own_law (l : Launch) (Z : State) (a0 : Array Value) (hw : ∀ d ∈ tables_1, d.before a0 Z = true) (ws : List Jvm.Cond) (p1 : Int32) (p2 : Int32) (p3 : Int32) (zc : Int32) (h0 : Heap) (n0 : Nat) (Z0 : n0 ≤ h0.size) (pr1 : Old Z n0 h0) (pr2 : Sta Z Z.heap "java/lang/String" "COMPACT_STRINGS" "Z" (.int zc)) (pr3 : ¬ zc = 0) :
    own_MH own_EL l x code maxLocals ret ws room_1 #[(.int p1), (.int p2), (.int p3)] Z h0 (own_lawQ Z p1 p2 p3 zc h0 n0) := by
  refine own_goH (plainFor_of_name own_pn2) (fun m => own_ef10 m p1 p2 p3 ) ?_
  intro p e s m below meth c s₁ Bd hx hby hml hZ hh hown hnm X0 e0 hS CR0
  have N0 := Fr.nil n0
  have hk : h0.size ≤ h0.size := Nat.le_refl _
  refine own_st (T' := s₁) (g' := (mkF m 1 #[.val (.int p1), .val (.int p2), .val (.int p3), .unset, .unset, .unset, .unset, .unset, .unset, .unset, .unset, .unset, .unset, .unset] [(.int (3 : Int32))])) (fun _ kt => XS.iconst X0.here hx rfl (hb hby at_0) kt) ?_
  obtain ⟨T383, h383, k383, X383, e383, E383, A383, st383⟩ := newP X0 hx hZ (aty := .char) (own_k hw 0 rfl) e0 (g := (mkF m 1 #[.val (.int p1), .val (.int p2), .val (.int p3), .unset, .unset, .unset, .unset, .unset, .unset, .unset, .unset, .unset, .unset, .unset] [(.int (3 : Int32))])) rfl (hb hby at_1) rfl (by decide) (cap := 3) (by decide) (by decide) (by decide) (by decide)
  obtain ⟨b383, g383⟩ : ∃ z, z = h0.size := ⟨_, rfl⟩
  rw [← g383] at A383 st383
  have CR384 : CHr Z own_EL s.vm h0 s.vm h383 := CHr.trans CR0 (CHr.ext E383 CR0.1)
  have Z385 : n0 ≤ h383.size := Nat.le_trans Z0 E383.1
  have hk385 := Nat.le_trans hk E383.1
  have ge_b383 : n0 ≤ b383 := Nat.le_trans Z0 (Nat.le_of_eq g383.symm)
  have S386 : Safe Z own_EL s.vm h383 b383 := (Safe.ext E383 CR0.1 (Safe.new (Nat.le_of_eq g383.symm)))
  have F387 : Arv Z h383 b383 k383 .char (3 : Int32) [(.int (0 : Int32)), (.int (0 : Int32)), (.int (0 : Int32))] (.int (0 : Int32)) := (Arv.new A383 (by decide)).pad (pad_rep [] (.int (0 : Int32)) 3)
  refine own_st (T' := T383) (g' := (mkF m 3 #[.val (.int p1), .val (.int p2), .val (.int p3), .unset, .unset, .unset, .unset, .unset, .unset, .unset, .unset, .unset, .unset, .unset] [(.ref b383)])) st383 ?_
  refine own_st (T' := T383) (g' := (mkF m 12 #[.val (.int p1), .val (.int p2), .val (.int p3), .val (.ref b383), .unset, .unset, .unset, .unset, .unset, .unset, .unset, .unset, .unset, .unset] [(.int ((p1 &&& (255 : Int32)).toUInt32.toUInt16.toUInt32.toInt32)), (.int (0 : Int32)), (.ref b383)])) (fun _ kt => XS.astoreN X383.here hx rfl (hb hby at_3) rfl rfl (l' := #[.val (.int p1), .val (.int p2), .val (.int p3), .val (.ref b383), .unset, .unset, .unset, .unset, .unset, .unset, .unset, .unset, .unset, .unset]) rfl (XS.aloadN X383.here hx rfl (hb hby at_4) rfl rfl (XS.iconst X383.here hx rfl (hb hby at_5) (XS.iloadN X383.here hx rfl (hb hby at_6) rfl (XS.sipush X383.here hx rfl (hb hby at_7) (XS.iand X383.here hx rfl (hb hby at_10) rfl (XT.i2c X383.here hx rfl (hb hby at_11) rfl kt))))))) ?_
  obtain ⟨w0, hw0⟩ : ∃ z : Int32, z = ((p1 &&& (255 : Int32)).toUInt32.toUInt16.toUInt32.toInt32) := ⟨_, rfl⟩
  rw [← hw0]
  have b_w0 : ¬ w0 < 0 ∧ ¬ (255 : Int32) < w0 := hw0 ▸ own_ch _
  have n_w0 : nar .char w0 = w0 := by rw [hw0]; exact own_nar _
  obtain ⟨T388, h388, X388, e388, W388, V388, st388⟩ := own_cst X383 hx hZ e383 F387 ⟨by decide, by decide⟩ (i := 0) rfl (by simp) (y := w0) n_w0 (g := (mkF m 12 #[.val (.int p1), .val (.int p2), .val (.int p3), .val (.ref b383), .unset, .unset, .unset, .unset, .unset, .unset, .unset, .unset, .unset, .unset] [(.int w0), (.int (0 : Int32)), (.ref b383)])) rfl rfl (hb hby at_12)
  have N388 := Fr.snoc X388 N0 ge_b383
  have CR389 : CHr Z own_EL s.vm h0 s.vm h388 := CHr.trans CR384 (CHr.wr W388 S386 CR384.1)
  have Z390 : n0 ≤ h388.size := Nat.le_trans Z385 (Nat.le_of_eq (Wr.size W388).symm)
  have hk390 := Nat.le_trans hk385 (Nat.le_of_eq (Wr.size W388).symm)
  have F391 : Arv Z h388 b383 k383 .char (3 : Int32) [(.int w0), (.int (0 : Int32)), (.int (0 : Int32))] (.int (0 : Int32)) := V388
  refine own_st (T' := T388) (g' := (mkF m 13 #[.val (.int p1), .val (.int p2), .val (.int p3), .val (.ref b383), .unset, .unset, .unset, .unset, .unset, .unset, .unset, .unset, .unset, .unset] [])) st388 ?_
  refine own_st (T' := T388) (g' := (mkF m 24 #[.val (.int p1), .val (.int p2), .val (.int p3), .val (.ref b383), .unset, .unset, .unset, .unset, .unset, .unset, .unset, .unset, .unset, .unset] [(.int (((XT.ushr p1 (8 : Int32)) &&& (255 : Int32)).toUInt32.toUInt16.toUInt32.toInt32)), (.int (1 : Int32)), (.ref b383)])) (fun _ kt => XS.aloadN X388.here hx rfl (hb hby at_13) rfl rfl (XS.iconst X388.here hx rfl (hb hby at_14) (XS.iloadN X388.here hx rfl (hb hby at_15) rfl (XS.bipush X388.here hx rfl (hb hby at_16) (XT.iushr X388.here hx rfl (hb hby at_18) rfl (XS.sipush X388.here hx rfl (hb hby at_19) (XS.iand X388.here hx rfl (hb hby at_22) rfl (XT.i2c X388.here hx rfl (hb hby at_23) rfl kt)))))))) ?_
  obtain ⟨w1, hw1⟩ : ∃ z : Int32, z = (((XT.ushr p1 (8 : Int32)) &&& (255 : Int32)).toUInt32.toUInt16.toUInt32.toInt32) := ⟨_, rfl⟩
  rw [← hw1]
  have b_w1 : ¬ w1 < 0 ∧ ¬ (255 : Int32) < w1 := hw1 ▸ own_ch _
  have n_w1 : nar .char w1 = w1 := by rw [hw1]; exact own_nar _
  obtain ⟨T392, h392, X392, e392, W392, V392, st392⟩ := own_cst X388 hx hZ e388 F391 ⟨by decide, by decide⟩ (i := 1) rfl (by simp) (y := w1) n_w1 (g := (mkF m 24 #[.val (.int p1), .val (.int p2), .val (.int p3), .val (.ref b383), .unset, .unset, .unset, .unset, .unset, .unset, .unset, .unset, .unset, .unset] [(.int w1), (.int (1 : Int32)), (.ref b383)])) rfl rfl (hb hby at_24)
  have N392 := Fr.snoc X392 N388 ge_b383
  have F393 : Safe Z own_EL s.vm h388 b383 := (Safe.wr W388 S386 CR384.1 S386)
  have CR394 : CHr Z own_EL s.vm h0 s.vm h392 := CHr.trans CR389 (CHr.wr W392 F393 CR389.1)
  have Z395 : n0 ≤ h392.size := Nat.le_trans Z390 (Nat.le_of_eq (Wr.size W392).symm)
  have hk395 := Nat.le_trans hk390 (Nat.le_of_eq (Wr.size W392).symm)
  have F396 : Arv Z h392 b383 k383 .char (3 : Int32) [(.int w0), (.int w1), (.int (0 : Int32))] (.int (0 : Int32)) := V392
  refine own_st (T' := T392) (g' := (mkF m 25 #[.val (.int p1), .val (.int p2), .val (.int p3), .val (.ref b383), .unset, .unset, .unset, .unset, .unset, .unset, .unset, .unset, .unset, .unset] [])) st392 ?_
  refine own_st (T' := T392) (g' := (mkF m 36 #[.val (.int p1), .val (.int p2), .val (.int p3), .val (.ref b383), .unset, .unset, .unset, .unset, .unset, .unset, .unset, .unset, .unset, .unset] [(.int (((XT.ushr p1 (16 : Int32)) &&& (255 : Int32)).toUInt32.toUInt16.toUInt32.toInt32)), (.int (2 : Int32)), (.ref b383)])) (fun _ kt => XS.aloadN X392.here hx rfl (hb hby at_25) rfl rfl (XS.iconst X392.here hx rfl (hb hby at_26) (XS.iloadN X392.here hx rfl (hb hby at_27) rfl (XS.bipush X392.here hx rfl (hb hby at_28) (XT.iushr X392.here hx rfl (hb hby at_30) rfl (XS.sipush X392.here hx rfl (hb hby at_31) (XS.iand X392.here hx rfl (hb hby at_34) rfl (XT.i2c X392.here hx rfl (hb hby at_35) rfl kt)))))))) ?_
  obtain ⟨w2, hw2⟩ : ∃ z : Int32, z = (((XT.ushr p1 (16 : Int32)) &&& (255 : Int32)).toUInt32.toUInt16.toUInt32.toInt32) := ⟨_, rfl⟩
  rw [← hw2]
  have b_w2 : ¬ w2 < 0 ∧ ¬ (255 : Int32) < w2 := hw2 ▸ own_ch _
  have n_w2 : nar .char w2 = w2 := by rw [hw2]; exact own_nar _
  obtain ⟨T397, h397, X397, e397, W397, V397, st397⟩ := own_cst X392 hx hZ e392 F396 ⟨by decide, by decide⟩ (i := 2) rfl (by simp) (y := w2) n_w2 (g := (mkF m 36 #[.val (.int p1), .val (.int p2), .val (.int p3), .val (.ref b383), .unset, .unset, .unset, .unset, .unset, .unset, .unset, .unset, .unset, .unset] [(.int w2), (.int (2 : Int32)), (.ref b383)])) rfl rfl (hb hby at_36)
  have N397 := Fr.snoc X397 N392 ge_b383
  have F398 : Safe Z own_EL s.vm h392 b383 := (Safe.wr W392 F393 CR389.1 F393)
  have CR399 : CHr Z own_EL s.vm h0 s.vm h397 := CHr.trans CR394 (CHr.wr W397 F398 CR394.1)
  have Z400 : n0 ≤ h397.size := Nat.le_trans Z395 (Nat.le_of_eq (Wr.size W397).symm)
  have hk400 := Nat.le_trans hk395 (Nat.le_of_eq (Wr.size W397).symm)
  have F401 : Arv Z h397 b383 k383 .char (3 : Int32) [(.int w0), (.int w1), (.int w2)] (.int (0 : Int32)) := V397
  refine own_st (T' := T397) (g' := (mkF m 37 #[.val (.int p1), .val (.int p2), .val (.int p3), .val (.ref b383), .unset, .unset, .unset, .unset, .unset, .unset, .unset, .unset, .unset, .unset] [])) st397 ?_
  refine own_st (T' := T397) (g' := (mkF m 40 #[.val (.int p1), .val (.int p2), .val (.int p3), .val (.ref b383), .unset, .unset, .unset, .unset, .unset, .unset, .unset, .unset, .unset, .unset] [(.int (p3 &&& (3 : Int32)))])) (fun _ kt => XS.iloadN X397.here hx rfl (hb hby at_37) rfl (XS.iconst X397.here hx rfl (hb hby at_38) (XS.iand X397.here hx rfl (hb hby at_39) rfl kt))) ?_
  obtain ⟨nn, hnn⟩ : ∃ z : Int32, z = (p3 &&& (3 : Int32)) := ⟨_, rfl⟩
  rw [← hnn]
  have q_nn : own_q nn := hnn ▸ own_and3 _
  refine own_st (T' := T397) (g' := (mkF m 47 #[.val (.int p1), .val (.int p2), .val (.int p3), .val (.ref b383), .val (.int nn), .unset, .unset, .unset, .unset, .unset, .unset, .unset, .unset, .unset] [(.int ((XT.ushr p3 (2 : Int32)) &&& (3 : Int32)))])) (fun _ kt => XS.istore X397.here hx rfl (hb hby at_40) rfl (l' := #[.val (.int p1), .val (.int p2), .val (.int p3), .val (.ref b383), .val (.int nn), .unset, .unset, .unset, .unset, .unset, .unset, .unset, .unset, .unset]) rfl (XS.iloadN X397.here hx rfl (hb hby at_42) rfl (XS.iconst X397.here hx rfl (hb hby at_43) (XT.iushr X397.here hx rfl (hb hby at_44) rfl (XS.iconst X397.here hx rfl (hb hby at_45) (XS.iand X397.here hx rfl (hb hby at_46) rfl kt)))))) ?_
  obtain ⟨mm, hmm⟩ : ∃ z : Int32, z = ((XT.ushr p3 (2 : Int32)) &&& (3 : Int32)) := ⟨_, rfl⟩
  rw [← hmm]
  have q_mm : own_q mm := hmm ▸ own_and3 _
  refine own_st (T' := T397) (g' := (mkF m 55 #[.val (.int p1), .val (.int p2), .val (.int p3), .val (.ref b383), .val (.int nn), .val (.int mm), .unset, .unset, .unset, .unset, .unset, .unset, .unset, .unset] [(.int ((XT.ushr p3 (4 : Int32)) &&& (7 : Int32)))])) (fun _ kt => XS.istore X397.here hx rfl (hb hby at_47) rfl (l' := #[.val (.int p1), .val (.int p2), .val (.int p3), .val (.ref b383), .val (.int nn), .val (.int mm), .unset, .unset, .unset, .unset, .unset, .unset, .unset, .unset]) rfl (XS.iloadN X397.here hx rfl (hb hby at_49) rfl (XS.iconst X397.here hx rfl (hb hby at_50) (XT.iushr X397.here hx rfl (hb hby at_51) rfl (XS.bipush X397.here hx rfl (hb hby at_52) (XS.iand X397.here hx rfl (hb hby at_54) rfl kt)))))) ?_
  obtain ⟨cp, hcp⟩ : ∃ z : Int32, z = ((XT.ushr p3 (4 : Int32)) &&& (7 : Int32)) := ⟨_, rfl⟩
  rw [← hcp]
  refine own_st (T' := T397) (g' := (mkF m 57 #[.val (.int p1), .val (.int p2), .val (.int p3), .val (.ref b383), .val (.int nn), .val (.int mm), .val (.int cp), .unset, .unset, .unset, .unset, .unset, .unset, .unset] [])) (fun _ kt => XS.istore X397.here hx rfl (hb hby at_55) rfl (l' := #[.val (.int p1), .val (.int p2), .val (.int p3), .val (.ref b383), .val (.int nn), .val (.int mm), .val (.int cp), .unset, .unset, .unset, .unset, .unset, .unset, .unset]) rfl kt) ?_
  refine own_joinHV (α := Int32 × Int32) X397 (cells' := 1) (slots' := 3) (gj := fun q => (mkF m 94 #[.val (.int p1), .val (.int p2), .val (.int p3), .val (.ref b383), .val (.int nn), .val (.int mm), .val (.int cp), .val (.int q.2), .unset, .unset, .unset, .unset, .unset, .unset] [(.int q.1)])) (P := fun vm_ k_ L_ h_ q => (Fr n0 L_) ∧ (n0 ≤ h_.size) ∧ (Old Z n0 h_) ∧ (CHr Z own_EL s.vm h0 vm_ h_) ∧ (s.Since vm_ k_) ∧ (k_ ≤ h_.size) ∧ (Z.Warmed39 (s.setVm vm_).vm) ∧ ((s.setVm vm_).vm.findClass "com/example/tally_rank/tallyrank/analysis/SuffixWordEndsWithPinLaw" = some m.cls) ∧ (Arv Z h_ b383 k383 .char (3 : Int32) [(.int w0), (.int w1), (.int w2)] (.int (0 : Int32))) ∧ (own_q q.1 ∧ ¬ nn < q.1 ∧ (q.2 = 0 ∨ q.2 = 1) ∧ (q.2 = 0 → q.1 = nn))) ?_ (fun J402 => ?_)
  · rintro vm402 k402 T402 L402 h402 ⟨ln, dc⟩ ⟨N402, Z402, O402, CR402, hS402, hk402, hZ402, hown402, F403, hj402⟩ X402 e402
    try dsimp only at F403 hj402 ⊢
    refine own_st (T' := T402) (g' := (mkF m 96 #[.val (.int p1), .val (.int p2), .val (.int p3), .val (.ref b383), .val (.int nn), .val (.int mm), .val (.int cp), .val (.int dc), .val (.int ln), .unset, .unset, .unset, .unset, .unset] [])) (fun _ kt => XS.istore X402.here hx rfl (hb hby at_94) rfl (l' := #[.val (.int p1), .val (.int p2), .val (.int p3), .val (.ref b383), .val (.int nn), .val (.int mm), .val (.int cp), .val (.int dc), .val (.int ln), .unset, .unset, .unset, .unset, .unset]) rfl kt) ?_
    obtain ⟨q_ln, le_ln, dc01, dc0⟩ := hj402
    refine own_st (T' := T402) (g' := (mkF m 97 #[.val (.int p1), .val (.int p2), .val (.int p3), .val (.ref b383), .val (.int nn), .val (.int mm), .val (.int cp), .val (.int dc), .val (.int ln), .unset, .unset, .unset, .unset, .unset] [(.int (3 : Int32))])) (fun _ kt => XS.iconst X402.here hx rfl (hb hby at_96) kt) ?_
    obtain ⟨T404, h404, k404, X404, e404, E404, A404, st404⟩ := newP X402 hx hZ402 (aty := .char) (own_k hw 0 rfl) e402 (g := (mkF m 97 #[.val (.int p1), .val (.int p2), .val (.int p3), .val (.ref b383), .val (.int nn), .val (.int mm), .val (.int cp), .val (.int dc), .val (.int ln), .unset, .unset, .unset, .unset, .unset] [(.int (3 : Int32))])) rfl (hb hby at_97) rfl (by decide) (cap := 3) (by decide) (by decide) (by decide) (by decide)
    obtain ⟨b404, g404⟩ : ∃ z, z = h402.size := ⟨_, rfl⟩
    rw [← g404] at A404 st404
    have ne405 : b383 ≠ b404 := by rw [g404]; exact Nat.ne_of_lt F403.lt
    have CR406 : CHr Z own_EL s.vm h0 vm402 h404 := CHr.trans CR402 (CHr.ext E404 CR402.1)
    have Z407 : n0 ≤ h404.size := Nat.le_trans Z402 E404.1
    have hk407 := Nat.le_trans hk402 E404.1
    have ge_b404 : n0 ≤ b404 := Nat.le_trans Z402 (Nat.le_of_eq g404.symm)
    have S408 : Safe Z own_EL vm402 h404 b404 := (Safe.ext E404 CR402.1 (Safe.new (Nat.le_of_eq g404.symm)))
    have F409 : Arv Z h404 b404 k404 .char (3 : Int32) [(.int (0 : Int32)), (.int (0 : Int32)), (.int (0 : Int32))] (.int (0 : Int32)) := (Arv.new A404 (by decide)).pad (pad_rep [] (.int (0 : Int32)) 3)
    refine own_st (T' := T404) (g' := (mkF m 99 #[.val (.int p1), .val (.int p2), .val (.int p3), .val (.ref b383), .val (.int nn), .val (.int mm), .val (.int cp), .val (.int dc), .val (.int ln), .unset, .unset, .unset, .unset, .unset] [(.ref b404)])) st404 ?_
    refine own_st (T' := T404) (g' := (mkF m 110 #[.val (.int p1), .val (.int p2), .val (.int p3), .val (.ref b383), .val (.int nn), .val (.int mm), .val (.int cp), .val (.int dc), .val (.int ln), .val (.ref b404), .unset, .unset, .unset, .unset] [(.int ((p2 &&& (255 : Int32)).toUInt32.toUInt16.toUInt32.toInt32)), (.int (0 : Int32)), (.ref b404)])) (fun _ kt => XS.astore X404.here hx rfl (hb hby at_99) rfl rfl (l' := #[.val (.int p1), .val (.int p2), .val (.int p3), .val (.ref b383), .val (.int nn), .val (.int mm), .val (.int cp), .val (.int dc), .val (.int ln), .val (.ref b404), .unset, .unset, .unset, .unset]) rfl (XS.aload X404.here hx rfl (hb hby at_101) rfl rfl (XS.iconst X404.here hx rfl (hb hby at_103) (XS.iloadN X404.here hx rfl (hb hby at_104) rfl (XS.sipush X404.here hx rfl (hb hby at_105) (XS.iand X404.here hx rfl (hb hby at_108) rfl (XT.i2c X404.here hx rfl (hb hby at_109) rfl kt))))))) ?_
    obtain ⟨s0, hs0⟩ : ∃ z : Int32, z = ((p2 &&& (255 : Int32)).toUInt32.toUInt16.toUInt32.toInt32) := ⟨_, rfl⟩
    rw [← hs0]
    have b_s0 : ¬ s0 < 0 ∧ ¬ (255 : Int32) < s0 := hs0 ▸ own_ch _
    have n_s0 : nar .char s0 = s0 := by rw [hs0]; exact own_nar _
    obtain ⟨T410, h410, X410, e410, W410, V410, st410⟩ := own_cst X404 hx hZ402 e404 F409 ⟨by decide, by decide⟩ (i := 0) rfl (by simp) (y := s0) n_s0 (g := (mkF m 110 #[.val (.int p1), .val (.int p2), .val (.int p3), .val (.ref b383), .val (.int nn), .val (.int mm), .val (.int cp), .val (.int dc), .val (.int ln), .val (.ref b404), .unset, .unset, .unset, .unset] [(.int s0), (.int (0 : Int32)), (.ref b404)])) rfl rfl (hb hby at_110)
    have N410 := Fr.snoc X410 N402 ge_b404
    have CR411 : CHr Z own_EL s.vm h0 vm402 h410 := CHr.trans CR406 (CHr.wr W410 S408 CR406.1)
    have Z412 : n0 ≤ h410.size := Nat.le_trans Z407 (Nat.le_of_eq (Wr.size W410).symm)
    have hk412 := Nat.le_trans hk407 (Nat.le_of_eq (Wr.size W410).symm)
    have F413 : Arv Z h410 b404 k404 .char (3 : Int32) [(.int s0), (.int (0 : Int32)), (.int (0 : Int32))] (.int (0 : Int32)) := V410
    refine own_st (T' := T410) (g' := (mkF m 111 #[.val (.int p1), .val (.int p2), .val (.int p3), .val (.ref b383), .val (.int nn), .val (.int mm), .val (.int cp), .val (.int dc), .val (.int ln), .val (.ref b404), .unset, .unset, .unset, .unset] [])) st410 ?_
    refine own_st (T' := T410) (g' := (mkF m 123 #[.val (.int p1), .val (.int p2), .val (.int p3), .val (.ref b383), .val (.int nn), .val (.int mm), .val (.int cp), .val (.int dc), .val (.int ln), .val (.ref b404), .unset, .unset, .unset, .unset] [(.int (((XT.ushr p2 (8 : Int32)) &&& (255 : Int32)).toUInt32.toUInt16.toUInt32.toInt32)), (.int (1 : Int32)), (.ref b404)])) (fun _ kt => XS.aload X410.here hx rfl (hb hby at_111) rfl rfl (XS.iconst X410.here hx rfl (hb hby at_113) (XS.iloadN X410.here hx rfl (hb hby at_114) rfl (XS.bipush X410.here hx rfl (hb hby at_115) (XT.iushr X410.here hx rfl (hb hby at_117) rfl (XS.sipush X410.here hx rfl (hb hby at_118) (XS.iand X410.here hx rfl (hb hby at_121) rfl (XT.i2c X410.here hx rfl (hb hby at_122) rfl kt)))))))) ?_
    obtain ⟨s1, hs1⟩ : ∃ z : Int32, z = (((XT.ushr p2 (8 : Int32)) &&& (255 : Int32)).toUInt32.toUInt16.toUInt32.toInt32) := ⟨_, rfl⟩
    rw [← hs1]
    have b_s1 : ¬ s1 < 0 ∧ ¬ (255 : Int32) < s1 := hs1 ▸ own_ch _
    have n_s1 : nar .char s1 = s1 := by rw [hs1]; exact own_nar _
    obtain ⟨T414, h414, X414, e414, W414, V414, st414⟩ := own_cst X410 hx hZ402 e410 F413 ⟨by decide, by decide⟩ (i := 1) rfl (by simp) (y := s1) n_s1 (g := (mkF m 123 #[.val (.int p1), .val (.int p2), .val (.int p3), .val (.ref b383), .val (.int nn), .val (.int mm), .val (.int cp), .val (.int dc), .val (.int ln), .val (.ref b404), .unset, .unset, .unset, .unset] [(.int s1), (.int (1 : Int32)), (.ref b404)])) rfl rfl (hb hby at_123)
    have N414 := Fr.snoc X414 N410 ge_b404
    have F415 : Safe Z own_EL vm402 h410 b404 := (Safe.wr W410 S408 CR406.1 S408)
    have CR416 : CHr Z own_EL s.vm h0 vm402 h414 := CHr.trans CR411 (CHr.wr W414 F415 CR411.1)
    have Z417 : n0 ≤ h414.size := Nat.le_trans Z412 (Nat.le_of_eq (Wr.size W414).symm)
    have hk417 := Nat.le_trans hk412 (Nat.le_of_eq (Wr.size W414).symm)
    have F418 : Arv Z h414 b404 k404 .char (3 : Int32) [(.int s0), (.int s1), (.int (0 : Int32))] (.int (0 : Int32)) := V414
    refine own_st (T' := T414) (g' := (mkF m 124 #[.val (.int p1), .val (.int p2), .val (.int p3), .val (.ref b383), .val (.int nn), .val (.int mm), .val (.int cp), .val (.int dc), .val (.int ln), .val (.ref b404), .unset, .unset, .unset, .unset] [])) st414 ?_
    refine own_st (T' := T414) (g' := (mkF m 136 #[.val (.int p1), .val (.int p2), .val (.int p3), .val (.ref b383), .val (.int nn), .val (.int mm), .val (.int cp), .val (.int dc), .val (.int ln), .val (.ref b404), .unset, .unset, .unset, .unset] [(.int (((XT.ushr p2 (16 : Int32)) &&& (255 : Int32)).toUInt32.toUInt16.toUInt32.toInt32)), (.int (2 : Int32)), (.ref b404)])) (fun _ kt => XS.aload X414.here hx rfl (hb hby at_124) rfl rfl (XS.iconst X414.here hx rfl (hb hby at_126) (XS.iloadN X414.here hx rfl (hb hby at_127) rfl (XS.bipush X414.here hx rfl (hb hby at_128) (XT.iushr X414.here hx rfl (hb hby at_130) rfl (XS.sipush X414.here hx rfl (hb hby at_131) (XS.iand X414.here hx rfl (hb hby at_134) rfl (XT.i2c X414.here hx rfl (hb hby at_135) rfl kt)))))))) ?_
    obtain ⟨s2, hs2⟩ : ∃ z : Int32, z = (((XT.ushr p2 (16 : Int32)) &&& (255 : Int32)).toUInt32.toUInt16.toUInt32.toInt32) := ⟨_, rfl⟩
    rw [← hs2]
    have b_s2 : ¬ s2 < 0 ∧ ¬ (255 : Int32) < s2 := hs2 ▸ own_ch _
    have n_s2 : nar .char s2 = s2 := by rw [hs2]; exact own_nar _
    obtain ⟨T419, h419, X419, e419, W419, V419, st419⟩ := own_cst X414 hx hZ402 e414 F418 ⟨by decide, by decide⟩ (i := 2) rfl (by simp) (y := s2) n_s2 (g := (mkF m 136 #[.val (.int p1), .val (.int p2), .val (.int p3), .val (.ref b383), .val (.int nn), .val (.int mm), .val (.int cp), .val (.int dc), .val (.int ln), .val (.ref b404), .unset, .unset, .unset, .unset] [(.int s2), (.int (2 : Int32)), (.ref b404)])) rfl rfl (hb hby at_136)
    have N419 := Fr.snoc X419 N414 ge_b404
    have F420 : Safe Z own_EL vm402 h414 b404 := (Safe.wr W414 F415 CR411.1 F415)
    have CR421 : CHr Z own_EL s.vm h0 vm402 h419 := CHr.trans CR416 (CHr.wr W419 F420 CR416.1)
    have Z422 : n0 ≤ h419.size := Nat.le_trans Z417 (Nat.le_of_eq (Wr.size W419).symm)
    have hk422 := Nat.le_trans hk417 (Nat.le_of_eq (Wr.size W419).symm)
    have F423 : Arv Z h419 b404 k404 .char (3 : Int32) [(.int s0), (.int s1), (.int s2)] (.int (0 : Int32)) := V419
    refine own_st (T' := T419) (g' := (mkF m 137 #[.val (.int p1), .val (.int p2), .val (.int p3), .val (.ref b383), .val (.int nn), .val (.int mm), .val (.int cp), .val (.int dc), .val (.int ln), .val (.ref b404), .unset, .unset, .unset, .unset] [])) st419 ?_
    refine own_joinHV (α := Int32) X419 (cells' := 2) (slots' := 6) (gj := fun q => (mkF m 169 #[.val (.int p1), .val (.int p2), .val (.int p3), .val (.ref b383), .val (.int nn), .val (.int mm), .val (.int cp), .val (.int dc), .val (.int ln), .val (.ref b404), .unset, .unset, .unset, .unset] [])) (P := fun vm_ k_ L_ h_ q => (Fr n0 L_) ∧ (n0 ≤ h_.size) ∧ (Old Z n0 h_) ∧ (CHr Z own_EL s.vm h0 vm_ h_) ∧ (s.Since vm_ k_) ∧ (k_ ≤ h_.size) ∧ (Z.Warmed39 (s.setVm vm_).vm) ∧ ((s.setVm vm_).vm.findClass "com/example/tally_rank/tallyrank/analysis/SuffixWordEndsWithPinLaw" = some m.cls) ∧ (Arv Z h_ b383 k383 .char (3 : Int32) [(.int w0), (.int w1), (.int w2)] (.int (0 : Int32))) ∧ (Arv Z h_ b404 k404 .char (3 : Int32) [(.int q), (.int s1), (.int s2)] (.int (0 : Int32))) ∧ (nar .char q = q)) ?_ (fun J424 => ?_)
    · rintro vm424 k424 T424 L424 h424 x0 ⟨N424, Z424, O424, CR424, hS424, hk424, hZ424, hown424, F425, F426, hj424⟩ X424 e424
      try dsimp only at F425 F426 hj424 ⊢
      have n_x0 := hj424
      refine own_joinHV (α := Int32) X424 (cells' := 2) (slots' := 6) (gj := fun q => (mkF m 205 #[.val (.int p1), .val (.int p2), .val (.int p3), .val (.ref b383), .val (.int nn), .val (.int mm), .val (.int cp), .val (.int dc), .val (.int ln), .val (.ref b404), .unset, .unset, .unset, .unset] [])) (P := fun vm_ k_ L_ h_ q => (Fr n0 L_) ∧ (n0 ≤ h_.size) ∧ (Old Z n0 h_) ∧ (CHr Z own_EL s.vm h0 vm_ h_) ∧ (s.Since vm_ k_) ∧ (k_ ≤ h_.size) ∧ (Z.Warmed39 (s.setVm vm_).vm) ∧ ((s.setVm vm_).vm.findClass "com/example/tally_rank/tallyrank/analysis/SuffixWordEndsWithPinLaw" = some m.cls) ∧ (Arv Z h_ b383 k383 .char (3 : Int32) [(.int w0), (.int w1), (.int w2)] (.int (0 : Int32))) ∧ (Arv Z h_ b404 k404 .char (3 : Int32) [(.int x0), (.int q), (.int s2)] (.int (0 : Int32))) ∧ (nar .char q = q)) ?_ (fun J427 => ?_)
      · rintro vm427 k427 T427 L427 h427 x1 ⟨N427, Z427, O427, CR427, hS427, hk427, hZ427, hown427, F428, F429, hj427⟩ X427 e427
        try dsimp only at F428 F429 hj427 ⊢
        have n_x1 := hj427
        refine own_joinHV (α := Int32) X427 (cells' := 2) (slots' := 6) (gj := fun q => (mkF m 241 #[.val (.int p1), .val (.int p2), .val (.int p3), .val (.ref b383), .val (.int nn), .val (.int mm), .val (.int cp), .val (.int dc), .val (.int ln), .val (.ref b404), .unset, .unset, .unset, .unset] [])) (P := fun vm_ k_ L_ h_ q => (Fr n0 L_) ∧ (n0 ≤ h_.size) ∧ (Old Z n0 h_) ∧ (CHr Z own_EL s.vm h0 vm_ h_) ∧ (s.Since vm_ k_) ∧ (k_ ≤ h_.size) ∧ (Z.Warmed39 (s.setVm vm_).vm) ∧ ((s.setVm vm_).vm.findClass "com/example/tally_rank/tallyrank/analysis/SuffixWordEndsWithPinLaw" = some m.cls) ∧ (Arv Z h_ b383 k383 .char (3 : Int32) [(.int w0), (.int w1), (.int w2)] (.int (0 : Int32))) ∧ (Arv Z h_ b404 k404 .char (3 : Int32) [(.int x0), (.int x1), (.int q)] (.int (0 : Int32))) ∧ (nar .char q = q)) ?_ (fun J430 => ?_)
        · rintro vm430 k430 T430 L430 h430 x2 ⟨N430, Z430, O430, CR430, hS430, hk430, hZ430, hown430, F431, F432, hj430⟩ X430 e430
          try dsimp only at F431 F432 hj430 ⊢
          have n_x2 := hj430
          refine own_joinHV (α := Addr × ClassId) X430 (cells' := 3) (slots' := 9) (gj := fun q => (mkF m 250 #[.val (.int p1), .val (.int p2), .val (.int p3), .val (.ref b383), .val (.int nn), .val (.int mm), .val (.int cp), .val (.int dc), .val (.int ln), .val (.ref b404), .val (.ref q.1), .unset, .unset, .unset] [])) (P := fun vm_ k_ L_ h_ q => (Fr n0 L_) ∧ (n0 ≤ h_.size) ∧ (Old Z n0 h_) ∧ (CHr Z own_EL s.vm h0 vm_ h_) ∧ (s.Since vm_ k_) ∧ (k_ ≤ h_.size) ∧ (Z.Warmed39 (s.setVm vm_).vm) ∧ ((s.setVm vm_).vm.findClass "com/example/tally_rank/tallyrank/analysis/SuffixWordEndsWithPinLaw" = some m.cls) ∧ (Arv Z h_ b383 k383 .char (3 : Int32) [(.int w0), (.int w1), (.int w2)] (.int (0 : Int32))) ∧ (Arv Z h_ b404 k404 .char (3 : Int32) [(.int x0), (.int x1), (.int x2)] (.int (0 : Int32))) ∧ (Arv Z h_ q.1 q.2 .char mm (own_tk mm x0 x1 x2) (.int (0 : Int32)))) ?_ (fun J433 => ?_)
          · rintro vm433 k433 T433 L433 h433 ⟨sx, kx_⟩ ⟨N433, Z433, O433, CR433, hS433, hk433, hZ433, hown433, F434, F435, F436⟩ X433 e433
            try dsimp only at F434 F435 F436 ⊢
            refine own_joinHV (α := Addr × Addr × ClassId × Addr) X433 (cells' := 12) (slots' := 33) (gj := fun q => (mkF m 276 #[.val (.int p1), .val (.int p2), .val (.int p3), .val (.ref b383), .val (.int nn), .val (.int mm), .val (.int cp), .val (.int dc), .val (.int ln), .val (.ref b404), .val (.ref sx), .val (.ref q.2.2.2), .val (.ref q.1), .unset] [])) (P := fun vm_ k_ L_ h_ q => (Fr n0 L_) ∧ (n0 ≤ h_.size) ∧ (Old Z n0 h_) ∧ (CHr Z own_EL s.vm h0 vm_ h_) ∧ (s.Since vm_ k_) ∧ (k_ ≤ h_.size) ∧ (Z.Warmed39 (s.setVm vm_).vm) ∧ ((s.setVm vm_).vm.findClass "com/example/tally_rank/tallyrank/analysis/SuffixWordEndsWithPinLaw" = some m.cls) ∧ (Arv Z h_ b383 k383 .char (3 : Int32) [(.int w0), (.int w1), (.int w2)] (.int (0 : Int32))) ∧ (Arv Z h_ b404 k404 .char (3 : Int32) [(.int x0), (.int x1), (.int x2)] (.int (0 : Int32))) ∧ (Arv Z h_ sx kx_ .char mm (own_tk mm x0 x1 x2) (.int (0 : Int32))) ∧ (Exa Z h_ q.1 "com/example/tally_rank/tallyrank/analysis/SuffixWord") ∧ (n0 ≤ q.1) ∧ (Fld Z h_ q.1 "com/example/tally_rank/tallyrank/analysis/SuffixWord" "letters" "[C" (.ref q.2.1)) ∧ (Fld Z h_ q.1 "com/example/tally_rank/tallyrank/analysis/SuffixWord" "length" "I" (.int nn)) ∧ (Arv Z h_ q.2.1 q.2.2.1 .char nn (own_tk nn w0 w1 w2) (.int (0 : Int32))) ∧ (q.2.1 ≠ q.1)) ?_ (fun J437 => ?_)
            · rintro vm437 k437 T437 L437 h437 ⟨sw, la, kl, sv⟩ ⟨N437, Z437, O437, CR437, hS437, hk437, hZ437, hown437, F438, F439, F440, F441, F442, F443, F444, F445, F446⟩ X437 e437
              try dsimp only at F438 F439 F440 F441 F442 F443 F444 F445 F446 ⊢
              rcases dc01 with rfl | rfl
              · -- doCut = 0
                obtain rfl : ln = nn := dc0 rfl
                refine own_st (T' := T437) (g' := (mkF m 295 #[.val (.int p1), .val (.int p2), .val (.int p3), .val (.ref b383), .val (.int ln), .val (.int mm), .val (.int cp), .val (.int (0 : Int32)), .val (.int ln), .val (.ref b404), .val (.ref sx), .val (.ref sv), .val (.ref sw), .unset] [(.int mm), (.ref b404), (.int ln), (.ref b383)])) (fun _ kt => XS.iload X437.here hx rfl (hb hby at_276) rfl (XS.ifYes X437.here hx rfl (pc0 := 278) (pc' := 288) rfl (hb hby at_278) rfl (XT.i0_eq_t (by decide)) (by decide) (by decide) (XS.aloadN X437.here hx rfl (hb hby at_288) rfl rfl (XS.iload X437.here hx rfl (hb hby at_289) rfl (XS.aload X437.here hx rfl (hb hby at_291) rfl rfl (XS.iload X437.here hx rfl (hb hby at_293) rfl kt)))))) ?_
                obtain ⟨_, _, ⟨T447, L447, k447, n447⟩, -, X447, ⟨Lc447, hQ447, l447, y447, z447⟩, st447⟩ := Jvm.LawKit.callS X437 hx (y := (⟨"com/example/tally_rank/tallyrank/analysis/SuffixWordEndsWithPinLaw", "ref", "([CI[CI)Z"⟩ : MethodName)) hown437 (mvT hZ437 (own_k hw 72 rfl)) (mvT hZ437 (own_k hw 73 rfl)) (mvT hZ437 (own_k hw 3 rfl)) (mvT hZ437 (own_k hw 74 rfl)) (by decide) (backOf (W := 0) (own_ref l Z a0 hw [] b383 ln b404 mm k383 k404 w0 w1 w2 x0 x1 x2 h437 n0 Z437 F438 F439 q_mm q_ln) hZ437 (own_k hw 74 rfl) (own_k hw 3 rfl) (by decide) (by decide)) (g := (mkF m 295 #[.val (.int p1), .val (.int p2), .val (.int p3), .val (.ref b383), .val (.int ln), .val (.int mm), .val (.int cp), .val (.int (0 : Int32)), .val (.int ln), .val (.ref b404), .val (.ref sx), .val (.ref sv), .val (.ref sw), .unset] [(.int mm), (.ref b404), (.int ln), (.ref b383)])) rfl hml.symm  (argsL := [(.ref b383), (.int ln), (.ref b404), (.int mm)]) (rest := []) (lenOf own_pd8 rfl) rfl (by show 2 * 0 + _ ≤ _; exact Nat.le_of_eq rfl) (hb hby at_295) (fun _ _ => ⟨rfl, e437, (by decide : 12 + 0 ≤ 32), (by decide : 33 + 0 ≤ 1152)⟩)
                dsimp only [Pt.U, Pt.locs, Pt.cells, Pt.slots] at X447 l447 y447 z447 st447 hQ447
                subst l447 y447 z447
                obtain ⟨rfl, N447, e447⟩ := hQ447
                have N448 := Fr.app N437 N447
                refine own_st (T' := T447) (g' := (mkF m 298 #[.val (.int p1), .val (.int p2), .val (.int p3), .val (.ref b383), .val (.int ln), .val (.int mm), .val (.int cp), .val (.int (0 : Int32)), .val (.int ln), .val (.ref b404), .val (.ref sx), .val (.ref sv), .val (.ref sw), .unset] [(.int (own_rf w0 w1 w2 ln x0 x1 x2 mm))])) st447 ?_
                refine own_st (T' := T447) (g' := (mkF m 304 #[.val (.int p1), .val (.int p2), .val (.int p3), .val (.ref b383), .val (.int ln), .val (.int mm), .val (.int cp), .val (.int (0 : Int32)), .val (.int ln), .val (.ref b404), .val (.ref sx), .val (.ref sv), .val (.ref sw), .val (.int (own_rf w0 w1 w2 ln x0 x1 x2 mm))] [(.ref sx), (.ref sw)])) (fun _ kt => XS.istore X447.here hx rfl (hb hby at_298) rfl (l' := #[.val (.int p1), .val (.int p2), .val (.int p3), .val (.ref b383), .val (.int ln), .val (.int mm), .val (.int cp), .val (.int (0 : Int32)), .val (.int ln), .val (.ref b404), .val (.ref sx), .val (.ref sv), .val (.ref sw), .val (.int (own_rf w0 w1 w2 ln x0 x1 x2 mm))]) rfl (XS.aload X447.here hx rfl (hb hby at_300) rfl rfl (XS.aload X447.here hx rfl (hb hby at_302) rfl rfl kt))) ?_
                obtain ⟨cq450, kq450, qa450, qb450, qc450⟩ := isOf hZ437 e447 F441
                obtain ⟨_, _, ⟨T449, L449, k449, n449⟩, -, X449, ⟨Lc449, hQ449, l449, y449, z449⟩, st449⟩ := X447.virtualBack hx (y := (⟨"com/example/tally_rank/tallyrank/analysis/SuffixWord", "endsWith", "([C)Z"⟩ : MethodName)) (z := (⟨"com/example/tally_rank/tallyrank/analysis/SuffixWord", "endsWith", "([C)Z"⟩ : MethodName)) hown437 (mvT hZ437 (own_k hw 75 rfl)) (mvT hZ437 (own_k hw 76 rfl)) (notFace_of_selects (args := #[]) (mvT hZ437 (own_k hw 78 rfl))) (mvT hZ437 (own_k hw 78 rfl)) (mvT hZ437 (own_k hw 77 rfl)) (by decide) (backOf (W := 0) (own_ends l Z a0 hw [] sw sx ln mm la kl ln kx_ w0 w1 w2 x0 x1 x2 h437 n0 Z437 F444 F443 F445 F440 q_mm q_ln q_ln (show ¬ ln < ln from Int32.lt_irrefl)) hZ437 (own_k hw 79 rfl) (own_k hw 36 rfl) (by decide) (by decide)) qa450 qc450 (g := (mkF m 304 #[.val (.int p1), .val (.int p2), .val (.int p3), .val (.ref b383), .val (.int ln), .val (.int mm), .val (.int cp), .val (.int (0 : Int32)), .val (.int ln), .val (.ref b404), .val (.ref sx), .val (.ref sv), .val (.ref sw), .val (.int (own_rf w0 w1 w2 ln x0 x1 x2 mm))] [(.ref sx), (.ref sw)])) rfl hml.symm (Steps.refl _) (argsL := [(.ref sx)]) (rest := []) (lenOf own_pd9 rfl) rfl (by show 2 * 0 + _ ≤ _; exact Nat.le_of_eq rfl) (hb hby at_304) (fun _ _ => ⟨rfl, e447, (by decide : 12 + 0 ≤ 32), (by decide : 33 + 0 ≤ 1152)⟩)
                dsimp only [Pt.U, Pt.locs, Pt.cells, Pt.slots] at X449 l449 y449 z449 st449 hQ449
                subst l449 y449 z449
                obtain ⟨rfl, N449, e449⟩ := hQ449
                have N451 := Fr.app N448 N449
                refine own_tr (T' := T449) (g' := (mkF m 307 #[.val (.int p1), .val (.int p2), .val (.int p3), .val (.ref b383), .val (.int ln), .val (.int mm), .val (.int cp), .val (.int (0 : Int32)), .val (.int ln), .val (.ref b404), .val (.ref sx), .val (.ref sv), .val (.ref sw), .val (.int (own_rf w0 w1 w2 ln x0 x1 x2 mm))] [(.int (own_rf w0 w1 w2 ln x0 x1 x2 mm))])) st449 ?_
                refine own_st (T' := T449) (g' := (mkF m 317 #[.val (.int p1), .val (.int p2), .val (.int p3), .val (.ref b383), .val (.int ln), .val (.int mm), .val (.int cp), .val (.int (0 : Int32)), .val (.int ln), .val (.ref b404), .val (.ref sx), .val (.ref sv), .val (.ref sw), .val (.int (own_rf w0 w1 w2 ln x0 x1 x2 mm))] [(.int (1 : Int32))])) (fun _ kt => XS.iload X449.here hx rfl (hb hby at_307) rfl (XS.icmpNo X449.here hx rfl (hb hby at_309) rfl (XT.ii_ne_f rfl) (XS.iconst X449.here hx rfl (hb hby at_312) (XS.goto X449.here hx rfl (pc0 := 313) (pc' := 317) rfl (hb hby at_313) (by decide) (by decide) kt)))) ?_
                obtain ⟨fs, hr, hrun, hended, hE⟩ := Stand.leaveW X449 hS437 (by rw [e449]; exact hk437) (v := some (.int (1 : Int32))) (fun h => by rw [Bd.returns] at h; cases h)
                refine own_end (retN X449 hx (t := .boolean) Bd.returns (by simp) (hb hby at_317) hr) ⟨_, hrun, hended, _, _, rfl, ?_, (by rw [hh]; show CHr Z own_EL s.vm h0 T449.vm T449.heap; rw [e449]; exact CHr.trans CR437 (CHv.at X449 hZ437 (own_EW hw) CR437.1)), ⟨hE.1, hE.2.1, hE.2.2.1, hE.2.2.2.mono (by decide) (by decide)⟩⟩
                show own_lawQ Z _ _ _ _ h0 n0 _ T449.heap _
                rw [e449]
                exact ⟨rfl, N451⟩
              · -- doCut = 1
                refine own_st (T' := T437) (g' := (mkF m 285 #[.val (.int p1), .val (.int p2), .val (.int p3), .val (.ref b383), .val (.int nn), .val (.int mm), .val (.int cp), .val (.int (1 : Int32)), .val (.int ln), .val (.ref b404), .val (.ref sx), .val (.ref sv), .val (.ref sw), .unset] [(.int ln), (.ref sw)])) (fun _ kt => XS.iload X437.here hx rfl (hb hby at_276) rfl (XS.ifNo X437.here hx rfl (hb hby at_278) rfl (XT.i0_eq_f (by decide)) (XS.aload X437.here hx rfl (hb hby at_281) rfl rfl (XS.iload X437.here hx rfl (hb hby at_283) rfl kt)))) ?_
                obtain ⟨cq453, kq453, qa453, qb453, qc453⟩ := isOf hZ437 e437 F441
                obtain ⟨_, _, ⟨T452, L452, k452, n452⟩, -, X452, ⟨Lc452, hQ452, l452, y452, z452⟩, st452⟩ := X437.virtualBack hx (y := (⟨"com/example/tally_rank/tallyrank/analysis/SuffixWord", "cut", "(I)V"⟩ : MethodName)) (z := (⟨"com/example/tally_rank/tallyrank/analysis/SuffixWord", "cut", "(I)V"⟩ : MethodName)) hown437 (mvT hZ437 (own_k hw 84 rfl)) (mvT hZ437 (own_k hw 85 rfl)) (notFace_of_selects (args := #[]) (mvT hZ437 (own_k hw 87 rfl))) (mvT hZ437 (own_k hw 87 rfl)) (mvT hZ437 (own_k hw 86 rfl)) (by decide) (backOf (W := 0) (own_r27 l Z a0 hw [] sw ln nn la h437 n0 Z437 F441 F442 F444 F443) hZ437 (own_k hw 88 rfl) (own_k hw 36 rfl) (by decide) (by decide)) qa453 qc453 (g := (mkF m 285 #[.val (.int p1), .val (.int p2), .val (.int p3), .val (.ref b383), .val (.int nn), .val (.int mm), .val (.int cp), .val (.int (1 : Int32)), .val (.int ln), .val (.ref b404), .val (.ref sx), .val (.ref sv), .val (.ref sw), .unset] [(.int ln), (.ref sw)])) rfl hml.symm (Steps.refl _) (argsL := [(.int ln)]) (rest := []) (lenOf own_pd10 rfl) rfl (by show 2 * 0 + _ ≤ _; exact Nat.le_of_eq rfl) (hb hby at_285) (fun _ _ => ⟨rfl, e437, (by decide : 12 + 0 ≤ 32), (by decide : 33 + 0 ≤ 1152)⟩)
                dsimp only [Pt.U, Pt.locs, Pt.cells, Pt.slots] at X452 l452 y452 z452 st452 hQ452
                subst l452 y452 z452
                obtain ⟨rfl, N452, K452_, P454, P455, P456⟩ := hQ452
                have N457 := Fr.app N437 N452
                have CR458 : CHr Z own_EL s.vm h0 vm437 T452.heap := CHr.trans CR437 (CHr.keep K452_ (sfS (Safe.exa (State.Warmed39.alike hZ437) F441 (by decide) (by decide)) sf0) CR437.1)
                have Z459 : n0 ≤ T452.heap.size := Nat.le_trans Z437 K452_.1
                have hk459 := Nat.le_trans hk437 K452_.1
                refine own_tr (T' := T452) (g' := (mkF m 288 #[.val (.int p1), .val (.int p2), .val (.int p3), .val (.ref b383), .val (.int nn), .val (.int mm), .val (.int cp), .val (.int (1 : Int32)), .val (.int ln), .val (.ref b404), .val (.ref sx), .val (.ref sv), .val (.ref sw), .unset] [])) st452 ?_
                refine own_st (T' := T452) (g' := (mkF m 295 #[.val (.int p1), .val (.int p2), .val (.int p3), .val (.ref b383), .val (.int nn), .val (.int mm), .val (.int cp), .val (.int (1 : Int32)), .val (.int ln), .val (.ref b404), .val (.ref sx), .val (.ref sv), .val (.ref sw), .unset] [(.int mm), (.ref b404), (.int ln), (.ref b383)])) (fun _ kt => XS.aloadN X452.here hx rfl (hb hby at_288) rfl rfl (XS.iload X452.here hx rfl (hb hby at_289) rfl (XS.aload X452.here hx rfl (hb hby at_291) rfl rfl (XS.iload X452.here hx rfl (hb hby at_293) rfl kt)))) ?_
                have F460 : Arv Z T452.heap b383 k383 .char (3 : Int32) [(.int w0), (.int w1), (.int w2)] (.int (0 : Int32)) := (Arv.keep F438 K452_ (ninS (Ne.symm (Exa.neArv F441 F438 (own_k hw 35 rfl))) nin0))
                have F461 : Arv Z T452.heap b404 k404 .char (3 : Int32) [(.int x0), (.int x1), (.int x2)] (.int (0 : Int32)) := (Arv.keep F439 K452_ (ninS (Ne.symm (Exa.neArv F441 F439 (own_k hw 35 rfl))) nin0))
                obtain ⟨_, _, ⟨T462, L462, k462, n462⟩, -, X462, ⟨Lc462, hQ462, l462, y462, z462⟩, st462⟩ := Jvm.LawKit.callS X452 hx (y := (⟨"com/example/tally_rank/tallyrank/analysis/SuffixWordEndsWithPinLaw", "ref", "([CI[CI)Z"⟩ : MethodName)) hown437 (mvT hZ437 (own_k hw 72 rfl)) (mvT hZ437 (own_k hw 73 rfl)) (mvT hZ437 (own_k hw 3 rfl)) (mvT hZ437 (own_k hw 74 rfl)) (by decide) (backOf (W := 0) (own_ref l Z a0 hw [] b383 ln b404 mm k383 k404 w0 w1 w2 x0 x1 x2 T452.heap n0 Z459 F460 F461 q_mm q_ln) hZ437 (own_k hw 74 rfl) (own_k hw 3 rfl) (by decide) (by decide)) (g := (mkF m 295 #[.val (.int p1), .val (.int p2), .val (.int p3), .val (.ref b383), .val (.int nn), .val (.int mm), .val (.int cp), .val (.int (1 : Int32)), .val (.int ln), .val (.ref b404), .val (.ref sx), .val (.ref sv), .val (.ref sw), .unset] [(.int mm), (.ref b404), (.int ln), (.ref b383)])) rfl hml.symm  (argsL := [(.ref b383), (.int ln), (.ref b404), (.int mm)]) (rest := []) (lenOf own_pd8 rfl) rfl (by show 2 * 0 + _ ≤ _; exact Nat.le_of_eq rfl) (hb hby at_295) (fun _ _ => ⟨rfl, rfl, (by decide : 12 + 0 ≤ 32), (by decide : 33 + 0 ≤ 1152)⟩)
                dsimp only [Pt.U, Pt.locs, Pt.cells, Pt.slots] at X462 l462 y462 z462 st462 hQ462
                subst l462 y462 z462
                obtain ⟨rfl, N462, e462⟩ := hQ462
                have N463 := Fr.app N457 N462
                refine own_st (T' := T462) (g' := (mkF m 298 #[.val (.int p1), .val (.int p2), .val (.int p3), .val (.ref b383), .val (.int nn), .val (.int mm), .val (.int cp), .val (.int (1 : Int32)), .val (.int ln), .val (.ref b404), .val (.ref sx), .val (.ref sv), .val (.ref sw), .unset] [(.int (own_rf w0 w1 w2 ln x0 x1 x2 mm))])) st462 ?_
                refine own_st (T' := T462) (g' := (mkF m 304 #[.val (.int p1), .val (.int p2), .val (.int p3), .val (.ref b383), .val (.int nn), .val (.int mm), .val (.int cp), .val (.int (1 : Int32)), .val (.int ln), .val (.ref b404), .val (.ref sx), .val (.ref sv), .val (.ref sw), .val (.int (own_rf w0 w1 w2 ln x0 x1 x2 mm))] [(.ref sx), (.ref sw)])) (fun _ kt => XS.istore X462.here hx rfl (hb hby at_298) rfl (l' := #[.val (.int p1), .val (.int p2), .val (.int p3), .val (.ref b383), .val (.int nn), .val (.int mm), .val (.int cp), .val (.int (1 : Int32)), .val (.int ln), .val (.ref b404), .val (.ref sx), .val (.ref sv), .val (.ref sw), .val (.int (own_rf w0 w1 w2 ln x0 x1 x2 mm))]) rfl (XS.aload X462.here hx rfl (hb hby at_300) rfl rfl (XS.aload X462.here hx rfl (hb hby at_302) rfl rfl kt))) ?_
                have F464 : Arv Z T452.heap la kl .char nn (own_tk nn w0 w1 w2) (.int (0 : Int32)) := (Arv.keep F445 K452_ (ninS F446 nin0))
                have F465 : Arv Z T452.heap sx kx_ .char mm (own_tk mm x0 x1 x2) (.int (0 : Int32)) := (Arv.keep F440 K452_ (ninS (Ne.symm (Exa.neArv F441 F440 (own_k hw 35 rfl))) nin0))
                obtain ⟨cq467, kq467, qa467, qb467, qc467⟩ := isOf hZ437 e462 P454
                obtain ⟨_, _, ⟨T466, L466, k466, n466⟩, -, X466, ⟨Lc466, hQ466, l466, y466, z466⟩, st466⟩ := X462.virtualBack hx (y := (⟨"com/example/tally_rank/tallyrank/analysis/SuffixWord", "endsWith", "([C)Z"⟩ : MethodName)) (z := (⟨"com/example/tally_rank/tallyrank/analysis/SuffixWord", "endsWith", "([C)Z"⟩ : MethodName)) hown437 (mvT hZ437 (own_k hw 75 rfl)) (mvT hZ437 (own_k hw 76 rfl)) (notFace_of_selects (args := #[]) (mvT hZ437 (own_k hw 78 rfl))) (mvT hZ437 (own_k hw 78 rfl)) (mvT hZ437 (own_k hw 77 rfl)) (by decide) (backOf (W := 0) (own_ends l Z a0 hw [] sw sx ln mm la kl nn kx_ w0 w1 w2 x0 x1 x2 T452.heap n0 Z459 P455 P456 F464 F465 q_mm q_ln q_nn le_ln) hZ437 (own_k hw 79 rfl) (own_k hw 36 rfl) (by decide) (by decide)) qa467 qc467 (g := (mkF m 304 #[.val (.int p1), .val (.int p2), .val (.int p3), .val (.ref b383), .val (.int nn), .val (.int mm), .val (.int cp), .val (.int (1 : Int32)), .val (.int ln), .val (.ref b404), .val (.ref sx), .val (.ref sv), .val (.ref sw), .val (.int (own_rf w0 w1 w2 ln x0 x1 x2 mm))] [(.ref sx), (.ref sw)])) rfl hml.symm (Steps.refl _) (argsL := [(.ref sx)]) (rest := []) (lenOf own_pd9 rfl) rfl (by show 2 * 0 + _ ≤ _; exact Nat.le_of_eq rfl) (hb hby at_304) (fun _ _ => ⟨rfl, e462, (by decide : 12 + 0 ≤ 32), (by decide : 33 + 0 ≤ 1152)⟩)
                dsimp only [Pt.U, Pt.locs, Pt.cells, Pt.slots] at X466 l466 y466 z466 st466 hQ466
                subst l466 y466 z466
                obtain ⟨rfl, N466, e466⟩ := hQ466
                have N468 := Fr.app N463 N466
                refine own_tr (T' := T466) (g' := (mkF m 307 #[.val (.int p1), .val (.int p2), .val (.int p3), .val (.ref b383), .val (.int nn), .val (.int mm), .val (.int cp), .val (.int (1 : Int32)), .val (.int ln), .val (.ref b404), .val (.ref sx), .val (.ref sv), .val (.ref sw), .val (.int (own_rf w0 w1 w2 ln x0 x1 x2 mm))] [(.int (own_rf w0 w1 w2 ln x0 x1 x2 mm))])) st466 ?_
                refine own_st (T' := T466) (g' := (mkF m 317 #[.val (.int p1), .val (.int p2), .val (.int p3), .val (.ref b383), .val (.int nn), .val (.int mm), .val (.int cp), .val (.int (1 : Int32)), .val (.int ln), .val (.ref b404), .val (.ref sx), .val (.ref sv), .val (.ref sw), .val (.int (own_rf w0 w1 w2 ln x0 x1 x2 mm))] [(.int (1 : Int32))])) (fun _ kt => XS.iload X466.here hx rfl (hb hby at_307) rfl (XS.icmpNo X466.here hx rfl (hb hby at_309) rfl (XT.ii_ne_f rfl) (XS.iconst X466.here hx rfl (hb hby at_312) (XS.goto X466.here hx rfl (pc0 := 313) (pc' := 317) rfl (hb hby at_313) (by decide) (by decide) kt)))) ?_
                obtain ⟨fs, hr, hrun, hended, hE⟩ := Stand.leaveW X466 hS437 (by rw [e466]; exact hk459) (v := some (.int (1 : Int32))) (fun h => by rw [Bd.returns] at h; cases h)
                refine own_end (retN X466 hx (t := .boolean) Bd.returns (by simp) (hb hby at_317) hr) ⟨_, hrun, hended, _, _, rfl, ?_, (by rw [hh]; show CHr Z own_EL s.vm h0 T466.vm T466.heap; rw [e466]; exact CHr.trans CR458 (CHv.at X466 hZ437 (own_EW hw) CR458.1)), ⟨hE.1, hE.2.1, hE.2.2.1, hE.2.2.2.mono (by decide) (by decide)⟩⟩
                show own_lawQ Z _ _ _ _ h0 n0 _ T466.heap _
                rw [e466]
                exact ⟨rfl, N468⟩
            ·
              rcases q_nn with rfl | rfl | rfl | rfl
              · -- n = 0
                obtain ⟨T469, h469, X469, e469, E469, A469, D469, -, st469⟩ := newO X433 hx hZ433 hown433 (own_k hw 5 rfl) (own_k hw 6 rfl) (own_k hw 7 rfl) e433 (g := (mkF m 250 #[.val (.int p1), .val (.int p2), .val (.int p3), .val (.ref b383), .val (.int (0 : Int32)), .val (.int mm), .val (.int cp), .val (.int dc), .val (.int ln), .val (.ref b404), .val (.ref sx), .unset, .unset, .unset] [])) rfl (hb hby at_250) (by decide) (by decide)
                obtain ⟨b469, g469⟩ : ∃ z, z = h433.size := ⟨_, rfl⟩
                rw [← g469] at A469 D469 st469
                have ne470 : b383 ≠ b469 := by rw [g469]; exact Nat.ne_of_lt F434.lt
                have ne471 : b404 ≠ b469 := by rw [g469]; exact Nat.ne_of_lt F435.lt
                have ne472 : sx ≠ b469 := by rw [g469]; exact Nat.ne_of_lt F436.lt
                have CR473 : CHr Z own_EL s.vm h0 vm433 h469 := CHr.trans CR433 (CHr.ext E469 CR433.1)
                have Z474 : n0 ≤ h469.size := Nat.le_trans Z433 E469.1
                have hk474 := Nat.le_trans hk433 E469.1
                have ge_b469 : n0 ≤ b469 := Nat.le_trans Z433 (Nat.le_of_eq g469.symm)
                have S475 : Safe Z own_EL vm433 h469 b469 := (Safe.ext E469 CR433.1 (Safe.new (Nat.le_of_eq g469.symm)))
                have F476 : Fld Z h469 b469 "java/lang/String" "coder" "B" (.int (0 : Int32)) := D469 (Or.inr (own_k hw 31 rfl)) (ty := .byte) (by decide)
                have F477 : Fld Z h469 b469 "java/lang/String" "value" "[B" .null := D469 (Or.inr (own_k hw 33 rfl)) (ty := (.array .byte)) (by decide)
                refine own_st (T' := T469) (g' := (mkF m 253 #[.val (.int p1), .val (.int p2), .val (.int p3), .val (.ref b383), .val (.int (0 : Int32)), .val (.int mm), .val (.int cp), .val (.int dc), .val (.int ln), .val (.ref b404), .val (.ref sx), .unset, .unset, .unset] [(.ref b469)])) st469 ?_
                refine own_st (T' := T469) (g' := (mkF m 257 #[.val (.int p1), .val (.int p2), .val (.int p3), .val (.ref b383), .val (.int (0 : Int32)), .val (.int mm), .val (.int cp), .val (.int dc), .val (.int ln), .val (.ref b404), .val (.ref sx), .unset, .unset, .unset] [(.int (0 : Int32)), (.ref b383), (.ref b469), (.ref b469)])) (fun _ kt => XS.dup X469.here hx rfl (hb hby at_253) rfl rfl (XS.aloadN X469.here hx rfl (hb hby at_254) rfl rfl (XS.iload X469.here hx rfl (hb hby at_255) rfl kt))) ?_
                have F478 : Arv Z h469 b383 k383 .char (3 : Int32) [(.int w0), (.int w1), (.int w2)] (.int (0 : Int32)) := (F434.ext E469)
                obtain ⟨_, _, ⟨T479, L479, k479, n479⟩, -, X479, ⟨Lc479, hQ479, l479, y479, z479⟩, st479⟩ := Jvm.LawKit.callS X469 hx (y := (⟨"com/example/tally_rank/tallyrank/analysis/SuffixWordEndsWithPinLaw", "take", "([CI)[C"⟩ : MethodName)) hown433 (mvT hZ433 (own_k hw 1 rfl)) (mvT hZ433 (own_k hw 2 rfl)) (mvT hZ433 (own_k hw 3 rfl)) (mvT hZ433 (own_k hw 4 rfl)) (by decide) (backOf (W := 2) (own_take0 l Z a0 hw [] b383 k383 w0 w1 w2 (.int (0 : Int32)) h469 n0 Z474 F478 n_w0 n_w1 n_w2) hZ433 (own_k hw 4 rfl) (own_k hw 3 rfl) (by decide) (by decide)) (g := (mkF m 257 #[.val (.int p1), .val (.int p2), .val (.int p3), .val (.ref b383), .val (.int (0 : Int32)), .val (.int mm), .val (.int cp), .val (.int dc), .val (.int ln), .val (.ref b404), .val (.ref sx), .unset, .unset, .unset] [(.int (0 : Int32)), (.ref b383), (.ref b469), (.ref b469)])) rfl hml.symm  (argsL := [(.ref b383), (.int (0 : Int32))]) (rest := [(.ref b469), (.ref b469)]) (lenOf own_pd11 rfl) rfl (by show 2 * 0 + _ ≤ _; exact Nat.le_of_eq rfl) (hb hby at_257) (fun _ _ => ⟨rfl, e469, (by decide : 4 + 1 ≤ 32), (by decide : 13 + 0 ≤ 1152)⟩)
                dsimp only [Pt.U, Pt.locs, Pt.cells, Pt.slots] at X479 l479 y479 z479 st479 hQ479
                subst l479 y479 z479
                obtain ⟨b_479, kb_479, rfl, N479, K479_, P480, P481⟩ := hQ479
                have N482 := Fr.app N433 N479
                have CR483 : CHr Z own_EL s.vm h0 vm433 T479.heap := CHr.trans CR473 (CHr.keep K479_ sf0 CR473.1)
                have Z484 : n0 ≤ T479.heap.size := Nat.le_trans Z474 K479_.1
                have hk484 := Nat.le_trans hk474 K479_.1
                have ne485 : b383 ≠ b_479 := Nat.ne_of_lt (Nat.lt_of_lt_of_le F478.lt P481)
                have F486 : Arv Z h469 b404 k404 .char (3 : Int32) [(.int x0), (.int x1), (.int x2)] (.int (0 : Int32)) := (F435.ext E469)
                have ne487 : b404 ≠ b_479 := Nat.ne_of_lt (Nat.lt_of_lt_of_le F486.lt P481)
                have F488 : Arv Z h469 sx kx_ .char mm (own_tk mm x0 x1 x2) (.int (0 : Int32)) := (F436.ext E469)
                have ne489 : sx ≠ b_479 := Nat.ne_of_lt (Nat.lt_of_lt_of_le F488.lt P481)
                have ne490 : b469 ≠ b_479 := Nat.ne_of_lt (Nat.lt_of_lt_of_le A469.lt P481)
                have ge491 : n0 ≤ b_479 := Nat.le_trans Z474 P481
                refine own_st (T' := T479) (g' := (mkF m 260 #[.val (.int p1), .val (.int p2), .val (.int p3), .val (.ref b383), .val (.int (0 : Int32)), .val (.int mm), .val (.int cp), .val (.int dc), .val (.int ln), .val (.ref b404), .val (.ref sx), .unset, .unset, .unset] [(.ref b_479), (.ref b469), (.ref b469)])) st479 ?_
                have F492 : Exa Z T479.heap b469 "java/lang/String" := (Exa.keep A469 K479_)
                have F493 : Fld Z T479.heap b469 "java/lang/String" "value" "[B" .null := (Fld.keep F477 K479_ nin0)
                have F494 : Fld Z T479.heap b469 "java/lang/String" "coder" "B" (.int (0 : Int32)) := (Fld.keep F476 K479_ nin0)
                obtain ⟨_, _, ⟨T495, L495, k495, n495⟩, -, X495, hS495, hG495, ⟨Lc495, hQ495, l495, y495, z495, hC495⟩, st495⟩ := X479.specialBackS hx (y := (⟨"java/lang/String", "<init>", "([C)V"⟩ : MethodName)) rfl hown433 (mvT hZ433 (own_k hw 8 rfl)) (mvT hZ433 (own_k hw 9 rfl)) (mvT hZ433 (own_k hw 10 rfl)) (by decide) (backOfSH (W := 1) (own_e1 l Z a0 hw [] b469 b_479 kb_479 [] (.int (0 : Int32)) T479.heap n0 Z484 F492 ge_b469 F493 F494 P480) hZ433 (own_k hw 10 rfl) (own_k hw 7 rfl) (by decide) (by decide) (own_EW hw) CR483.1) (g := (mkF m 260 #[.val (.int p1), .val (.int p2), .val (.int p3), .val (.ref b383), .val (.int (0 : Int32)), .val (.int mm), .val (.int cp), .val (.int dc), .val (.int ln), .val (.ref b404), .val (.ref sx), .unset, .unset, .unset] [(.ref b_479), (.ref b469), (.ref b469)])) rfl hml.symm (Steps.refl _) (a := b469) (argsL := [(.ref b_479)]) (rest := [(.ref b469)]) (lenOf own_pd12 rfl) rfl (by show 2 * 0 + _ ≤ _; exact Nat.le_of_eq rfl) (hb hby at_260) (fun _ _ => ⟨rfl, rfl, (by decide : 5 + 4 ≤ 32), (by decide : 13 + 8 ≤ 1152)⟩)
                dsimp only [Pt.U, Pt.locs, Pt.cells, Pt.slots] at X495 l495 y495 z495 st495 hQ495 hS495 hG495 hC495
                subst l495 y495 z495
                obtain ⟨t_495, kb_495, rfl, N495, K495_, P496, P497, P498, P499⟩ := hQ495
                have N500 := Fr.app N482 N495
                obtain ⟨X501, hS501, hZ501, hown501⟩ := rebS hS433 hk484 X495 hS495 hG495 hZ433 hown433
                have CR502 : CHr Z own_EL s.vm h0 T495.vm T495.heap := CHr.trans CR483 hC495
                have Z503 : n0 ≤ T495.heap.size := Nat.le_trans Z484 K495_.1
                have hk503 := Nat.le_trans hk484 K495_.1
                have hk501 : T495.heap.size ≤ T495.heap.size := Nat.le_refl _
                refine own_tr (T' := T495) (g' := (mkF m 263 #[.val (.int p1), .val (.int p2), .val (.int p3), .val (.ref b383), .val (.int (0 : Int32)), .val (.int mm), .val (.int cp), .val (.int dc), .val (.int ln), .val (.ref b404), .val (.ref sx), .unset, .unset, .unset] [(.ref b469)])) st495 ?_
                refine own_st (T' := T495) (g' := (mkF m 265 #[.val (.int p1), .val (.int p2), .val (.int p3), .val (.ref b383), .val (.int (0 : Int32)), .val (.int mm), .val (.int cp), .val (.int dc), .val (.int ln), .val (.ref b404), .val (.ref sx), .val (.ref b469), .unset, .unset] [])) (fun _ kt => XS.astore X501.here hx rfl (hb hby at_263) rfl rfl (l' := #[.val (.int p1), .val (.int p2), .val (.int p3), .val (.ref b383), .val (.int (0 : Int32)), .val (.int mm), .val (.int cp), .val (.int dc), .val (.int ln), .val (.ref b404), .val (.ref sx), .val (.ref b469), .unset, .unset]) rfl kt) ?_
                obtain ⟨T504, h504, X504, e504, E504, A504, D504, -, st504⟩ := newO X501 hx hZ501 hown501 (own_k hw 34 rfl) (own_k hw 35 rfl) (own_k hw 36 rfl) rfl (g := (mkF m 265 #[.val (.int p1), .val (.int p2), .val (.int p3), .val (.ref b383), .val (.int (0 : Int32)), .val (.int mm), .val (.int cp), .val (.int dc), .val (.int ln), .val (.ref b404), .val (.ref sx), .val (.ref b469), .unset, .unset] [])) rfl (hb hby at_265) (by decide) (by decide)
                obtain ⟨b504, g504⟩ : ∃ z, z = T495.heap.size := ⟨_, rfl⟩
                rw [← g504] at A504 D504 st504
                have F505 : Arv Z T495.heap b383 k383 .char (3 : Int32) [(.int w0), (.int w1), (.int w2)] (.int (0 : Int32)) := (Arv.keep (Arv.keep F478 K479_ nin0) K495_ (ninS ne470 nin0))
                have ne506 : b383 ≠ b504 := by rw [g504]; exact Nat.ne_of_lt F505.lt
                have F507 : Arv Z T495.heap b404 k404 .char (3 : Int32) [(.int x0), (.int x1), (.int x2)] (.int (0 : Int32)) := (Arv.keep (Arv.keep F486 K479_ nin0) K495_ (ninS ne471 nin0))
                have ne508 : b404 ≠ b504 := by rw [g504]; exact Nat.ne_of_lt F507.lt
                have F509 : Arv Z T495.heap sx kx_ .char mm (own_tk mm x0 x1 x2) (.int (0 : Int32)) := (Arv.keep (Arv.keep F488 K479_ nin0) K495_ (ninS ne472 nin0))
                have ne510 : sx ≠ b504 := by rw [g504]; exact Nat.ne_of_lt F509.lt
                have ne511 : b469 ≠ b504 := by rw [g504]; exact Nat.ne_of_lt P496.lt
                have F512 : Arv Z T495.heap b_479 kb_479 .char (0 : Int32) [] (.int (0 : Int32)) := (Arv.keep P480 K495_ (ninS (Ne.symm ne490) nin0))
                have ne513 : b_479 ≠ b504 := by rw [g504]; exact Nat.ne_of_lt F512.lt
                have ne514 : t_495 ≠ b504 := by rw [g504]; exact Nat.ne_of_lt P499.lt
                have CR515 : CHr Z own_EL s.vm h0 T495.vm h504 := CHr.trans CR502 (CHr.ext E504 CR502.1)
                have Z516 : n0 ≤ h504.size := Nat.le_trans Z503 E504.1
                have hk516 := Nat.le_trans hk501 E504.1
                have ge_b504 : n0 ≤ b504 := Nat.le_trans Z503 (Nat.le_of_eq g504.symm)
                have S517 : Safe Z own_EL T495.vm h504 b504 := (Safe.ext E504 CR502.1 (Safe.new (Nat.le_of_eq g504.symm)))
                have F518 : Fld Z h504 b504 "com/example/tally_rank/tallyrank/analysis/SuffixWord" "letters" "[C" .null := D504 (Or.inr (own_k hw 59 rfl)) (ty := (.array .char)) (by decide)
                have F519 : Fld Z h504 b504 "com/example/tally_rank/tallyrank/analysis/SuffixWord" "length" "I" (.int (0 : Int32)) := D504 (Or.inl (own_k hw 71 rfl)) (ty := .int) (by decide)
                refine own_st (T' := T504) (g' := (mkF m 268 #[.val (.int p1), .val (.int p2), .val (.int p3), .val (.ref b383), .val (.int (0 : Int32)), .val (.int mm), .val (.int cp), .val (.int dc), .val (.int ln), .val (.ref b404), .val (.ref sx), .val (.ref b469), .unset, .unset] [(.ref b504)])) st504 ?_
                refine own_st (T' := T504) (g' := (mkF m 271 #[.val (.int p1), .val (.int p2), .val (.int p3), .val (.ref b383), .val (.int (0 : Int32)), .val (.int mm), .val (.int cp), .val (.int dc), .val (.int ln), .val (.ref b404), .val (.ref sx), .val (.ref b469), .unset, .unset] [(.ref b469), (.ref b504), (.ref b504)])) (fun _ kt => XS.dup X504.here hx rfl (hb hby at_268) rfl rfl (XS.aload X504.here hx rfl (hb hby at_269) rfl rfl kt)) ?_
                have F520 : Old Z n0 h504 := (Old.ext (Old.keep (Old.keep (Old.ext O433 E469) K479_ all0) K495_ (allS ge_b469 all0)) E504)
                have F521 : Exa Z h504 b469 "java/lang/String" := (Exa.ext E504 P496)
                have F522 : Fld Z h504 b469 "java/lang/String" "coder" "B" (.int (0 : Int32)) := (Fld.ext E504 P497)
                have F523 : Fld Z h504 b469 "java/lang/String" "value" "[B" (.ref t_495) := (Fld.ext E504 P498)
                have F524 : Arv Z h504 t_495 kb_495 .byte (0 : Int32) [] (.int (0 : Int32)) := (P499.ext E504)
                obtain ⟨_, _, ⟨T525, L525, k525, n525⟩, -, X525, ⟨Lc525, hQ525, l525, y525, z525⟩, st525⟩ := X504.specialBack hx (y := (⟨"com/example/tally_rank/tallyrank/analysis/SuffixWord", "<init>", "(Ljava/lang/String;)V"⟩ : MethodName)) rfl hown501 (mvT hZ501 (own_k hw 37 rfl)) (mvT hZ501 (own_k hw 38 rfl)) (mvT hZ501 (own_k hw 39 rfl)) (by decide) (backOf (W := 1) (own_swi0 l Z a0 hw [] b504 b469 zc t_495 kb_495 h504 n0 Z516 F520 pr2 pr3 A504 ge_b504 F518 F519 F521 F522 F523 F524) hZ501 (own_k hw 39 rfl) (own_k hw 36 rfl) (by decide) (by decide)) (g := (mkF m 271 #[.val (.int p1), .val (.int p2), .val (.int p3), .val (.ref b383), .val (.int (0 : Int32)), .val (.int mm), .val (.int cp), .val (.int dc), .val (.int ln), .val (.ref b404), .val (.ref sx), .val (.ref b469), .unset, .unset] [(.ref b469), (.ref b504), (.ref b504)])) rfl hml.symm (Steps.refl _) (a := b504) (argsL := [(.ref b469)]) (rest := [(.ref b504)]) (lenOf own_pd13 rfl) rfl (by show 2 * 0 + _ ≤ _; exact Nat.le_of_eq rfl) (hb hby at_271) (fun _ _ => ⟨rfl, e504, (by decide : 10 + 1 ≤ 32), (by decide : 23 + 0 ≤ 1152)⟩)
                dsimp only [Pt.U, Pt.locs, Pt.cells, Pt.slots] at X525 l525 y525 z525 st525 hQ525
                subst l525 y525 z525
                obtain ⟨b_525, kb_525, rfl, N525, K525_, P526, P527, P528, P529, P530⟩ := hQ525
                have N531 := Fr.app N500 N525
                have CR532 : CHr Z own_EL s.vm h0 T495.vm T525.heap := CHr.trans CR515 (CHr.keep K525_ (sfS S517 sf0) CR515.1)
                have Z533 : n0 ≤ T525.heap.size := Nat.le_trans Z516 K525_.1
                have hk533 := Nat.le_trans hk516 K525_.1
                have F534 : Arv Z h504 b383 k383 .char (3 : Int32) [(.int w0), (.int w1), (.int w2)] (.int (0 : Int32)) := (F505.ext E504)
                have ne535 : b383 ≠ b_525 := Nat.ne_of_lt (Nat.lt_of_lt_of_le F534.lt P530)
                have F536 : Arv Z h504 b404 k404 .char (3 : Int32) [(.int x0), (.int x1), (.int x2)] (.int (0 : Int32)) := (F507.ext E504)
                have ne537 : b404 ≠ b_525 := Nat.ne_of_lt (Nat.lt_of_lt_of_le F536.lt P530)
                have F538 : Arv Z h504 sx kx_ .char mm (own_tk mm x0 x1 x2) (.int (0 : Int32)) := (F509.ext E504)
                have ne539 : sx ≠ b_525 := Nat.ne_of_lt (Nat.lt_of_lt_of_le F538.lt P530)
                have ne540 : b469 ≠ b_525 := Nat.ne_of_lt (Nat.lt_of_lt_of_le F521.lt P530)
                have F541 : Arv Z h504 b_479 kb_479 .char (0 : Int32) [] (.int (0 : Int32)) := (F512.ext E504)
                have ne542 : b_479 ≠ b_525 := Nat.ne_of_lt (Nat.lt_of_lt_of_le F541.lt P530)
                have ne543 : t_495 ≠ b_525 := Nat.ne_of_lt (Nat.lt_of_lt_of_le F524.lt P530)
                have ge544 : n0 ≤ b_525 := Nat.le_trans Z516 P530
                refine own_tr (T' := T525) (g' := (mkF m 274 #[.val (.int p1), .val (.int p2), .val (.int p3), .val (.ref b383), .val (.int (0 : Int32)), .val (.int mm), .val (.int cp), .val (.int dc), .val (.int ln), .val (.ref b404), .val (.ref sx), .val (.ref b469), .unset, .unset] [(.ref b504)])) st525 ?_
                refine own_st (T' := T525) (g' := (mkF m 276 #[.val (.int p1), .val (.int p2), .val (.int p3), .val (.ref b383), .val (.int (0 : Int32)), .val (.int mm), .val (.int cp), .val (.int dc), .val (.int ln), .val (.ref b404), .val (.ref sx), .val (.ref b469), .val (.ref b504), .unset] [])) (fun _ kt => XS.astore X525.here hx rfl (hb hby at_274) rfl rfl (l' := #[.val (.int p1), .val (.int p2), .val (.int p3), .val (.ref b383), .val (.int (0 : Int32)), .val (.int mm), .val (.int cp), .val (.int dc), .val (.int ln), .val (.ref b404), .val (.ref sx), .val (.ref b469), .val (.ref b504), .unset]) rfl kt) ?_
                have F545 : Old Z n0 T525.heap := (Old.keep F520 K525_ (allS ge_b504 all0))
                have F546 : Arv Z T525.heap b383 k383 .char (3 : Int32) [(.int w0), (.int w1), (.int w2)] (.int (0 : Int32)) := (Arv.keep F534 K525_ (ninS ne506 nin0))
                have F547 : Arv Z T525.heap b404 k404 .char (3 : Int32) [(.int x0), (.int x1), (.int x2)] (.int (0 : Int32)) := (Arv.keep F536 K525_ (ninS ne508 nin0))
                have F548 : Arv Z T525.heap sx kx_ .char mm (own_tk mm x0 x1 x2) (.int (0 : Int32)) := (Arv.keep F538 K525_ (ninS ne510 nin0))
                have F549 : Exa Z T525.heap b504 "com/example/tally_rank/tallyrank/analysis/SuffixWord" := (Exa.keep A504 K525_)
                exact J437 _ _ _ _ _ ⟨b504, b_525, kb_525, b469⟩ ⟨N531, Z533, F545, CR532, hS501, hk533, hZ501, hown501, F546, F547, F548, P526, ge_b504, P527, (by first | exact P528 | simpa [own_tk] using P528), (by first | exact P529 | simpa [own_tk] using P529), (Ne.symm (Exa.neArv F549 P529 (own_k hw 35 rfl)))⟩ (X525.mono (by decide) (by decide)) rfl
              · -- n = 1
                obtain ⟨T550, h550, X550, e550, E550, A550, D550, -, st550⟩ := newO X433 hx hZ433 hown433 (own_k hw 5 rfl) (own_k hw 6 rfl) (own_k hw 7 rfl) e433 (g := (mkF m 250 #[.val (.int p1), .val (.int p2), .val (.int p3), .val (.ref b383), .val (.int (1 : Int32)), .val (.int mm), .val (.int cp), .val (.int dc), .val (.int ln), .val (.ref b404), .val (.ref sx), .unset, .unset, .unset] [])) rfl (hb hby at_250) (by decide) (by decide)
                obtain ⟨b550, g550⟩ : ∃ z, z = h433.size := ⟨_, rfl⟩
                rw [← g550] at A550 D550 st550
                have ne551 : b383 ≠ b550 := by rw [g550]; exact Nat.ne_of_lt F434.lt
                have ne552 : b404 ≠ b550 := by rw [g550]; exact Nat.ne_of_lt F435.lt
                have ne553 : sx ≠ b550 := by rw [g550]; exact Nat.ne_of_lt F436.lt
                have CR554 : CHr Z own_EL s.vm h0 vm433 h550 := CHr.trans CR433 (CHr.ext E550 CR433.1)
                have Z555 : n0 ≤ h550.size := Nat.le_trans Z433 E550.1
                have hk555 := Nat.le_trans hk433 E550.1
                have ge_b550 : n0 ≤ b550 := Nat.le_trans Z433 (Nat.le_of_eq g550.symm)
                have S556 : Safe Z own_EL vm433 h550 b550 := (Safe.ext E550 CR433.1 (Safe.new (Nat.le_of_eq g550.symm)))
                have F557 : Fld Z h550 b550 "java/lang/String" "coder" "B" (.int (0 : Int32)) := D550 (Or.inr (own_k hw 31 rfl)) (ty := .byte) (by decide)
                have F558 : Fld Z h550 b550 "java/lang/String" "value" "[B" .null := D550 (Or.inr (own_k hw 33 rfl)) (ty := (.array .byte)) (by decide)
                refine own_st (T' := T550) (g' := (mkF m 253 #[.val (.int p1), .val (.int p2), .val (.int p3), .val (.ref b383), .val (.int (1 : Int32)), .val (.int mm), .val (.int cp), .val (.int dc), .val (.int ln), .val (.ref b404), .val (.ref sx), .unset, .unset, .unset] [(.ref b550)])) st550 ?_
                refine own_st (T' := T550) (g' := (mkF m 257 #[.val (.int p1), .val (.int p2), .val (.int p3), .val (.ref b383), .val (.int (1 : Int32)), .val (.int mm), .val (.int cp), .val (.int dc), .val (.int ln), .val (.ref b404), .val (.ref sx), .unset, .unset, .unset] [(.int (1 : Int32)), (.ref b383), (.ref b550), (.ref b550)])) (fun _ kt => XS.dup X550.here hx rfl (hb hby at_253) rfl rfl (XS.aloadN X550.here hx rfl (hb hby at_254) rfl rfl (XS.iload X550.here hx rfl (hb hby at_255) rfl kt))) ?_
                have F559 : Arv Z h550 b383 k383 .char (3 : Int32) [(.int w0), (.int w1), (.int w2)] (.int (0 : Int32)) := (F434.ext E550)
                obtain ⟨_, _, ⟨T560, L560, k560, n560⟩, -, X560, ⟨Lc560, hQ560, l560, y560, z560⟩, st560⟩ := Jvm.LawKit.callS X550 hx (y := (⟨"com/example/tally_rank/tallyrank/analysis/SuffixWordEndsWithPinLaw", "take", "([CI)[C"⟩ : MethodName)) hown433 (mvT hZ433 (own_k hw 1 rfl)) (mvT hZ433 (own_k hw 2 rfl)) (mvT hZ433 (own_k hw 3 rfl)) (mvT hZ433 (own_k hw 4 rfl)) (by decide) (backOf (W := 2) (own_take1 l Z a0 hw [] b383 k383 w0 w1 w2 (.int (0 : Int32)) h550 n0 Z555 F559 n_w0 n_w1 n_w2) hZ433 (own_k hw 4 rfl) (own_k hw 3 rfl) (by decide) (by decide)) (g := (mkF m 257 #[.val (.int p1), .val (.int p2), .val (.int p3), .val (.ref b383), .val (.int (1 : Int32)), .val (.int mm), .val (.int cp), .val (.int dc), .val (.int ln), .val (.ref b404), .val (.ref sx), .unset, .unset, .unset] [(.int (1 : Int32)), (.ref b383), (.ref b550), (.ref b550)])) rfl hml.symm  (argsL := [(.ref b383), (.int (1 : Int32))]) (rest := [(.ref b550), (.ref b550)]) (lenOf own_pd11 rfl) rfl (by show 2 * 0 + _ ≤ _; exact Nat.le_of_eq rfl) (hb hby at_257) (fun _ _ => ⟨rfl, e550, (by decide : 4 + 1 ≤ 32), (by decide : 13 + 1 ≤ 1152)⟩)
                dsimp only [Pt.U, Pt.locs, Pt.cells, Pt.slots] at X560 l560 y560 z560 st560 hQ560
                subst l560 y560 z560
                obtain ⟨b_560, kb_560, rfl, N560, K560_, P561, P562⟩ := hQ560
                have N563 := Fr.app N433 N560
                have CR564 : CHr Z own_EL s.vm h0 vm433 T560.heap := CHr.trans CR554 (CHr.keep K560_ sf0 CR554.1)
                have Z565 : n0 ≤ T560.heap.size := Nat.le_trans Z555 K560_.1
                have hk565 := Nat.le_trans hk555 K560_.1
                have ne566 : b383 ≠ b_560 := Nat.ne_of_lt (Nat.lt_of_lt_of_le F559.lt P562)
                have F567 : Arv Z h550 b404 k404 .char (3 : Int32) [(.int x0), (.int x1), (.int x2)] (.int (0 : Int32)) := (F435.ext E550)
                have ne568 : b404 ≠ b_560 := Nat.ne_of_lt (Nat.lt_of_lt_of_le F567.lt P562)
                have F569 : Arv Z h550 sx kx_ .char mm (own_tk mm x0 x1 x2) (.int (0 : Int32)) := (F436.ext E550)
                have ne570 : sx ≠ b_560 := Nat.ne_of_lt (Nat.lt_of_lt_of_le F569.lt P562)
                have ne571 : b550 ≠ b_560 := Nat.ne_of_lt (Nat.lt_of_lt_of_le A550.lt P562)
                have ge572 : n0 ≤ b_560 := Nat.le_trans Z555 P562
                refine own_st (T' := T560) (g' := (mkF m 260 #[.val (.int p1), .val (.int p2), .val (.int p3), .val (.ref b383), .val (.int (1 : Int32)), .val (.int mm), .val (.int cp), .val (.int dc), .val (.int ln), .val (.ref b404), .val (.ref sx), .unset, .unset, .unset] [(.ref b_560), (.ref b550), (.ref b550)])) st560 ?_
                have F573 : Exa Z T560.heap b550 "java/lang/String" := (Exa.keep A550 K560_)
                have F574 : Fld Z T560.heap b550 "java/lang/String" "value" "[B" .null := (Fld.keep F558 K560_ nin0)
                have F575 : Fld Z T560.heap b550 "java/lang/String" "coder" "B" (.int (0 : Int32)) := (Fld.keep F557 K560_ nin0)
                have F576 : Old Z n0 T560.heap := (Old.keep (Old.ext O433 E550) K560_ all0)
                obtain ⟨_, _, ⟨T577, L577, k577, n577⟩, -, X577, ⟨Lc577, hQ577, l577, y577, z577⟩, st577⟩ := X560.specialBack hx (y := (⟨"java/lang/String", "<init>", "([C)V"⟩ : MethodName)) rfl hown433 (mvT hZ433 (own_k hw 8 rfl)) (mvT hZ433 (own_k hw 9 rfl)) (mvT hZ433 (own_k hw 10 rfl)) (by decide) (StrChars.Road.backV (W := 1) hZ433 (own_hws hw) (kI := 4) (own_k hw 6 rfl) (cs := ([w0] : List Int32)) (bs := (([w0] : List Int32)).map (fun c => c.toInt8.toInt32)) (n := 1) ge_b550 Z565 F573 F574 F575 P561 (Sta.ext F576.2 pr2) pr3 rfl rfl (by decide) (by decide) (by intro c hc; simp only [List.mem_cons, List.not_mem_nil, or_false] at hc; rcases hc with rfl <;> first | exact b_w0) rfl (by decide) (by decide)) (g := (mkF m 260 #[.val (.int p1), .val (.int p2), .val (.int p3), .val (.ref b383), .val (.int (1 : Int32)), .val (.int mm), .val (.int cp), .val (.int dc), .val (.int ln), .val (.ref b404), .val (.ref sx), .unset, .unset, .unset] [(.ref b_560), (.ref b550), (.ref b550)])) rfl hml.symm (Steps.refl _) (a := b550) (argsL := [(.ref b_560)]) (rest := [(.ref b550)]) (lenOf own_pd12 rfl) rfl (by show 2 * 0 + _ ≤ _; exact Nat.le_of_eq rfl) (hb hby at_260) (fun _ _ => ⟨rfl, rfl, (by decide : 5 + 1 ≤ 32), (by decide : 14 + 1 ≤ 1152)⟩)
                dsimp only [Pt.U, Pt.locs, Pt.cells, Pt.slots] at X577 l577 y577 z577 st577 hQ577
                subst l577 y577 z577
                obtain ⟨rfl, N577, K577_, gE577, gC577, t577, kb577, gt577, hz577, ht577, gV577, gA577⟩ := hQ577
                have N578 := Fr.app N563 N577
                have F579 : Safe Z own_EL vm433 T560.heap b550 := (Safe.keep K560_ sf0 CR554.1 S556)
                have CR580 : CHr Z own_EL s.vm h0 vm433 T577.heap := CHr.trans CR564 (CHr.keep K577_ (sfS F579 sf0) CR564.1)
                have Z581 : n0 ≤ T577.heap.size := Nat.le_trans Z565 K577_.1
                have hk581 := Nat.le_trans hk565 K577_.1
                have F582 : Arv Z T560.heap b383 k383 .char (3 : Int32) [(.int w0), (.int w1), (.int w2)] (.int (0 : Int32)) := (Arv.keep F559 K560_ nin0)
                have ne583 : b383 ≠ t577 := Nat.ne_of_lt (Nat.lt_of_lt_of_le F582.lt hz577)
                have F584 : Arv Z T560.heap b404 k404 .char (3 : Int32) [(.int x0), (.int x1), (.int x2)] (.int (0 : Int32)) := (Arv.keep F567 K560_ nin0)
                have ne585 : b404 ≠ t577 := Nat.ne_of_lt (Nat.lt_of_lt_of_le F584.lt hz577)
                have F586 : Arv Z T560.heap sx kx_ .char mm (own_tk mm x0 x1 x2) (.int (0 : Int32)) := (Arv.keep F569 K560_ nin0)
                have ne587 : sx ≠ t577 := Nat.ne_of_lt (Nat.lt_of_lt_of_le F586.lt hz577)
                have ne588 : b550 ≠ t577 := Nat.ne_of_lt (Nat.lt_of_lt_of_le F573.lt hz577)
                have ne589 : b_560 ≠ t577 := Nat.ne_of_lt (Nat.lt_of_lt_of_le P561.lt hz577)
                refine own_tr (T' := T577) (g' := (mkF m 263 #[.val (.int p1), .val (.int p2), .val (.int p3), .val (.ref b383), .val (.int (1 : Int32)), .val (.int mm), .val (.int cp), .val (.int dc), .val (.int ln), .val (.ref b404), .val (.ref sx), .unset, .unset, .unset] [(.ref b550)])) st577 ?_
                refine own_st (T' := T577) (g' := (mkF m 265 #[.val (.int p1), .val (.int p2), .val (.int p3), .val (.ref b383), .val (.int (1 : Int32)), .val (.int mm), .val (.int cp), .val (.int dc), .val (.int ln), .val (.ref b404), .val (.ref sx), .val (.ref b550), .unset, .unset] [])) (fun _ kt => XS.astore X577.here hx rfl (hb hby at_263) rfl rfl (l' := #[.val (.int p1), .val (.int p2), .val (.int p3), .val (.ref b383), .val (.int (1 : Int32)), .val (.int mm), .val (.int cp), .val (.int dc), .val (.int ln), .val (.ref b404), .val (.ref sx), .val (.ref b550), .unset, .unset]) rfl kt) ?_
                obtain ⟨T590, h590, X590, e590, E590, A590, D590, -, st590⟩ := newO X577 hx hZ433 hown433 (own_k hw 34 rfl) (own_k hw 35 rfl) (own_k hw 36 rfl) rfl (g := (mkF m 265 #[.val (.int p1), .val (.int p2), .val (.int p3), .val (.ref b383), .val (.int (1 : Int32)), .val (.int mm), .val (.int cp), .val (.int dc), .val (.int ln), .val (.ref b404), .val (.ref sx), .val (.ref b550), .unset, .unset] [])) rfl (hb hby at_265) (by decide) (by decide)
                obtain ⟨b590, g590⟩ : ∃ z, z = T577.heap.size := ⟨_, rfl⟩
                rw [← g590] at A590 D590 st590
                have F591 : Arv Z T577.heap b383 k383 .char (3 : Int32) [(.int w0), (.int w1), (.int w2)] (.int (0 : Int32)) := (Arv.keep F582 K577_ (ninS ne551 nin0))
                have ne592 : b383 ≠ b590 := by rw [g590]; exact Nat.ne_of_lt F591.lt
                have F593 : Arv Z T577.heap b404 k404 .char (3 : Int32) [(.int x0), (.int x1), (.int x2)] (.int (0 : Int32)) := (Arv.keep F584 K577_ (ninS ne552 nin0))
                have ne594 : b404 ≠ b590 := by rw [g590]; exact Nat.ne_of_lt F593.lt
                have F595 : Arv Z T577.heap sx kx_ .char mm (own_tk mm x0 x1 x2) (.int (0 : Int32)) := (Arv.keep F586 K577_ (ninS ne553 nin0))
                have ne596 : sx ≠ b590 := by rw [g590]; exact Nat.ne_of_lt F595.lt
                have ne597 : b550 ≠ b590 := by rw [g590]; exact Nat.ne_of_lt gE577.lt
                have F598 : Arv Z T577.heap b_560 kb_560 .char (1 : Int32) [(.int w0)] (.int (0 : Int32)) := (Arv.keep P561 K577_ (ninS (Ne.symm ne571) nin0))
                have ne599 : b_560 ≠ b590 := by rw [g590]; exact Nat.ne_of_lt F598.lt
                have ne600 : t577 ≠ b590 := by rw [g590]; exact Nat.ne_of_lt gA577.lt
                have CR601 : CHr Z own_EL s.vm h0 vm433 h590 := CHr.trans CR580 (CHr.ext E590 CR580.1)
                have Z602 : n0 ≤ h590.size := Nat.le_trans Z581 E590.1
                have hk602 := Nat.le_trans hk581 E590.1
                have ge_b590 : n0 ≤ b590 := Nat.le_trans Z581 (Nat.le_of_eq g590.symm)
                have S603 : Safe Z own_EL vm433 h590 b590 := (Safe.ext E590 CR580.1 (Safe.new (Nat.le_of_eq g590.symm)))
                have F604 : Fld Z h590 b590 "com/example/tally_rank/tallyrank/analysis/SuffixWord" "letters" "[C" .null := D590 (Or.inr (own_k hw 59 rfl)) (ty := (.array .char)) (by decide)
                have F605 : Fld Z h590 b590 "com/example/tally_rank/tallyrank/analysis/SuffixWord" "length" "I" (.int (0 : Int32)) := D590 (Or.inl (own_k hw 71 rfl)) (ty := .int) (by decide)
                refine own_st (T' := T590) (g' := (mkF m 268 #[.val (.int p1), .val (.int p2), .val (.int p3), .val (.ref b383), .val (.int (1 : Int32)), .val (.int mm), .val (.int cp), .val (.int dc), .val (.int ln), .val (.ref b404), .val (.ref sx), .val (.ref b550), .unset, .unset] [(.ref b590)])) st590 ?_
                refine own_st (T' := T590) (g' := (mkF m 271 #[.val (.int p1), .val (.int p2), .val (.int p3), .val (.ref b383), .val (.int (1 : Int32)), .val (.int mm), .val (.int cp), .val (.int dc), .val (.int ln), .val (.ref b404), .val (.ref sx), .val (.ref b550), .unset, .unset] [(.ref b550), (.ref b590), (.ref b590)])) (fun _ kt => XS.dup X590.here hx rfl (hb hby at_268) rfl rfl (XS.aload X590.here hx rfl (hb hby at_269) rfl rfl kt)) ?_
                have F606 : Old Z n0 h590 := (Old.ext (Old.keep F576 K577_ (allS ge_b550 all0)) E590)
                have F607 : Exa Z h590 b550 "java/lang/String" := (Exa.ext E590 gE577)
                have F608 : Fld Z h590 b550 "java/lang/String" "coder" "B" (.int (0 : Int32)) := (Fld.ext E590 gC577)
                have F609 : Fld Z h590 b550 "java/lang/String" "value" "[B" (.ref t577) := (Fld.ext E590 gV577)
                have F610 : Arv Z h590 t577 kb577 .byte (1 : Int32) [(.int w0.toInt8.toInt32)] (.int (0 : Int32)) := (gA577.ext E590)
                obtain ⟨_, _, ⟨T611, L611, k611, n611⟩, -, X611, ⟨Lc611, hQ611, l611, y611, z611⟩, st611⟩ := X590.specialBack hx (y := (⟨"com/example/tally_rank/tallyrank/analysis/SuffixWord", "<init>", "(Ljava/lang/String;)V"⟩ : MethodName)) rfl hown433 (mvT hZ433 (own_k hw 37 rfl)) (mvT hZ433 (own_k hw 38 rfl)) (mvT hZ433 (own_k hw 39 rfl)) (by decide) (backOf (W := 1) (own_swi1 l Z a0 hw [] b590 b550 zc t577 kb577 w0 h590 n0 Z602 F606 pr2 pr3 A590 ge_b590 F604 F605 F607 F608 F609 F610 b_w0) hZ433 (own_k hw 39 rfl) (own_k hw 36 rfl) (by decide) (by decide)) (g := (mkF m 271 #[.val (.int p1), .val (.int p2), .val (.int p3), .val (.ref b383), .val (.int (1 : Int32)), .val (.int mm), .val (.int cp), .val (.int dc), .val (.int ln), .val (.ref b404), .val (.ref sx), .val (.ref b550), .unset, .unset] [(.ref b550), (.ref b590), (.ref b590)])) rfl hml.symm (Steps.refl _) (a := b590) (argsL := [(.ref b550)]) (rest := [(.ref b590)]) (lenOf own_pd13 rfl) rfl (by show 2 * 0 + _ ≤ _; exact Nat.le_of_eq rfl) (hb hby at_271) (fun _ _ => ⟨rfl, e590, (by decide : 7 + 1 ≤ 32), (by decide : 17 + 1 ≤ 1152)⟩)
                dsimp only [Pt.U, Pt.locs, Pt.cells, Pt.slots] at X611 l611 y611 z611 st611 hQ611
                subst l611 y611 z611
                obtain ⟨b_611, kb_611, rfl, N611, K611_, P612, P613, P614, P615, P616⟩ := hQ611
                have N617 := Fr.app N578 N611
                have CR618 : CHr Z own_EL s.vm h0 vm433 T611.heap := CHr.trans CR601 (CHr.keep K611_ (sfS S603 sf0) CR601.1)
                have Z619 : n0 ≤ T611.heap.size := Nat.le_trans Z602 K611_.1
                have hk619 := Nat.le_trans hk602 K611_.1
                have F620 : Arv Z h590 b383 k383 .char (3 : Int32) [(.int w0), (.int w1), (.int w2)] (.int (0 : Int32)) := (F591.ext E590)
                have ne621 : b383 ≠ b_611 := Nat.ne_of_lt (Nat.lt_of_lt_of_le F620.lt P616)
                have F622 : Arv Z h590 b404 k404 .char (3 : Int32) [(.int x0), (.int x1), (.int x2)] (.int (0 : Int32)) := (F593.ext E590)
                have ne623 : b404 ≠ b_611 := Nat.ne_of_lt (Nat.lt_of_lt_of_le F622.lt P616)
                have F624 : Arv Z h590 sx kx_ .char mm (own_tk mm x0 x1 x2) (.int (0 : Int32)) := (F595.ext E590)
                have ne625 : sx ≠ b_611 := Nat.ne_of_lt (Nat.lt_of_lt_of_le F624.lt P616)
                have ne626 : b550 ≠ b_611 := Nat.ne_of_lt (Nat.lt_of_lt_of_le F607.lt P616)
                have F627 : Arv Z h590 b_560 kb_560 .char (1 : Int32) [(.int w0)] (.int (0 : Int32)) := (F598.ext E590)
                have ne628 : b_560 ≠ b_611 := Nat.ne_of_lt (Nat.lt_of_lt_of_le F627.lt P616)
                have ne629 : t577 ≠ b_611 := Nat.ne_of_lt (Nat.lt_of_lt_of_le F610.lt P616)
                have ge630 : n0 ≤ b_611 := Nat.le_trans Z602 P616
                refine own_tr (T' := T611) (g' := (mkF m 274 #[.val (.int p1), .val (.int p2), .val (.int p3), .val (.ref b383), .val (.int (1 : Int32)), .val (.int mm), .val (.int cp), .val (.int dc), .val (.int ln), .val (.ref b404), .val (.ref sx), .val (.ref b550), .unset, .unset] [(.ref b590)])) st611 ?_
                refine own_st (T' := T611) (g' := (mkF m 276 #[.val (.int p1), .val (.int p2), .val (.int p3), .val (.ref b383), .val (.int (1 : Int32)), .val (.int mm), .val (.int cp), .val (.int dc), .val (.int ln), .val (.ref b404), .val (.ref sx), .val (.ref b550), .val (.ref b590), .unset] [])) (fun _ kt => XS.astore X611.here hx rfl (hb hby at_274) rfl rfl (l' := #[.val (.int p1), .val (.int p2), .val (.int p3), .val (.ref b383), .val (.int (1 : Int32)), .val (.int mm), .val (.int cp), .val (.int dc), .val (.int ln), .val (.ref b404), .val (.ref sx), .val (.ref b550), .val (.ref b590), .unset]) rfl kt) ?_
                have F631 : Old Z n0 T611.heap := (Old.keep F606 K611_ (allS ge_b590 all0))
                have F632 : Arv Z T611.heap b383 k383 .char (3 : Int32) [(.int w0), (.int w1), (.int w2)] (.int (0 : Int32)) := (Arv.keep F620 K611_ (ninS ne592 nin0))
                have F633 : Arv Z T611.heap b404 k404 .char (3 : Int32) [(.int x0), (.int x1), (.int x2)] (.int (0 : Int32)) := (Arv.keep F622 K611_ (ninS ne594 nin0))
                have F634 : Arv Z T611.heap sx kx_ .char mm (own_tk mm x0 x1 x2) (.int (0 : Int32)) := (Arv.keep F624 K611_ (ninS ne596 nin0))
                have F635 : Exa Z T611.heap b590 "com/example/tally_rank/tallyrank/analysis/SuffixWord" := (Exa.keep A590 K611_)
                exact J437 _ _ _ _ _ ⟨b590, b_611, kb_611, b550⟩ ⟨N617, Z619, F631, CR618, hS433, hk619, hZ433, hown433, F632, F633, F634, P612, ge_b590, P613, (by first | exact P614 | simpa [own_tk] using P614), (by first | exact P615 | simpa [own_tk] using P615), (Ne.symm (Exa.neArv F635 P615 (own_k hw 35 rfl)))⟩ (X611.mono (by decide) (by decide)) rfl
              · -- n = 2
                obtain ⟨T636, h636, X636, e636, E636, A636, D636, -, st636⟩ := newO X433 hx hZ433 hown433 (own_k hw 5 rfl) (own_k hw 6 rfl) (own_k hw 7 rfl) e433 (g := (mkF m 250 #[.val (.int p1), .val (.int p2), .val (.int p3), .val (.ref b383), .val (.int (2 : Int32)), .val (.int mm), .val (.int cp), .val (.int dc), .val (.int ln), .val (.ref b404), .val (.ref sx), .unset, .unset, .unset] [])) rfl (hb hby at_250) (by decide) (by decide)
                obtain ⟨b636, g636⟩ : ∃ z, z = h433.size := ⟨_, rfl⟩
                rw [← g636] at A636 D636 st636
                have ne637 : b383 ≠ b636 := by rw [g636]; exact Nat.ne_of_lt F434.lt
                have ne638 : b404 ≠ b636 := by rw [g636]; exact Nat.ne_of_lt F435.lt
                have ne639 : sx ≠ b636 := by rw [g636]; exact Nat.ne_of_lt F436.lt
                have CR640 : CHr Z own_EL s.vm h0 vm433 h636 := CHr.trans CR433 (CHr.ext E636 CR433.1)
                have Z641 : n0 ≤ h636.size := Nat.le_trans Z433 E636.1
                have hk641 := Nat.le_trans hk433 E636.1
                have ge_b636 : n0 ≤ b636 := Nat.le_trans Z433 (Nat.le_of_eq g636.symm)
                have S642 : Safe Z own_EL vm433 h636 b636 := (Safe.ext E636 CR433.1 (Safe.new (Nat.le_of_eq g636.symm)))
                have F643 : Fld Z h636 b636 "java/lang/String" "coder" "B" (.int (0 : Int32)) := D636 (Or.inr (own_k hw 31 rfl)) (ty := .byte) (by decide)
                have F644 : Fld Z h636 b636 "java/lang/String" "value" "[B" .null := D636 (Or.inr (own_k hw 33 rfl)) (ty := (.array .byte)) (by decide)
                refine own_st (T' := T636) (g' := (mkF m 253 #[.val (.int p1), .val (.int p2), .val (.int p3), .val (.ref b383), .val (.int (2 : Int32)), .val (.int mm), .val (.int cp), .val (.int dc), .val (.int ln), .val (.ref b404), .val (.ref sx), .unset, .unset, .unset] [(.ref b636)])) st636 ?_
                refine own_st (T' := T636) (g' := (mkF m 257 #[.val (.int p1), .val (.int p2), .val (.int p3), .val (.ref b383), .val (.int (2 : Int32)), .val (.int mm), .val (.int cp), .val (.int dc), .val (.int ln), .val (.ref b404), .val (.ref sx), .unset, .unset, .unset] [(.int (2 : Int32)), (.ref b383), (.ref b636), (.ref b636)])) (fun _ kt => XS.dup X636.here hx rfl (hb hby at_253) rfl rfl (XS.aloadN X636.here hx rfl (hb hby at_254) rfl rfl (XS.iload X636.here hx rfl (hb hby at_255) rfl kt))) ?_
                have F645 : Arv Z h636 b383 k383 .char (3 : Int32) [(.int w0), (.int w1), (.int w2)] (.int (0 : Int32)) := (F434.ext E636)
                obtain ⟨_, _, ⟨T646, L646, k646, n646⟩, -, X646, ⟨Lc646, hQ646, l646, y646, z646⟩, st646⟩ := Jvm.LawKit.callS X636 hx (y := (⟨"com/example/tally_rank/tallyrank/analysis/SuffixWordEndsWithPinLaw", "take", "([CI)[C"⟩ : MethodName)) hown433 (mvT hZ433 (own_k hw 1 rfl)) (mvT hZ433 (own_k hw 2 rfl)) (mvT hZ433 (own_k hw 3 rfl)) (mvT hZ433 (own_k hw 4 rfl)) (by decide) (backOf (W := 2) (own_take2 l Z a0 hw [] b383 k383 w0 w1 w2 (.int (0 : Int32)) h636 n0 Z641 F645 n_w0 n_w1 n_w2) hZ433 (own_k hw 4 rfl) (own_k hw 3 rfl) (by decide) (by decide)) (g := (mkF m 257 #[.val (.int p1), .val (.int p2), .val (.int p3), .val (.ref b383), .val (.int (2 : Int32)), .val (.int mm), .val (.int cp), .val (.int dc), .val (.int ln), .val (.ref b404), .val (.ref sx), .unset, .unset, .unset] [(.int (2 : Int32)), (.ref b383), (.ref b636), (.ref b636)])) rfl hml.symm  (argsL := [(.ref b383), (.int (2 : Int32))]) (rest := [(.ref b636), (.ref b636)]) (lenOf own_pd11 rfl) rfl (by show 2 * 0 + _ ≤ _; exact Nat.le_of_eq rfl) (hb hby at_257) (fun _ _ => ⟨rfl, e636, (by decide : 4 + 1 ≤ 32), (by decide : 13 + 2 ≤ 1152)⟩)
                dsimp only [Pt.U, Pt.locs, Pt.cells, Pt.slots] at X646 l646 y646 z646 st646 hQ646
                subst l646 y646 z646
                obtain ⟨b_646, kb_646, rfl, N646, K646_, P647, P648⟩ := hQ646
                have N649 := Fr.app N433 N646
                have CR650 : CHr Z own_EL s.vm h0 vm433 T646.heap := CHr.trans CR640 (CHr.keep K646_ sf0 CR640.1)
                have Z651 : n0 ≤ T646.heap.size := Nat.le_trans Z641 K646_.1
                have hk651 := Nat.le_trans hk641 K646_.1
                have ne652 : b383 ≠ b_646 := Nat.ne_of_lt (Nat.lt_of_lt_of_le F645.lt P648)
                have F653 : Arv Z h636 b404 k404 .char (3 : Int32) [(.int x0), (.int x1), (.int x2)] (.int (0 : Int32)) := (F435.ext E636)
                have ne654 : b404 ≠ b_646 := Nat.ne_of_lt (Nat.lt_of_lt_of_le F653.lt P648)
                have F655 : Arv Z h636 sx kx_ .char mm (own_tk mm x0 x1 x2) (.int (0 : Int32)) := (F436.ext E636)
                have ne656 : sx ≠ b_646 := Nat.ne_of_lt (Nat.lt_of_lt_of_le F655.lt P648)
                have ne657 : b636 ≠ b_646 := Nat.ne_of_lt (Nat.lt_of_lt_of_le A636.lt P648)
                have ge658 : n0 ≤ b_646 := Nat.le_trans Z641 P648
                refine own_st (T' := T646) (g' := (mkF m 260 #[.val (.int p1), .val (.int p2), .val (.int p3), .val (.ref b383), .val (.int (2 : Int32)), .val (.int mm), .val (.int cp), .val (.int dc), .val (.int ln), .val (.ref b404), .val (.ref sx), .unset, .unset, .unset] [(.ref b_646), (.ref b636), (.ref b636)])) st646 ?_
                have F659 : Exa Z T646.heap b636 "java/lang/String" := (Exa.keep A636 K646_)
                have F660 : Fld Z T646.heap b636 "java/lang/String" "value" "[B" .null := (Fld.keep F644 K646_ nin0)
                have F661 : Fld Z T646.heap b636 "java/lang/String" "coder" "B" (.int (0 : Int32)) := (Fld.keep F643 K646_ nin0)
                have F662 : Old Z n0 T646.heap := (Old.keep (Old.ext O433 E636) K646_ all0)
                obtain ⟨_, _, ⟨T663, L663, k663, n663⟩, -, X663, ⟨Lc663, hQ663, l663, y663, z663⟩, st663⟩ := X646.specialBack hx (y := (⟨"java/lang/String", "<init>", "([C)V"⟩ : MethodName)) rfl hown433 (mvT hZ433 (own_k hw 8 rfl)) (mvT hZ433 (own_k hw 9 rfl)) (mvT hZ433 (own_k hw 10 rfl)) (by decide) (StrChars.Road.backV (W := 1) hZ433 (own_hws hw) (kI := 4) (own_k hw 6 rfl) (cs := ([w0, w1] : List Int32)) (bs := (([w0, w1] : List Int32)).map (fun c => c.toInt8.toInt32)) (n := 2) ge_b636 Z651 F659 F660 F661 P647 (Sta.ext F662.2 pr2) pr3 rfl rfl (by decide) (by decide) (by intro c hc; simp only [List.mem_cons, List.not_mem_nil, or_false] at hc; rcases hc with rfl | rfl <;> first | exact b_w0 | exact b_w1) rfl (by decide) (by decide)) (g := (mkF m 260 #[.val (.int p1), .val (.int p2), .val (.int p3), .val (.ref b383), .val (.int (2 : Int32)), .val (.int mm), .val (.int cp), .val (.int dc), .val (.int ln), .val (.ref b404), .val (.ref sx), .unset, .unset, .unset] [(.ref b_646), (.ref b636), (.ref b636)])) rfl hml.symm (Steps.refl _) (a := b636) (argsL := [(.ref b_646)]) (rest := [(.ref b636)]) (lenOf own_pd12 rfl) rfl (by show 2 * 0 + _ ≤ _; exact Nat.le_of_eq rfl) (hb hby at_260) (fun _ _ => ⟨rfl, rfl, (by decide : 5 + 1 ≤ 32), (by decide : 15 + 2 ≤ 1152)⟩)
                dsimp only [Pt.U, Pt.locs, Pt.cells, Pt.slots] at X663 l663 y663 z663 st663 hQ663
                subst l663 y663 z663
                obtain ⟨rfl, N663, K663_, gE663, gC663, t663, kb663, gt663, hz663, ht663, gV663, gA663⟩ := hQ663
                have N664 := Fr.app N649 N663
                have F665 : Safe Z own_EL vm433 T646.heap b636 := (Safe.keep K646_ sf0 CR640.1 S642)
                have CR666 : CHr Z own_EL s.vm h0 vm433 T663.heap := CHr.trans CR650 (CHr.keep K663_ (sfS F665 sf0) CR650.1)
                have Z667 : n0 ≤ T663.heap.size := Nat.le_trans Z651 K663_.1
                have hk667 := Nat.le_trans hk651 K663_.1
                have F668 : Arv Z T646.heap b383 k383 .char (3 : Int32) [(.int w0), (.int w1), (.int w2)] (.int (0 : Int32)) := (Arv.keep F645 K646_ nin0)
                have ne669 : b383 ≠ t663 := Nat.ne_of_lt (Nat.lt_of_lt_of_le F668.lt hz663)
                have F670 : Arv Z T646.heap b404 k404 .char (3 : Int32) [(.int x0), (.int x1), (.int x2)] (.int (0 : Int32)) := (Arv.keep F653 K646_ nin0)
                have ne671 : b404 ≠ t663 := Nat.ne_of_lt (Nat.lt_of_lt_of_le F670.lt hz663)
                have F672 : Arv Z T646.heap sx kx_ .char mm (own_tk mm x0 x1 x2) (.int (0 : Int32)) := (Arv.keep F655 K646_ nin0)
                have ne673 : sx ≠ t663 := Nat.ne_of_lt (Nat.lt_of_lt_of_le F672.lt hz663)
                have ne674 : b636 ≠ t663 := Nat.ne_of_lt (Nat.lt_of_lt_of_le F659.lt hz663)
                have ne675 : b_646 ≠ t663 := Nat.ne_of_lt (Nat.lt_of_lt_of_le P647.lt hz663)
                refine own_tr (T' := T663) (g' := (mkF m 263 #[.val (.int p1), .val (.int p2), .val (.int p3), .val (.ref b383), .val (.int (2 : Int32)), .val (.int mm), .val (.int cp), .val (.int dc), .val (.int ln), .val (.ref b404), .val (.ref sx), .unset, .unset, .unset] [(.ref b636)])) st663 ?_
                refine own_st (T' := T663) (g' := (mkF m 265 #[.val (.int p1), .val (.int p2), .val (.int p3), .val (.ref b383), .val (.int (2 : Int32)), .val (.int mm), .val (.int cp), .val (.int dc), .val (.int ln), .val (.ref b404), .val (.ref sx), .val (.ref b636), .unset, .unset] [])) (fun _ kt => XS.astore X663.here hx rfl (hb hby at_263) rfl rfl (l' := #[.val (.int p1), .val (.int p2), .val (.int p3), .val (.ref b383), .val (.int (2 : Int32)), .val (.int mm), .val (.int cp), .val (.int dc), .val (.int ln), .val (.ref b404), .val (.ref sx), .val (.ref b636), .unset, .unset]) rfl kt) ?_
                obtain ⟨T676, h676, X676, e676, E676, A676, D676, -, st676⟩ := newO X663 hx hZ433 hown433 (own_k hw 34 rfl) (own_k hw 35 rfl) (own_k hw 36 rfl) rfl (g := (mkF m 265 #[.val (.int p1), .val (.int p2), .val (.int p3), .val (.ref b383), .val (.int (2 : Int32)), .val (.int mm), .val (.int cp), .val (.int dc), .val (.int ln), .val (.ref b404), .val (.ref sx), .val (.ref b636), .unset, .unset] [])) rfl (hb hby at_265) (by decide) (by decide)
                obtain ⟨b676, g676⟩ : ∃ z, z = T663.heap.size := ⟨_, rfl⟩
                rw [← g676] at A676 D676 st676
                have F677 : Arv Z T663.heap b383 k383 .char (3 : Int32) [(.int w0), (.int w1), (.int w2)] (.int (0 : Int32)) := (Arv.keep F668 K663_ (ninS ne637 nin0))
                have ne678 : b383 ≠ b676 := by rw [g676]; exact Nat.ne_of_lt F677.lt
                have F679 : Arv Z T663.heap b404 k404 .char (3 : Int32) [(.int x0), (.int x1), (.int x2)] (.int (0 : Int32)) := (Arv.keep F670 K663_ (ninS ne638 nin0))
                have ne680 : b404 ≠ b676 := by rw [g676]; exact Nat.ne_of_lt F679.lt
                have F681 : Arv Z T663.heap sx kx_ .char mm (own_tk mm x0 x1 x2) (.int (0 : Int32)) := (Arv.keep F672 K663_ (ninS ne639 nin0))
                have ne682 : sx ≠ b676 := by rw [g676]; exact Nat.ne_of_lt F681.lt
                have ne683 : b636 ≠ b676 := by rw [g676]; exact Nat.ne_of_lt gE663.lt
                have F684 : Arv Z T663.heap b_646 kb_646 .char (2 : Int32) [(.int w0), (.int w1)] (.int (0 : Int32)) := (Arv.keep P647 K663_ (ninS (Ne.symm ne657) nin0))
                have ne685 : b_646 ≠ b676 := by rw [g676]; exact Nat.ne_of_lt F684.lt
                have ne686 : t663 ≠ b676 := by rw [g676]; exact Nat.ne_of_lt gA663.lt
                have CR687 : CHr Z own_EL s.vm h0 vm433 h676 := CHr.trans CR666 (CHr.ext E676 CR666.1)
                have Z688 : n0 ≤ h676.size := Nat.le_trans Z667 E676.1
                have hk688 := Nat.le_trans hk667 E676.1
                have ge_b676 : n0 ≤ b676 := Nat.le_trans Z667 (Nat.le_of_eq g676.symm)
                have S689 : Safe Z own_EL vm433 h676 b676 := (Safe.ext E676 CR666.1 (Safe.new (Nat.le_of_eq g676.symm)))
                have F690 : Fld Z h676 b676 "com/example/tally_rank/tallyrank/analysis/SuffixWord" "letters" "[C" .null := D676 (Or.inr (own_k hw 59 rfl)) (ty := (.array .char)) (by decide)
                have F691 : Fld Z h676 b676 "com/example/tally_rank/tallyrank/analysis/SuffixWord" "length" "I" (.int (0 : Int32)) := D676 (Or.inl (own_k hw 71 rfl)) (ty := .int) (by decide)
                refine own_st (T' := T676) (g' := (mkF m 268 #[.val (.int p1), .val (.int p2), .val (.int p3), .val (.ref b383), .val (.int (2 : Int32)), .val (.int mm), .val (.int cp), .val (.int dc), .val (.int ln), .val (.ref b404), .val (.ref sx), .val (.ref b636), .unset, .unset] [(.ref b676)])) st676 ?_
                refine own_st (T' := T676) (g' := (mkF m 271 #[.val (.int p1), .val (.int p2), .val (.int p3), .val (.ref b383), .val (.int (2 : Int32)), .val (.int mm), .val (.int cp), .val (.int dc), .val (.int ln), .val (.ref b404), .val (.ref sx), .val (.ref b636), .unset, .unset] [(.ref b636), (.ref b676), (.ref b676)])) (fun _ kt => XS.dup X676.here hx rfl (hb hby at_268) rfl rfl (XS.aload X676.here hx rfl (hb hby at_269) rfl rfl kt)) ?_
                have F692 : Old Z n0 h676 := (Old.ext (Old.keep F662 K663_ (allS ge_b636 all0)) E676)
                have F693 : Exa Z h676 b636 "java/lang/String" := (Exa.ext E676 gE663)
                have F694 : Fld Z h676 b636 "java/lang/String" "coder" "B" (.int (0 : Int32)) := (Fld.ext E676 gC663)
                have F695 : Fld Z h676 b636 "java/lang/String" "value" "[B" (.ref t663) := (Fld.ext E676 gV663)
                have F696 : Arv Z h676 t663 kb663 .byte (2 : Int32) [(.int w0.toInt8.toInt32), (.int w1.toInt8.toInt32)] (.int (0 : Int32)) := (gA663.ext E676)
                obtain ⟨_, _, ⟨T697, L697, k697, n697⟩, -, X697, ⟨Lc697, hQ697, l697, y697, z697⟩, st697⟩ := X676.specialBack hx (y := (⟨"com/example/tally_rank/tallyrank/analysis/SuffixWord", "<init>", "(Ljava/lang/String;)V"⟩ : MethodName)) rfl hown433 (mvT hZ433 (own_k hw 37 rfl)) (mvT hZ433 (own_k hw 38 rfl)) (mvT hZ433 (own_k hw 39 rfl)) (by decide) (backOf (W := 1) (own_swi2 l Z a0 hw [] b676 b636 zc t663 kb663 w0 w1 h676 n0 Z688 F692 pr2 pr3 A676 ge_b676 F690 F691 F693 F694 F695 F696 b_w0 b_w1) hZ433 (own_k hw 39 rfl) (own_k hw 36 rfl) (by decide) (by decide)) (g := (mkF m 271 #[.val (.int p1), .val (.int p2), .val (.int p3), .val (.ref b383), .val (.int (2 : Int32)), .val (.int mm), .val (.int cp), .val (.int dc), .val (.int ln), .val (.ref b404), .val (.ref sx), .val (.ref b636), .unset, .unset] [(.ref b636), (.ref b676), (.ref b676)])) rfl hml.symm (Steps.refl _) (a := b676) (argsL := [(.ref b636)]) (rest := [(.ref b676)]) (lenOf own_pd13 rfl) rfl (by show 2 * 0 + _ ≤ _; exact Nat.le_of_eq rfl) (hb hby at_271) (fun _ _ => ⟨rfl, e676, (by decide : 7 + 1 ≤ 32), (by decide : 19 + 2 ≤ 1152)⟩)
                dsimp only [Pt.U, Pt.locs, Pt.cells, Pt.slots] at X697 l697 y697 z697 st697 hQ697
                subst l697 y697 z697
                obtain ⟨b_697, kb_697, rfl, N697, K697_, P698, P699, P700, P701, P702⟩ := hQ697
                have N703 := Fr.app N664 N697
                have CR704 : CHr Z own_EL s.vm h0 vm433 T697.heap := CHr.trans CR687 (CHr.keep K697_ (sfS S689 sf0) CR687.1)
                have Z705 : n0 ≤ T697.heap.size := Nat.le_trans Z688 K697_.1
                have hk705 := Nat.le_trans hk688 K697_.1
                have F706 : Arv Z h676 b383 k383 .char (3 : Int32) [(.int w0), (.int w1), (.int w2)] (.int (0 : Int32)) := (F677.ext E676)
                have ne707 : b383 ≠ b_697 := Nat.ne_of_lt (Nat.lt_of_lt_of_le F706.lt P702)
                have F708 : Arv Z h676 b404 k404 .char (3 : Int32) [(.int x0), (.int x1), (.int x2)] (.int (0 : Int32)) := (F679.ext E676)
                have ne709 : b404 ≠ b_697 := Nat.ne_of_lt (Nat.lt_of_lt_of_le F708.lt P702)
                have F710 : Arv Z h676 sx kx_ .char mm (own_tk mm x0 x1 x2) (.int (0 : Int32)) := (F681.ext E676)
                have ne711 : sx ≠ b_697 := Nat.ne_of_lt (Nat.lt_of_lt_of_le F710.lt P702)
                have ne712 : b636 ≠ b_697 := Nat.ne_of_lt (Nat.lt_of_lt_of_le F693.lt P702)
                have F713 : Arv Z h676 b_646 kb_646 .char (2 : Int32) [(.int w0), (.int w1)] (.int (0 : Int32)) := (F684.ext E676)
                have ne714 : b_646 ≠ b_697 := Nat.ne_of_lt (Nat.lt_of_lt_of_le F713.lt P702)
                have ne715 : t663 ≠ b_697 := Nat.ne_of_lt (Nat.lt_of_lt_of_le F696.lt P702)
                have ge716 : n0 ≤ b_697 := Nat.le_trans Z688 P702
                refine own_tr (T' := T697) (g' := (mkF m 274 #[.val (.int p1), .val (.int p2), .val (.int p3), .val (.ref b383), .val (.int (2 : Int32)), .val (.int mm), .val (.int cp), .val (.int dc), .val (.int ln), .val (.ref b404), .val (.ref sx), .val (.ref b636), .unset, .unset] [(.ref b676)])) st697 ?_
                refine own_st (T' := T697) (g' := (mkF m 276 #[.val (.int p1), .val (.int p2), .val (.int p3), .val (.ref b383), .val (.int (2 : Int32)), .val (.int mm), .val (.int cp), .val (.int dc), .val (.int ln), .val (.ref b404), .val (.ref sx), .val (.ref b636), .val (.ref b676), .unset] [])) (fun _ kt => XS.astore X697.here hx rfl (hb hby at_274) rfl rfl (l' := #[.val (.int p1), .val (.int p2), .val (.int p3), .val (.ref b383), .val (.int (2 : Int32)), .val (.int mm), .val (.int cp), .val (.int dc), .val (.int ln), .val (.ref b404), .val (.ref sx), .val (.ref b636), .val (.ref b676), .unset]) rfl kt) ?_
                have F717 : Old Z n0 T697.heap := (Old.keep F692 K697_ (allS ge_b676 all0))
                have F718 : Arv Z T697.heap b383 k383 .char (3 : Int32) [(.int w0), (.int w1), (.int w2)] (.int (0 : Int32)) := (Arv.keep F706 K697_ (ninS ne678 nin0))
                have F719 : Arv Z T697.heap b404 k404 .char (3 : Int32) [(.int x0), (.int x1), (.int x2)] (.int (0 : Int32)) := (Arv.keep F708 K697_ (ninS ne680 nin0))
                have F720 : Arv Z T697.heap sx kx_ .char mm (own_tk mm x0 x1 x2) (.int (0 : Int32)) := (Arv.keep F710 K697_ (ninS ne682 nin0))
                have F721 : Exa Z T697.heap b676 "com/example/tally_rank/tallyrank/analysis/SuffixWord" := (Exa.keep A676 K697_)
                exact J437 _ _ _ _ _ ⟨b676, b_697, kb_697, b636⟩ ⟨N703, Z705, F717, CR704, hS433, hk705, hZ433, hown433, F718, F719, F720, P698, ge_b676, P699, (by first | exact P700 | simpa [own_tk] using P700), (by first | exact P701 | simpa [own_tk] using P701), (Ne.symm (Exa.neArv F721 P701 (own_k hw 35 rfl)))⟩ (X697.mono (by decide) (by decide)) rfl
              · -- n = 3
                obtain ⟨T722, h722, X722, e722, E722, A722, D722, -, st722⟩ := newO X433 hx hZ433 hown433 (own_k hw 5 rfl) (own_k hw 6 rfl) (own_k hw 7 rfl) e433 (g := (mkF m 250 #[.val (.int p1), .val (.int p2), .val (.int p3), .val (.ref b383), .val (.int (3 : Int32)), .val (.int mm), .val (.int cp), .val (.int dc), .val (.int ln), .val (.ref b404), .val (.ref sx), .unset, .unset, .unset] [])) rfl (hb hby at_250) (by decide) (by decide)
                obtain ⟨b722, g722⟩ : ∃ z, z = h433.size := ⟨_, rfl⟩
                rw [← g722] at A722 D722 st722
                have ne723 : b383 ≠ b722 := by rw [g722]; exact Nat.ne_of_lt F434.lt
                have ne724 : b404 ≠ b722 := by rw [g722]; exact Nat.ne_of_lt F435.lt
                have ne725 : sx ≠ b722 := by rw [g722]; exact Nat.ne_of_lt F436.lt
                have CR726 : CHr Z own_EL s.vm h0 vm433 h722 := CHr.trans CR433 (CHr.ext E722 CR433.1)
                have Z727 : n0 ≤ h722.size := Nat.le_trans Z433 E722.1
                have hk727 := Nat.le_trans hk433 E722.1
                have ge_b722 : n0 ≤ b722 := Nat.le_trans Z433 (Nat.le_of_eq g722.symm)
                have S728 : Safe Z own_EL vm433 h722 b722 := (Safe.ext E722 CR433.1 (Safe.new (Nat.le_of_eq g722.symm)))
                have F729 : Fld Z h722 b722 "java/lang/String" "coder" "B" (.int (0 : Int32)) := D722 (Or.inr (own_k hw 31 rfl)) (ty := .byte) (by decide)
                have F730 : Fld Z h722 b722 "java/lang/String" "value" "[B" .null := D722 (Or.inr (own_k hw 33 rfl)) (ty := (.array .byte)) (by decide)
                refine own_st (T' := T722) (g' := (mkF m 253 #[.val (.int p1), .val (.int p2), .val (.int p3), .val (.ref b383), .val (.int (3 : Int32)), .val (.int mm), .val (.int cp), .val (.int dc), .val (.int ln), .val (.ref b404), .val (.ref sx), .unset, .unset, .unset] [(.ref b722)])) st722 ?_
                refine own_st (T' := T722) (g' := (mkF m 257 #[.val (.int p1), .val (.int p2), .val (.int p3), .val (.ref b383), .val (.int (3 : Int32)), .val (.int mm), .val (.int cp), .val (.int dc), .val (.int ln), .val (.ref b404), .val (.ref sx), .unset, .unset, .unset] [(.int (3 : Int32)), (.ref b383), (.ref b722), (.ref b722)])) (fun _ kt => XS.dup X722.here hx rfl (hb hby at_253) rfl rfl (XS.aloadN X722.here hx rfl (hb hby at_254) rfl rfl (XS.iload X722.here hx rfl (hb hby at_255) rfl kt))) ?_
                have F731 : Arv Z h722 b383 k383 .char (3 : Int32) [(.int w0), (.int w1), (.int w2)] (.int (0 : Int32)) := (F434.ext E722)
                obtain ⟨_, _, ⟨T732, L732, k732, n732⟩, -, X732, ⟨Lc732, hQ732, l732, y732, z732⟩, st732⟩ := Jvm.LawKit.callS X722 hx (y := (⟨"com/example/tally_rank/tallyrank/analysis/SuffixWordEndsWithPinLaw", "take", "([CI)[C"⟩ : MethodName)) hown433 (mvT hZ433 (own_k hw 1 rfl)) (mvT hZ433 (own_k hw 2 rfl)) (mvT hZ433 (own_k hw 3 rfl)) (mvT hZ433 (own_k hw 4 rfl)) (by decide) (backOf (W := 2) (own_take3 l Z a0 hw [] b383 k383 w0 w1 w2 (.int (0 : Int32)) h722 n0 Z727 F731 n_w0 n_w1 n_w2) hZ433 (own_k hw 4 rfl) (own_k hw 3 rfl) (by decide) (by decide)) (g := (mkF m 257 #[.val (.int p1), .val (.int p2), .val (.int p3), .val (.ref b383), .val (.int (3 : Int32)), .val (.int mm), .val (.int cp), .val (.int dc), .val (.int ln), .val (.ref b404), .val (.ref sx), .unset, .unset, .unset] [(.int (3 : Int32)), (.ref b383), (.ref b722), (.ref b722)])) rfl hml.symm  (argsL := [(.ref b383), (.int (3 : Int32))]) (rest := [(.ref b722), (.ref b722)]) (lenOf own_pd11 rfl) rfl (by show 2 * 0 + _ ≤ _; exact Nat.le_of_eq rfl) (hb hby at_257) (fun _ _ => ⟨rfl, e722, (by decide : 4 + 1 ≤ 32), (by decide : 13 + 3 ≤ 1152)⟩)
                dsimp only [Pt.U, Pt.locs, Pt.cells, Pt.slots] at X732 l732 y732 z732 st732 hQ732
                subst l732 y732 z732
                obtain ⟨b_732, kb_732, rfl, N732, K732_, P733, P734⟩ := hQ732
                have N735 := Fr.app N433 N732
                have CR736 : CHr Z own_EL s.vm h0 vm433 T732.heap := CHr.trans CR726 (CHr.keep K732_ sf0 CR726.1)
                have Z737 : n0 ≤ T732.heap.size := Nat.le_trans Z727 K732_.1
                have hk737 := Nat.le_trans hk727 K732_.1
                have ne738 : b383 ≠ b_732 := Nat.ne_of_lt (Nat.lt_of_lt_of_le F731.lt P734)
                have F739 : Arv Z h722 b404 k404 .char (3 : Int32) [(.int x0), (.int x1), (.int x2)] (.int (0 : Int32)) := (F435.ext E722)
                have ne740 : b404 ≠ b_732 := Nat.ne_of_lt (Nat.lt_of_lt_of_le F739.lt P734)
                have F741 : Arv Z h722 sx kx_ .char mm (own_tk mm x0 x1 x2) (.int (0 : Int32)) := (F436.ext E722)
                have ne742 : sx ≠ b_732 := Nat.ne_of_lt (Nat.lt_of_lt_of_le F741.lt P734)
                have ne743 : b722 ≠ b_732 := Nat.ne_of_lt (Nat.lt_of_lt_of_le A722.lt P734)
                have ge744 : n0 ≤ b_732 := Nat.le_trans Z727 P734
                refine own_st (T' := T732) (g' := (mkF m 260 #[.val (.int p1), .val (.int p2), .val (.int p3), .val (.ref b383), .val (.int (3 : Int32)), .val (.int mm), .val (.int cp), .val (.int dc), .val (.int ln), .val (.ref b404), .val (.ref sx), .unset, .unset, .unset] [(.ref b_732), (.ref b722), (.ref b722)])) st732 ?_
                have F745 : Exa Z T732.heap b722 "java/lang/String" := (Exa.keep A722 K732_)
                have F746 : Fld Z T732.heap b722 "java/lang/String" "value" "[B" .null := (Fld.keep F730 K732_ nin0)
                have F747 : Fld Z T732.heap b722 "java/lang/String" "coder" "B" (.int (0 : Int32)) := (Fld.keep F729 K732_ nin0)
                have F748 : Old Z n0 T732.heap := (Old.keep (Old.ext O433 E722) K732_ all0)
                obtain ⟨_, _, ⟨T749, L749, k749, n749⟩, -, X749, ⟨Lc749, hQ749, l749, y749, z749⟩, st749⟩ := X732.specialBack hx (y := (⟨"java/lang/String", "<init>", "([C)V"⟩ : MethodName)) rfl hown433 (mvT hZ433 (own_k hw 8 rfl)) (mvT hZ433 (own_k hw 9 rfl)) (mvT hZ433 (own_k hw 10 rfl)) (by decide) (StrChars.Road.backV (W := 1) hZ433 (own_hws hw) (kI := 4) (own_k hw 6 rfl) (cs := ([w0, w1, w2] : List Int32)) (bs := (([w0, w1, w2] : List Int32)).map (fun c => c.toInt8.toInt32)) (n := 3) ge_b722 Z737 F745 F746 F747 P733 (Sta.ext F748.2 pr2) pr3 rfl rfl (by decide) (by decide) (by intro c hc; simp only [List.mem_cons, List.not_mem_nil, or_false] at hc; rcases hc with rfl | rfl | rfl <;> first | exact b_w0 | exact b_w1 | exact b_w2) rfl (by decide) (by decide)) (g := (mkF m 260 #[.val (.int p1), .val (.int p2), .val (.int p3), .val (.ref b383), .val (.int (3 : Int32)), .val (.int mm), .val (.int cp), .val (.int dc), .val (.int ln), .val (.ref b404), .val (.ref sx), .unset, .unset, .unset] [(.ref b_732), (.ref b722), (.ref b722)])) rfl hml.symm (Steps.refl _) (a := b722) (argsL := [(.ref b_732)]) (rest := [(.ref b722)]) (lenOf own_pd12 rfl) rfl (by show 2 * 0 + _ ≤ _; exact Nat.le_of_eq rfl) (hb hby at_260) (fun _ _ => ⟨rfl, rfl, (by decide : 5 + 1 ≤ 32), (by decide : 16 + 3 ≤ 1152)⟩)
                dsimp only [Pt.U, Pt.locs, Pt.cells, Pt.slots] at X749 l749 y749 z749 st749 hQ749
                subst l749 y749 z749
                obtain ⟨rfl, N749, K749_, gE749, gC749, t749, kb749, gt749, hz749, ht749, gV749, gA749⟩ := hQ749
                have N750 := Fr.app N735 N749
                have F751 : Safe Z own_EL vm433 T732.heap b722 := (Safe.keep K732_ sf0 CR726.1 S728)
                have CR752 : CHr Z own_EL s.vm h0 vm433 T749.heap := CHr.trans CR736 (CHr.keep K749_ (sfS F751 sf0) CR736.1)
                have Z753 : n0 ≤ T749.heap.size := Nat.le_trans Z737 K749_.1
                have hk753 := Nat.le_trans hk737 K749_.1
                have F754 : Arv Z T732.heap b383 k383 .char (3 : Int32) [(.int w0), (.int w1), (.int w2)] (.int (0 : Int32)) := (Arv.keep F731 K732_ nin0)
                have ne755 : b383 ≠ t749 := Nat.ne_of_lt (Nat.lt_of_lt_of_le F754.lt hz749)
                have F756 : Arv Z T732.heap b404 k404 .char (3 : Int32) [(.int x0), (.int x1), (.int x2)] (.int (0 : Int32)) := (Arv.keep F739 K732_ nin0)
                have ne757 : b404 ≠ t749 := Nat.ne_of_lt (Nat.lt_of_lt_of_le F756.lt hz749)
                have F758 : Arv Z T732.heap sx kx_ .char mm (own_tk mm x0 x1 x2) (.int (0 : Int32)) := (Arv.keep F741 K732_ nin0)
                have ne759 : sx ≠ t749 := Nat.ne_of_lt (Nat.lt_of_lt_of_le F758.lt hz749)
                have ne760 : b722 ≠ t749 := Nat.ne_of_lt (Nat.lt_of_lt_of_le F745.lt hz749)
                have ne761 : b_732 ≠ t749 := Nat.ne_of_lt (Nat.lt_of_lt_of_le P733.lt hz749)
                refine own_tr (T' := T749) (g' := (mkF m 263 #[.val (.int p1), .val (.int p2), .val (.int p3), .val (.ref b383), .val (.int (3 : Int32)), .val (.int mm), .val (.int cp), .val (.int dc), .val (.int ln), .val (.ref b404), .val (.ref sx), .unset, .unset, .unset] [(.ref b722)])) st749 ?_
                refine own_st (T' := T749) (g' := (mkF m 265 #[.val (.int p1), .val (.int p2), .val (.int p3), .val (.ref b383), .val (.int (3 : Int32)), .val (.int mm), .val (.int cp), .val (.int dc), .val (.int ln), .val (.ref b404), .val (.ref sx), .val (.ref b722), .unset, .unset] [])) (fun _ kt => XS.astore X749.here hx rfl (hb hby at_263) rfl rfl (l' := #[.val (.int p1), .val (.int p2), .val (.int p3), .val (.ref b383), .val (.int (3 : Int32)), .val (.int mm), .val (.int cp), .val (.int dc), .val (.int ln), .val (.ref b404), .val (.ref sx), .val (.ref b722), .unset, .unset]) rfl kt) ?_
                obtain ⟨T762, h762, X762, e762, E762, A762, D762, -, st762⟩ := newO X749 hx hZ433 hown433 (own_k hw 34 rfl) (own_k hw 35 rfl) (own_k hw 36 rfl) rfl (g := (mkF m 265 #[.val (.int p1), .val (.int p2), .val (.int p3), .val (.ref b383), .val (.int (3 : Int32)), .val (.int mm), .val (.int cp), .val (.int dc), .val (.int ln), .val (.ref b404), .val (.ref sx), .val (.ref b722), .unset, .unset] [])) rfl (hb hby at_265) (by decide) (by decide)
                obtain ⟨b762, g762⟩ : ∃ z, z = T749.heap.size := ⟨_, rfl⟩
                rw [← g762] at A762 D762 st762
                have F763 : Arv Z T749.heap b383 k383 .char (3 : Int32) [(.int w0), (.int w1), (.int w2)] (.int (0 : Int32)) := (Arv.keep F754 K749_ (ninS ne723 nin0))
                have ne764 : b383 ≠ b762 := by rw [g762]; exact Nat.ne_of_lt F763.lt
                have F765 : Arv Z T749.heap b404 k404 .char (3 : Int32) [(.int x0), (.int x1), (.int x2)] (.int (0 : Int32)) := (Arv.keep F756 K749_ (ninS ne724 nin0))
                have ne766 : b404 ≠ b762 := by rw [g762]; exact Nat.ne_of_lt F765.lt
                have F767 : Arv Z T749.heap sx kx_ .char mm (own_tk mm x0 x1 x2) (.int (0 : Int32)) := (Arv.keep F758 K749_ (ninS ne725 nin0))
                have ne768 : sx ≠ b762 := by rw [g762]; exact Nat.ne_of_lt F767.lt
                have ne769 : b722 ≠ b762 := by rw [g762]; exact Nat.ne_of_lt gE749.lt
                have F770 : Arv Z T749.heap b_732 kb_732 .char (3 : Int32) [(.int w0), (.int w1), (.int w2)] (.int (0 : Int32)) := (Arv.keep P733 K749_ (ninS (Ne.symm ne743) nin0))
                have ne771 : b_732 ≠ b762 := by rw [g762]; exact Nat.ne_of_lt F770.lt
                have ne772 : t749 ≠ b762 := by rw [g762]; exact Nat.ne_of_lt gA749.lt
                have CR773 : CHr Z own_EL s.vm h0 vm433 h762 := CHr.trans CR752 (CHr.ext E762 CR752.1)
                have Z774 : n0 ≤ h762.size := Nat.le_trans Z753 E762.1
                have hk774 := Nat.le_trans hk753 E762.1
                have ge_b762 : n0 ≤ b762 := Nat.le_trans Z753 (Nat.le_of_eq g762.symm)
                have S775 : Safe Z own_EL vm433 h762 b762 := (Safe.ext E762 CR752.1 (Safe.new (Nat.le_of_eq g762.symm)))
                have F776 : Fld Z h762 b762 "com/example/tally_rank/tallyrank/analysis/SuffixWord" "letters" "[C" .null := D762 (Or.inr (own_k hw 59 rfl)) (ty := (.array .char)) (by decide)
                have F777 : Fld Z h762 b762 "com/example/tally_rank/tallyrank/analysis/SuffixWord" "length" "I" (.int (0 : Int32)) := D762 (Or.inl (own_k hw 71 rfl)) (ty := .int) (by decide)
                refine own_st (T' := T762) (g' := (mkF m 268 #[.val (.int p1), .val (.int p2), .val (.int p3), .val (.ref b383), .val (.int (3 : Int32)), .val (.int mm), .val (.int cp), .val (.int dc), .val (.int ln), .val (.ref b404), .val (.ref sx), .val (.ref b722), .unset, .unset] [(.ref b762)])) st762 ?_
                refine own_st (T' := T762) (g' := (mkF m 271 #[.val (.int p1), .val (.int p2), .val (.int p3), .val (.ref b383), .val (.int (3 : Int32)), .val (.int mm), .val (.int cp), .val (.int dc), .val (.int ln), .val (.ref b404), .val (.ref sx), .val (.ref b722), .unset, .unset] [(.ref b722), (.ref b762), (.ref b762)])) (fun _ kt => XS.dup X762.here hx rfl (hb hby at_268) rfl rfl (XS.aload X762.here hx rfl (hb hby at_269) rfl rfl kt)) ?_
                have F778 : Old Z n0 h762 := (Old.ext (Old.keep F748 K749_ (allS ge_b722 all0)) E762)
                have F779 : Exa Z h762 b722 "java/lang/String" := (Exa.ext E762 gE749)
                have F780 : Fld Z h762 b722 "java/lang/String" "coder" "B" (.int (0 : Int32)) := (Fld.ext E762 gC749)
                have F781 : Fld Z h762 b722 "java/lang/String" "value" "[B" (.ref t749) := (Fld.ext E762 gV749)
                have F782 : Arv Z h762 t749 kb749 .byte (3 : Int32) [(.int w0.toInt8.toInt32), (.int w1.toInt8.toInt32), (.int w2.toInt8.toInt32)] (.int (0 : Int32)) := (gA749.ext E762)
                obtain ⟨_, _, ⟨T783, L783, k783, n783⟩, -, X783, ⟨Lc783, hQ783, l783, y783, z783⟩, st783⟩ := X762.specialBack hx (y := (⟨"com/example/tally_rank/tallyrank/analysis/SuffixWord", "<init>", "(Ljava/lang/String;)V"⟩ : MethodName)) rfl hown433 (mvT hZ433 (own_k hw 37 rfl)) (mvT hZ433 (own_k hw 38 rfl)) (mvT hZ433 (own_k hw 39 rfl)) (by decide) (backOf (W := 1) (own_swi3 l Z a0 hw [] b762 b722 zc t749 kb749 w0 w1 w2 h762 n0 Z774 F778 pr2 pr3 A762 ge_b762 F776 F777 F779 F780 F781 F782 b_w0 b_w1 b_w2) hZ433 (own_k hw 39 rfl) (own_k hw 36 rfl) (by decide) (by decide)) (g := (mkF m 271 #[.val (.int p1), .val (.int p2), .val (.int p3), .val (.ref b383), .val (.int (3 : Int32)), .val (.int mm), .val (.int cp), .val (.int dc), .val (.int ln), .val (.ref b404), .val (.ref sx), .val (.ref b722), .unset, .unset] [(.ref b722), (.ref b762), (.ref b762)])) rfl hml.symm (Steps.refl _) (a := b762) (argsL := [(.ref b722)]) (rest := [(.ref b762)]) (lenOf own_pd13 rfl) rfl (by show 2 * 0 + _ ≤ _; exact Nat.le_of_eq rfl) (hb hby at_271) (fun _ _ => ⟨rfl, e762, (by decide : 7 + 1 ≤ 32), (by decide : 21 + 3 ≤ 1152)⟩)
                dsimp only [Pt.U, Pt.locs, Pt.cells, Pt.slots] at X783 l783 y783 z783 st783 hQ783
                subst l783 y783 z783
                obtain ⟨b_783, kb_783, rfl, N783, K783_, P784, P785, P786, P787, P788⟩ := hQ783
                have N789 := Fr.app N750 N783
                have CR790 : CHr Z own_EL s.vm h0 vm433 T783.heap := CHr.trans CR773 (CHr.keep K783_ (sfS S775 sf0) CR773.1)
                have Z791 : n0 ≤ T783.heap.size := Nat.le_trans Z774 K783_.1
                have hk791 := Nat.le_trans hk774 K783_.1
                have F792 : Arv Z h762 b383 k383 .char (3 : Int32) [(.int w0), (.int w1), (.int w2)] (.int (0 : Int32)) := (F763.ext E762)
                have ne793 : b383 ≠ b_783 := Nat.ne_of_lt (Nat.lt_of_lt_of_le F792.lt P788)
                have F794 : Arv Z h762 b404 k404 .char (3 : Int32) [(.int x0), (.int x1), (.int x2)] (.int (0 : Int32)) := (F765.ext E762)
                have ne795 : b404 ≠ b_783 := Nat.ne_of_lt (Nat.lt_of_lt_of_le F794.lt P788)
                have F796 : Arv Z h762 sx kx_ .char mm (own_tk mm x0 x1 x2) (.int (0 : Int32)) := (F767.ext E762)
                have ne797 : sx ≠ b_783 := Nat.ne_of_lt (Nat.lt_of_lt_of_le F796.lt P788)
                have ne798 : b722 ≠ b_783 := Nat.ne_of_lt (Nat.lt_of_lt_of_le F779.lt P788)
                have F799 : Arv Z h762 b_732 kb_732 .char (3 : Int32) [(.int w0), (.int w1), (.int w2)] (.int (0 : Int32)) := (F770.ext E762)
                have ne800 : b_732 ≠ b_783 := Nat.ne_of_lt (Nat.lt_of_lt_of_le F799.lt P788)
                have ne801 : t749 ≠ b_783 := Nat.ne_of_lt (Nat.lt_of_lt_of_le F782.lt P788)
                have ge802 : n0 ≤ b_783 := Nat.le_trans Z774 P788
                refine own_tr (T' := T783) (g' := (mkF m 274 #[.val (.int p1), .val (.int p2), .val (.int p3), .val (.ref b383), .val (.int (3 : Int32)), .val (.int mm), .val (.int cp), .val (.int dc), .val (.int ln), .val (.ref b404), .val (.ref sx), .val (.ref b722), .unset, .unset] [(.ref b762)])) st783 ?_
                refine own_st (T' := T783) (g' := (mkF m 276 #[.val (.int p1), .val (.int p2), .val (.int p3), .val (.ref b383), .val (.int (3 : Int32)), .val (.int mm), .val (.int cp), .val (.int dc), .val (.int ln), .val (.ref b404), .val (.ref sx), .val (.ref b722), .val (.ref b762), .unset] [])) (fun _ kt => XS.astore X783.here hx rfl (hb hby at_274) rfl rfl (l' := #[.val (.int p1), .val (.int p2), .val (.int p3), .val (.ref b383), .val (.int (3 : Int32)), .val (.int mm), .val (.int cp), .val (.int dc), .val (.int ln), .val (.ref b404), .val (.ref sx), .val (.ref b722), .val (.ref b762), .unset]) rfl kt) ?_
                have F803 : Old Z n0 T783.heap := (Old.keep F778 K783_ (allS ge_b762 all0))
                have F804 : Arv Z T783.heap b383 k383 .char (3 : Int32) [(.int w0), (.int w1), (.int w2)] (.int (0 : Int32)) := (Arv.keep F792 K783_ (ninS ne764 nin0))
                have F805 : Arv Z T783.heap b404 k404 .char (3 : Int32) [(.int x0), (.int x1), (.int x2)] (.int (0 : Int32)) := (Arv.keep F794 K783_ (ninS ne766 nin0))
                have F806 : Arv Z T783.heap sx kx_ .char mm (own_tk mm x0 x1 x2) (.int (0 : Int32)) := (Arv.keep F796 K783_ (ninS ne768 nin0))
                have F807 : Exa Z T783.heap b762 "com/example/tally_rank/tallyrank/analysis/SuffixWord" := (Exa.keep A762 K783_)
                exact J437 _ _ _ _ _ ⟨b762, b_783, kb_783, b722⟩ ⟨N789, Z791, F803, CR790, hS433, hk791, hZ433, hown433, F804, F805, F806, P784, ge_b762, P785, (by first | exact P786 | simpa [own_tk] using P786), (by first | exact P787 | simpa [own_tk] using P787), (Ne.symm (Exa.neArv F807 P787 (own_k hw 35 rfl)))⟩ (X783.mono (by decide) (by decide)) rfl
          ·
            rcases q_mm with rfl | rfl | rfl | rfl
            · -- m = 0
              refine own_st (T' := T430) (g' := (mkF m 245 #[.val (.int p1), .val (.int p2), .val (.int p3), .val (.ref b383), .val (.int nn), .val (.int (0 : Int32)), .val (.int cp), .val (.int dc), .val (.int ln), .val (.ref b404), .unset, .unset, .unset, .unset] [(.int (0 : Int32)), (.ref b404)])) (fun _ kt => XS.aload X430.here hx rfl (hb hby at_241) rfl rfl (XS.iload X430.here hx rfl (hb hby at_243) rfl kt)) ?_
              obtain ⟨_, _, ⟨T808, L808, k808, n808⟩, -, X808, ⟨Lc808, hQ808, l808, y808, z808⟩, st808⟩ := Jvm.LawKit.callS X430 hx (y := (⟨"com/example/tally_rank/tallyrank/analysis/SuffixWordEndsWithPinLaw", "take", "([CI)[C"⟩ : MethodName)) hown430 (mvT hZ430 (own_k hw 1 rfl)) (mvT hZ430 (own_k hw 2 rfl)) (mvT hZ430 (own_k hw 3 rfl)) (mvT hZ430 (own_k hw 4 rfl)) (by decide) (backOf (W := 0) (own_take0 l Z a0 hw [] b404 k404 x0 x1 x2 (.int (0 : Int32)) h430 n0 Z430 F432 n_x0 n_x1 n_x2) hZ430 (own_k hw 4 rfl) (own_k hw 3 rfl) (by decide) (by decide)) (g := (mkF m 245 #[.val (.int p1), .val (.int p2), .val (.int p3), .val (.ref b383), .val (.int nn), .val (.int (0 : Int32)), .val (.int cp), .val (.int dc), .val (.int ln), .val (.ref b404), .unset, .unset, .unset, .unset] [(.int (0 : Int32)), (.ref b404)])) rfl hml.symm  (argsL := [(.ref b404), (.int (0 : Int32))]) (rest := []) (lenOf own_pd11 rfl) rfl (by show 2 * 0 + _ ≤ _; exact Nat.le_of_eq rfl) (hb hby at_245) (fun _ _ => ⟨rfl, e430, (by decide : 2 + 1 ≤ 32), (by decide : 6 + 0 ≤ 1152)⟩)
              dsimp only [Pt.U, Pt.locs, Pt.cells, Pt.slots] at X808 l808 y808 z808 st808 hQ808
              subst l808 y808 z808
              obtain ⟨b_808, kb_808, rfl, N808, K808_, P809, P810⟩ := hQ808
              have N811 := Fr.app N430 N808
              have CR812 : CHr Z own_EL s.vm h0 vm430 T808.heap := CHr.trans CR430 (CHr.keep K808_ sf0 CR430.1)
              have Z813 : n0 ≤ T808.heap.size := Nat.le_trans Z430 K808_.1
              have hk813 := Nat.le_trans hk430 K808_.1
              have ne814 : b383 ≠ b_808 := Nat.ne_of_lt (Nat.lt_of_lt_of_le F431.lt P810)
              have ne815 : b404 ≠ b_808 := Nat.ne_of_lt (Nat.lt_of_lt_of_le F432.lt P810)
              have ge816 : n0 ≤ b_808 := Nat.le_trans Z430 P810
              refine own_st (T' := T808) (g' := (mkF m 248 #[.val (.int p1), .val (.int p2), .val (.int p3), .val (.ref b383), .val (.int nn), .val (.int (0 : Int32)), .val (.int cp), .val (.int dc), .val (.int ln), .val (.ref b404), .unset, .unset, .unset, .unset] [(.ref b_808)])) st808 ?_
              refine own_st (T' := T808) (g' := (mkF m 250 #[.val (.int p1), .val (.int p2), .val (.int p3), .val (.ref b383), .val (.int nn), .val (.int (0 : Int32)), .val (.int cp), .val (.int dc), .val (.int ln), .val (.ref b404), .val (.ref b_808), .unset, .unset, .unset] [])) (fun _ kt => XS.astore X808.here hx rfl (hb hby at_248) rfl rfl (l' := #[.val (.int p1), .val (.int p2), .val (.int p3), .val (.ref b383), .val (.int nn), .val (.int (0 : Int32)), .val (.int cp), .val (.int dc), .val (.int ln), .val (.ref b404), .val (.ref b_808), .unset, .unset, .unset]) rfl kt) ?_
              have F817 : Old Z n0 T808.heap := (Old.keep O430 K808_ all0)
              have F818 : Arv Z T808.heap b383 k383 .char (3 : Int32) [(.int w0), (.int w1), (.int w2)] (.int (0 : Int32)) := (Arv.keep F431 K808_ nin0)
              have F819 : Arv Z T808.heap b404 k404 .char (3 : Int32) [(.int x0), (.int x1), (.int x2)] (.int (0 : Int32)) := (Arv.keep F432 K808_ nin0)
              exact J433 _ _ _ _ _ ⟨b_808, kb_808⟩ ⟨N811, Z813, F817, CR812, hS430, hk813, hZ430, hown430, F818, F819, (by first | exact P809 | simpa [own_tk] using P809)⟩ (X808.mono (by decide) (by decide)) rfl
            · -- m = 1
              refine own_st (T' := T430) (g' := (mkF m 245 #[.val (.int p1), .val (.int p2), .val (.int p3), .val (.ref b383), .val (.int nn), .val (.int (1 : Int32)), .val (.int cp), .val (.int dc), .val (.int ln), .val (.ref b404), .unset, .unset, .unset, .unset] [(.int (1 : Int32)), (.ref b404)])) (fun _ kt => XS.aload X430.here hx rfl (hb hby at_241) rfl rfl (XS.iload X430.here hx rfl (hb hby at_243) rfl kt)) ?_
              obtain ⟨_, _, ⟨T820, L820, k820, n820⟩, -, X820, ⟨Lc820, hQ820, l820, y820, z820⟩, st820⟩ := Jvm.LawKit.callS X430 hx (y := (⟨"com/example/tally_rank/tallyrank/analysis/SuffixWordEndsWithPinLaw", "take", "([CI)[C"⟩ : MethodName)) hown430 (mvT hZ430 (own_k hw 1 rfl)) (mvT hZ430 (own_k hw 2 rfl)) (mvT hZ430 (own_k hw 3 rfl)) (mvT hZ430 (own_k hw 4 rfl)) (by decide) (backOf (W := 0) (own_take1 l Z a0 hw [] b404 k404 x0 x1 x2 (.int (0 : Int32)) h430 n0 Z430 F432 n_x0 n_x1 n_x2) hZ430 (own_k hw 4 rfl) (own_k hw 3 rfl) (by decide) (by decide)) (g := (mkF m 245 #[.val (.int p1), .val (.int p2), .val (.int p3), .val (.ref b383), .val (.int nn), .val (.int (1 : Int32)), .val (.int cp), .val (.int dc), .val (.int ln), .val (.ref b404), .unset, .unset, .unset, .unset] [(.int (1 : Int32)), (.ref b404)])) rfl hml.symm  (argsL := [(.ref b404), (.int (1 : Int32))]) (rest := []) (lenOf own_pd11 rfl) rfl (by show 2 * 0 + _ ≤ _; exact Nat.le_of_eq rfl) (hb hby at_245) (fun _ _ => ⟨rfl, e430, (by decide : 2 + 1 ≤ 32), (by decide : 6 + 1 ≤ 1152)⟩)
              dsimp only [Pt.U, Pt.locs, Pt.cells, Pt.slots] at X820 l820 y820 z820 st820 hQ820
              subst l820 y820 z820
              obtain ⟨b_820, kb_820, rfl, N820, K820_, P821, P822⟩ := hQ820
              have N823 := Fr.app N430 N820
              have CR824 : CHr Z own_EL s.vm h0 vm430 T820.heap := CHr.trans CR430 (CHr.keep K820_ sf0 CR430.1)
              have Z825 : n0 ≤ T820.heap.size := Nat.le_trans Z430 K820_.1
              have hk825 := Nat.le_trans hk430 K820_.1
              have ne826 : b383 ≠ b_820 := Nat.ne_of_lt (Nat.lt_of_lt_of_le F431.lt P822)
              have ne827 : b404 ≠ b_820 := Nat.ne_of_lt (Nat.lt_of_lt_of_le F432.lt P822)
              have ge828 : n0 ≤ b_820 := Nat.le_trans Z430 P822
              refine own_st (T' := T820) (g' := (mkF m 248 #[.val (.int p1), .val (.int p2), .val (.int p3), .val (.ref b383), .val (.int nn), .val (.int (1 : Int32)), .val (.int cp), .val (.int dc), .val (.int ln), .val (.ref b404), .unset, .unset, .unset, .unset] [(.ref b_820)])) st820 ?_
              refine own_st (T' := T820) (g' := (mkF m 250 #[.val (.int p1), .val (.int p2), .val (.int p3), .val (.ref b383), .val (.int nn), .val (.int (1 : Int32)), .val (.int cp), .val (.int dc), .val (.int ln), .val (.ref b404), .val (.ref b_820), .unset, .unset, .unset] [])) (fun _ kt => XS.astore X820.here hx rfl (hb hby at_248) rfl rfl (l' := #[.val (.int p1), .val (.int p2), .val (.int p3), .val (.ref b383), .val (.int nn), .val (.int (1 : Int32)), .val (.int cp), .val (.int dc), .val (.int ln), .val (.ref b404), .val (.ref b_820), .unset, .unset, .unset]) rfl kt) ?_
              have F829 : Old Z n0 T820.heap := (Old.keep O430 K820_ all0)
              have F830 : Arv Z T820.heap b383 k383 .char (3 : Int32) [(.int w0), (.int w1), (.int w2)] (.int (0 : Int32)) := (Arv.keep F431 K820_ nin0)
              have F831 : Arv Z T820.heap b404 k404 .char (3 : Int32) [(.int x0), (.int x1), (.int x2)] (.int (0 : Int32)) := (Arv.keep F432 K820_ nin0)
              exact J433 _ _ _ _ _ ⟨b_820, kb_820⟩ ⟨N823, Z825, F829, CR824, hS430, hk825, hZ430, hown430, F830, F831, (by first | exact P821 | simpa [own_tk] using P821)⟩ (X820.mono (by decide) (by decide)) rfl
            · -- m = 2
              refine own_st (T' := T430) (g' := (mkF m 245 #[.val (.int p1), .val (.int p2), .val (.int p3), .val (.ref b383), .val (.int nn), .val (.int (2 : Int32)), .val (.int cp), .val (.int dc), .val (.int ln), .val (.ref b404), .unset, .unset, .unset, .unset] [(.int (2 : Int32)), (.ref b404)])) (fun _ kt => XS.aload X430.here hx rfl (hb hby at_241) rfl rfl (XS.iload X430.here hx rfl (hb hby at_243) rfl kt)) ?_
              obtain ⟨_, _, ⟨T832, L832, k832, n832⟩, -, X832, ⟨Lc832, hQ832, l832, y832, z832⟩, st832⟩ := Jvm.LawKit.callS X430 hx (y := (⟨"com/example/tally_rank/tallyrank/analysis/SuffixWordEndsWithPinLaw", "take", "([CI)[C"⟩ : MethodName)) hown430 (mvT hZ430 (own_k hw 1 rfl)) (mvT hZ430 (own_k hw 2 rfl)) (mvT hZ430 (own_k hw 3 rfl)) (mvT hZ430 (own_k hw 4 rfl)) (by decide) (backOf (W := 0) (own_take2 l Z a0 hw [] b404 k404 x0 x1 x2 (.int (0 : Int32)) h430 n0 Z430 F432 n_x0 n_x1 n_x2) hZ430 (own_k hw 4 rfl) (own_k hw 3 rfl) (by decide) (by decide)) (g := (mkF m 245 #[.val (.int p1), .val (.int p2), .val (.int p3), .val (.ref b383), .val (.int nn), .val (.int (2 : Int32)), .val (.int cp), .val (.int dc), .val (.int ln), .val (.ref b404), .unset, .unset, .unset, .unset] [(.int (2 : Int32)), (.ref b404)])) rfl hml.symm  (argsL := [(.ref b404), (.int (2 : Int32))]) (rest := []) (lenOf own_pd11 rfl) rfl (by show 2 * 0 + _ ≤ _; exact Nat.le_of_eq rfl) (hb hby at_245) (fun _ _ => ⟨rfl, e430, (by decide : 2 + 1 ≤ 32), (by decide : 6 + 2 ≤ 1152)⟩)
              dsimp only [Pt.U, Pt.locs, Pt.cells, Pt.slots] at X832 l832 y832 z832 st832 hQ832
              subst l832 y832 z832
              obtain ⟨b_832, kb_832, rfl, N832, K832_, P833, P834⟩ := hQ832
              have N835 := Fr.app N430 N832
              have CR836 : CHr Z own_EL s.vm h0 vm430 T832.heap := CHr.trans CR430 (CHr.keep K832_ sf0 CR430.1)
              have Z837 : n0 ≤ T832.heap.size := Nat.le_trans Z430 K832_.1
              have hk837 := Nat.le_trans hk430 K832_.1
              have ne838 : b383 ≠ b_832 := Nat.ne_of_lt (Nat.lt_of_lt_of_le F431.lt P834)
              have ne839 : b404 ≠ b_832 := Nat.ne_of_lt (Nat.lt_of_lt_of_le F432.lt P834)
              have ge840 : n0 ≤ b_832 := Nat.le_trans Z430 P834
              refine own_st (T' := T832) (g' := (mkF m 248 #[.val (.int p1), .val (.int p2), .val (.int p3), .val (.ref b383), .val (.int nn), .val (.int (2 : Int32)), .val (.int cp), .val (.int dc), .val (.int ln), .val (.ref b404), .unset, .unset, .unset, .unset] [(.ref b_832)])) st832 ?_
              refine own_st (T' := T832) (g' := (mkF m 250 #[.val (.int p1), .val (.int p2), .val (.int p3), .val (.ref b383), .val (.int nn), .val (.int (2 : Int32)), .val (.int cp), .val (.int dc), .val (.int ln), .val (.ref b404), .val (.ref b_832), .unset, .unset, .unset] [])) (fun _ kt => XS.astore X832.here hx rfl (hb hby at_248) rfl rfl (l' := #[.val (.int p1), .val (.int p2), .val (.int p3), .val (.ref b383), .val (.int nn), .val (.int (2 : Int32)), .val (.int cp), .val (.int dc), .val (.int ln), .val (.ref b404), .val (.ref b_832), .unset, .unset, .unset]) rfl kt) ?_
              have F841 : Old Z n0 T832.heap := (Old.keep O430 K832_ all0)
              have F842 : Arv Z T832.heap b383 k383 .char (3 : Int32) [(.int w0), (.int w1), (.int w2)] (.int (0 : Int32)) := (Arv.keep F431 K832_ nin0)
              have F843 : Arv Z T832.heap b404 k404 .char (3 : Int32) [(.int x0), (.int x1), (.int x2)] (.int (0 : Int32)) := (Arv.keep F432 K832_ nin0)
              exact J433 _ _ _ _ _ ⟨b_832, kb_832⟩ ⟨N835, Z837, F841, CR836, hS430, hk837, hZ430, hown430, F842, F843, (by first | exact P833 | simpa [own_tk] using P833)⟩ (X832.mono (by decide) (by decide)) rfl
            · -- m = 3
              refine own_st (T' := T430) (g' := (mkF m 245 #[.val (.int p1), .val (.int p2), .val (.int p3), .val (.ref b383), .val (.int nn), .val (.int (3 : Int32)), .val (.int cp), .val (.int dc), .val (.int ln), .val (.ref b404), .unset, .unset, .unset, .unset] [(.int (3 : Int32)), (.ref b404)])) (fun _ kt => XS.aload X430.here hx rfl (hb hby at_241) rfl rfl (XS.iload X430.here hx rfl (hb hby at_243) rfl kt)) ?_
              obtain ⟨_, _, ⟨T844, L844, k844, n844⟩, -, X844, ⟨Lc844, hQ844, l844, y844, z844⟩, st844⟩ := Jvm.LawKit.callS X430 hx (y := (⟨"com/example/tally_rank/tallyrank/analysis/SuffixWordEndsWithPinLaw", "take", "([CI)[C"⟩ : MethodName)) hown430 (mvT hZ430 (own_k hw 1 rfl)) (mvT hZ430 (own_k hw 2 rfl)) (mvT hZ430 (own_k hw 3 rfl)) (mvT hZ430 (own_k hw 4 rfl)) (by decide) (backOf (W := 0) (own_take3 l Z a0 hw [] b404 k404 x0 x1 x2 (.int (0 : Int32)) h430 n0 Z430 F432 n_x0 n_x1 n_x2) hZ430 (own_k hw 4 rfl) (own_k hw 3 rfl) (by decide) (by decide)) (g := (mkF m 245 #[.val (.int p1), .val (.int p2), .val (.int p3), .val (.ref b383), .val (.int nn), .val (.int (3 : Int32)), .val (.int cp), .val (.int dc), .val (.int ln), .val (.ref b404), .unset, .unset, .unset, .unset] [(.int (3 : Int32)), (.ref b404)])) rfl hml.symm  (argsL := [(.ref b404), (.int (3 : Int32))]) (rest := []) (lenOf own_pd11 rfl) rfl (by show 2 * 0 + _ ≤ _; exact Nat.le_of_eq rfl) (hb hby at_245) (fun _ _ => ⟨rfl, e430, (by decide : 2 + 1 ≤ 32), (by decide : 6 + 3 ≤ 1152)⟩)
              dsimp only [Pt.U, Pt.locs, Pt.cells, Pt.slots] at X844 l844 y844 z844 st844 hQ844
              subst l844 y844 z844
              obtain ⟨b_844, kb_844, rfl, N844, K844_, P845, P846⟩ := hQ844
              have N847 := Fr.app N430 N844
              have CR848 : CHr Z own_EL s.vm h0 vm430 T844.heap := CHr.trans CR430 (CHr.keep K844_ sf0 CR430.1)
              have Z849 : n0 ≤ T844.heap.size := Nat.le_trans Z430 K844_.1
              have hk849 := Nat.le_trans hk430 K844_.1
              have ne850 : b383 ≠ b_844 := Nat.ne_of_lt (Nat.lt_of_lt_of_le F431.lt P846)
              have ne851 : b404 ≠ b_844 := Nat.ne_of_lt (Nat.lt_of_lt_of_le F432.lt P846)
              have ge852 : n0 ≤ b_844 := Nat.le_trans Z430 P846
              refine own_st (T' := T844) (g' := (mkF m 248 #[.val (.int p1), .val (.int p2), .val (.int p3), .val (.ref b383), .val (.int nn), .val (.int (3 : Int32)), .val (.int cp), .val (.int dc), .val (.int ln), .val (.ref b404), .unset, .unset, .unset, .unset] [(.ref b_844)])) st844 ?_
              refine own_st (T' := T844) (g' := (mkF m 250 #[.val (.int p1), .val (.int p2), .val (.int p3), .val (.ref b383), .val (.int nn), .val (.int (3 : Int32)), .val (.int cp), .val (.int dc), .val (.int ln), .val (.ref b404), .val (.ref b_844), .unset, .unset, .unset] [])) (fun _ kt => XS.astore X844.here hx rfl (hb hby at_248) rfl rfl (l' := #[.val (.int p1), .val (.int p2), .val (.int p3), .val (.ref b383), .val (.int nn), .val (.int (3 : Int32)), .val (.int cp), .val (.int dc), .val (.int ln), .val (.ref b404), .val (.ref b_844), .unset, .unset, .unset]) rfl kt) ?_
              have F853 : Old Z n0 T844.heap := (Old.keep O430 K844_ all0)
              have F854 : Arv Z T844.heap b383 k383 .char (3 : Int32) [(.int w0), (.int w1), (.int w2)] (.int (0 : Int32)) := (Arv.keep F431 K844_ nin0)
              have F855 : Arv Z T844.heap b404 k404 .char (3 : Int32) [(.int x0), (.int x1), (.int x2)] (.int (0 : Int32)) := (Arv.keep F432 K844_ nin0)
              exact J433 _ _ _ _ _ ⟨b_844, kb_844⟩ ⟨N847, Z849, F853, CR848, hS430, hk849, hZ430, hown430, F854, F855, (by first | exact P845 | simpa [own_tk] using P845)⟩ (X844.mono (by decide) (by decide)) rfl
        ·
          refine own_st (T' := T427) (g' := (mkF m 209 #[.val (.int p1), .val (.int p2), .val (.int p3), .val (.ref b383), .val (.int nn), .val (.int mm), .val (.int cp), .val (.int dc), .val (.int ln), .val (.ref b404), .unset, .unset, .unset, .unset] [(.int (cp &&& (4 : Int32)))])) (fun _ kt => XS.iload X427.here hx rfl (hb hby at_205) rfl (XS.iconst X427.here hx rfl (hb hby at_207) (XS.iand X427.here hx rfl (hb hby at_208) rfl kt))) ?_
          by_cases hc856 : (cp &&& (4 : Int32)) = 0
          · -- pc 209: (cp &&& (4 : Int32)) = 0
            refine own_st (T' := T427) (g' := (mkF m 241 #[.val (.int p1), .val (.int p2), .val (.int p3), .val (.ref b383), .val (.int nn), .val (.int mm), .val (.int cp), .val (.int dc), .val (.int ln), .val (.ref b404), .unset, .unset, .unset, .unset] [])) (fun _ kt => XS.ifYes X427.here hx rfl (pc0 := 209) (pc' := 241) rfl (hb hby at_209) rfl (XT.i0_eq_t hc856) (by decide) (by decide) kt) ?_
            exact J430 _ _ _ _ _ s2 ⟨N427, Z427, O427, CR427, hS427, hk427, hZ427, hown427, F428, F429, n_s2⟩ (X427.mono (by decide) (by decide)) e427
          · -- pc 209: not (cp &&& (4 : Int32)) = 0
            refine own_st (T' := T427) (g' := (mkF m 215 #[.val (.int p1), .val (.int p2), .val (.int p3), .val (.ref b383), .val (.int nn), .val (.int mm), .val (.int cp), .val (.int dc), .val (.int ln), .val (.ref b404), .unset, .unset, .unset, .unset] [(.int mm), (.int (2 : Int32))])) (fun _ kt => XS.ifNo X427.here hx rfl (hb hby at_209) rfl (XT.i0_eq_f hc856) (XS.iconst X427.here hx rfl (hb hby at_212) (XS.iload X427.here hx rfl (hb hby at_213) rfl kt))) ?_
            by_cases hc857 : (2 : Int32) < mm
            · -- pc 215: (2 : Int32) < mm
              refine own_st (T' := T427) (g' := (mkF m 225 #[.val (.int p1), .val (.int p2), .val (.int p3), .val (.ref b383), .val (.int nn), .val (.int mm), .val (.int cp), .val (.int dc), .val (.int ln), .val (.ref b404), .unset, .unset, .unset, .unset] [(.int ((ln - mm) + (2 : Int32)))])) (fun _ kt => XS.icmpNo X427.here hx rfl (hb hby at_215) rfl (XT.ii_ge_f hc857) (XS.iload X427.here hx rfl (hb hby at_218) rfl (XS.iload X427.here hx rfl (hb hby at_220) rfl (XS.isub X427.here hx rfl (hb hby at_222) rfl (XS.iconst X427.here hx rfl (hb hby at_223) (XS.iadd X427.here hx rfl (hb hby at_224) rfl kt)))))) ?_
              by_cases hc858 : ((ln - mm) + (2 : Int32)) < 0
              · -- pc 225: ((ln - mm) + (2 : Int32)) < 0
                refine own_st (T' := T427) (g' := (mkF m 241 #[.val (.int p1), .val (.int p2), .val (.int p3), .val (.ref b383), .val (.int nn), .val (.int mm), .val (.int cp), .val (.int dc), .val (.int ln), .val (.ref b404), .unset, .unset, .unset, .unset] [])) (fun _ kt => XS.ifYes X427.here hx rfl (pc0 := 225) (pc' := 241) rfl (hb hby at_225) rfl (XT.i0_lt_t hc858) (by decide) (by decide) kt) ?_
                exact J430 _ _ _ _ _ s2 ⟨N427, Z427, O427, CR427, hS427, hk427, hZ427, hown427, F428, F429, n_s2⟩ (X427.mono (by decide) (by decide)) e427
              · -- pc 225: not ((ln - mm) + (2 : Int32)) < 0
                refine own_st (T' := T427) (g' := (mkF m 239 #[.val (.int p1), .val (.int p2), .val (.int p3), .val (.ref b383), .val (.int nn), .val (.int mm), .val (.int cp), .val (.int dc), .val (.int ln), .val (.ref b404), .unset, .unset, .unset, .unset] [(.int ((ln - mm) + (2 : Int32))), (.ref b383), (.int (2 : Int32)), (.ref b404)])) (fun _ kt => XS.ifNo X427.here hx rfl (hb hby at_225) rfl (XT.i0_lt_f hc858) (XS.aload X427.here hx rfl (hb hby at_228) rfl rfl (XS.iconst X427.here hx rfl (hb hby at_230) (XS.aloadN X427.here hx rfl (hb hby at_231) rfl rfl (XS.iload X427.here hx rfl (hb hby at_232) rfl (XS.iload X427.here hx rfl (hb hby at_234) rfl (XS.isub X427.here hx rfl (hb hby at_236) rfl (XS.iconst X427.here hx rfl (hb hby at_237) (XS.iadd X427.here hx rfl (hb hby at_238) rfl kt))))))))) ?_
                obtain ⟨y859, hy859, ny859⟩ := own_get3 (.int (0 : Int32)) (own_ix2 q_ln q_mm hc857 hc858) n_w0 n_w1 n_w2
                refine own_st (T' := T427) (g' := (mkF m 240 #[.val (.int p1), .val (.int p2), .val (.int p3), .val (.ref b383), .val (.int nn), .val (.int mm), .val (.int cp), .val (.int dc), .val (.int ln), .val (.ref b404), .unset, .unset, .unset, .unset] [(.int y859), (.int (2 : Int32)), (.ref b404)])) (own_cal X427 hx hZ427 e427 F428 (own_ix2 q_ln q_mm hc857 hc858) hy859 (g := (mkF m 239 #[.val (.int p1), .val (.int p2), .val (.int p3), .val (.ref b383), .val (.int nn), .val (.int mm), .val (.int cp), .val (.int dc), .val (.int ln), .val (.ref b404), .unset, .unset, .unset, .unset] [(.int ((ln - mm) + (2 : Int32))), (.ref b383), (.int (2 : Int32)), (.ref b404)])) rfl rfl (hb hby at_239)) ?_
                obtain ⟨T860, h860, X860, e860, W860, V860, st860⟩ := own_cst X427 hx hZ427 e427 F429 ⟨by decide, by decide⟩ (i := 2) rfl (by simp) (y := y859) ny859 (g := (mkF m 240 #[.val (.int p1), .val (.int p2), .val (.int p3), .val (.ref b383), .val (.int nn), .val (.int mm), .val (.int cp), .val (.int dc), .val (.int ln), .val (.ref b404), .unset, .unset, .unset, .unset] [(.int y859), (.int (2 : Int32)), (.ref b404)])) rfl rfl (hb hby at_240)
                have N860 := Fr.snoc X860 N427 ge_b404
                have CR861 : CHr Z own_EL s.vm h0 vm427 h860 := CHr.trans CR427 (CHr.wr W860 (Safe.arv (State.Warmed39.alike hZ427) F429 (by decide)) CR427.1)
                have Z862 : n0 ≤ h860.size := Nat.le_trans Z427 (Nat.le_of_eq (Wr.size W860).symm)
                have hk862 := Nat.le_trans hk427 (Nat.le_of_eq (Wr.size W860).symm)
                have F863 : Arv Z h860 b404 k404 .char (3 : Int32) [(.int x0), (.int x1), (.int y859)] (.int (0 : Int32)) := V860
                refine own_st (T' := T860) (g' := (mkF m 241 #[.val (.int p1), .val (.int p2), .val (.int p3), .val (.ref b383), .val (.int nn), .val (.int mm), .val (.int cp), .val (.int dc), .val (.int ln), .val (.ref b404), .unset, .unset, .unset, .unset] [])) st860 ?_
                have F864 : Old Z n0 h860 := (Old.wr O427 W860 ge_b404)
                have F865 : Arv Z h860 b383 k383 .char (3 : Int32) [(.int w0), (.int w1), (.int w2)] (.int (0 : Int32)) := (Arv.other F428 W860 ne405)
                exact J430 _ _ _ _ _ y859 ⟨N860, Z862, F864, CR861, hS427, hk862, hZ427, hown427, F865, F863, ny859⟩ (X860.mono (by decide) (by decide)) e860
            · -- pc 215: not (2 : Int32) < mm
              refine own_st (T' := T427) (g' := (mkF m 241 #[.val (.int p1), .val (.int p2), .val (.int p3), .val (.ref b383), .val (.int nn), .val (.int mm), .val (.int cp), .val (.int dc), .val (.int ln), .val (.ref b404), .unset, .unset, .unset, .unset] [])) (fun _ kt => XS.icmpYes X427.here hx rfl (pc0 := 215) (pc' := 241) rfl (hb hby at_215) rfl (XT.ii_ge_t hc857) (by decide) (by decide) kt) ?_
              exact J430 _ _ _ _ _ s2 ⟨N427, Z427, O427, CR427, hS427, hk427, hZ427, hown427, F428, F429, n_s2⟩ (X427.mono (by decide) (by decide)) e427
      ·
        refine own_st (T' := T424) (g' := (mkF m 173 #[.val (.int p1), .val (.int p2), .val (.int p3), .val (.ref b383), .val (.int nn), .val (.int mm), .val (.int cp), .val (.int dc), .val (.int ln), .val (.ref b404), .unset, .unset, .unset, .unset] [(.int (cp &&& (2 : Int32)))])) (fun _ kt => XS.iload X424.here hx rfl (hb hby at_169) rfl (XS.iconst X424.here hx rfl (hb hby at_171) (XS.iand X424.here hx rfl (hb hby at_172) rfl kt))) ?_
        by_cases hc866 : (cp &&& (2 : Int32)) = 0
        · -- pc 173: (cp &&& (2 : Int32)) = 0
          refine own_st (T' := T424) (g' := (mkF m 205 #[.val (.int p1), .val (.int p2), .val (.int p3), .val (.ref b383), .val (.int nn), .val (.int mm), .val (.int cp), .val (.int dc), .val (.int ln), .val (.ref b404), .unset, .unset, .unset, .unset] [])) (fun _ kt => XS.ifYes X424.here hx rfl (pc0 := 173) (pc' := 205) rfl (hb hby at_173) rfl (XT.i0_eq_t hc866) (by decide) (by decide) kt) ?_
          exact J427 _ _ _ _ _ s1 ⟨N424, Z424, O424, CR424, hS424, hk424, hZ424, hown424, F425, F426, n_s1⟩ (X424.mono (by decide) (by decide)) e424
        · -- pc 173: not (cp &&& (2 : Int32)) = 0
          refine own_st (T' := T424) (g' := (mkF m 179 #[.val (.int p1), .val (.int p2), .val (.int p3), .val (.ref b383), .val (.int nn), .val (.int mm), .val (.int cp), .val (.int dc), .val (.int ln), .val (.ref b404), .unset, .unset, .unset, .unset] [(.int mm), (.int (1 : Int32))])) (fun _ kt => XS.ifNo X424.here hx rfl (hb hby at_173) rfl (XT.i0_eq_f hc866) (XS.iconst X424.here hx rfl (hb hby at_176) (XS.iload X424.here hx rfl (hb hby at_177) rfl kt))) ?_
          by_cases hc867 : (1 : Int32) < mm
          · -- pc 179: (1 : Int32) < mm
            refine own_st (T' := T424) (g' := (mkF m 189 #[.val (.int p1), .val (.int p2), .val (.int p3), .val (.ref b383), .val (.int nn), .val (.int mm), .val (.int cp), .val (.int dc), .val (.int ln), .val (.ref b404), .unset, .unset, .unset, .unset] [(.int ((ln - mm) + (1 : Int32)))])) (fun _ kt => XS.icmpNo X424.here hx rfl (hb hby at_179) rfl (XT.ii_ge_f hc867) (XS.iload X424.here hx rfl (hb hby at_182) rfl (XS.iload X424.here hx rfl (hb hby at_184) rfl (XS.isub X424.here hx rfl (hb hby at_186) rfl (XS.iconst X424.here hx rfl (hb hby at_187) (XS.iadd X424.here hx rfl (hb hby at_188) rfl kt)))))) ?_
            by_cases hc868 : ((ln - mm) + (1 : Int32)) < 0
            · -- pc 189: ((ln - mm) + (1 : Int32)) < 0
              refine own_st (T' := T424) (g' := (mkF m 205 #[.val (.int p1), .val (.int p2), .val (.int p3), .val (.ref b383), .val (.int nn), .val (.int mm), .val (.int cp), .val (.int dc), .val (.int ln), .val (.ref b404), .unset, .unset, .unset, .unset] [])) (fun _ kt => XS.ifYes X424.here hx rfl (pc0 := 189) (pc' := 205) rfl (hb hby at_189) rfl (XT.i0_lt_t hc868) (by decide) (by decide) kt) ?_
              exact J427 _ _ _ _ _ s1 ⟨N424, Z424, O424, CR424, hS424, hk424, hZ424, hown424, F425, F426, n_s1⟩ (X424.mono (by decide) (by decide)) e424
            · -- pc 189: not ((ln - mm) + (1 : Int32)) < 0
              refine own_st (T' := T424) (g' := (mkF m 203 #[.val (.int p1), .val (.int p2), .val (.int p3), .val (.ref b383), .val (.int nn), .val (.int mm), .val (.int cp), .val (.int dc), .val (.int ln), .val (.ref b404), .unset, .unset, .unset, .unset] [(.int ((ln - mm) + (1 : Int32))), (.ref b383), (.int (1 : Int32)), (.ref b404)])) (fun _ kt => XS.ifNo X424.here hx rfl (hb hby at_189) rfl (XT.i0_lt_f hc868) (XS.aload X424.here hx rfl (hb hby at_192) rfl rfl (XS.iconst X424.here hx rfl (hb hby at_194) (XS.aloadN X424.here hx rfl (hb hby at_195) rfl rfl (XS.iload X424.here hx rfl (hb hby at_196) rfl (XS.iload X424.here hx rfl (hb hby at_198) rfl (XS.isub X424.here hx rfl (hb hby at_200) rfl (XS.iconst X424.here hx rfl (hb hby at_201) (XS.iadd X424.here hx rfl (hb hby at_202) rfl kt))))))))) ?_
              obtain ⟨y869, hy869, ny869⟩ := own_get3 (.int (0 : Int32)) (own_ix1 q_ln q_mm hc867 hc868) n_w0 n_w1 n_w2
              refine own_st (T' := T424) (g' := (mkF m 204 #[.val (.int p1), .val (.int p2), .val (.int p3), .val (.ref b383), .val (.int nn), .val (.int mm), .val (.int cp), .val (.int dc), .val (.int ln), .val (.ref b404), .unset, .unset, .unset, .unset] [(.int y869), (.int (1 : Int32)), (.ref b404)])) (own_cal X424 hx hZ424 e424 F425 (own_ix1 q_ln q_mm hc867 hc868) hy869 (g := (mkF m 203 #[.val (.int p1), .val (.int p2), .val (.int p3), .val (.ref b383), .val (.int nn), .val (.int mm), .val (.int cp), .val (.int dc), .val (.int ln), .val (.ref b404), .unset, .unset, .unset, .unset] [(.int ((ln - mm) + (1 : Int32))), (.ref b383), (.int (1 : Int32)), (.ref b404)])) rfl rfl (hb hby at_203)) ?_
              obtain ⟨T870, h870, X870, e870, W870, V870, st870⟩ := own_cst X424 hx hZ424 e424 F426 ⟨by decide, by decide⟩ (i := 1) rfl (by simp) (y := y869) ny869 (g := (mkF m 204 #[.val (.int p1), .val (.int p2), .val (.int p3), .val (.ref b383), .val (.int nn), .val (.int mm), .val (.int cp), .val (.int dc), .val (.int ln), .val (.ref b404), .unset, .unset, .unset, .unset] [(.int y869), (.int (1 : Int32)), (.ref b404)])) rfl rfl (hb hby at_204)
              have N870 := Fr.snoc X870 N424 ge_b404
              have CR871 : CHr Z own_EL s.vm h0 vm424 h870 := CHr.trans CR424 (CHr.wr W870 (Safe.arv (State.Warmed39.alike hZ424) F426 (by decide)) CR424.1)
              have Z872 : n0 ≤ h870.size := Nat.le_trans Z424 (Nat.le_of_eq (Wr.size W870).symm)
              have hk872 := Nat.le_trans hk424 (Nat.le_of_eq (Wr.size W870).symm)
              have F873 : Arv Z h870 b404 k404 .char (3 : Int32) [(.int x0), (.int y869), (.int s2)] (.int (0 : Int32)) := V870
              refine own_st (T' := T870) (g' := (mkF m 205 #[.val (.int p1), .val (.int p2), .val (.int p3), .val (.ref b383), .val (.int nn), .val (.int mm), .val (.int cp), .val (.int dc), .val (.int ln), .val (.ref b404), .unset, .unset, .unset, .unset] [])) st870 ?_
              have F874 : Old Z n0 h870 := (Old.wr O424 W870 ge_b404)
              have F875 : Arv Z h870 b383 k383 .char (3 : Int32) [(.int w0), (.int w1), (.int w2)] (.int (0 : Int32)) := (Arv.other F425 W870 ne405)
              exact J427 _ _ _ _ _ y869 ⟨N870, Z872, F874, CR871, hS424, hk872, hZ424, hown424, F875, F873, ny869⟩ (X870.mono (by decide) (by decide)) e870
          · -- pc 179: not (1 : Int32) < mm
            refine own_st (T' := T424) (g' := (mkF m 205 #[.val (.int p1), .val (.int p2), .val (.int p3), .val (.ref b383), .val (.int nn), .val (.int mm), .val (.int cp), .val (.int dc), .val (.int ln), .val (.ref b404), .unset, .unset, .unset, .unset] [])) (fun _ kt => XS.icmpYes X424.here hx rfl (pc0 := 179) (pc' := 205) rfl (hb hby at_179) rfl (XT.ii_ge_t hc867) (by decide) (by decide) kt) ?_
            exact J427 _ _ _ _ _ s1 ⟨N424, Z424, O424, CR424, hS424, hk424, hZ424, hown424, F425, F426, n_s1⟩ (X424.mono (by decide) (by decide)) e424
    ·
      refine own_st (T' := T419) (g' := (mkF m 141 #[.val (.int p1), .val (.int p2), .val (.int p3), .val (.ref b383), .val (.int nn), .val (.int mm), .val (.int cp), .val (.int dc), .val (.int ln), .val (.ref b404), .unset, .unset, .unset, .unset] [(.int (cp &&& (1 : Int32)))])) (fun _ kt => XS.iload X419.here hx rfl (hb hby at_137) rfl (XS.iconst X419.here hx rfl (hb hby at_139) (XS.iand X419.here hx rfl (hb hby at_140) rfl kt))) ?_
      by_cases hc876 : (cp &&& (1 : Int32)) = 0
      · -- pc 141: (cp &&& (1 : Int32)) = 0
        refine own_st (T' := T419) (g' := (mkF m 169 #[.val (.int p1), .val (.int p2), .val (.int p3), .val (.ref b383), .val (.int nn), .val (.int mm), .val (.int cp), .val (.int dc), .val (.int ln), .val (.ref b404), .unset, .unset, .unset, .unset] [])) (fun _ kt => XS.ifYes X419.here hx rfl (pc0 := 141) (pc' := 169) rfl (hb hby at_141) rfl (XT.i0_eq_t hc876) (by decide) (by decide) kt) ?_
        have F877 : Old Z n0 h419 := (Old.wr (Old.wr (Old.wr (Old.ext O402 E404) W410 ge_b404) W414 ge_b404) W419 ge_b404)
        have F878 : Arv Z h419 b383 k383 .char (3 : Int32) [(.int w0), (.int w1), (.int w2)] (.int (0 : Int32)) := (Arv.other (Arv.other (Arv.other (F403.ext E404) W410 ne405) W414 ne405) W419 ne405)
        exact J424 _ _ _ _ _ s0 ⟨N419, Z422, F877, CR421, hS402, hk422, hZ402, hown402, F878, F423, n_s0⟩ (X419.mono (by decide) (by decide)) e419
      · -- pc 141: not (cp &&& (1 : Int32)) = 0
        refine own_st (T' := T419) (g' := (mkF m 147 #[.val (.int p1), .val (.int p2), .val (.int p3), .val (.ref b383), .val (.int nn), .val (.int mm), .val (.int cp), .val (.int dc), .val (.int ln), .val (.ref b404), .unset, .unset, .unset, .unset] [(.int mm), (.int (0 : Int32))])) (fun _ kt => XS.ifNo X419.here hx rfl (hb hby at_141) rfl (XT.i0_eq_f hc876) (XS.iconst X419.here hx rfl (hb hby at_144) (XS.iload X419.here hx rfl (hb hby at_145) rfl kt))) ?_
        by_cases hc879 : (0 : Int32) < mm
        · -- pc 147: (0 : Int32) < mm
          refine own_st (T' := T419) (g' := (mkF m 155 #[.val (.int p1), .val (.int p2), .val (.int p3), .val (.ref b383), .val (.int nn), .val (.int mm), .val (.int cp), .val (.int dc), .val (.int ln), .val (.ref b404), .unset, .unset, .unset, .unset] [(.int (ln - mm))])) (fun _ kt => XS.icmpNo X419.here hx rfl (hb hby at_147) rfl (XT.ii_ge_f hc879) (XS.iload X419.here hx rfl (hb hby at_150) rfl (XS.iload X419.here hx rfl (hb hby at_152) rfl (XS.isub X419.here hx rfl (hb hby at_154) rfl kt)))) ?_
          by_cases hc880 : (ln - mm) < 0
          · -- pc 155: (ln - mm) < 0
            refine own_st (T' := T419) (g' := (mkF m 169 #[.val (.int p1), .val (.int p2), .val (.int p3), .val (.ref b383), .val (.int nn), .val (.int mm), .val (.int cp), .val (.int dc), .val (.int ln), .val (.ref b404), .unset, .unset, .unset, .unset] [])) (fun _ kt => XS.ifYes X419.here hx rfl (pc0 := 155) (pc' := 169) rfl (hb hby at_155) rfl (XT.i0_lt_t hc880) (by decide) (by decide) kt) ?_
            have F881 : Old Z n0 h419 := (Old.wr (Old.wr (Old.wr (Old.ext O402 E404) W410 ge_b404) W414 ge_b404) W419 ge_b404)
            have F882 : Arv Z h419 b383 k383 .char (3 : Int32) [(.int w0), (.int w1), (.int w2)] (.int (0 : Int32)) := (Arv.other (Arv.other (Arv.other (F403.ext E404) W410 ne405) W414 ne405) W419 ne405)
            exact J424 _ _ _ _ _ s0 ⟨N419, Z422, F881, CR421, hS402, hk422, hZ402, hown402, F882, F423, n_s0⟩ (X419.mono (by decide) (by decide)) e419
          · -- pc 155: not (ln - mm) < 0
            refine own_st (T' := T419) (g' := (mkF m 167 #[.val (.int p1), .val (.int p2), .val (.int p3), .val (.ref b383), .val (.int nn), .val (.int mm), .val (.int cp), .val (.int dc), .val (.int ln), .val (.ref b404), .unset, .unset, .unset, .unset] [(.int (ln - mm)), (.ref b383), (.int (0 : Int32)), (.ref b404)])) (fun _ kt => XS.ifNo X419.here hx rfl (hb hby at_155) rfl (XT.i0_lt_f hc880) (XS.aload X419.here hx rfl (hb hby at_158) rfl rfl (XS.iconst X419.here hx rfl (hb hby at_160) (XS.aloadN X419.here hx rfl (hb hby at_161) rfl rfl (XS.iload X419.here hx rfl (hb hby at_162) rfl (XS.iload X419.here hx rfl (hb hby at_164) rfl (XS.isub X419.here hx rfl (hb hby at_166) rfl kt))))))) ?_
            have F883 : Arv Z h419 b383 k383 .char (3 : Int32) [(.int w0), (.int w1), (.int w2)] (.int (0 : Int32)) := (Arv.other (Arv.other (Arv.other (F403.ext E404) W410 ne405) W414 ne405) W419 ne405)
            obtain ⟨y884, hy884, ny884⟩ := own_get3 (.int (0 : Int32)) (own_ix0 q_ln q_mm hc879 hc880) n_w0 n_w1 n_w2
            refine own_st (T' := T419) (g' := (mkF m 168 #[.val (.int p1), .val (.int p2), .val (.int p3), .val (.ref b383), .val (.int nn), .val (.int mm), .val (.int cp), .val (.int dc), .val (.int ln), .val (.ref b404), .unset, .unset, .unset, .unset] [(.int y884), (.int (0 : Int32)), (.ref b404)])) (own_cal X419 hx hZ402 e419 F883 (own_ix0 q_ln q_mm hc879 hc880) hy884 (g := (mkF m 167 #[.val (.int p1), .val (.int p2), .val (.int p3), .val (.ref b383), .val (.int nn), .val (.int mm), .val (.int cp), .val (.int dc), .val (.int ln), .val (.ref b404), .unset, .unset, .unset, .unset] [(.int (ln - mm)), (.ref b383), (.int (0 : Int32)), (.ref b404)])) rfl rfl (hb hby at_167)) ?_
            obtain ⟨T885, h885, X885, e885, W885, V885, st885⟩ := own_cst X419 hx hZ402 e419 F423 ⟨by decide, by decide⟩ (i := 0) rfl (by simp) (y := y884) ny884 (g := (mkF m 168 #[.val (.int p1), .val (.int p2), .val (.int p3), .val (.ref b383), .val (.int nn), .val (.int mm), .val (.int cp), .val (.int dc), .val (.int ln), .val (.ref b404), .unset, .unset, .unset, .unset] [(.int y884), (.int (0 : Int32)), (.ref b404)])) rfl rfl (hb hby at_168)
            have N885 := Fr.snoc X885 N419 ge_b404
            have F886 : Safe Z own_EL vm402 h419 b404 := (Safe.wr W419 F420 CR416.1 F420)
            have CR887 : CHr Z own_EL s.vm h0 vm402 h885 := CHr.trans CR421 (CHr.wr W885 F886 CR421.1)
            have Z888 : n0 ≤ h885.size := Nat.le_trans Z422 (Nat.le_of_eq (Wr.size W885).symm)
            have hk888 := Nat.le_trans hk422 (Nat.le_of_eq (Wr.size W885).symm)
            have F889 : Arv Z h885 b404 k404 .char (3 : Int32) [(.int y884), (.int s1), (.int s2)] (.int (0 : Int32)) := V885
            refine own_st (T' := T885) (g' := (mkF m 169 #[.val (.int p1), .val (.int p2), .val (.int p3), .val (.ref b383), .val (.int nn), .val (.int mm), .val (.int cp), .val (.int dc), .val (.int ln), .val (.ref b404), .unset, .unset, .unset, .unset] [])) st885 ?_
            have F890 : Old Z n0 h885 := (Old.wr (Old.wr (Old.wr (Old.wr (Old.ext O402 E404) W410 ge_b404) W414 ge_b404) W419 ge_b404) W885 ge_b404)
            have F891 : Arv Z h885 b383 k383 .char (3 : Int32) [(.int w0), (.int w1), (.int w2)] (.int (0 : Int32)) := (Arv.other F883 W885 ne405)
            exact J424 _ _ _ _ _ y884 ⟨N885, Z888, F890, CR887, hS402, hk888, hZ402, hown402, F891, F889, ny884⟩ (X885.mono (by decide) (by decide)) e885
        · -- pc 147: not (0 : Int32) < mm
          refine own_st (T' := T419) (g' := (mkF m 169 #[.val (.int p1), .val (.int p2), .val (.int p3), .val (.ref b383), .val (.int nn), .val (.int mm), .val (.int cp), .val (.int dc), .val (.int ln), .val (.ref b404), .unset, .unset, .unset, .unset] [])) (fun _ kt => XS.icmpYes X419.here hx rfl (pc0 := 147) (pc' := 169) rfl (hb hby at_147) rfl (XT.ii_ge_t hc879) (by decide) (by decide) kt) ?_
          have F892 : Old Z n0 h419 := (Old.wr (Old.wr (Old.wr (Old.ext O402 E404) W410 ge_b404) W414 ge_b404) W419 ge_b404)
          have F893 : Arv Z h419 b383 k383 .char (3 : Int32) [(.int w0), (.int w1), (.int w2)] (.int (0 : Int32)) := (Arv.other (Arv.other (Arv.other (F403.ext E404) W410 ne405) W414 ne405) W419 ne405)
          exact J424 _ _ _ _ _ s0 ⟨N419, Z422, F892, CR421, hS402, hk422, hZ402, hown402, F893, F423, n_s0⟩ (X419.mono (by decide) (by decide)) e419
  ·
    refine own_st (T' := T397) (g' := (mkF m 63 #[.val (.int p1), .val (.int p2), .val (.int p3), .val (.ref b383), .val (.int nn), .val (.int mm), .val (.int cp), .unset, .unset, .unset, .unset, .unset, .unset, .unset] [(.int ((XT.ushr p3 (7 : Int32)) &&& (1 : Int32)))])) (fun _ kt => XS.iloadN X397.here hx rfl (hb hby at_57) rfl (XS.bipush X397.here hx rfl (hb hby at_58) (XT.iushr X397.here hx rfl (hb hby at_60) rfl (XS.iconst X397.here hx rfl (hb hby at_61) (XS.iand X397.here hx rfl (hb hby at_62) rfl kt))))) ?_
    by_cases hc894 : ((XT.ushr p3 (7 : Int32)) &&& (1 : Int32)) = 0
    · -- pc 63: ((XT.ushr p3 (7 : Int32)) &&& (1 : Int32)) = 0
      refine own_st (T' := T397) (g' := (mkF m 94 #[.val (.int p1), .val (.int p2), .val (.int p3), .val (.ref b383), .val (.int nn), .val (.int mm), .val (.int cp), .val (.int (0 : Int32)), .unset, .unset, .unset, .unset, .unset, .unset] [(.int nn)])) (fun _ kt => XS.ifYes X397.here hx rfl (pc0 := 63) (pc' := 70) rfl (hb hby at_63) rfl (XT.i0_eq_t hc894) (by decide) (by decide) (XS.iconst X397.here hx rfl (hb hby at_70) (XS.istore X397.here hx rfl (hb hby at_71) rfl (l' := #[.val (.int p1), .val (.int p2), .val (.int p3), .val (.ref b383), .val (.int nn), .val (.int mm), .val (.int cp), .val (.int (0 : Int32)), .unset, .unset, .unset, .unset, .unset, .unset]) rfl (XS.iload X397.here hx rfl (hb hby at_73) rfl (XS.ifYes X397.here hx rfl (pc0 := 75) (pc' := 92) rfl (hb hby at_75) rfl (XT.i0_eq_t (by decide)) (by decide) (by decide) (XS.iload X397.here hx rfl (hb hby at_92) rfl kt)))))) ?_
      have F895 : Old Z n0 h397 := (Old.wr (Old.wr (Old.wr (Old.ext pr1 E383) W388 ge_b383) W392 ge_b383) W397 ge_b383)
      exact J402 _ _ _ _ _ ⟨nn, (0 : Int32)⟩ ⟨N397, Z400, F895, CR399, hS, hk400, hZ, hown, F401, ⟨q_nn, Int32.lt_irrefl, Or.inl rfl, fun _ => rfl⟩⟩ (X397.mono (by decide) (by decide)) e397
    · -- pc 63: not ((XT.ushr p3 (7 : Int32)) &&& (1 : Int32)) = 0
      refine own_st (T' := T397) (g' := (mkF m 84 #[.val (.int p1), .val (.int p2), .val (.int p3), .val (.ref b383), .val (.int nn), .val (.int mm), .val (.int cp), .val (.int (1 : Int32)), .unset, .unset, .unset, .unset, .unset, .unset] [(.int ((XT.ushr p3 (8 : Int32)) &&& (3 : Int32)))])) (fun _ kt => XS.ifNo X397.here hx rfl (hb hby at_63) rfl (XT.i0_eq_f hc894) (XS.iconst X397.here hx rfl (hb hby at_66) (XS.goto X397.here hx rfl (pc0 := 67) (pc' := 71) rfl (hb hby at_67) (by decide) (by decide) (XS.istore X397.here hx rfl (hb hby at_71) rfl (l' := #[.val (.int p1), .val (.int p2), .val (.int p3), .val (.ref b383), .val (.int nn), .val (.int mm), .val (.int cp), .val (.int (1 : Int32)), .unset, .unset, .unset, .unset, .unset, .unset]) rfl (XS.iload X397.here hx rfl (hb hby at_73) rfl (XS.ifNo X397.here hx rfl (hb hby at_75) rfl (XT.i0_eq_f (by decide)) (XS.iloadN X397.here hx rfl (hb hby at_78) rfl (XS.bipush X397.here hx rfl (hb hby at_79) (XT.iushr X397.here hx rfl (hb hby at_81) rfl (XS.iconst X397.here hx rfl (hb hby at_82) (XS.iand X397.here hx rfl (hb hby at_83) rfl kt))))))))))) ?_
      obtain ⟨xx, hxx⟩ : ∃ z : Int32, z = ((XT.ushr p3 (8 : Int32)) &&& (3 : Int32)) := ⟨_, rfl⟩
      rw [← hxx]
      have q_xx : own_q xx := hxx ▸ own_and3 _
      refine own_st (T' := T397) (g' := (mkF m 86 #[.val (.int p1), .val (.int p2), .val (.int p3), .val (.ref b383), .val (.int nn), .val (.int mm), .val (.int cp), .val (.int (1 : Int32)), .unset, .unset, .unset, .unset, .unset, .unset] [(.int nn), (.int xx)])) (fun _ kt => XS.iload X397.here hx rfl (hb hby at_84) rfl kt) ?_
      obtain ⟨_, _, ⟨T896, L896, k896, n896⟩, -, X896, ⟨Lc896, hQ896, l896, y896, z896⟩, st896⟩ := Jvm.LawKit.callS X397 hx (y := (⟨"java/lang/Math", "min", "(II)I"⟩ : MethodName)) hown (mvT hZ (own_k hw 80 rfl)) (mvT hZ (own_k hw 81 rfl)) (mvT hZ (own_k hw 82 rfl)) (mvT hZ (own_k hw 83 rfl)) (by decide) (backOf (W := 0) (own_r5 l Z a0 hw [] xx nn h397 n0 Z400 ) hZ (own_k hw 83 rfl) (own_k hw 82 rfl) (by decide) (by decide)) (g := (mkF m 86 #[.val (.int p1), .val (.int p2), .val (.int p3), .val (.ref b383), .val (.int nn), .val (.int mm), .val (.int cp), .val (.int (1 : Int32)), .unset, .unset, .unset, .unset, .unset, .unset] [(.int nn), (.int xx)])) rfl hml.symm  (argsL := [(.int xx), (.int nn)]) (rest := []) (lenOf own_pd14 rfl) rfl (by show 2 * 0 + _ ≤ _; exact Nat.le_of_eq rfl) (hb hby at_86) (fun _ _ => ⟨rfl, e397, (by decide : 1 + 0 ≤ 32), (by decide : 3 + 0 ≤ 1152)⟩)
      dsimp only [Pt.U, Pt.locs, Pt.cells, Pt.slots] at X896 l896 y896 z896 st896 hQ896
      subst l896 y896 z896
      obtain ⟨rfl, N896, e896⟩ := hQ896
      have N897 := Fr.app N397 N896
      refine own_st (T' := T896) (g' := (mkF m 89 #[.val (.int p1), .val (.int p2), .val (.int p3), .val (.ref b383), .val (.int nn), .val (.int mm), .val (.int cp), .val (.int (1 : Int32)), .unset, .unset, .unset, .unset, .unset, .unset] [(.int (if nn < xx then nn else xx))])) st896 ?_
      refine own_st (T' := T896) (g' := (mkF m 94 #[.val (.int p1), .val (.int p2), .val (.int p3), .val (.ref b383), .val (.int nn), .val (.int mm), .val (.int cp), .val (.int (1 : Int32)), .unset, .unset, .unset, .unset, .unset, .unset] [(.int (if nn < xx then nn else xx))])) (fun _ kt => XS.goto X896.here hx rfl (pc0 := 89) (pc' := 94) rfl (hb hby at_89) (by decide) (by decide) kt) ?_
      have F898 : Old Z n0 h397 := (Old.wr (Old.wr (Old.wr (Old.ext pr1 E383) W388 ge_b383) W392 ge_b383) W397 ge_b383)
      exact J402 _ _ _ _ _ ⟨(if nn < xx then nn else xx), (1 : Int32)⟩ ⟨N897, Z400, F898, CR399, hS, hk400, hZ, hown, F401, ⟨(own_min q_xx q_nn).1, (own_min q_xx q_nn).2, Or.inr rfl, fun q => absurd (show (1 : Int32) = 0 from q) (by decide)⟩⟩ (X896.mono (by decide) (by decide)) e896
set_option maxRecDepth 65536 in
set_option maxHeartbeats 40000000 in
theorem comes_1 {Post : Tables → Env → Array Value → State → Outcome → State → Prop} (hpost : ∀ tb e args s v u, (limb_1_1.after args s (.returned v) u = true ∧ limb_1_2.after args s (.returned v) u = true ∧ True) → ReturnedEndW s (.returned v) u (Jvm.fieldLocs frame_1_writes args s ++ Jvm.arrayLocs frame_1_arrays args s ++ Jvm.staticLocs frame_1_statics s) 32 1152 → Post tb e args s (.returned v) u) :
    ArmFor flags0 classFile x code maxLocals ret World_1 tables_1 room_1 Calls_1 rest_1 Pre_1 Post := by
  intro l hfl _ _ p e ha hc hk s m args below hf hA hF happ hP
  obtain ⟨hcalls, hrest, hpre⟩ := hP
  obtain ⟨-, -, -, hnamed, -, -, -, hat⟩ := (Spec.applies_iff hf).mp happ
  obtain ⟨hg, hn⟩ := and_e (Cond.before_iff.mp (show (Jvm.Cond.and given_1 narrow_1).before args s = true from hpre))
  obtain ⟨g0, hg⟩ := and_e hg
  obtain ⟨g1, hg⟩ := and_e hg
  obtain ⟨g2, hg⟩ := and_e hg
  obtain ⟨w0, w1, w2, rfl⟩ : ∃ w0 w1 w2 : Value, args = #[w0, w1, w2] := by
    have hs : args.size = 3 := by simpa [Cond.value, given_1] using g0
    obtain ⟨L⟩ := args
    match L, hs with
    | [w0, w1, w2], _ => exact ⟨w0, w1, w2, rfl⟩
  have hw := fun d (hd : d ∈ tables_1) => atoms_spec (ws := Jvm.Cond.code x code maxLocals ret :: tables_1) hat d (List.mem_cons_of_mem _ hd)
  have hfit : Fit s := fun {y c} hc i hi => by
    obtain ⟨ha, rfl⟩ := Array.getElem?_eq_some_iff.mp hc
    have q := List.all_eq_true.mp ((Array.all_eq_true_iff_forall_mem.mp hF) _ (Array.getElem_mem ha)) i (List.mem_range.mpr hi)
    simpa [Array.getElem?_eq_getElem hi] using q
  obtain ⟨i0, e0⟩ := is_v g1
  obtain rfl : w0 = (.int i0) := Option.some.inj e0
  obtain ⟨i1, e1⟩ := is_v g2
  obtain rfl : w1 = (.int i1) := Option.some.inj e1
  obtain ⟨i2, e2⟩ := is_v hg
  obtain rfl : w2 = (.int i2) := Option.some.inj e2
  obtain ⟨hsets, hown0⟩ := atoms_of _ (rest_1_c_eq ▸ (show rest_1_c.before _ s = true from hrest))
  have n5 := not_v (Cond.before_iff.mp (hsets _ (List.mem_of_getElem? (i := 2) rfl)))
  obtain ⟨zc, ez⟩ := is_v (Cond.before_iff.mp (hsets _ (List.mem_of_getElem? (i := 1) rfl)))
  have S1 : Sta s s.heap "java/lang/String" "COMPACT_STRINGS" "Z" (.int zc) := Sta.start ez (Or.inl (hsets _ (List.mem_of_getElem? (i := 0) rfl)))
  have hz : ¬ (zc = (0 : Int32)) := gotF (Cond.eq_ints ez (Term.int_eval (0))) n5
  have hCH : CHv s own_EL s.vm s.heap := CHv.start (own_EW hw) (fun p hp => hcalls.1 p hp) (hsets _ (List.mem_of_getElem? (i := 2) rfl)) (own_k hw 23 rfl) (own_k hw 6 rfl)
  obtain ⟨n, o, h1, h2, h3, _, L, rfl, ⟨rfl, N⟩, -, hq⟩ := own_law l s _ hw tables_1 i0 i1 i2 zc s.heap s.heap.size (Nat.le_refl _) (Old.start s) S1 hz p e ha hc hk s m _ below hf ((Spec.applies_iff_loose hf).mp happ).1 ⟨rfl, State.Warmed39.refl s, rfl, hCH⟩ trivial
  refine ⟨n, _, h1, h2, h3, hpost _ _ _ _ _ _ ⟨Cond.after_iff.mpr rfl, Cond.after_iff.mpr (eq_i res_at (Term.int_eval (1)) rfl), trivial⟩ ⟨hq.1, hq.2.1, hq.2.2.1, (hq.2.2.2.sift fun y hy => Or.inr (N y hy)).mono (by decide) (by decide)⟩⟩
theorem main_1_1 : Claimed_1_1 := comes_1 fun _ _ _ _ _ _ h hF => ⟨h.1, hF⟩
theorem main_1_2 : Claimed_1_2 := comes_1 fun _ _ _ _ _ _ h hF => ⟨h.2.1, hF⟩
end Jvm.Pilot.@@N@@
namespace Jvm.Pilot.@@N@@
open Jvm Jvm.ClassFile Sem Op Lib Jvm.Free Jvm.Stand Jvm.Pilot.@@N@@.Jvm.D
/-! MADE BY PROGRAM (witnessworld.py) out of the Statement's table words and the real class files: 21 classes; the members and pool entries that the words name. The judged class is class 1, her method 1. -/
namespace start1
open Jvm.ClassFile
def u (s : String) : CpInfo := .utf8 (stringToUtf16 s)
/-- a pool by its gaps: so many unusable entries, then the entry; so many at the end -/
def gap : Nat → List CpInfo → List CpInfo
  | 0, r => r
  | n + 1, r => .unusable :: gap n r
def poolList (es : List (Nat × CpInfo)) (last : Nat) : List CpInfo := es.foldr (fun e r => gap e.1 (e.2 :: r)) (gap last [])
def pool (es : List (Nat × CpInfo)) (last : Nat) : Array CpInfo := ⟨poolList es last⟩
def fileOf (pool : Array CpInfo) (this : Nat) (attrs : Array Attribute := #[]) (ms : Array MethodInfo := #[]) (fl : Nat := 33) (sup : Nat := 0) (ifs : Array Nat := #[]) (fds : Array FieldInfo := #[]) : ClassFile where
  minorVersion := 0
  majorVersion := 65
  constantPool := pool
  accessFlags := fl
  thisClass := this
  superClass := sup
  interfaces := ifs
  fields := fds
  methods := ms
  attributes := attrs
def plain (name : String) (sup : Option ClassId) : Class where
  name := name
  kind := .ordinary
  loader := none
  accessFlags := 33
  super := sup
  interfaces := #[]
  cf := none
  fields := #[]
  methods := #[]
  instanceTypes := #[]
  staticTypes := #[]
  resolved := #[]
  callSites := []
  init := .initialized
  statics := none
  mirror := none

def pool0 : Array CpInfo := pool [(5, u "<init>"), (0, u "()V"), (1, .class_ 10), (1, u "java/lang/Object")] 113

def k0c0 : Code := { maxStack := 0, maxLocals := 1, code := object_method_1_code, exceptionTable := #[], attributes := #[] }
def k0m0 : Method := { name := "<init>", desc := "()V", sig := { parameters := [], returnType := none }, accessFlags := 1, code := some k0c0 }
/-- java/lang/Object -/
def k0 : Class := { plain "java/lang/Object" none with
  accessFlags := 33
  interfaces := #[]
  cf := some (fileOf pool0 8 #[] #[{ accessFlags := 1, nameIndex := 5, descriptorIndex := 6, attributes := #[] }] 33 0 #[] #[])
  fields := #[]
  methods := #[k0m0]
  instanceTypes := #[]
  staticTypes := #[]
  resolved := Array.replicate 124 none
  statics := none }

def pool1 : Array CpInfo := pool [(2, .class_ 4), (1, u "java/lang/Object"), (0, u "<init>"), (0, u "()V"), (0, .methodref 8 9), (0, .class_ 10), (0, .nameAndType 11 12), (0, u "java/lang/Math"), (0, u "min"), (0, u "(II)I"), (0, .methodref 14 15), (0, .class_ 16), (0, .nameAndType 17 18), (0, u "com/example/tally_rank/tallyrank/analysis/SuffixWordEndsWithPinLaw"), (0, u "take"), (0, u "([CI)[C"), (0, .class_ 20), (0, u "java/lang/String"), (0, .methodref 19 22), (0, .nameAndType 5 23), (0, u "([C)V"), (0, .class_ 25), (0, u "com/example/tally_rank/tallyrank/analysis/SuffixWord"), (0, .methodref 24 27), (0, .nameAndType 5 28), (0, u "(Ljava/lang/String;)V"), (0, .methodref 24 30), (0, .nameAndType 31 32), (0, u "cut"), (0, u "(I)V"), (0, .methodref 14 34), (0, .nameAndType 35 36), (0, u "ref"), (0, u "([CI[CI)Z"), (0, .methodref 24 38), (0, .nameAndType 39 40), (0, u "endsWith"), (0, u "([C)Z"), (2, u "law"), (0, u "(III)Z")] 5

def k1m0 : Method := { name := "<init>", desc := "()V", sig := { parameters := [], returnType := none }, accessFlags := 1, code := none }
def k1c1 : Code := { maxStack := 5, maxLocals := 14, code := code, exceptionTable := #[], attributes := #[] }
def k1m1 : Method := { name := "law", desc := "(III)Z", sig := { parameters := [.int, .int, .int], returnType := some .boolean }, accessFlags := 9, code := some k1c1 }
def k1c2 : Code := { maxStack := 5, maxLocals := 2, code := method_3_code, exceptionTable := #[], attributes := #[] }
def k1m2 : Method := { name := "take", desc := "([CI)[C", sig := { parameters := [(.array .char), .int], returnType := some (.array .char) }, accessFlags := 10, code := some k1c2 }
def k1c3 : Code := { maxStack := 3, maxLocals := 5, code := method_4_code, exceptionTable := #[], attributes := #[] }
def k1m3 : Method := { name := "ref", desc := "([CI[CI)Z", sig := { parameters := [(.array .char), .int, (.array .char), .int], returnType := some .boolean }, accessFlags := 10, code := some k1c3 }
/-- com/example/tally_rank/tallyrank/analysis/SuffixWordEndsWithPinLaw -/
def k1 : Class := { plain "com/example/tally_rank/tallyrank/analysis/SuffixWordEndsWithPinLaw" (some 0) with
  accessFlags := 49
  interfaces := #[]
  cf := some (fileOf pool1 14 #[] #[{ accessFlags := 1, nameIndex := 5, descriptorIndex := 6, attributes := #[] }, { accessFlags := 9, nameIndex := 43, descriptorIndex := 44, attributes := #[] }, { accessFlags := 10, nameIndex := 17, descriptorIndex := 18, attributes := #[] }, { accessFlags := 10, nameIndex := 35, descriptorIndex := 36, attributes := #[] }] 49 2 #[] #[])
  fields := #[]
  methods := #[k1m0, k1m1, k1m2, k1m3]
  instanceTypes := #[]
  staticTypes := #[]
  resolved := Array.replicate 50 none
  statics := none }

def pool2 : Array CpInfo := pool [(1, .class_ 2), (0, u "java/io/Serializable"), (0, .class_ 4), (0, u "java/lang/Object")] 2

/-- java/io/Serializable -/
def k2 : Class := { plain "java/io/Serializable" (some 0) with
  accessFlags := 1537
  interfaces := #[]
  cf := some (fileOf pool2 1 #[] #[] 1537 3 #[] #[])
  fields := #[]
  methods := #[]
  instanceTypes := #[]
  staticTypes := #[]
  resolved := Array.replicate 7 none
  statics := none }

def pool3 : Array CpInfo := pool [(1, .class_ 2), (0, u "java/lang/Comparable"), (0, .class_ 4), (0, u "java/lang/Object")] 7

/-- java/lang/Comparable -/
def k3 : Class := { plain "java/lang/Comparable" (some 0) with
  accessFlags := 1537
  interfaces := #[]
  cf := some (fileOf pool3 1 #[] #[] 1537 3 #[] #[])
  fields := #[]
  methods := #[]
  instanceTypes := #[]
  staticTypes := #[]
  resolved := Array.replicate 12 none
  statics := none }

def pool4 : Array CpInfo := pool [(2, .class_ 4), (1, u "java/lang/CharSequence"), (42, .class_ 48), (0, u "java/lang/CharSequence$1CodePointIterator"), (10, .class_ 60), (0, u "java/lang/CharSequence$1CharIterator"), (5, .class_ 67), (0, u "java/lang/Object")] 63

/-- java/lang/CharSequence -/
def k4 : Class := { plain "java/lang/CharSequence" (some 0) with
  accessFlags := 1537
  interfaces := #[]
  cf := some (fileOf pool4 2 #[.nestMembers #[47, 59]] #[] 1537 66 #[] #[])
  fields := #[]
  methods := #[]
  instanceTypes := #[]
  staticTypes := #[]
  resolved := Array.replicate 131 none
  statics := none }

def pool5 : Array CpInfo := pool [(1, .class_ 2), (0, u "java/lang/constant/Constable"), (0, .class_ 4), (0, u "java/lang/Object")] 6

/-- java/lang/constant/Constable -/
def k5 : Class := { plain "java/lang/constant/Constable" (some 0) with
  accessFlags := 1537
  interfaces := #[]
  cf := some (fileOf pool5 1 #[] #[] 1537 3 #[] #[])
  fields := #[]
  methods := #[]
  instanceTypes := #[]
  staticTypes := #[]
  resolved := Array.replicate 11 none
  statics := none }

def pool6 : Array CpInfo := pool [(1, .class_ 2), (0, u "java/lang/constant/ConstantDesc"), (0, .class_ 4), (0, u "java/lang/Object")] 32

/-- java/lang/constant/ConstantDesc -/
def k6 : Class := { plain "java/lang/constant/ConstantDesc" (some 0) with
  accessFlags := 1537
  interfaces := #[]
  cf := some (fileOf pool6 1 #[] #[] 1537 3 #[] #[])
  fields := #[]
  methods := #[]
  instanceTypes := #[]
  staticTypes := #[]
  resolved := Array.replicate 37 none
  statics := none }

def pool7 : Array CpInfo := pool [(1, .methodref 2 3), (0, .class_ 4), (0, .nameAndType 5 6), (0, u "java/lang/Object"), (0, u "<init>"), (0, u "()V"), (0, .string 8), (0, u ""), (0, .fieldref 10 11), (0, .class_ 12), (0, .nameAndType 13 14), (0, u "java/lang/String"), (0, u "value"), (0, u "[B"), (0, .fieldref 10 16), (0, .nameAndType 17 18), (0, u "coder"), (0, u "B"), (2, u "hash"), (0, u "I"), (2, u "hashIsZero"), (0, u "Z"), (0, .methodref 10 28), (0, .nameAndType 5 29), (0, u "([CIILjava/lang/Void;)V"), (8, .fieldref 10 39), (0, .nameAndType 40 26), (0, u "COMPACT_STRINGS"), (1, .class_ 44), (1, u "java/lang/StringUTF16"), (0, u "compress"), (1, .methodref 42 48), (0, .nameAndType 49 50), (0, u "coderFromArrayLen"), (0, u "([BI)B"), (56, .class_ 109), (1, u "java/lang/StringLatin1"), (32, u "()Z"), (34, .methodref 42 178), (0, .nameAndType 45 179), (0, u "([CII)[B"), (119, .methodref 107 300), (0, .nameAndType 301 302), (0, u "toChars"), (0, u "([B)[C"), (31, u "()I"), (0, .methodref 10 336), (0, .nameAndType 17 337), (0, u "()B"), (154, .methodref 10 493), (0, .nameAndType 494 142), (0, u "isLatin1"), (12, u "length"), (67, .class_ 576), (0, u "java/lang/CharSequence"), (22, u "CASE_INSENSITIVE_ORDER"), (0, u "Ljava/util/Comparator;"), (354, u "toCharArray"), (0, u "()[C"), (53, u "([C)V"), (90, u "serialPersistentFields"), (0, u "[Ljava/io/ObjectStreamField;"), (0, .class_ 1104), (0, u "java/lang/String$CaseInsensitiveComparator"), (1, .class_ 1107), (0, u "java/io/Serializable"), (0, .class_ 1109), (0, u "java/lang/Comparable"), (0, .class_ 1111), (0, u "java/lang/constant/Constable"), (0, .class_ 1113), (0, u "java/lang/constant/ConstantDesc"), (2, u "serialVersionUID"), (0, u "J"), (3, u "REPL"), (0, u "C"), (2, u "LATIN1"), (1, u "UTF16")] 323

def k7m0 : Method := { name := "<init>", desc := "()V", sig := { parameters := [], returnType := none }, accessFlags := 1, code := none }
def k7c1 : Code := { maxStack := 5, maxLocals := 2, code := jdk_42_method_3_code, exceptionTable := #[], attributes := #[] }
def k7m1 : Method := { name := "<init>", desc := "([C)V", sig := { parameters := [(.array .char)], returnType := none }, accessFlags := 1, code := some k7c1 }
def k7c2 : Code := { maxStack := 2, maxLocals := 1, code := jdk_42_method_54_code, exceptionTable := #[], attributes := #[] }
def k7m2 : Method := { name := "length", desc := "()I", sig := { parameters := [], returnType := some .int }, accessFlags := 1, code := some k7c2 }
def k7c3 : Code := { maxStack := 1, maxLocals := 1, code := jdk_42_method_129_code, exceptionTable := #[], attributes := #[] }
def k7m3 : Method := { name := "toCharArray", desc := "()[C", sig := { parameters := [], returnType := some (.array .char) }, accessFlags := 1, code := some k7c3 }
def k7c4 : Code := { maxStack := 4, maxLocals := 6, code := jdk_42_method_149_code, exceptionTable := #[], attributes := #[] }
def k7m4 : Method := { name := "<init>", desc := "([CIILjava/lang/Void;)V", sig := { parameters := [(.array .char), .int, .int, (.object "java/lang/Void")], returnType := none }, accessFlags := 2, code := some k7c4 }
def k7c5 : Code := { maxStack := 1, maxLocals := 1, code := jdk_42_method_152_code, exceptionTable := #[], attributes := #[] }
def k7m5 : Method := { name := "coder", desc := "()B", sig := { parameters := [], returnType := some .byte }, accessFlags := 0, code := some k7c5 }
def k7c6 : Code := { maxStack := 1, maxLocals := 1, code := jdk_42_method_154_code, exceptionTable := #[], attributes := #[] }
def k7m6 : Method := { name := "isLatin1", desc := "()Z", sig := { parameters := [], returnType := some .boolean }, accessFlags := 0, code := some k7c6 }
/-- java/lang/String -/
def k7 : Class := { plain "java/lang/String" (some 0) with
  accessFlags := 49
  interfaces := #[2, 3, 4, 5, 6]
  cf := some (fileOf pool7 10 #[.nestMembers #[1103]] #[{ accessFlags := 1, nameIndex := 5, descriptorIndex := 6, attributes := #[] }, { accessFlags := 1, nameIndex := 5, descriptorIndex := 1010, attributes := #[] }, { accessFlags := 1, nameIndex := 507, descriptorIndex := 334, attributes := #[] }, { accessFlags := 1, nameIndex := 955, descriptorIndex := 956, attributes := #[] }, { accessFlags := 2, nameIndex := 5, descriptorIndex := 29, attributes := #[] }, { accessFlags := 0, nameIndex := 17, descriptorIndex := 337, attributes := #[] }, { accessFlags := 0, nameIndex := 494, descriptorIndex := 142, attributes := #[] }] 49 2 #[1106, 1108, 575, 1110, 1112] #[{ accessFlags := 18, nameIndex := 13, descriptorIndex := 14, attributes := #[] }, { accessFlags := 18, nameIndex := 17, descriptorIndex := 18, attributes := #[] }, { accessFlags := 2, nameIndex := 21, descriptorIndex := 22, attributes := #[] }, { accessFlags := 2, nameIndex := 25, descriptorIndex := 26, attributes := #[] }, { accessFlags := 26, nameIndex := 1116, descriptorIndex := 1117, attributes := #[] }, { accessFlags := 24, nameIndex := 40, descriptorIndex := 26, attributes := #[] }, { accessFlags := 26, nameIndex := 1101, descriptorIndex := 1102, attributes := #[] }, { accessFlags := 26, nameIndex := 1121, descriptorIndex := 1122, attributes := #[] }, { accessFlags := 25, nameIndex := 599, descriptorIndex := 600, attributes := #[] }, { accessFlags := 24, nameIndex := 1125, descriptorIndex := 18, attributes := #[] }, { accessFlags := 24, nameIndex := 1127, descriptorIndex := 18, attributes := #[] }])
  fields := #[{ name := "value", type := (.array .byte), accessFlags := 18, slot := 0, constantValue := 0 }, { name := "coder", type := .byte, accessFlags := 18, slot := 1, constantValue := 0 }, { name := "hash", type := .int, accessFlags := 2, slot := 2, constantValue := 0 }, { name := "hashIsZero", type := .boolean, accessFlags := 2, slot := 3, constantValue := 0 }, { name := "serialVersionUID", type := .long, accessFlags := 26, slot := 0, constantValue := 0 }, { name := "COMPACT_STRINGS", type := .boolean, accessFlags := 24, slot := 1, constantValue := 0 }, { name := "serialPersistentFields", type := (.array (.object "java/io/ObjectStreamField")), accessFlags := 26, slot := 2, constantValue := 0 }, { name := "REPL", type := .char, accessFlags := 26, slot := 3, constantValue := 0 }, { name := "CASE_INSENSITIVE_ORDER", type := (.object "java/util/Comparator"), accessFlags := 25, slot := 4, constantValue := 0 }, { name := "LATIN1", type := .byte, accessFlags := 24, slot := 5, constantValue := 0 }, { name := "UTF16", type := .byte, accessFlags := 24, slot := 6, constantValue := 0 }]
  methods := #[k7m0, k7m1, k7m2, k7m3, k7m4, k7m5, k7m6]
  instanceTypes := #[(.array .byte), .byte, .int, .boolean]
  staticTypes := #[.long, .boolean, (.array (.object "java/io/ObjectStreamField")), .char, (.object "java/util/Comparator"), .byte, .byte]
  resolved := Array.replicate 1451 none
  statics := some 0 }

def pool8 : Array CpInfo := pool [(6, .class_ 8), (1, u "java/lang/Object"), (0, u "<init>"), (0, u "()V"), (1, .class_ 14), (1, u "java/lang/StringUTF16"), (31, u "$assertionsDisabled"), (0, u "Z"), (13, u "HI_BYTE_SHIFT"), (0, u "I"), (2, u "LO_BYTE_SHIFT"), (49, .methodref 12 116), (0, .nameAndType 117 118), (0, u "compress"), (0, u "([CI[BII)I"), (3, u "([CII)[B"), (138, u "coderFromArrayLen"), (0, u "([BI)B"), (106, .class_ 371), (1, u "java/lang/StringUTF16$LinesSpliterator"), (58, u "MAX_LENGTH"), (196, .class_ 628), (0, u "java/lang/StringUTF16$CodePointsSpliterator"), (0, .class_ 630), (0, u "java/lang/StringUTF16$CharsSpliterator")] 4

def k8m0 : Method := { name := "<init>", desc := "()V", sig := { parameters := [], returnType := none }, accessFlags := 0, code := none }
def k8c1 : Code := { maxStack := 2, maxLocals := 2, code := jdk_52_method_15_code, exceptionTable := #[], attributes := #[] }
def k8m1 : Method := { name := "coderFromArrayLen", desc := "([BI)B", sig := { parameters := [(.array .byte), .int], returnType := some .byte }, accessFlags := 8, code := some k8c1 }
def k8c2 : Code := { maxStack := 5, maxLocals := 6, code := jdk_52_method_16_code, exceptionTable := #[], attributes := #[] }
def k8m2 : Method := { name := "compress", desc := "([CII)[B", sig := { parameters := [(.array .char), .int, .int], returnType := some (.array .byte) }, accessFlags := 9, code := some k8c2 }
def k8c3 : Code := { maxStack := 3, maxLocals := 7, code := jdk_52_method_21_code, exceptionTable := #[], attributes := #[] }
def k8m3 : Method := { name := "compress", desc := "([CI[BII)I", sig := { parameters := [(.array .char), .int, (.array .byte), .int, .int], returnType := some .int }, accessFlags := 9, code := some k8c3 }
/-- java/lang/StringUTF16 -/
def k8 : Class := { plain "java/lang/StringUTF16" (some 0) with
  accessFlags := 48
  interfaces := #[]
  cf := some (fileOf pool8 12 #[.nestMembers #[627, 629, 369]] #[{ accessFlags := 0, nameIndex := 9, descriptorIndex := 10, attributes := #[] }, { accessFlags := 8, nameIndex := 261, descriptorIndex := 262, attributes := #[] }, { accessFlags := 9, nameIndex := 117, descriptorIndex := 122, attributes := #[] }, { accessFlags := 9, nameIndex := 117, descriptorIndex := 118, attributes := #[] }] 48 6 #[] #[{ accessFlags := 26, nameIndex := 61, descriptorIndex := 62, attributes := #[] }, { accessFlags := 26, nameIndex := 65, descriptorIndex := 62, attributes := #[] }, { accessFlags := 24, nameIndex := 430, descriptorIndex := 62, attributes := #[] }, { accessFlags := 4120, nameIndex := 46, descriptorIndex := 47, attributes := #[] }])
  fields := #[{ name := "HI_BYTE_SHIFT", type := .int, accessFlags := 26, slot := 0, constantValue := 0 }, { name := "LO_BYTE_SHIFT", type := .int, accessFlags := 26, slot := 1, constantValue := 0 }, { name := "MAX_LENGTH", type := .int, accessFlags := 24, slot := 2, constantValue := 0 }, { name := "$assertionsDisabled", type := .boolean, accessFlags := 4120, slot := 3, constantValue := 0 }]
  methods := #[k8m0, k8m1, k8m2, k8m3]
  instanceTypes := #[]
  staticTypes := #[.int, .int, .int, .boolean]
  resolved := Array.replicate 635 none
  statics := none }

def pool9 : Array CpInfo := pool [(1, .methodref 2 3), (0, .class_ 4), (0, .nameAndType 5 6), (0, u "java/lang/Object"), (0, u "<init>"), (0, u "()V"), (0, .methodref 8 9), (0, .class_ 10), (0, .nameAndType 11 12), (0, u "java/lang/String"), (0, u "toCharArray"), (0, u "()[C"), (0, .fieldref 14 15), (0, .class_ 16), (0, .nameAndType 17 18), (0, u "com/example/tally_rank/tallyrank/analysis/SuffixWord"), (0, u "letters"), (0, u "[C"), (0, .methodref 8 20), (0, .nameAndType 21 22), (0, u "length"), (0, u "()I"), (0, .fieldref 14 24), (0, .nameAndType 21 25), (0, u "I"), (15, u "(Ljava/lang/String;)V"), (6, u "endsWith"), (0, u "([C)Z"), (4, u "cut"), (0, u "(I)V")] 4

def k9c0 : Code := { maxStack := 2, maxLocals := 2, code := prog_22_method_1_code, exceptionTable := #[], attributes := #[] }
def k9m0 : Method := { name := "<init>", desc := "(Ljava/lang/String;)V", sig := { parameters := [(.object "java/lang/String")], returnType := none }, accessFlags := 0, code := some k9c0 }
def k9c1 : Code := { maxStack := 3, maxLocals := 4, code := prog_22_method_5_code, exceptionTable := #[], attributes := #[] }
def k9m1 : Method := { name := "endsWith", desc := "([C)Z", sig := { parameters := [(.array .char)], returnType := some .boolean }, accessFlags := 16, code := some k9c1 }
def k9c2 : Code := { maxStack := 2, maxLocals := 2, code := prog_22_method_8_code, exceptionTable := #[], attributes := #[] }
def k9m2 : Method := { name := "cut", desc := "(I)V", sig := { parameters := [.int], returnType := none }, accessFlags := 16, code := some k9c2 }
/-- com/example/tally_rank/tallyrank/analysis/SuffixWord -/
def k9 : Class := { plain "com/example/tally_rank/tallyrank/analysis/SuffixWord" (some 0) with
  accessFlags := 32
  interfaces := #[]
  cf := some (fileOf pool9 14 #[] #[{ accessFlags := 0, nameIndex := 5, descriptorIndex := 41, attributes := #[] }, { accessFlags := 16, nameIndex := 48, descriptorIndex := 49, attributes := #[] }, { accessFlags := 16, nameIndex := 54, descriptorIndex := 55, attributes := #[] }] 32 2 #[] #[{ accessFlags := 18, nameIndex := 17, descriptorIndex := 18, attributes := #[] }, { accessFlags := 2, nameIndex := 21, descriptorIndex := 25, attributes := #[] }])
  fields := #[{ name := "letters", type := (.array .char), accessFlags := 18, slot := 0, constantValue := 0 }, { name := "length", type := .int, accessFlags := 2, slot := 1, constantValue := 0 }]
  methods := #[k9m0, k9m1, k9m2]
  instanceTypes := #[(.array .char), .int]
  staticTypes := #[]
  resolved := Array.replicate 60 none
  statics := none }

def pool10 : Array CpInfo := pool [(4, .class_ 6), (1, u "java/lang/Object"), (0, u "<init>"), (0, u "()V"), (4, .methodref 14 15), (0, .class_ 16), (0, .nameAndType 17 18), (0, u "java/lang/StringLatin1"), (0, u "inflate"), (0, u "([BI[CII)V"), (102, u "$assertionsDisabled"), (0, u "Z"), (69, u "toChars"), (28, .class_ 223), (1, u "java/lang/StringLatin1$LinesSpliterator"), (44, u "([B)[C"), (121, .class_ 391), (0, u "java/lang/StringLatin1$CharsSpliterator")] 3

def k10m0 : Method := { name := "<init>", desc := "()V", sig := { parameters := [], returnType := none }, accessFlags := 0, code := none }
def k10c1 : Code := { maxStack := 5, maxLocals := 2, code := jdk_43_method_9_code, exceptionTable := #[], attributes := #[] }
def k10m1 : Method := { name := "toChars", desc := "([B)[C", sig := { parameters := [(.array .byte)], returnType := some (.array .char) }, accessFlags := 9, code := some k10c1 }
def k10c2 : Code := { maxStack := 4, maxLocals := 6, code := jdk_43_method_49_code, exceptionTable := #[], attributes := #[] }
def k10m2 : Method := { name := "inflate", desc := "([BI[CII)V", sig := { parameters := [(.array .byte), .int, (.array .char), .int, .int], returnType := none }, accessFlags := 9, code := some k10c2 }
/-- java/lang/StringLatin1 -/
def k10 : Class := { plain "java/lang/StringLatin1" (some 0) with
  accessFlags := 48
  interfaces := #[]
  cf := some (fileOf pool10 14 #[.nestMembers #[390, 221]] #[{ accessFlags := 0, nameIndex := 7, descriptorIndex := 8, attributes := #[] }, { accessFlags := 9, nameIndex := 192, descriptorIndex := 268, attributes := #[] }, { accessFlags := 9, nameIndex := 17, descriptorIndex := 18, attributes := #[] }] 48 4 #[] #[{ accessFlags := 4120, nameIndex := 121, descriptorIndex := 122, attributes := #[] }])
  fields := #[{ name := "$assertionsDisabled", type := .boolean, accessFlags := 4120, slot := 0, constantValue := 0 }]
  methods := #[k10m0, k10m1, k10m2]
  instanceTypes := #[]
  staticTypes := #[.boolean]
  resolved := Array.replicate 395 none
  statics := none }

def pool11 : Array CpInfo := pool [(1, .class_ 2), (0, u "java/lang/Math"), (1, .class_ 6), (1, u "java/lang/Object"), (0, u "<init>"), (0, u "()V"), (89, .class_ 100), (1, u "java/lang/Math$RandomNumberGeneratorHolder"), (71, u "negativeZeroFloatBits"), (0, u "J"), (2, u "negativeZeroDoubleBits"), (24, u "min"), (43, u "$assertionsDisabled"), (0, u "Z"), (88, u "(II)I"), (2, u "twoToTheDoubleScaleDown"), (0, u "D"), (4, u "twoToTheDoubleScaleUp"), (9, u "E"), (3, u "PI"), (2, u "TAU"), (2, u "DEGREES_TO_RADIANS"), (0, u "RADIANS_TO_DEGREES")] 94

def k11m0 : Method := { name := "<init>", desc := "()V", sig := { parameters := [], returnType := none }, accessFlags := 2, code := none }
def k11c1 : Code := { maxStack := 2, maxLocals := 2, code := jdk_29_method_69_code, exceptionTable := #[], attributes := #[] }
def k11m1 : Method := { name := "min", desc := "(II)I", sig := { parameters := [.int, .int], returnType := some .int }, accessFlags := 9, code := some k11c1 }
/-- java/lang/Math -/
def k11 : Class := { plain "java/lang/Math" (some 0) with
  accessFlags := 49
  interfaces := #[]
  cf := some (fileOf pool11 1 #[.nestMembers #[98]] #[{ accessFlags := 2, nameIndex := 7, descriptorIndex := 8, attributes := #[] }, { accessFlags := 9, nameIndex := 201, descriptorIndex := 335, attributes := #[] }] 49 4 #[] #[{ accessFlags := 25, nameIndex := 354, descriptorIndex := 339, attributes := #[] }, { accessFlags := 25, nameIndex := 358, descriptorIndex := 339, attributes := #[] }, { accessFlags := 25, nameIndex := 361, descriptorIndex := 339, attributes := #[] }, { accessFlags := 26, nameIndex := 364, descriptorIndex := 339, attributes := #[] }, { accessFlags := 26, nameIndex := 365, descriptorIndex := 339, attributes := #[] }, { accessFlags := 26, nameIndex := 172, descriptorIndex := 173, attributes := #[] }, { accessFlags := 26, nameIndex := 176, descriptorIndex := 173, attributes := #[] }, { accessFlags := 8, nameIndex := 344, descriptorIndex := 339, attributes := #[] }, { accessFlags := 8, nameIndex := 338, descriptorIndex := 339, attributes := #[] }, { accessFlags := 4120, nameIndex := 245, descriptorIndex := 246, attributes := #[] }])
  fields := #[{ name := "E", type := .double, accessFlags := 25, slot := 0, constantValue := 0 }, { name := "PI", type := .double, accessFlags := 25, slot := 1, constantValue := 0 }, { name := "TAU", type := .double, accessFlags := 25, slot := 2, constantValue := 0 }, { name := "DEGREES_TO_RADIANS", type := .double, accessFlags := 26, slot := 3, constantValue := 0 }, { name := "RADIANS_TO_DEGREES", type := .double, accessFlags := 26, slot := 4, constantValue := 0 }, { name := "negativeZeroFloatBits", type := .long, accessFlags := 26, slot := 5, constantValue := 0 }, { name := "negativeZeroDoubleBits", type := .long, accessFlags := 26, slot := 6, constantValue := 0 }, { name := "twoToTheDoubleScaleUp", type := .double, accessFlags := 8, slot := 7, constantValue := 0 }, { name := "twoToTheDoubleScaleDown", type := .double, accessFlags := 8, slot := 8, constantValue := 0 }, { name := "$assertionsDisabled", type := .boolean, accessFlags := 4120, slot := 9, constantValue := 0 }]
  methods := #[k11m0, k11m1]
  instanceTypes := #[]
  staticTypes := #[.double, .double, .double, .double, .double, .long, .long, .double, .double, .boolean]
  resolved := Array.replicate 460 none
  statics := none }

def pool12 : Array CpInfo := pool [(2, .class_ 4), (1, u "java/lang/Object"), (0, u "<init>"), (0, u "()V"), (17, .class_ 26), (1, u "jdk/internal/util/Preconditions"), (28, .class_ 56), (0, u "jdk/internal/util/Preconditions$4"), (57, .class_ 115), (0, u "jdk/internal/util/Preconditions$1"), (7, u "SIOOBE_FORMATTER"), (0, u "Ljava/util/function/BiFunction;"), (0, .class_ 126), (0, u "jdk/internal/util/Preconditions$2"), (3, u "AIOOBE_FORMATTER"), (0, .class_ 132), (0, u "jdk/internal/util/Preconditions$3"), (3, u "IOOBE_FORMATTER")] 57

def k12m0 : Method := { name := "<init>", desc := "()V", sig := { parameters := [], returnType := none }, accessFlags := 1, code := none }
/-- jdk/internal/util/Preconditions -/
def k12 : Class := { plain "jdk/internal/util/Preconditions" (some 0) with
  accessFlags := 33
  interfaces := #[]
  cf := some (fileOf pool12 24 #[.nestMembers #[55, 131, 125, 114]] #[{ accessFlags := 1, nameIndex := 5, descriptorIndex := 6, attributes := #[] }] 33 2 #[] #[{ accessFlags := 25, nameIndex := 123, descriptorIndex := 124, attributes := #[] }, { accessFlags := 25, nameIndex := 130, descriptorIndex := 124, attributes := #[] }, { accessFlags := 25, nameIndex := 136, descriptorIndex := 124, attributes := #[] }])
  fields := #[{ name := "SIOOBE_FORMATTER", type := (.object "java/util/function/BiFunction"), accessFlags := 25, slot := 0, constantValue := 0 }, { name := "AIOOBE_FORMATTER", type := (.object "java/util/function/BiFunction"), accessFlags := 25, slot := 1, constantValue := 0 }, { name := "IOOBE_FORMATTER", type := (.object "java/util/function/BiFunction"), accessFlags := 25, slot := 2, constantValue := 0 }]
  methods := #[k12m0]
  instanceTypes := #[]
  staticTypes := #[(.object "java/util/function/BiFunction"), (.object "java/util/function/BiFunction"), (.object "java/util/function/BiFunction")]
  resolved := Array.replicate 194 none
  statics := some 1 }

def pool13 : Array CpInfo := pool [(9, u "<init>"), (6, .class_ 18), (1, u "java/lang/Object"), (0, u "()V"), (1, .class_ 23), (1, u "jdk/internal/util/ArraysSupport"), (0, u "LOG2_ARRAY_LONG_INDEX_SCALE"), (0, u "I"), (2, u "U"), (0, u "Ljdk/internal/misc/Unsafe;"), (8, u "BIG_ENDIAN"), (0, u "Z"), (8, u "LOG2_BYTE_BIT_SIZE"), (4, u "LOG2_ARRAY_INT_INDEX_SCALE"), (54, u "JLA"), (0, u "Ljdk/internal/access/JavaLangAccess;"), (11, u "LOG2_ARRAY_BOOLEAN_INDEX_SCALE"), (9, u "LOG2_ARRAY_BYTE_INDEX_SCALE"), (5, u "LOG2_ARRAY_CHAR_INDEX_SCALE"), (5, u "LOG2_ARRAY_SHORT_INDEX_SCALE"), (18, u "LOG2_ARRAY_FLOAT_INDEX_SCALE"), (24, u "LOG2_ARRAY_DOUBLE_INDEX_SCALE"), (89, u "T_BOOLEAN"), (2, u "T_CHAR"), (1, u "T_FLOAT"), (1, u "T_DOUBLE"), (1, u "T_BYTE"), (1, u "T_SHORT"), (1, u "T_INT"), (1, u "T_LONG"), (1, u "SOFT_MAX_ARRAY_LENGTH")] 83

def k13m0 : Method := { name := "<init>", desc := "()V", sig := { parameters := [], returnType := none }, accessFlags := 2, code := none }
/-- jdk/internal/util/ArraysSupport -/
def k13 : Class := { plain "jdk/internal/util/ArraysSupport" (some 0) with
  accessFlags := 33
  interfaces := #[]
  cf := some (fileOf pool13 21 #[] #[{ accessFlags := 2, nameIndex := 9, descriptorIndex := 19, attributes := #[] }] 33 16 #[] #[{ accessFlags := 24, nameIndex := 28, descriptorIndex := 29, attributes := #[] }, { accessFlags := 26, nameIndex := 38, descriptorIndex := 39, attributes := #[] }, { accessFlags := 25, nameIndex := 121, descriptorIndex := 25, attributes := #[] }, { accessFlags := 25, nameIndex := 131, descriptorIndex := 25, attributes := #[] }, { accessFlags := 25, nameIndex := 137, descriptorIndex := 25, attributes := #[] }, { accessFlags := 25, nameIndex := 143, descriptorIndex := 25, attributes := #[] }, { accessFlags := 25, nameIndex := 53, descriptorIndex := 25, attributes := #[] }, { accessFlags := 25, nameIndex := 24, descriptorIndex := 25, attributes := #[] }, { accessFlags := 25, nameIndex := 162, descriptorIndex := 25, attributes := #[] }, { accessFlags := 25, nameIndex := 187, descriptorIndex := 25, attributes := #[] }, { accessFlags := 26, nameIndex := 48, descriptorIndex := 25, attributes := #[] }, { accessFlags := 25, nameIndex := 277, descriptorIndex := 25, attributes := #[] }, { accessFlags := 25, nameIndex := 280, descriptorIndex := 25, attributes := #[] }, { accessFlags := 25, nameIndex := 282, descriptorIndex := 25, attributes := #[] }, { accessFlags := 25, nameIndex := 284, descriptorIndex := 25, attributes := #[] }, { accessFlags := 25, nameIndex := 286, descriptorIndex := 25, attributes := #[] }, { accessFlags := 25, nameIndex := 288, descriptorIndex := 25, attributes := #[] }, { accessFlags := 25, nameIndex := 290, descriptorIndex := 25, attributes := #[] }, { accessFlags := 25, nameIndex := 292, descriptorIndex := 25, attributes := #[] }, { accessFlags := 26, nameIndex := 108, descriptorIndex := 109, attributes := #[] }, { accessFlags := 25, nameIndex := 294, descriptorIndex := 25, attributes := #[] }])
  fields := #[{ name := "U", type := (.object "jdk/internal/misc/Unsafe"), accessFlags := 24, slot := 0, constantValue := 0 }, { name := "BIG_ENDIAN", type := .boolean, accessFlags := 26, slot := 1, constantValue := 0 }, { name := "LOG2_ARRAY_BOOLEAN_INDEX_SCALE", type := .int, accessFlags := 25, slot := 2, constantValue := 0 }, { name := "LOG2_ARRAY_BYTE_INDEX_SCALE", type := .int, accessFlags := 25, slot := 3, constantValue := 0 }, { name := "LOG2_ARRAY_CHAR_INDEX_SCALE", type := .int, accessFlags := 25, slot := 4, constantValue := 0 }, { name := "LOG2_ARRAY_SHORT_INDEX_SCALE", type := .int, accessFlags := 25, slot := 5, constantValue := 0 }, { name := "LOG2_ARRAY_INT_INDEX_SCALE", type := .int, accessFlags := 25, slot := 6, constantValue := 0 }, { name := "LOG2_ARRAY_LONG_INDEX_SCALE", type := .int, accessFlags := 25, slot := 7, constantValue := 0 }, { name := "LOG2_ARRAY_FLOAT_INDEX_SCALE", type := .int, accessFlags := 25, slot := 8, constantValue := 0 }, { name := "LOG2_ARRAY_DOUBLE_INDEX_SCALE", type := .int, accessFlags := 25, slot := 9, constantValue := 0 }, { name := "LOG2_BYTE_BIT_SIZE", type := .int, accessFlags := 26, slot := 10, constantValue := 0 }, { name := "T_BOOLEAN", type := .int, accessFlags := 25, slot := 11, constantValue := 0 }, { name := "T_CHAR", type := .int, accessFlags := 25, slot := 12, constantValue := 0 }, { name := "T_FLOAT", type := .int, accessFlags := 25, slot := 13, constantValue := 0 }, { name := "T_DOUBLE", type := .int, accessFlags := 25, slot := 14, constantValue := 0 }, { name := "T_BYTE", type := .int, accessFlags := 25, slot := 15, constantValue := 0 }, { name := "T_SHORT", type := .int, accessFlags := 25, slot := 16, constantValue := 0 }, { name := "T_INT", type := .int, accessFlags := 25, slot := 17, constantValue := 0 }, { name := "T_LONG", type := .int, accessFlags := 25, slot := 18, constantValue := 0 }, { name := "JLA", type := (.object "jdk/internal/access/JavaLangAccess"), accessFlags := 26, slot := 19, constantValue := 0 }, { name := "SOFT_MAX_ARRAY_LENGTH", type := .int, accessFlags := 25, slot := 20, constantValue := 0 }]
  methods := #[k13m0]
  instanceTypes := #[]
  staticTypes := #[(.object "jdk/internal/misc/Unsafe"), .boolean, .int, .int, .int, .int, .int, .int, .int, .int, .int, .int, .int, .int, .int, .int, .int, .int, .int, (.object "jdk/internal/access/JavaLangAccess"), .int]
  resolved := Array.replicate 378 none
  statics := none }

def pool14 : Array CpInfo := pool [(1, u "java/lang/Cloneable"), (0, .class_ 1), (0, u "java/lang/Object"), (0, .class_ 3)] 3

/-- java/lang/Cloneable -/
def k14 : Class := { plain "java/lang/Cloneable" (some 0) with
  accessFlags := 1537
  interfaces := #[]
  cf := some (fileOf pool14 2 #[] #[] 1537 4 #[] #[])
  fields := #[]
  methods := #[]
  instanceTypes := #[]
  staticTypes := #[]
  resolved := Array.replicate 8 none
  statics := none }

/-- the primitive byte -/
def k15 : Class := { plain "byte" none with kind := .primitive 'B', accessFlags := 0x411 }
/-- [B -/
def k16 : Class := { plain "[B" (some 0) with kind := .array 15 .byte, interfaces := #[14, 2], accessFlags := 1041 }

/-- the primitive char -/
def k17 : Class := { plain "char" none with kind := .primitive 'C', accessFlags := 0x411 }
/-- [C -/
def k18 : Class := { plain "[C" (some 0) with kind := .array 17 .char, interfaces := #[14, 2], accessFlags := 1041 }

/-- the primitive int -/
def k19 : Class := { plain "int" none with kind := .primitive 'I', accessFlags := 0x411 }
/-- [I -/
def k20 : Class := { plain "[I" (some 0) with kind := .array 19 .int, interfaces := #[14, 2], accessFlags := 1041 }

def heap : Heap := #[{ cls := 7, slots := #[.long 0, .int 1, .null, .int 0, .null, .int 0, .int 0], vm := .statics 7 },
  { cls := 12, slots := #[.null, .null, .null], vm := .statics 12 }]
def classes : Array Class := #[k0, k1, k2, k3, k4, k5, k6, k7, k8, k9, k10, k11, k12, k13, k14, k15, k16, k17, k18, k19, k20]
def interned : List (Array UInt16 × Addr) := []
def slotsUsed : Nat := 10
def theMethod : MethodId := ⟨1, 1⟩
def args0 : Array Value := #[.int 5, .int 5, .int 5]
def aboutOver (below : List Frame) : State where
  vm := { classes := classes, interned := interned.toArray }
  heap := heap
  slotsUsed := slotsUsed
  threads := #[{ frames := .invoking theMethod args0 :: below }]
def below0 : List Frame := [.native { method := ⟨0, 0⟩, args := #[] }]
def about1 : State := aboutOver below0
def p0 : Program := .bare "" "" ""
def e0 : Env := launch0.env 0 0 0
theorem w_frames : about1.frames = Frame.invoking theMethod args0 :: below0 := rfl
set_option maxRecDepth 65536 in
theorem w_args : argsFit about1.vm theMethod args0 = true := by decide +kernel
set_option maxRecDepth 65536 in
theorem w_heap : heapFits about1 = true := by decide +kernel
set_option maxRecDepth 65536 in
theorem w_runnable : about1.curStatus? = some .runnable := by decide +kernel
set_option maxRecDepth 65536 in
theorem w_alone : about1.alone = true := by decide +kernel
set_option maxRecDepth 65536 in
theorem w_named : about1.methodNamed? x = some theMethod := by decide +kernel
set_option maxRecDepth 65536 in
theorem w_hears : about1.hears theMethod below0 = true := by decide +kernel
set_option maxRecDepth 65536 in
theorem w_ripe : about1.ripe theMethod args0 below0 = true := by decide +kernel
theorem w_running : about1.status = .running := rfl
set_option maxRecDepth 65536 in
theorem w_room : about1.hasRoom e0.platform room_1 = true :=
  launch0.hasRoom_least _ room_1 (by decide +kernel) (by decide +kernel) (by decide +kernel) (by decide +kernel) (by decide +kernel) (by decide +kernel)
theorem allAtoms_all (ts : List Jvm.Cond) (a : Array Jvm.Value) (st : Jvm.State) : (allAtoms ts).before a st = ts.all (fun c => c.before a st) := by
  induction ts with
  | nil => rfl
  | cons c t ih =>
    show (Jvm.Cond.and c (allAtoms t)).before a st = _
    rw [Jvm.Cond.before_and, ih, List.all_cons]
def words1 : List Jvm.Cond := Jvm.Cond.code x code maxLocals ret :: tables_1
/-- a 'code' word, met by the world's own term for the bytes: nothing is compared byte by byte -/
theorem code_word {y : MethodName} {bytes : ByteArray} {mx : Nat} {rt : Option FieldType} {a : Array Value} {s : State} {m : MethodId} {meth : Method} {c : Code} (h1 : s.methodNamed? y = some m) (h2 : s.vm.method? m = some meth) (h3 : meth.code = some c) (h4 : c.code = bytes)
    (h5 : (c.maxLocals == mx && c.exceptionTable.isEmpty && decide (c.maxStack ≤ mostOperands) && decide (meth.sig.returnType = rt) && !meth.locks && decide (parseMethodDescriptor y.desc = some meth.sig)) = true) : (Jvm.Cond.code y bytes mx rt).before a s = true := by
  simp only [Bool.and_eq_true, beq_iff_eq, Bool.not_eq_true', decide_eq_true_eq] at h5
  obtain ⟨⟨⟨⟨⟨g1, g2⟩, g3⟩, g4⟩, g5⟩, g6⟩ := h5
  simp [Cond.before, Cond.holds, Cond.value, h1, h2, h3, h4, g1, g2, g3, g4, g5, g6]
def isCode : Jvm.Cond → Bool
  | .code _ _ _ _ => true
  | _ => false
theorem all_split {L : List Jvm.Cond} {P : Jvm.Cond → Bool} (h1 : L.all (fun c => isCode c || P c) = true) (h2 : ∀ c ∈ L.filter isCode, P c = true) : L.all P = true := by
  refine List.all_eq_true.mpr fun c hc => ?_
  have h := List.all_eq_true.mp h1 c hc
  rcases Bool.eq_false_or_eq_true (isCode c) with hi | hi
  · exact h2 c (List.mem_filter.mpr ⟨hc, hi⟩)
  · simpa [hi] using h
set_option maxRecDepth 65536 in
theorem w_c0 : (Jvm.Cond.code x code maxLocals ret).before args0 about1 = true := code_word (m := ⟨1, 1⟩) (meth := k1m1) (c := k1c1) (by decide +kernel) rfl rfl rfl (by decide +kernel)
set_option maxRecDepth 65536 in
theorem w_c1 : (Jvm.Cond.code ({ cls := "com/example/tally_rank/tallyrank/analysis/SuffixWordEndsWithPinLaw", name := "take", desc := "([CI)[C" } : Jvm.MethodName) method_3_code (2 : Nat) (Option.some (Jvm.ClassFile.FieldType.array Jvm.ClassFile.FieldType.char))).before args0 about1 = true := code_word (m := ⟨1, 2⟩) (meth := k1m2) (c := k1c2) (by decide +kernel) rfl rfl rfl (by decide +kernel)
set_option maxRecDepth 65536 in
theorem w_c2 : (Jvm.Cond.code ({ cls := "java/lang/String", name := "<init>", desc := "([C)V" } : Jvm.MethodName) jdk_42_method_3_code (2 : Nat) (Option.none : Option Jvm.ClassFile.FieldType)).before args0 about1 = true := code_word (m := ⟨7, 1⟩) (meth := k7m1) (c := k7c1) (by decide +kernel) rfl rfl rfl (by decide +kernel)
set_option maxRecDepth 65536 in
theorem w_c3 : (Jvm.Cond.code ({ cls := "java/lang/String", name := "<init>", desc := "([CIILjava/lang/Void;)V" } : Jvm.MethodName) jdk_42_method_149_code (6 : Nat) (Option.none : Option Jvm.ClassFile.FieldType)).before args0 about1 = true := code_word (m := ⟨7, 4⟩) (meth := k7m4) (c := k7c4) (by decide +kernel) rfl rfl rfl (by decide +kernel)
set_option maxRecDepth 65536 in
theorem w_c4 : (Jvm.Cond.code ({ cls := "java/lang/Object", name := "<init>", desc := "()V" } : Jvm.MethodName) object_method_1_code (1 : Nat) (Option.none : Option Jvm.ClassFile.FieldType)).before args0 about1 = true := code_word (m := ⟨0, 0⟩) (meth := k0m0) (c := k0c0) (by decide +kernel) rfl rfl rfl (by decide +kernel)
set_option maxRecDepth 65536 in
theorem w_c5 : (Jvm.Cond.code ({ cls := "java/lang/StringUTF16", name := "compress", desc := "([CII)[B" } : Jvm.MethodName) jdk_52_method_16_code (6 : Nat) (Option.some (Jvm.ClassFile.FieldType.array Jvm.ClassFile.FieldType.byte))).before args0 about1 = true := code_word (m := ⟨8, 2⟩) (meth := k8m2) (c := k8c2) (by decide +kernel) rfl rfl rfl (by decide +kernel)
set_option maxRecDepth 65536 in
theorem w_c6 : (Jvm.Cond.code ({ cls := "java/lang/StringUTF16", name := "compress", desc := "([CI[BII)I" } : Jvm.MethodName) jdk_52_method_21_code (7 : Nat) (Option.some Jvm.ClassFile.FieldType.int)).before args0 about1 = true := code_word (m := ⟨8, 3⟩) (meth := k8m3) (c := k8c3) (by decide +kernel) rfl rfl rfl (by decide +kernel)
set_option maxRecDepth 65536 in
theorem w_c7 : (Jvm.Cond.code ({ cls := "java/lang/StringUTF16", name := "coderFromArrayLen", desc := "([BI)B" } : Jvm.MethodName) jdk_52_method_15_code (2 : Nat) (Option.some Jvm.ClassFile.FieldType.byte)).before args0 about1 = true := code_word (m := ⟨8, 1⟩) (meth := k8m1) (c := k8c1) (by decide +kernel) rfl rfl rfl (by decide +kernel)
set_option maxRecDepth 65536 in
theorem w_c8 : (Jvm.Cond.code ({ cls := "com/example/tally_rank/tallyrank/analysis/SuffixWord", name := "<init>", desc := "(Ljava/lang/String;)V" } : Jvm.MethodName) prog_22_method_1_code (2 : Nat) (Option.none : Option Jvm.ClassFile.FieldType)).before args0 about1 = true := code_word (m := ⟨9, 0⟩) (meth := k9m0) (c := k9c0) (by decide +kernel) rfl rfl rfl (by decide +kernel)
set_option maxRecDepth 65536 in
theorem w_c9 : (Jvm.Cond.code ({ cls := "java/lang/String", name := "toCharArray", desc := "()[C" } : Jvm.MethodName) jdk_42_method_129_code (1 : Nat) (Option.some (Jvm.ClassFile.FieldType.array Jvm.ClassFile.FieldType.char))).before args0 about1 = true := code_word (m := ⟨7, 3⟩) (meth := k7m3) (c := k7c3) (by decide +kernel) rfl rfl rfl (by decide +kernel)
set_option maxRecDepth 65536 in
theorem w_c10 : (Jvm.Cond.code ({ cls := "java/lang/String", name := "isLatin1", desc := "()Z" } : Jvm.MethodName) jdk_42_method_154_code (1 : Nat) (Option.some Jvm.ClassFile.FieldType.boolean)).before args0 about1 = true := code_word (m := ⟨7, 6⟩) (meth := k7m6) (c := k7c6) (by decide +kernel) rfl rfl rfl (by decide +kernel)
set_option maxRecDepth 65536 in
theorem w_c11 : (Jvm.Cond.code ({ cls := "java/lang/StringLatin1", name := "toChars", desc := "([B)[C" } : Jvm.MethodName) jdk_43_method_9_code (2 : Nat) (Option.some (Jvm.ClassFile.FieldType.array Jvm.ClassFile.FieldType.char))).before args0 about1 = true := code_word (m := ⟨10, 1⟩) (meth := k10m1) (c := k10c1) (by decide +kernel) rfl rfl rfl (by decide +kernel)
set_option maxRecDepth 65536 in
theorem w_c12 : (Jvm.Cond.code ({ cls := "java/lang/StringLatin1", name := "inflate", desc := "([BI[CII)V" } : Jvm.MethodName) jdk_43_method_49_code (6 : Nat) (Option.none : Option Jvm.ClassFile.FieldType)).before args0 about1 = true := code_word (m := ⟨10, 2⟩) (meth := k10m2) (c := k10c2) (by decide +kernel) rfl rfl rfl (by decide +kernel)
set_option maxRecDepth 65536 in
theorem w_c13 : (Jvm.Cond.code ({ cls := "java/lang/String", name := "length", desc := "()I" } : Jvm.MethodName) jdk_42_method_54_code (1 : Nat) (Option.some Jvm.ClassFile.FieldType.int)).before args0 about1 = true := code_word (m := ⟨7, 2⟩) (meth := k7m2) (c := k7c2) (by decide +kernel) rfl rfl rfl (by decide +kernel)
set_option maxRecDepth 65536 in
theorem w_c14 : (Jvm.Cond.code ({ cls := "java/lang/String", name := "coder", desc := "()B" } : Jvm.MethodName) jdk_42_method_152_code (1 : Nat) (Option.some Jvm.ClassFile.FieldType.byte)).before args0 about1 = true := code_word (m := ⟨7, 5⟩) (meth := k7m5) (c := k7c5) (by decide +kernel) rfl rfl rfl (by decide +kernel)
set_option maxRecDepth 65536 in
theorem w_c15 : (Jvm.Cond.code ({ cls := "com/example/tally_rank/tallyrank/analysis/SuffixWordEndsWithPinLaw", name := "ref", desc := "([CI[CI)Z" } : Jvm.MethodName) method_4_code (5 : Nat) (Option.some Jvm.ClassFile.FieldType.boolean)).before args0 about1 = true := code_word (m := ⟨1, 3⟩) (meth := k1m3) (c := k1c3) (by decide +kernel) rfl rfl rfl (by decide +kernel)
set_option maxRecDepth 65536 in
theorem w_c16 : (Jvm.Cond.code ({ cls := "com/example/tally_rank/tallyrank/analysis/SuffixWord", name := "endsWith", desc := "([C)Z" } : Jvm.MethodName) prog_22_method_5_code (4 : Nat) (Option.some Jvm.ClassFile.FieldType.boolean)).before args0 about1 = true := code_word (m := ⟨9, 1⟩) (meth := k9m1) (c := k9c1) (by decide +kernel) rfl rfl rfl (by decide +kernel)
set_option maxRecDepth 65536 in
theorem w_c17 : (Jvm.Cond.code ({ cls := "java/lang/Math", name := "min", desc := "(II)I" } : Jvm.MethodName) jdk_29_method_69_code (2 : Nat) (Option.some Jvm.ClassFile.FieldType.int)).before args0 about1 = true := code_word (m := ⟨11, 1⟩) (meth := k11m1) (c := k11c1) (by decide +kernel) rfl rfl rfl (by decide +kernel)
set_option maxRecDepth 65536 in
theorem w_c18 : (Jvm.Cond.code ({ cls := "com/example/tally_rank/tallyrank/analysis/SuffixWord", name := "cut", desc := "(I)V" } : Jvm.MethodName) prog_22_method_8_code (2 : Nat) (Option.none : Option Jvm.ClassFile.FieldType)).before args0 about1 = true := code_word (m := ⟨9, 2⟩) (meth := k9m2) (c := k9c2) (by decide +kernel) rfl rfl rfl (by decide +kernel)
def codes1 : List Jvm.Cond := [Jvm.Cond.code x code maxLocals ret, Jvm.Cond.code ({ cls := "com/example/tally_rank/tallyrank/analysis/SuffixWordEndsWithPinLaw", name := "take", desc := "([CI)[C" } : Jvm.MethodName) method_3_code (2 : Nat) (Option.some (Jvm.ClassFile.FieldType.array Jvm.ClassFile.FieldType.char)), Jvm.Cond.code ({ cls := "java/lang/String", name := "<init>", desc := "([C)V" } : Jvm.MethodName) jdk_42_method_3_code (2 : Nat) (Option.none : Option Jvm.ClassFile.FieldType), Jvm.Cond.code ({ cls := "java/lang/String", name := "<init>", desc := "([CIILjava/lang/Void;)V" } : Jvm.MethodName) jdk_42_method_149_code (6 : Nat) (Option.none : Option Jvm.ClassFile.FieldType), Jvm.Cond.code ({ cls := "java/lang/Object", name := "<init>", desc := "()V" } : Jvm.MethodName) object_method_1_code (1 : Nat) (Option.none : Option Jvm.ClassFile.FieldType), Jvm.Cond.code ({ cls := "java/lang/StringUTF16", name := "compress", desc := "([CII)[B" } : Jvm.MethodName) jdk_52_method_16_code (6 : Nat) (Option.some (Jvm.ClassFile.FieldType.array Jvm.ClassFile.FieldType.byte)), Jvm.Cond.code ({ cls := "java/lang/StringUTF16", name := "compress", desc := "([CI[BII)I" } : Jvm.MethodName) jdk_52_method_21_code (7 : Nat) (Option.some Jvm.ClassFile.FieldType.int), Jvm.Cond.code ({ cls := "java/lang/StringUTF16", name := "coderFromArrayLen", desc := "([BI)B" } : Jvm.MethodName) jdk_52_method_15_code (2 : Nat) (Option.some Jvm.ClassFile.FieldType.byte), Jvm.Cond.code ({ cls := "com/example/tally_rank/tallyrank/analysis/SuffixWord", name := "<init>", desc := "(Ljava/lang/String;)V" } : Jvm.MethodName) prog_22_method_1_code (2 : Nat) (Option.none : Option Jvm.ClassFile.FieldType), Jvm.Cond.code ({ cls := "java/lang/String", name := "toCharArray", desc := "()[C" } : Jvm.MethodName) jdk_42_method_129_code (1 : Nat) (Option.some (Jvm.ClassFile.FieldType.array Jvm.ClassFile.FieldType.char)), Jvm.Cond.code ({ cls := "java/lang/String", name := "isLatin1", desc := "()Z" } : Jvm.MethodName) jdk_42_method_154_code (1 : Nat) (Option.some Jvm.ClassFile.FieldType.boolean), Jvm.Cond.code ({ cls := "java/lang/StringLatin1", name := "toChars", desc := "([B)[C" } : Jvm.MethodName) jdk_43_method_9_code (2 : Nat) (Option.some (Jvm.ClassFile.FieldType.array Jvm.ClassFile.FieldType.char)), Jvm.Cond.code ({ cls := "java/lang/StringLatin1", name := "inflate", desc := "([BI[CII)V" } : Jvm.MethodName) jdk_43_method_49_code (6 : Nat) (Option.none : Option Jvm.ClassFile.FieldType), Jvm.Cond.code ({ cls := "java/lang/String", name := "length", desc := "()I" } : Jvm.MethodName) jdk_42_method_54_code (1 : Nat) (Option.some Jvm.ClassFile.FieldType.int), Jvm.Cond.code ({ cls := "java/lang/String", name := "coder", desc := "()B" } : Jvm.MethodName) jdk_42_method_152_code (1 : Nat) (Option.some Jvm.ClassFile.FieldType.byte), Jvm.Cond.code ({ cls := "com/example/tally_rank/tallyrank/analysis/SuffixWordEndsWithPinLaw", name := "ref", desc := "([CI[CI)Z" } : Jvm.MethodName) method_4_code (5 : Nat) (Option.some Jvm.ClassFile.FieldType.boolean), Jvm.Cond.code ({ cls := "com/example/tally_rank/tallyrank/analysis/SuffixWord", name := "endsWith", desc := "([C)Z" } : Jvm.MethodName) prog_22_method_5_code (4 : Nat) (Option.some Jvm.ClassFile.FieldType.boolean), Jvm.Cond.code ({ cls := "java/lang/Math", name := "min", desc := "(II)I" } : Jvm.MethodName) jdk_29_method_69_code (2 : Nat) (Option.some Jvm.ClassFile.FieldType.int), Jvm.Cond.code ({ cls := "com/example/tally_rank/tallyrank/analysis/SuffixWord", name := "cut", desc := "(I)V" } : Jvm.MethodName) prog_22_method_8_code (2 : Nat) (Option.none : Option Jvm.ClassFile.FieldType)]
set_option maxRecDepth 65536 in
theorem codes_eq : words1.filter isCode = codes1 := rfl
theorem w_codes : ∀ c ∈ words1.filter isCode, c.before args0 about1 = true := by
  rw [codes_eq]
  intro c hc
  simp only [codes1, List.mem_cons, List.not_mem_nil, or_false] at hc
  rcases hc with rfl | rfl | rfl | rfl | rfl | rfl | rfl | rfl | rfl | rfl | rfl | rfl | rfl | rfl | rfl | rfl | rfl | rfl | rfl
  · exact w_c0
  · exact w_c1
  · exact w_c2
  · exact w_c3
  · exact w_c4
  · exact w_c5
  · exact w_c6
  · exact w_c7
  · exact w_c8
  · exact w_c9
  · exact w_c10
  · exact w_c11
  · exact w_c12
  · exact w_c13
  · exact w_c14
  · exact w_c15
  · exact w_c16
  · exact w_c17
  · exact w_c18
set_option maxRecDepth 65536 in
theorem w_t1 : (words1.take 24).all (fun c => isCode c || c.before args0 about1) = true := by decide +kernel
set_option maxRecDepth 65536 in
theorem w_t2 : ((words1.drop 24).take 24).all (fun c => isCode c || c.before args0 about1) = true := by decide +kernel
set_option maxRecDepth 65536 in
theorem w_t3 : (((words1.drop 24).drop 24).take 24).all (fun c => isCode c || c.before args0 about1) = true := by decide +kernel
set_option maxRecDepth 65536 in
theorem w_t4 : (((words1.drop 24).drop 24).drop 24).all (fun c => isCode c || c.before args0 about1) = true := by decide +kernel
theorem w_tables : (allAtoms (Jvm.Cond.code x code maxLocals ret :: tables_1)).before args0 about1 = true := by
  rw [allAtoms_all]
  show words1.all (fun c => c.before args0 about1) = true
  refine all_split ?_ w_codes
  rw [← List.take_append_drop 24 words1, List.all_append, w_t1, ← List.take_append_drop 24 (words1.drop 24), List.all_append, w_t2, ← List.take_append_drop 24 ((words1.drop 24).drop 24), List.all_append, w_t3, w_t4]
  rfl
set_option maxRecDepth 65536 in
theorem w_rest : rest_1_c.before args0 about1 = true := by decide +kernel
set_option maxRecDepth 65536 in
theorem w_case : (Jvm.Cond.and given_1 narrow_1).before args0 about1 = true := by decide +kernel
set_option maxRecDepth 65536 in
theorem w_consts : constsHeld consts_1 about1 := Jvm.Lit.constsHeldB_iff.mp (by decide +kernel)
theorem w_applies : (headSpec (Jvm.Cond.code x code maxLocals ret :: tables_1) room_1).applies x e0.platform about1 = true :=
  (Spec.applies_iff w_frames).mpr ⟨w_running, w_runnable, w_alone, w_named, w_hears, w_ripe, w_room, w_tables⟩
theorem atStart : AtStart classFile x code maxLocals ret World_1 tables_1 room_1 Calls_1 rest_1 Pre_1 launch0 p0 e0 about1 theMethod args0 below0 :=
  ⟨lists_1, trivial, launch0.admits_env _ _ _, launch0.least_env, fairChoices_fair.cas, fairChoices_fair.clock, w_frames, w_args, w_heap, w_applies, ⟨w_consts, trivial⟩, w_rest, w_case⟩
end start1
theorem witness_1 : WitnessClaimed_1 := ⟨start1.p0, start1.e0, start1.about1, start1.theMethod, start1.args0, start1.below0, start1.atStart⟩
end Jvm.Pilot.@@N@@
