import JvmDerived
import JvmDerived.Pilot.@@N@@Statement
import JvmDerived.Pilot.@@N@@Code
set_option linter.unusedVariables false
set_option linter.unusedSimpArgs false
@@BLOCK:NumsL.lean.txt@@
/- laws to paste: Road.backV (cut by pick.py; bodies as the Statement names them) -/
namespace Jvm.Pilot.@@N@@
namespace StrChars
open Jvm Sem ClassFile Op Lib Jvm.Stand Jvm.Free.XT Jvm.Free.ALB Jvm.Free.JM Jvm.Free
open Jvm.Lib.Cold (StaticIs)
/-- a char array whose places are chars -/
def Ch (a : Addr) (A : Cell) (U : State) : Prop := Arr .char a A U ∧ Typed .char A
theorem Ch.mv {a : Addr} {A : Cell} {U U' : State} (h : Ch a A U) (hal : U.vm.Alike U'.vm) (hh : U'.heap = U.heap) : Ch a A U' := ⟨h.1.mv hal hh, h.2⟩
theorem Ch.keep {a : Addr} {A : Cell} {U U' : State} (h : Ch a A U) (hal : U.vm.Alike U'.vm) (hk : U'.heap[a]? = some A) : Ch a A U' := ⟨h.1.keep hal hk, h.2⟩
/-- what place i of a char[]'s cell holds -/
def cv (A : Cell) (i : Nat) : Int32 := match A.slots[i]? with | some (.int x) => x | _ => 0
theorem Ch.get {a : Addr} {A : Cell} {U : State} (h : Ch a A U) {i : Nat} (hi : i < A.slots.size) : A.slots[i]? = some (.int (cv A i)) := by
  have e := Array.getElem?_eq_getElem hi
  have f := h.2 i _ e
  unfold cv; rw [e]
  generalize A.slots[i] = v at f
  cases v <;> simp [fits] at f ⊢
/-- the byte that i2b leaves of a char -/
def lo8 (x : Int32) : Int32 := x.toInt8.toInt32
theorem fits_lo8 (y : Int32) : fits .byte (.int (lo8 y)) = true := by
  have h1 := y.toInt8.le_toInt
  have h2 := y.toInt8.toInt_lt
  simp only [lo8, fits, Bool.and_eq_true, decide_eq_true_eq, Int32.le_iff_toInt_le, Int8.toInt_toInt32, show (-128 : Int32).toInt = -128 from by decide, show (127 : Int32).toInt = 127 from by decide]
  omega
/-- A' is A but that each place j of lo .. hi - 1 holds f j -/
def Laid (A A' : Cell) (lo hi : Nat) (f : Nat → Value) : Prop := A'.cls = A.cls ∧ A'.vm = A.vm ∧ A'.slots.size = A.slots.size ∧ ∀ i, A'.slots[i]? = if lo ≤ i ∧ i < hi then some (f i) else A.slots[i]?
theorem Laid.zero (A : Cell) (lo : Nat) (f : Nat → Value) : Laid A A lo (lo + 0) f := ⟨rfl, rfl, rfl, fun i => by rw [if_neg (by omega)]⟩
theorem Laid.step {A Ak : Cell} {lo k : Nat} {f : Nat → Value} {v : Value} (h : Laid A Ak lo k f) (hlo : lo ≤ k) (hk : k < Ak.slots.size) (hv : v = f k) : Laid A (Ak.setSlot k v) lo (k + 1) f := by
  refine ⟨h.1, h.2.1, by simpa [Cell.setSlot] using h.2.2.1, fun i => ?_⟩
  by_cases e : k = i
  · subst e; rw [Cell.slots_setSlot_self v hk, if_pos (by omega), hv]
  · rw [Cell.slots_setSlot_ne v e, h.2.2.2 i]
    by_cases q : lo ≤ i ∧ i < k
    · rw [if_pos q, if_pos (by omega)]
    · rw [if_neg q, if_neg (by omega)]
def U16 : String := "java/lang/StringUTF16"
namespace Cmp5
def yN : MethodName := ⟨"java/lang/StringUTF16", "compress", "([CI[BII)I"⟩
abbrev yB : ByteArray := jdk_52_method_21_code
theorem d0 : decode yB 0 = .ok (.iconst 0, 1) := by decide +kernel
theorem d1 : decode yB 1 = .ok (.istore 5, 2) := by decide +kernel
theorem d3 : decode yB 3 = .ok (.iload 5, 2) := by decide +kernel
theorem d5 : decode yB 5 = .ok (.iload 4, 2) := by decide +kernel
theorem d7 : decode yB 7 = .ok (.if_icmp (.ge) 37, 3) := by decide +kernel
theorem d10 : decode yB 10 = .ok (.aload_n 0, 1) := by decide +kernel
theorem d11 : decode yB 11 = .ok (.iload_n 1, 1) := by decide +kernel
theorem d12 : decode yB 12 = .ok (.caload, 1) := by decide +kernel
theorem d13 : decode yB 13 = .ok (.istore 6, 2) := by decide +kernel
theorem d15 : decode yB 15 = .ok (.iload 6, 2) := by decide +kernel
theorem d17 : decode yB 17 = .ok (.sipush 255, 3) := by decide +kernel
theorem d20 : decode yB 20 = .ok (.if_icmp (.le) 6, 3) := by decide +kernel
theorem d26 : decode yB 26 = .ok (.aload_n 2, 1) := by decide +kernel
theorem d27 : decode yB 27 = .ok (.iload_n 3, 1) := by decide +kernel
theorem d28 : decode yB 28 = .ok (.iload 6, 2) := by decide +kernel
theorem d30 : decode yB 30 = .ok (.i2b, 1) := by decide +kernel
theorem d31 : decode yB 31 = .ok (.bastore, 1) := by decide +kernel
theorem d32 : decode yB 32 = .ok (.iinc 1 1, 3) := by decide +kernel
theorem d35 : decode yB 35 = .ok (.iinc 3 1, 3) := by decide +kernel
theorem d38 : decode yB 38 = .ok (.iinc 5 1, 3) := by decide +kernel
theorem d41 : decode yB 41 = .ok (.goto (-38), 3) := by decide +kernel
theorem d44 : decode yB 44 = .ok (.iload 4, 2) := by decide +kernel
theorem d46 : decode yB 46 = .ok (.ireturn, 1) := by decide +kernel
def site : List Cond := []
def tab : Cond := tabOf yN yB 7 (some .int) site
def P (b : Addr) (A : Cell) (d : Addr) (B : Cell) (o q len : Nat) (args : Array Value) (s : State) : Prop := args = #[.ref b, .int (Int32.ofNat o), .ref d, .int (Int32.ofNat q), .int (Int32.ofNat len)] ∧ Ch b A s ∧ Arr .byte d B s ∧ b ≠ d ∧ o + len ≤ A.slots.size ∧ q + len ≤ B.slots.size ∧ ∀ i, i < len → ¬ 255 < cv A (o + i)
def E (b : Addr) (A : Cell) (d : Addr) (B : Cell) (o q len : Nat) (r : Option Value) (s u : State) : Prop := r = some (.int (Int32.ofNat len)) ∧ ∃ B', Put d B' s u ∧ Laid B B' q (q + len) (fun j => Value.int (lo8 (cv A (o + (j - q)))))
/-- no char of the range above 255: len; the places written hold each char's low byte -/
theorem law (l : Launch) (b : Addr) (A : Cell) (d : Addr) (B : Cell) (o q len : Nat) : Law l yN 5 5 0 0 yB 7 (some .int) site (P b A d B o q len) (E b A d B o q len) (copyLocs d q len) 0 0 := by
  refine Law.of_walk (plainFor_of_name (by decide +kernel)) (by decide +kernel) (by decide +kernel) (by decide) (fun _ _ h => by rw [h.1]; rfl) (fun _ U U' hal hh h => ⟨h.1, h.2.1.mv hal hh, h.2.2.1.mv hal hh, h.2.2.2⟩) (fun r U U' V V' h1 hal h2 h => ⟨h.1, h.2.elim fun B' q => ⟨B', q.1.mv h1 h2, q.2⟩⟩) ?_
  intro p e s m args below meth c s₁ X0 hexec hbytes hml hret hlk hnm hown hh0 W hP
  obtain ⟨rfl, hA, hB, hne, l1, l2, hp⟩ := hP
  have c1 : Steps p.tables e below (s₁.setTop (entryFrame m #[.ref b, .int (Int32.ofNat o), .ref d, .int (Int32.ofNat q), .int (Int32.ofNat len)] 7)) (s₁.setTop (mkF m 0 #[.val (.ref b), .val (.int (Int32.ofNat o)), .val (.ref d), .val (.int (Int32.ofNat q)), .val (.int (Int32.ofNat len)), .unset, .unset] [])) := entry rfl
  have hA0 := hA.1.mv X0.warmed.alike hh0
  have hB0 := hB.mv X0.warmed.alike hh0
  have a31 := hA.1.2.2.2
  have c2 : Steps p.tables e below (s₁.setTop (entryFrame m #[.ref b, .int (Int32.ofNat o), .ref d, .int (Int32.ofNat q), .int (Int32.ofNat len)] 7)) (s₁.setTop (mkF m 3 #[.val (.ref b), .val (.int (Int32.ofNat o)), .val (.ref d), .val (.int (Int32.ofNat q)), .val (.int (Int32.ofNat len)), .val (.int 0), .unset] [])) := c1.trans (by
    refine iconstV X0.here hexec rfl 0 (hb hbytes d0) (by decide) ?_
    refine XS.istore X0.here hexec rfl (hb hbytes d1) rfl rfl ?_
    exact Steps.refl _)
  have loop : ∀ (r i : Nat), i + r = len → ∀ (z : Slot), (z = .unset ∨ ∃ w, z = .val w ∧ w.category = 1) → ∀ (Tl : State) (Bk : Cell), Stand p l e { frames := 0, locals := 0, cells := 0, slots := 0 } s m #[.ref b, .int (Int32.ofNat o), .ref d, .int (Int32.ofNat q), .int (Int32.ofNat len)] below meth c Tl ([] ++ copyLocs d q i) 0 0 → Put d Bk s₁ Tl → Laid B Bk q (q + i) (fun j => Value.int (lo8 (cv A (o + (j - q))))) →
      Steps p.tables e below (s₁.setTop (entryFrame m #[.ref b, .int (Int32.ofNat o), .ref d, .int (Int32.ofNat q), .int (Int32.ofNat len)] 7)) (Tl.setTop (mkF m 3 #[.val (.ref b), .val (.int (Int32.ofNat (o + i))), .val (.ref d), .val (.int (Int32.ofNat (q + i))), .val (.int (Int32.ofNat len)), .val (.int (Int32.ofNat i)), z] [])) → ∃ (T' : State) (B' : Cell) (z' : Slot), Stand p l e { frames := 0, locals := 0, cells := 0, slots := 0 } s m #[.ref b, .int (Int32.ofNat o), .ref d, .int (Int32.ofNat q), .int (Int32.ofNat len)] below meth c T' ([] ++ copyLocs d q len) 0 0 ∧ Put d B' s₁ T' ∧ Laid B B' q (q + len) (fun j => Value.int (lo8 (cv A (o + (j - q))))) ∧
      Steps p.tables e below (s₁.setTop (entryFrame m #[.ref b, .int (Int32.ofNat o), .ref d, .int (Int32.ofNat q), .int (Int32.ofNat len)] 7)) (T'.setTop (mkF m 3 #[.val (.ref b), .val (.int (Int32.ofNat (o + len))), .val (.ref d), .val (.int (Int32.ofNat (q + len))), .val (.int (Int32.ofNat len)), .val (.int (Int32.ofNat len)), z'] [])) := by
    intro r
    induction r with
    | zero =>
      intro i hi z hz Tl Bk Xl pl fl cl
      have hil : i = len := by omega
      rw [hil] at Xl fl cl
      exact ⟨Tl, Bk, z, Xl, pl, fl, cl⟩
    | succ r ih =>
      intro i hi z hz Tl Bk Xl pl fl cl
      have all := X0.warmed.alike.symm.trans Xl.warmed.alike
      have hAl := hA0.keep all (pl.other hne hA0.1)
      have hBk := hB0.like all pl.1 fl.1 fl.2.1 fl.2.2.1
      have hlt : q + i < Bk.slots.size := by rw [fl.2.2.1]; omega
      have c3 : Steps p.tables e below (s₁.setTop (entryFrame m #[.ref b, .int (Int32.ofNat o), .ref d, .int (Int32.ofNat q), .int (Int32.ofNat len)] 7)) (Tl.setTop (mkF m 12 #[.val (.ref b), .val (.int (Int32.ofNat (o + i))), .val (.ref d), .val (.int (Int32.ofNat (q + i))), .val (.int (Int32.ofNat len)), .val (.int (Int32.ofNat i)), z] [.int (Int32.ofNat (o + i)), .ref b])) := cl.trans (by
        refine XS.iload Xl.here hexec rfl (hb hbytes d3) rfl ?_
        refine XS.iload Xl.here hexec rfl (hb hbytes d5) rfl ?_
        refine XS.icmpNo Xl.here hexec rfl (hb hbytes d7) rfl (ii_ge_f (lt32 (by omega) (by omega))) ?_
        refine XS.aloadN Xl.here hexec rfl (hb hbytes d10) rfl rfl ?_
        refine XS.iloadN Xl.here hexec rfl (hb hbytes d11) rfl ?_
        exact Steps.refl _)
      have c4 : Steps p.tables e below (s₁.setTop (entryFrame m #[.ref b, .int (Int32.ofNat o), .ref d, .int (Int32.ofNat q), .int (Int32.ofNat len)] 7)) (Tl.setTop (mkF m 13 #[.val (.ref b), .val (.int (Int32.ofNat (o + i))), .val (.ref d), .val (.int (Int32.ofNat (q + i))), .val (.int (Int32.ofNat len)), .val (.int (Int32.ofNat i)), z] [.int (cv A (o + i))])) := c3.trans (by
        refine Xl.aget hexec hAl rfl (hA.get (i := o + i) (by omega)) rfl rfl (hb hbytes d12) ?_
        exact Steps.refl _)
      have c5 : Steps p.tables e below (s₁.setTop (entryFrame m #[.ref b, .int (Int32.ofNat o), .ref d, .int (Int32.ofNat q), .int (Int32.ofNat len)] 7)) (Tl.setTop (mkF m 15 #[.val (.ref b), .val (.int (Int32.ofNat (o + i))), .val (.ref d), .val (.int (Int32.ofNat (q + i))), .val (.int (Int32.ofNat len)), .val (.int (Int32.ofNat i)), .val (.int (cv A (o + i)))] [])) := c4.trans (by
        refine XS.istoreS Xl.here hexec rfl (hb hbytes d13) rfl rfl hz ?_
        exact Steps.refl _)
      have c6 : Steps p.tables e below (s₁.setTop (entryFrame m #[.ref b, .int (Int32.ofNat o), .ref d, .int (Int32.ofNat q), .int (Int32.ofNat len)] 7)) (Tl.setTop (mkF m 31 #[.val (.ref b), .val (.int (Int32.ofNat (o + i))), .val (.ref d), .val (.int (Int32.ofNat (q + i))), .val (.int (Int32.ofNat len)), .val (.int (Int32.ofNat i)), .val (.int (cv A (o + i)))] [.int (lo8 (cv A (o + i))), .int (Int32.ofNat (q + i)), .ref d])) := c5.trans (by
        refine XS.iload Xl.here hexec rfl (hb hbytes d15) rfl ?_
        refine sipushV Xl.here hexec rfl 255 (hb hbytes d17) (by decide) ?_
        refine XS.icmpYes Xl.here hexec rfl (pc0 := 20) rfl (hb hbytes d20) rfl (ii_le_t (hp i (by omega))) (by decide) rfl ?_
        refine XS.aloadN Xl.here hexec rfl (hb hbytes d26) rfl rfl ?_
        refine XS.iloadN Xl.here hexec rfl (hb hbytes d27) rfl ?_
        refine XS.iload Xl.here hexec rfl (hb hbytes d28) rfl ?_
        refine i2b Xl.here hexec rfl (hb hbytes d30) rfl ?_
        exact Steps.refl _)
      obtain ⟨T7, X7, p7, st7⟩ := Xl.aput hexec hBk rfl hlt rfl (fits_lo8 (cv A (o + i))) (g := (mkF m 31 #[.val (.ref b), .val (.int (Int32.ofNat (o + i))), .val (.ref d), .val (.int (Int32.ofNat (q + i))), .val (.int (Int32.ofNat len)), .val (.int (Int32.ofNat i)), .val (.int (cv A (o + i)))] [.int (lo8 (cv A (o + i))), .int (Int32.ofNat (q + i)), .ref d])) rfl (rest := []) rfl (hb hbytes d31)
      have c8 : Steps p.tables e below (s₁.setTop (entryFrame m #[.ref b, .int (Int32.ofNat o), .ref d, .int (Int32.ofNat q), .int (Int32.ofNat len)] 7)) (T7.setTop (mkF m 32 #[.val (.ref b), .val (.int (Int32.ofNat (o + i))), .val (.ref d), .val (.int (Int32.ofNat (q + i))), .val (.int (Int32.ofNat len)), .val (.int (Int32.ofNat i)), .val (.int (cv A (o + i)))] [])) := c6.trans (st7 _ (Steps.refl _))
      have c9 : Steps p.tables e below (s₁.setTop (entryFrame m #[.ref b, .int (Int32.ofNat o), .ref d, .int (Int32.ofNat q), .int (Int32.ofNat len)] 7)) (T7.setTop (mkF m 3 #[.val (.ref b), .val (.int (Int32.ofNat (o + i) + 1)), .val (.ref d), .val (.int (Int32.ofNat (q + i) + 1)), .val (.int (Int32.ofNat len)), .val (.int (Int32.ofNat i + 1)), .val (.int (cv A (o + i)))] [])) := c8.trans (by
        refine iincV X7.here hexec rfl 1 (hb hbytes d32) (by decide) rfl rfl ?_
        refine iincV X7.here hexec rfl 1 (hb hbytes d35) (by decide) rfl rfl ?_
        refine iincV X7.here hexec rfl 1 (hb hbytes d38) (by decide) rfl rfl ?_
        refine XS.goto X7.here hexec rfl (pc0 := 41) rfl (hb hbytes d41) (by decide) rfl ?_
        exact Steps.refl _)
      have c10 : Steps p.tables e below (s₁.setTop (entryFrame m #[.ref b, .int (Int32.ofNat o), .ref d, .int (Int32.ofNat q), .int (Int32.ofNat len)] 7)) (T7.setTop (mkF m 3 #[.val (.ref b), .val (.int (Int32.ofNat (o + (i + 1)))), .val (.ref d), .val (.int (Int32.ofNat (q + (i + 1)))), .val (.int (Int32.ofNat len)), .val (.int (Int32.ofNat (i + 1))), .val (.int (cv A (o + i)))] [])) := by
        have := c9
        rw [succ32, succ32, succ32] at this
        exact this
      exact ih (i + 1) (by omega) _ (Or.inr ⟨_, rfl, rfl⟩) T7 _ (by rw [copyLocs_step, ← List.append_assoc]; exact X7) (pl.trans p7) (fl.step (by omega) hlt (by simp)) c10
  obtain ⟨T9, B9, z9, X9, p9, f9, g9⟩ := loop len 0 (by omega) .unset (Or.inl rfl) s₁ B (by simpa [copyLocs] using X0) ⟨hB0.1, fun _ _ => rfl, rfl⟩ (Laid.zero _ _ _) c2
  have c11 : Steps p.tables e below (s₁.setTop (entryFrame m #[.ref b, .int (Int32.ofNat o), .ref d, .int (Int32.ofNat q), .int (Int32.ofNat len)] 7)) (T9.setTop (mkF m 46 #[.val (.ref b), .val (.int (Int32.ofNat (o + len))), .val (.ref d), .val (.int (Int32.ofNat (q + len))), .val (.int (Int32.ofNat len)), .val (.int (Int32.ofNat len)), z9] [.int (Int32.ofNat len)])) := g9.trans (by
    refine XS.iload X9.here hexec rfl (hb hbytes d3) rfl ?_
    refine XS.iload X9.here hexec rfl (hb hbytes d5) rfl ?_
    refine XS.icmpYes X9.here hexec rfl (pc0 := 7) rfl (hb hbytes d7) rfl (ii_ge_t (nlt32 (by omega) (Nat.le_refl _))) (by decide) rfl ?_
    refine XS.iload X9.here hexec rfl (hb hbytes d44) rfl ?_
    exact Steps.refl _)
  exact ⟨T9, some (.int (Int32.ofNat len)), _, _, _, X9, by simp, rfl, rfl, (fun h => by cases h), ⟨rfl, B9, p9.from hh0, f9⟩, fun fs hl => c11.trans (X9.ireturnOut hexec hret rfl (Or.inl rfl) (hb hbytes d46) hl)⟩
end Cmp5
namespace Cmp3
def yN : MethodName := ⟨"java/lang/StringUTF16", "compress", "([CII)[B"⟩
abbrev yB : ByteArray := jdk_52_method_16_code
theorem d0 : decode yB 0 = .ok (.iload_n 2, 1) := by decide +kernel
theorem d1 : decode yB 1 = .ok (.newarray .byte, 2) := by decide +kernel
theorem d3 : decode yB 3 = .ok (.astore_n 3, 1) := by decide +kernel
theorem d4 : decode yB 4 = .ok (.aload_n 0, 1) := by decide +kernel
theorem d5 : decode yB 5 = .ok (.iload_n 1, 1) := by decide +kernel
theorem d6 : decode yB 6 = .ok (.aload_n 3, 1) := by decide +kernel
theorem d7 : decode yB 7 = .ok (.iconst 0, 1) := by decide +kernel
theorem d8 : decode yB 8 = .ok (.iload_n 2, 1) := by decide +kernel
theorem d9 : decode yB 9 = .ok (.invokestatic 115, 3) := by decide +kernel
theorem d12 : decode yB 12 = .ok (.istore 4, 2) := by decide +kernel
theorem d14 : decode yB 14 = .ok (.iload 4, 2) := by decide +kernel
theorem d16 : decode yB 16 = .ok (.iload_n 2, 1) := by decide +kernel
theorem d17 : decode yB 17 = .ok (.if_icmp (.eq) 40, 3) := by decide +kernel
theorem d57 : decode yB 57 = .ok (.aload_n 3, 1) := by decide +kernel
theorem d58 : decode yB 58 = .ok (.areturn, 1) := by decide +kernel
def site : List Cond := [.arrayClass .byte, Cmp5.tab] ++ staticW U16 115 Cmp5.yN
def tab : Cond := tabOf yN yB 6 (some (.array .byte)) site
def P (b : Addr) (A : Cell) (o len : Nat) (args : Array Value) (s : State) : Prop := args = #[.ref b, .int (Int32.ofNat o), .int (Int32.ofNat len)] ∧ Ch b A s ∧ o + len ≤ A.slots.size ∧ len ≤ 536870912 ∧ ∀ i, i < len → ¬ 255 < cv A (o + i)
def E (b : Addr) (A : Cell) (o len : Nat) (r : Option Value) (s u : State) : Prop := NewArr .byte "[B" len (fun j => .int (lo8 (cv A (o + j)))) r s u ∧ u.heap.size = s.heap.size + 1
/-- no char of the range above 255: a new byte[] of their low bytes -/
theorem law (l : Launch) (b : Addr) (A : Cell) (o len : Nat) : Law l yN 3 3 1 18 yB 6 (some (.array .byte)) site (P b A o len) (E b A o len) [] 1 len := by
  refine Law.of_walk (plainFor_of_name (by decide +kernel)) (by decide +kernel) (by decide +kernel) (by decide) (fun _ _ h => by rw [h.1]; rfl) (fun _ U U' hal hh h => ⟨h.1, h.2.1.mv hal hh, h.2.2⟩) (fun r U U' V V' h1 hal h2 h => ⟨NewArr.mv r U U' V V' h1 hal h2 h.1, by rw [h1, h2]; exact h.2⟩) ?_
  intro p e s m args below meth c s₁ X0 hexec hbytes hml hret hlk hnm hown hh0 W hP
  obtain ⟨rfl, hA, l1, l2, hp⟩ := hP
  have a31 := hA.1.2.2.2
  have c1 : Steps p.tables e below (s₁.setTop (entryFrame m #[.ref b, .int (Int32.ofNat o), .int (Int32.ofNat len)] 6)) (s₁.setTop (mkF m 0 #[.val (.ref b), .val (.int (Int32.ofNat o)), .val (.int (Int32.ofNat len)), .unset, .unset, .unset] [])) := entry rfl
  have c2 : Steps p.tables e below (s₁.setTop (entryFrame m #[.ref b, .int (Int32.ofNat o), .int (Int32.ofNat len)] 6)) (s₁.setTop (mkF m 1 #[.val (.ref b), .val (.int (Int32.ofNat o)), .val (.int (Int32.ofNat len)), .unset, .unset, .unset] [.int (Int32.ofNat len)])) := c1.trans (by
    refine XS.iloadN X0.here hexec rfl (hb hbytes d0) rfl ?_
    exact Steps.refl _)
  obtain ⟨T3, B3, X3, ba3, bs3, bv3, bh3, bf3, st3⟩ := X0.anew hexec (atype := .byte) (wk W (.arrayClass .byte)) rfl (by show len * 1 ≤ _; omega) (by omega) (g := (mkF m 1 #[.val (.ref b), .val (.int (Int32.ofNat o)), .val (.int (Int32.ofNat len)), .unset, .unset, .unset] [.int (Int32.ofNat len)])) rfl (hb hbytes d1) (rest := []) rfl (Nat.le_refl _) (by show 0 + len ≤ len; omega)
  rw [hh0] at ba3 st3
  have kp3 : XT.Kept s T3 := (XT.Kept.of_eq hh0).push bh3
  have hA3 := hA.keep X3.warmed.alike (kp3 _ _ hA.1.1)
  have hne : b ≠ s.heap.size := hA.1.ne
  have c4 : Steps p.tables e below (s₁.setTop (entryFrame m #[.ref b, .int (Int32.ofNat o), .int (Int32.ofNat len)] 6)) (T3.setTop (mkF m 3 #[.val (.ref b), .val (.int (Int32.ofNat o)), .val (.int (Int32.ofNat len)), .unset, .unset, .unset] [.ref s.heap.size])) := c2.trans (st3 _ (Steps.refl _))
  have c5 : Steps p.tables e below (s₁.setTop (entryFrame m #[.ref b, .int (Int32.ofNat o), .int (Int32.ofNat len)] 6)) (T3.setTop (mkF m 9 #[.val (.ref b), .val (.int (Int32.ofNat o)), .val (.int (Int32.ofNat len)), .val (.ref s.heap.size), .unset, .unset] [.int (Int32.ofNat len), .int 0, .ref s.heap.size, .int (Int32.ofNat o), .ref b])) := c4.trans (by
    refine XS.astoreN X3.here hexec rfl (hb hbytes d3) rfl rfl rfl ?_
    refine XS.aloadN X3.here hexec rfl (hb hbytes d4) rfl rfl ?_
    refine XS.iloadN X3.here hexec rfl (hb hbytes d5) rfl ?_
    refine XS.aloadN X3.here hexec rfl (hb hbytes d6) rfl rfl ?_
    refine iconstV X3.here hexec rfl 0 (hb hbytes d7) (by decide) ?_
    refine XS.iloadN X3.here hexec rfl (hb hbytes d8) rfl ?_
    exact Steps.refl _)
  obtain ⟨v6, T6, X6, E6, g6⟩ := X3.callS hexec (Cmp5.law l b A s.heap.size B3 o 0 len) hown (wks W (staticW U16 115 Cmp5.yN)) (wk W Cmp5.tab) (W := 0) (Nat.le_of_ble_eq_true rfl) (Nat.le_of_ble_eq_true rfl) (Nat.le_refl _) (by show 0 + len + 0 ≤ len; omega) (g := (mkF m 9 #[.val (.ref b), .val (.int (Int32.ofNat o)), .val (.int (Int32.ofNat len)), .val (.ref s.heap.size), .unset, .unset] [.int (Int32.ofNat len), .int (Int32.ofNat 0), .ref s.heap.size, .int (Int32.ofNat o), .ref b])) rfl (by rw [hml]; rfl) c5 (argsL := [.ref b, .int (Int32.ofNat o), .ref s.heap.size, .int (Int32.ofNat 0), .int (Int32.ofNat len)]) (rest := []) rfl rfl (by show 2 * 0 + 0 ≤ _; decide) (hb hbytes d9) (⟨rfl, hA3, ba3, hne, l1, by rw [bs3]; simp, hp⟩)
  obtain ⟨rfl, B6, p6, f6⟩ := E6
  have c7 : Steps p.tables e below (s₁.setTop (entryFrame m #[.ref b, .int (Int32.ofNat o), .int (Int32.ofNat len)] 6)) (T6.setTop (mkF m 12 #[.val (.ref b), .val (.int (Int32.ofNat o)), .val (.int (Int32.ofNat len)), .val (.ref s.heap.size), .unset, .unset] [.int (Int32.ofNat len)])) := g6
  have c8 : Steps p.tables e below (s₁.setTop (entryFrame m #[.ref b, .int (Int32.ofNat o), .int (Int32.ofNat len)] 6)) (T6.setTop (mkF m 58 #[.val (.ref b), .val (.int (Int32.ofNat o)), .val (.int (Int32.ofNat len)), .val (.ref s.heap.size), .val (.int (Int32.ofNat len)), .unset] [.ref s.heap.size])) := c7.trans (by
    refine XS.istore X6.here hexec rfl (hb hbytes d12) rfl rfl ?_
    refine XS.iload X6.here hexec rfl (hb hbytes d14) rfl ?_
    refine XS.iloadN X6.here hexec rfl (hb hbytes d16) rfl ?_
    refine XS.icmpYes X6.here hexec rfl (pc0 := 17) rfl (hb hbytes d17) rfl (ii_eq_t rfl) (by decide) rfl ?_
    refine XS.aloadN X6.here hexec rfl (hb hbytes d57) rfl rfl ?_
    exact Steps.refl _)
  have X8 := X6.wide (L' := []) (cells' := 1) (slots' := len) (fun x hx hlt => by
    simp only [List.nil_append, copyLocs, List.mem_map, List.mem_range] at hx
    obtain ⟨i, -, rfl⟩ := hx
    exact absurd hlt (Nat.lt_irrefl _)) (Nat.le_refl _) (by omega)
  exact ⟨T6, some (.ref s.heap.size), _, _, _, X8, rfl, rfl, rfl, (fun h => by cases h), ⟨⟨rfl, B6, ba3.like (X3.warmed.alike.symm.trans X6.warmed.alike) p6.1 f6.1 f6.2.1 f6.2.2.1, f6.2.1.trans bv3, by rw [X6.warmed.alike.findClass, f6.1]; exact bf3, by rw [f6.2.2.1, bs3]; simp, fun j hj => by rw [f6.2.2.2 j, if_pos (by omega)]; rfl, kp3.put p6 (Nat.le_refl _)⟩, by rw [p6.2.2, bh3, hh0]; simp⟩, fun fs hl => c8.trans (X8.areturnOut hexec rfl hret rfl (hb hbytes d58) hl)⟩
end Cmp3
namespace CodL
def yN : MethodName := ⟨"java/lang/StringUTF16", "coderFromArrayLen", "([BI)B"⟩
abbrev yB : ByteArray := jdk_52_method_15_code
theorem d0 : decode yB 0 = .ok (.iload_n 1, 1) := by decide +kernel
theorem d1 : decode yB 1 = .ok (.aload_n 0, 1) := by decide +kernel
theorem d2 : decode yB 2 = .ok (.arraylength, 1) := by decide +kernel
theorem d3 : decode yB 3 = .ok (.isub, 1) := by decide +kernel
theorem d4 : decode yB 4 = .ok (.bipush 31, 2) := by decide +kernel
theorem d6 : decode yB 6 = .ok (.iushr, 1) := by decide +kernel
theorem d7 : decode yB 7 = .ok (.i2b, 1) := by decide +kernel
theorem d8 : decode yB 8 = .ok (.ireturn, 1) := by decide +kernel
def site : List Cond := []
def tab : Cond := tabOf yN yB 2 (some .byte) site
def P (d : Addr) (B : Cell) (args : Array Value) (s : State) : Prop := args = #[.ref d, .int (Int32.ofNat B.slots.size)] ∧ Arr .byte d B s
def E (r : Option Value) (s u : State) : Prop := XT.PureE (some (.int 0)) r s u
/-- an array as long as the number of chars: LATIN1 -/
theorem law (l : Launch) (d : Addr) (B : Cell) : Law l yN 2 2 0 0 yB 2 (some .byte) site (P d B) E [] 0 0 := by
  refine Law.of_walk (plainFor_of_name (by decide +kernel)) (by decide +kernel) (by decide +kernel) (by decide) (fun _ _ h => by rw [h.1]; rfl) (fun _ U U' hal hh h => ⟨h.1, h.2.mv hal hh⟩) (fun r U U' V V' h1 hal h2 h => XT.PureE.mv r U U' V V' h1 hal h2 h) ?_
  intro p e s m args below meth c s₁ X0 hexec hbytes hml hret hlk hnm hown hh0 W hP
  obtain ⟨rfl, hB⟩ := hP
  have hB0 := hB.mv X0.warmed.alike hh0
  have c1 : Steps p.tables e below (s₁.setTop (entryFrame m #[.ref d, .int (Int32.ofNat B.slots.size)] 2)) (s₁.setTop (mkF m 0 #[.val (.ref d), .val (.int (Int32.ofNat B.slots.size))] [])) := entry rfl
  have c2 : Steps p.tables e below (s₁.setTop (entryFrame m #[.ref d, .int (Int32.ofNat B.slots.size)] 2)) (s₁.setTop (mkF m 2 #[.val (.ref d), .val (.int (Int32.ofNat B.slots.size))] [.ref d, .int (Int32.ofNat B.slots.size)])) := c1.trans (by
    refine XS.iloadN X0.here hexec rfl (hb hbytes d0) rfl ?_
    refine XS.aloadN X0.here hexec rfl (hb hbytes d1) rfl rfl ?_
    exact Steps.refl _)
  have c3 : Steps p.tables e below (s₁.setTop (entryFrame m #[.ref d, .int (Int32.ofNat B.slots.size)] 2)) (s₁.setTop (mkF m 8 #[.val (.ref d), .val (.int (Int32.ofNat B.slots.size))] [.int (lo8 (ushr (Int32.ofNat B.slots.size - Int32.ofNat B.slots.size) 31))])) := c2.trans (by
    refine X0.alen hexec hB0 rfl rfl (hb hbytes d2) ?_
    refine XS.isub X0.here hexec rfl (hb hbytes d3) rfl ?_
    refine bipushV X0.here hexec rfl 31 (hb hbytes d4) (by decide) ?_
    refine iushr X0.here hexec rfl (hb hbytes d6) rfl ?_
    refine i2b X0.here hexec rfl (hb hbytes d7) rfl ?_
    exact Steps.refl _)
  have e0 : lo8 (ushr (Int32.ofNat B.slots.size - Int32.ofNat B.slots.size) 31) = 0 := by rw [Int32.sub_self]; decide
  rw [e0] at c3
  exact ⟨s₁, some (.int 0), _, _, _, X0, rfl, rfl, rfl, (fun h => by cases h), ⟨rfl, hh0⟩, fun fs hl => c3.trans (X0.ireturnOut hexec hret rfl (Or.inr (Or.inr (Or.inl rfl))) (hb hbytes d8) hl)⟩
end CodL
/-- the String at a is Latin-1 over a new byte[] (the heap's one new cell): the low bytes of the len chars of A from o on; every cell but a is kept -/
def Got (a : Addr) (D : Cell) (fV fC : Field) (A : Cell) (o len : Nat) (r : Option Value) (s u : State) : Prop := r = none ∧ ∃ D' V : Cell, Blank "java/lang/String" a D' u ∧ Same D D' [fV.slot, fC.slot] ∧ D'.slots[fV.slot]? = some (.ref s.heap.size) ∧ D'.slots[fC.slot]? = some (.int 0) ∧ Arr .byte s.heap.size V u ∧ V.vm = .none ∧ u.vm.findClass "[B" = some V.cls ∧ V.slots.size = len ∧ (∀ j, j < len → V.slots[j]? = some (.int (lo8 (cv A (o + j))))) ∧ (∀ (y : Addr) (c : Cell), y ≠ a → s.heap[y]? = some c → u.heap[y]? = some c) ∧ u.heap.size = s.heap.size + 1
theorem Got.mv {a : Addr} {D A : Cell} {fV fC : Field} {o len : Nat} : ∀ r (U U' V V' : State), U'.heap = U.heap → V.vm.Alike V'.vm → V'.heap = V.heap → Got a D fV fC A o len r U V → Got a D fV fC A o len r U' V' :=
  fun r U U' V V' h1 hal h2 ⟨e0, D', X, a1, a2, a3, a4, a5, a6, a7, a8, a9, a10, a11⟩ => ⟨e0, D', X, a1.mv hal h2, a2, by rw [h1]; exact a3, a4, by rw [h1]; exact a5.mv hal h2, a6, by rw [hal.findClass]; exact a7, a8, a9, by rw [h1, h2]; exact a10, by rw [h1, h2]; exact a11⟩
namespace New4
def yN : MethodName := ⟨"java/lang/String", "<init>", "([CIILjava/lang/Void;)V"⟩
abbrev yB : ByteArray := jdk_42_method_149_code
theorem d0 : decode yB 0 = .ok (.aload_n 0, 1) := by decide +kernel
theorem d1 : decode yB 1 = .ok (.invokespecial 1, 3) := by decide +kernel
theorem d4 : decode yB 4 = .ok (.iload_n 3, 1) := by decide +kernel
theorem d5 : decode yB 5 = .ok (.ifCond (.ne) 22, 3) := by decide +kernel
theorem d27 : decode yB 27 = .ok (.getstatic 38, 3) := by decide +kernel
theorem d30 : decode yB 30 = .ok (.ifCond (.eq) 28, 3) := by decide +kernel
theorem d33 : decode yB 33 = .ok (.aload_n 1, 1) := by decide +kernel
theorem d34 : decode yB 34 = .ok (.iload_n 2, 1) := by decide +kernel
theorem d35 : decode yB 35 = .ok (.iload_n 3, 1) := by decide +kernel
theorem d36 : decode yB 36 = .ok (.invokestatic 177, 3) := by decide +kernel
theorem d39 : decode yB 39 = .ok (.astore 5, 2) := by decide +kernel
theorem d41 : decode yB 41 = .ok (.aload_n 0, 1) := by decide +kernel
theorem d42 : decode yB 42 = .ok (.aload 5, 2) := by decide +kernel
theorem d44 : decode yB 44 = .ok (.iload_n 3, 1) := by decide +kernel
theorem d45 : decode yB 45 = .ok (.invokestatic 47, 3) := by decide +kernel
theorem d48 : decode yB 48 = .ok (.putfield 15, 3) := by decide +kernel
theorem d51 : decode yB 51 = .ok (.aload_n 0, 1) := by decide +kernel
theorem d52 : decode yB 52 = .ok (.aload 5, 2) := by decide +kernel
theorem d54 : decode yB 54 = .ok (.putfield 9, 3) := by decide +kernel
theorem d57 : decode yB 57 = .ok (.return_, 1) := by decide +kernel
def site : List Cond := [.fieldLink "java/lang/String" 38 "java/lang/String" "COMPACT_STRINGS" "Z", Cmp3.tab, CodL.tab, .laysFinal "java/lang/String" "java/lang/String" "value" "[B", .fieldLink "java/lang/String" 9 "java/lang/String" "value" "[B", .laysFinal "java/lang/String" "java/lang/String" "coder" "B", .fieldLink "java/lang/String" 15 "java/lang/String" "coder" "B"] ++ objW "java/lang/String" 1 ++ staticW "java/lang/String" 177 Cmp3.yN ++ staticW "java/lang/String" 47 CodL.yN
def tab : Cond := tabOf yN yB 6 none site
def P (a : Addr) (D : Cell) (fV fC : Field) (b : Addr) (A : Cell) (z : Int32) (o len : Nat) (args : Array Value) (s : State) : Prop := args = #[.ref a, .ref b, .int (Int32.ofNat o), .int (Int32.ofNat len), .null] ∧ Blank "java/lang/String" a D s ∧ Found "java/lang/String" "value" "[B" fV s ∧ Found "java/lang/String" "coder" "B" fC s ∧ Ch b A s ∧ StaticIs s "java/lang/String" "COMPACT_STRINGS" "Z" (.int z) ∧ ¬ z = 0 ∧ 0 < len ∧ o + len ≤ A.slots.size ∧ len ≤ 536870912 ∧ ∀ i, i < len → ¬ 255 < cv A (o + i)
def E (a : Addr) (D : Cell) (fV fC : Field) (A : Cell) (o len : Nat) (r : Option Value) (s u : State) : Prop := Got a D fV fC A o len r s u
/-- len > 0, no char of the range above 255: a Latin-1 String of their low bytes -/
theorem law (l : Launch) (a : Addr) (D : Cell) (fV fC : Field) (b : Addr) (A : Cell) (z : Int32) (o len : Nat) : Law l yN 5 4 2 35 yB 6 none site (P a D fV fC b A z o len) (E a D fV fC A o len) [⟨a, fC.slot⟩, ⟨a, fV.slot⟩] 1 len := by
  refine Law.of_walk (plainFor_of_name (by decide +kernel)) (by decide +kernel) (by decide +kernel) (by decide) (fun _ _ h => by rw [h.1]; rfl) (fun _ U U' hal hh h => ⟨h.1, h.2.1.mv hal hh, h.2.2.1.al hal, h.2.2.2.1.al hal, h.2.2.2.2.1.mv hal hh, h.2.2.2.2.2.1.there hal hh, h.2.2.2.2.2.2⟩) (fun r U U' V V' h1 hal h2 h => Got.mv r U U' V V' h1 hal h2 h) ?_
  intro p e s m args below meth c s₁ X0 hexec hbytes hml hret hlk hnm hown hh0 W hP
  obtain ⟨rfl, hB, f1, f2, hA, s1, hz, l0, l1, l2, hp⟩ := hP
  have a31 := hA.1.2.2.2
  have c1 : Steps p.tables e below (s₁.setTop (entryFrame m #[.ref a, .ref b, .int (Int32.ofNat o), .int (Int32.ofNat len), .null] 6)) (s₁.setTop (mkF m 0 #[.val (.ref a), .val (.ref b), .val (.int (Int32.ofNat o)), .val (.int (Int32.ofNat len)), .val .null, .unset] [])) := entry rfl
  have c2 : Steps p.tables e below (s₁.setTop (entryFrame m #[.ref a, .ref b, .int (Int32.ofNat o), .int (Int32.ofNat len), .null] 6)) (s₁.setTop (mkF m 1 #[.val (.ref a), .val (.ref b), .val (.int (Int32.ofNat o)), .val (.int (Int32.ofNat len)), .val .null, .unset] [.ref a])) := c1.trans (by
    refine XS.aloadN X0.here hexec rfl (hb hbytes d0) rfl rfl ?_
    exact Steps.refl _)
  obtain ⟨T3, X3, q3, st3⟩ := X0.oinit hexec hown (wks W (objW "java/lang/String" 1)) (g := (mkF m 1 #[.val (.ref a), .val (.ref b), .val (.int (Int32.ofNat o)), .val (.int (Int32.ofNat len)), .val .null, .unset] [.ref a])) rfl (by rw [hml]; rfl) (rest := []) rfl (hb hbytes d1) (W := 0) (by show 2 * 0 + 0 ≤ _; decide) (Nat.le_of_ble_eq_true rfl) (Nat.le_of_ble_eq_true rfl)
  have hh3 := q3.trans hh0
  have c4 : Steps p.tables e below (s₁.setTop (entryFrame m #[.ref a, .ref b, .int (Int32.ofNat o), .int (Int32.ofNat len), .null] 6)) (T3.setTop (mkF m 27 #[.val (.ref a), .val (.ref b), .val (.int (Int32.ofNat o)), .val (.int (Int32.ofNat len)), .val .null, .unset] [])) := (c2.trans (st3 _ (Steps.refl _))).trans (by
    refine XS.iloadN X3.here hexec rfl (hb hbytes d4) rfl ?_
    refine XS.ifYes X3.here hexec rfl (pc0 := 5) rfl (hb hbytes d5) rfl (i0_ne_t (nz32 (by omega) l0)) (by decide) rfl ?_
    exact Steps.refl _)
  obtain ⟨T5, X5, q5, st5⟩ := X3.sget hexec hown (wk W (.fieldLink "java/lang/String" 38 "java/lang/String" "COMPACT_STRINGS" "Z")) s1 (fun _ _ h => by rw [hh3]; exact h) (g := (mkF m 27 #[.val (.ref a), .val (.ref b), .val (.int (Int32.ofNat o)), .val (.int (Int32.ofNat len)), .val .null, .unset] [])) rfl (hb hbytes d27)
  have hh5 := q5.trans hh3
  have c6 : Steps p.tables e below (s₁.setTop (entryFrame m #[.ref a, .ref b, .int (Int32.ofNat o), .int (Int32.ofNat len), .null] 6)) (T5.setTop (mkF m 30 #[.val (.ref a), .val (.ref b), .val (.int (Int32.ofNat o)), .val (.int (Int32.ofNat len)), .val .null, .unset] [.int z])) := c4.trans (st5 _ (Steps.refl _))
  have c7 : Steps p.tables e below (s₁.setTop (entryFrame m #[.ref a, .ref b, .int (Int32.ofNat o), .int (Int32.ofNat len), .null] 6)) (T5.setTop (mkF m 36 #[.val (.ref a), .val (.ref b), .val (.int (Int32.ofNat o)), .val (.int (Int32.ofNat len)), .val .null, .unset] [.int (Int32.ofNat len), .int (Int32.ofNat o), .ref b])) := c6.trans (by
    refine XS.ifNo X5.here hexec rfl (hb hbytes d30) rfl (i0_eq_f hz) ?_
    refine XS.aloadN X5.here hexec rfl (hb hbytes d33) rfl rfl ?_
    refine XS.iloadN X5.here hexec rfl (hb hbytes d34) rfl ?_
    refine XS.iloadN X5.here hexec rfl (hb hbytes d35) rfl ?_
    exact Steps.refl _)
  obtain ⟨v8, T8, X8, E8, g8⟩ := X5.callS hexec (Cmp3.law l b A o len) hown (wks W (staticW "java/lang/String" 177 Cmp3.yN)) (wk W Cmp3.tab) (W := 0) (Nat.le_of_ble_eq_true rfl) (Nat.le_of_ble_eq_true rfl) (Nat.le_refl _) (by show 0 + len ≤ len; omega) (g := (mkF m 36 #[.val (.ref a), .val (.ref b), .val (.int (Int32.ofNat o)), .val (.int (Int32.ofNat len)), .val .null, .unset] [.int (Int32.ofNat len), .int (Int32.ofNat o), .ref b])) rfl (by rw [hml]; rfl) c7 (argsL := [.ref b, .int (Int32.ofNat o), .int (Int32.ofNat len)]) (rest := []) rfl rfl (by show 2 * 0 + 0 ≤ _; decide) (hb hbytes d36) (⟨rfl, hA.mv X5.warmed.alike hh5, l1, l2, hp⟩)
  obtain ⟨e8, z8⟩ := E8
  obtain ⟨rfl, N, n1, n2, n3, n4, n5, n6⟩ := NewArr.mv _ T5 s _ _ hh5.symm (Vm.Alike.refl _) rfl e8
  rw [hh5] at z8
  have hB1 := hB.keep X8.warmed.alike (n6 _ _ hB.1)
  have hne : s.heap.size ≠ a := (Nat.ne_of_lt (Array.getElem?_eq_some_iff.mp hB.1).1).symm
  have c9 : Steps p.tables e below (s₁.setTop (entryFrame m #[.ref a, .ref b, .int (Int32.ofNat o), .int (Int32.ofNat len), .null] 6)) (T8.setTop (mkF m 39 #[.val (.ref a), .val (.ref b), .val (.int (Int32.ofNat o)), .val (.int (Int32.ofNat len)), .val .null, .unset] [.ref s.heap.size])) := g8
  have c10 : Steps p.tables e below (s₁.setTop (entryFrame m #[.ref a, .ref b, .int (Int32.ofNat o), .int (Int32.ofNat len), .null] 6)) (T8.setTop (mkF m 45 #[.val (.ref a), .val (.ref b), .val (.int (Int32.ofNat o)), .val (.int (Int32.ofNat len)), .val .null, .val (.ref s.heap.size)] [.int (Int32.ofNat N.slots.size), .ref s.heap.size, .ref a])) := by
    have hc : Steps p.tables e below (s₁.setTop (entryFrame m #[.ref a, .ref b, .int (Int32.ofNat o), .int (Int32.ofNat len), .null] 6)) (T8.setTop (mkF m 45 #[.val (.ref a), .val (.ref b), .val (.int (Int32.ofNat o)), .val (.int (Int32.ofNat len)), .val .null, .val (.ref s.heap.size)] [.int (Int32.ofNat len), .ref s.heap.size, .ref a])) := c9.trans (by
      refine XS.astore X8.here hexec rfl (hb hbytes d39) rfl rfl rfl ?_
      refine XS.aloadN X8.here hexec rfl (hb hbytes d41) rfl rfl ?_
      refine XS.aload X8.here hexec rfl (hb hbytes d42) rfl rfl ?_
      refine XS.iloadN X8.here hexec rfl (hb hbytes d44) rfl ?_
      exact Steps.refl _)
    rw [n4]; exact hc
  obtain ⟨v11, T11, X11, E11, g11⟩ := X8.callS hexec (CodL.law l s.heap.size N) hown (wks W (staticW "java/lang/String" 47 CodL.yN)) (wk W CodL.tab) (W := 1) (Nat.le_of_ble_eq_true rfl) (Nat.le_of_ble_eq_true rfl) (Nat.le_refl _) (by show 0 + len + 0 ≤ len; omega) (g := (mkF m 45 #[.val (.ref a), .val (.ref b), .val (.int (Int32.ofNat o)), .val (.int (Int32.ofNat len)), .val .null, .val (.ref s.heap.size)] [.int (Int32.ofNat N.slots.size), .ref s.heap.size, .ref a])) rfl (by rw [hml]; rfl) c10 (argsL := [.ref s.heap.size, .int (Int32.ofNat N.slots.size)]) (rest := [.ref a]) rfl rfl (by show 2 * 0 + (1 + 0) ≤ _; decide) (hb hbytes d45) (⟨rfl, n1⟩)
  obtain ⟨rfl, q11⟩ := E11
  have hB11 := hB1.mv (X8.warmed.alike.symm.trans X11.warmed.alike) q11
  have c12 : Steps p.tables e below (s₁.setTop (entryFrame m #[.ref a, .ref b, .int (Int32.ofNat o), .int (Int32.ofNat len), .null] 6)) (T11.setTop (mkF m 48 #[.val (.ref a), .val (.ref b), .val (.int (Int32.ofNat o)), .val (.int (Int32.ofNat len)), .val .null, .val (.ref s.heap.size)] [.int 0, .ref a])) := g11
  obtain ⟨T13, X13, p13, bl13, sl13, st13⟩ := X11.finit hexec hown (wk W (.fieldLink "java/lang/String" 15 "java/lang/String" "coder" "B")) (Or.inr ⟨_, (wk W (.laysFinal "java/lang/String" "java/lang/String" "coder" "B"))⟩) (Or.inl ⟨rfl, hnm⟩) f2 (Or.inl rfl) hB11 (t := .byte) (by decide +kernel) rfl (g := (mkF m 48 #[.val (.ref a), .val (.ref b), .val (.int (Int32.ofNat o)), .val (.int (Int32.ofNat len)), .val .null, .val (.ref s.heap.size)] [.int 0, .ref a])) rfl (rest := []) rfl (hb hbytes d48)
  have c14 : Steps p.tables e below (s₁.setTop (entryFrame m #[.ref a, .ref b, .int (Int32.ofNat o), .int (Int32.ofNat len), .null] 6)) (T13.setTop (mkF m 54 #[.val (.ref a), .val (.ref b), .val (.int (Int32.ofNat o)), .val (.int (Int32.ofNat len)), .val .null, .val (.ref s.heap.size)] [.ref s.heap.size, .ref a])) := (c12.trans (st13 _ (Steps.refl _))).trans (by
    refine XS.aloadN X13.here hexec rfl (hb hbytes d51) rfl rfl ?_
    refine XS.aload X13.here hexec rfl (hb hbytes d52) rfl rfl ?_
    exact Steps.refl _)
  obtain ⟨T15, X15, p15, bl15, sl15, st15⟩ := X13.finit hexec hown (wk W (.fieldLink "java/lang/String" 9 "java/lang/String" "value" "[B")) (Or.inr ⟨_, (wk W (.laysFinal "java/lang/String" "java/lang/String" "value" "[B"))⟩) (Or.inl ⟨rfl, hnm⟩) f1 (Or.inl rfl) bl13 (t := (.array .byte)) (by decide +kernel) rfl (g := (mkF m 54 #[.val (.ref a), .val (.ref b), .val (.int (Int32.ofNat o)), .val (.int (Int32.ofNat len)), .val .null, .val (.ref s.heap.size)] [.ref s.heap.size, .ref a])) rfl (rest := []) rfl (hb hbytes d54)
  have c16 : Steps p.tables e below (s₁.setTop (entryFrame m #[.ref a, .ref b, .int (Int32.ofNat o), .int (Int32.ofNat len), .null] 6)) (T15.setTop (mkF m 57 #[.val (.ref a), .val (.ref b), .val (.int (Int32.ofNat o)), .val (.int (Int32.ofNat len)), .val .null, .val (.ref s.heap.size)] [])) := c14.trans (st15 _ (Steps.refl _))
  have ap := apart (Or.inr ⟨_, (wk W (.laysFinal "java/lang/String" "java/lang/String" "value" "[B"))⟩) (Or.inr ⟨_, (wk W (.laysFinal "java/lang/String" "java/lang/String" "coder" "B"))⟩) f1 f2 (t₁ := .array .byte) (t₂ := .byte) (by decide +kernel) (by decide +kernel) (by decide)
  have al := X8.warmed.alike.symm.trans X15.warmed.alike
  have n7 : T11.heap[s.heap.size]? = some N := by rw [q11]; exact n1.1
  exact ⟨T15, none, _, _, _, X15, by simp, rfl, by omega, (fun _ => rfl), ⟨rfl, _, N, bl15, ((Same.refl D _).set _ (by simp)).set _ (by simp), sl15, (Cell.slots_setSlot_ne _ ap).trans sl13, n1.keep al (p15.other hne (p13.other hne n7)), n2, by rw [al.findClass]; exact n3, n4, n5, fun y c h1 h2 => p15.other h1 (p13.other h1 (by rw [q11]; exact n6 y c h2)), by rw [p15.2.2, p13.2.2, q11]; exact z8⟩, fun fs hl => c16.trans (X15.returnOut hexec hret (hb hbytes d57) hl)⟩
end New4
namespace New1
def yN : MethodName := ⟨"java/lang/String", "<init>", "([C)V"⟩
abbrev yB : ByteArray := jdk_42_method_3_code
theorem d0 : decode yB 0 = .ok (.aload_n 0, 1) := by decide +kernel
theorem d1 : decode yB 1 = .ok (.aload_n 1, 1) := by decide +kernel
theorem d2 : decode yB 2 = .ok (.iconst 0, 1) := by decide +kernel
theorem d3 : decode yB 3 = .ok (.aload_n 1, 1) := by decide +kernel
theorem d4 : decode yB 4 = .ok (.arraylength, 1) := by decide +kernel
theorem d5 : decode yB 5 = .ok (.aconst_null, 1) := by decide +kernel
theorem d6 : decode yB 6 = .ok (.invokespecial 27, 3) := by decide +kernel
theorem d9 : decode yB 9 = .ok (.return_, 1) := by decide +kernel
def site : List Cond := [New4.tab] ++ initW "java/lang/String" 27 New4.yN
def tab : Cond := tabOf yN yB 2 none site
def P (a : Addr) (D : Cell) (fV fC : Field) (b : Addr) (A : Cell) (z : Int32) (args : Array Value) (s : State) : Prop := args = #[.ref a, .ref b] ∧ Blank "java/lang/String" a D s ∧ Found "java/lang/String" "value" "[B" fV s ∧ Found "java/lang/String" "coder" "B" fC s ∧ Ch b A s ∧ StaticIs s "java/lang/String" "COMPACT_STRINGS" "Z" (.int z) ∧ ¬ z = 0 ∧ 0 < A.slots.size ∧ A.slots.size ≤ 536870912 ∧ ∀ i, i < A.slots.size → ¬ 255 < cv A i
def E (a : Addr) (D : Cell) (fV fC : Field) (A : Cell) (r : Option Value) (s u : State) : Prop := Got a D fV fC A 0 A.slots.size r s u
/-- new String(chars), not empty, no char above 255: a Latin-1 String of their low bytes -/
theorem law (l : Launch) (a : Addr) (D : Cell) (fV fC : Field) (b : Addr) (A : Cell) (z : Int32) : Law l yN 2 1 3 52 yB 2 none site (P a D fV fC b A z) (E a D fV fC A) [⟨a, fC.slot⟩, ⟨a, fV.slot⟩] 1 A.slots.size := by
  refine Law.of_walk (plainFor_of_name (by decide +kernel)) (by decide +kernel) (by decide +kernel) (by decide) (fun _ _ h => by rw [h.1]; rfl) (fun _ U U' hal hh h => ⟨h.1, h.2.1.mv hal hh, h.2.2.1.al hal, h.2.2.2.1.al hal, h.2.2.2.2.1.mv hal hh, h.2.2.2.2.2.1.there hal hh, h.2.2.2.2.2.2⟩) (fun r U U' V V' h1 hal h2 h => Got.mv r U U' V V' h1 hal h2 h) ?_
  intro p e s m args below meth c s₁ X0 hexec hbytes hml hret hlk hnm hown hh0 W hP
  obtain ⟨rfl, hB, f1, f2, hA, s1, hz, l0, l2, hp⟩ := hP
  have c1 : Steps p.tables e below (s₁.setTop (entryFrame m #[.ref a, .ref b] 2)) (s₁.setTop (mkF m 0 #[.val (.ref a), .val (.ref b)] [])) := entry rfl
  have c2 : Steps p.tables e below (s₁.setTop (entryFrame m #[.ref a, .ref b] 2)) (s₁.setTop (mkF m 6 #[.val (.ref a), .val (.ref b)] [.null, .int (Int32.ofNat A.slots.size), .int 0, .ref b, .ref a])) := c1.trans (by
    refine XS.aloadN X0.here hexec rfl (hb hbytes d0) rfl rfl ?_
    refine XS.aloadN X0.here hexec rfl (hb hbytes d1) rfl rfl ?_
    refine iconstV X0.here hexec rfl 0 (hb hbytes d2) (by decide) ?_
    refine XS.aloadN X0.here hexec rfl (hb hbytes d3) rfl rfl ?_
    refine X0.alen hexec (hA.1.mv X0.warmed.alike hh0) rfl rfl (hb hbytes d4) ?_
    refine XS.aconstNull X0.here hexec rfl (hb hbytes d5) ?_
    exact Steps.refl _)
  obtain ⟨v3, T3, X3, E3, g3⟩ := X0.callN hexec (New4.law l a D fV fC b A z 0 A.slots.size) rfl hown (wks W (initW "java/lang/String" 27 New4.yN)) (W New4.tab (by simp only [site, List.mem_cons, List.mem_append, true_or, or_true])) (W := 0) (Nat.le_of_ble_eq_true rfl) (Nat.le_of_ble_eq_true rfl) (Nat.le_refl _) (by show 0 + A.slots.size ≤ A.slots.size; omega) (g := (mkF m 6 #[.val (.ref a), .val (.ref b)] [.null, .int (Int32.ofNat A.slots.size), .int (Int32.ofNat 0), .ref b, .ref a])) rfl (by rw [hml]; rfl) c2 (argsL := [.ref b, .int (Int32.ofNat 0), .int (Int32.ofNat A.slots.size), .null]) (rest := []) rfl rfl (by show 2 * 0 + 0 ≤ _; decide) (hb hbytes d6) (⟨rfl, hB.mv X0.warmed.alike hh0, f1.al X0.warmed.alike, f2.al X0.warmed.alike, hA.mv X0.warmed.alike hh0, s1.there X0.warmed.alike hh0, hz, l0, by omega, l2, fun i hi => by rw [Nat.zero_add]; exact hp i hi⟩)
  have e0 := Got.mv _ s₁ s _ _ hh0.symm (Vm.Alike.refl _) rfl E3
  obtain rfl := e0.1
  have c4 : Steps p.tables e below (s₁.setTop (entryFrame m #[.ref a, .ref b] 2)) (T3.setTop (mkF m 9 #[.val (.ref a), .val (.ref b)] [])) := g3
  exact ⟨T3, none, _, _, _, X3, by simp, rfl, by omega, (fun _ => rfl), e0, fun fs hl => c4.trans (X3.returnOut hexec hret (hb hbytes d9) hl)⟩
theorem pays {l : Launch} {R : Room} {p : Program} {e : Env} {below : List Frame} {s : State} {sargs : Array Value} {len W : Nat} (a : Addr) (D : Cell) (fV fC : Field) (b : Addr) (A : Cell) (z : Int32) (htab : tab.before sargs s = true) (hfr : 4 ≤ R.frames) (hlo : W + 65 ≤ R.locals) :
    Back l R p e below s sargs yN len W (fun A₁ a₁ => A₁.cells + 1 ≤ R.cells ∧ A₁.slots + A.slots.size ≤ R.slots ∧ P a D fV fC b A z a₁ A₁.U) (fun A₁ _ v₁ B₁ => E a D fV fC A v₁ A₁.U B₁.U ∧ B₁.locs = A₁.locs ++ [⟨a, fC.slot⟩, ⟨a, fV.slot⟩] ∧ B₁.cells = A₁.cells + 1 ∧ B₁.slots = A₁.slots + A.slots.size) :=
  (law l a D fV fC b A z).pays htab hfr (by omega)
end New1
end StrChars
namespace StrChars.Road
open Jvm Sem ClassFile Op Lib Jvm.Stand Jvm.Free Jvm.Free.XT
open Jvm.Lib.Cold (StaticIs)
abbrev ST : String := "java/lang/String"
/-- every table word that New1's law asks, flat -/
abbrev words : List Jvm.Cond := [.code New1.yN New1.yB 2 none, .initialized ST, .methodLink ST 27 New4.yN, .instanceMethod New4.yN,
  .code New4.yN New4.yB 6 none, .fieldLink ST 38 ST "COMPACT_STRINGS" "Z", .laysFinal ST ST "value" "[B", .fieldLink ST 9 ST "value" "[B", .laysFinal ST ST "coder" "B", .fieldLink ST 15 ST "coder" "B",
  .methodLink ST 1 Lib.objectInit, .instanceMethod Lib.objectInit, .code Lib.objectInit ⟨#[0xb1]⟩ 1 none, .methodLink ST 177 Cmp3.yN, .static Cmp3.yN, .methodLink ST 47 CodL.yN, .static CodL.yN,
  .code Cmp3.yN Cmp3.yB 6 (some (.array .byte)), .initialized U16, .arrayClass .byte, .methodLink U16 115 Cmp5.yN, .static Cmp5.yN, .code Cmp5.yN Cmp5.yB 7 (some .int), .code CodL.yN CodL.yB 2 (some .byte)]
theorem tab_of {a : Array Value} {s : State} (h : ∀ w ∈ words, w.before a s = true) : New1.tab.before a s = true := by
  have h5 : Cmp5.tab.before a s = true := unparts (wk h (.code Cmp5.yN Cmp5.yB 7 (some .int))) (wks h (.initialized Cmp5.yN.cls :: Cmp5.site))
  have hc : CodL.tab.before a s = true := unparts (wk h (.code CodL.yN CodL.yB 2 (some .byte))) (wks h (.initialized CodL.yN.cls :: CodL.site))
  have q5 : ∀ w ∈ Cmp5.tab :: words, w.before a s = true := fun w hw => (List.mem_cons.mp hw).elim (fun e => e ▸ h5) (h w)
  have h3 : Cmp3.tab.before a s = true := unparts (wk q5 (.code Cmp3.yN Cmp3.yB 6 (some (.array .byte)))) (wks q5 (.initialized Cmp3.yN.cls :: Cmp3.site))
  have q3 : ∀ w ∈ Cmp3.tab :: CodL.tab :: words, w.before a s = true := fun w hw => (List.mem_cons.mp hw).elim (fun e => e ▸ h3) fun hw => (List.mem_cons.mp hw).elim (fun e => e ▸ hc) (h w)
  have h4 : New4.tab.before a s = true := unparts (wk q3 (.code New4.yN New4.yB 6 none)) (wks q3 (.initialized New4.yN.cls :: New4.site))
  have q4 : ∀ w ∈ New4.tab :: words, w.before a s = true := fun w hw => (List.mem_cons.mp hw).elim (fun e => e ▸ h4) (h w)
  exact unparts (wk q4 (.code New1.yN New1.yB 2 none)) (wks q4 (.initialized New1.yN.cls :: New1.site))
/-- the words ride from the start Z to the walk's own state -/
theorem moved {Z s : State} {a0 args : Array Value} (hZ : Z.Warmed39 s.vm) (hw : ∀ d ∈ words, d.before a0 Z = true) : ∀ d ∈ words, d.before args s = true := fun d hd => by
  have q := hw d hd
  have t : ∀ d ∈ words, d = .arrayClass .byte ∨ (d.onTables && d.keepsFace) = true := by decide +kernel
  rcases t d hd with rfl | t
  · exact RoadKit.mvA hZ q
  · exact RoadKit.mv hZ q t
/-- WHAT COMES BACK, over the tables of the start Z: h the heap at the call, h' behind it -/
def Q (Z : State) (x : Addr) (A : Cell) (h : Heap) (v : Option Value) (h' : Heap) (L : List Loc) : Prop := v = none ∧ (∀ y ∈ L, y.base = x) ∧ RoadKit.Keep h h' [x] ∧ h'.size = h.size + 1 ∧ RoadKit.Exa Z h' x ST ∧ RoadKit.Fld Z h' x ST "value" "[B" (.ref h.size) ∧ RoadKit.Fld Z h' x ST "coder" "B" (.int 0) ∧
  (∃ V : Cell, RoadKit.Arr Z h' h.size V .byte ∧ V.vm = .none ∧ Z.vm.findClass "[B" = some V.cls ∧ V.slots.size = A.slots.size ∧ ∀ j, j < A.slots.size → V.slots[j]? = some (.int (lo8 (cv A j)))) ∧
  ∀ (O n d : String) (w : Value), RoadKit.Fld Z h x O n d w → RoadKit.slotOf Z O n d ≠ RoadKit.slotOf Z ST "value" "[B" → RoadKit.slotOf Z O n d ≠ RoadKit.slotOf Z ST "coder" "B" → RoadKit.Fld Z h' x O n d w
/-- **new String(chars) AT A CALL, IN THE ROAD'S FORM**: for specialBack behind newO: x the fresh String, b the char[] with the cell A -/
theorem back {p : Program} {l : Launch} {e : Env} {R : Room} {s : State} {args : Array Value} {below : List Frame} {len W : Nat} {Z : State} {a0 : Array Value} {h : Heap} (hZ : Z.Warmed39 s.vm) (hw : ∀ d ∈ words, d.before a0 Z = true) {kI : Nat} (wi : (Jvm.Cond.instantiable ST kI).before a0 Z = true)
    {x b : Addr} {A : Cell} {z : Int32} {v0 c0 : Value} (E : RoadKit.Exa Z h x ST) (V : RoadKit.Fld Z h x ST "value" "[B" v0) (C : RoadKit.Fld Z h x ST "coder" "B" c0) (K : RoadKit.Arr Z h b A .char) (hty : Typed .char A) (S : RoadKit.Sta Z h ST "COMPACT_STRINGS" "Z" (.int z)) (hz : ¬ z = 0)
    (l0 : 0 < A.slots.size) (l2 : A.slots.size ≤ 536870912) (hp : ∀ i, i < A.slots.size → ¬ 255 < cv A i) (hfr : 4 ≤ R.frames) (hlo : W + 65 ≤ R.locals) :
    Back l R p e below s args New1.yN len W (fun P a => a = #[.ref x, .ref b] ∧ P.U.heap = h ∧ P.cells + 1 ≤ R.cells ∧ P.slots + A.slots.size ≤ R.slots)
      (fun P _ v B => ∃ L, Q Z x A h v B.U.heap L ∧ B.locs = P.locs ++ L ∧ B.cells = P.cells + 1 ∧ B.slots = P.slots + A.slots.size) := by
  intro m meth c P g ig mk a X hg hsize hdg hW hn hp'
  obtain ⟨rfl, rfl, r1, r2⟩ := hp'
  have al : Z.vm.Alike P.U.vm := hZ.alike.trans X.warmed.alike
  obtain ⟨D, cfV, kV, iV, fV, hD, gV, stV, knV, obV, asV, slV⟩ := id V
  obtain ⟨D', cfC, kC, iC, fC, hD', gC, stC, -, -, asC, slC⟩ := id C
  cases hD.symm.trans hD'
  obtain ⟨D2, kD, e1, e2, e3, e4, e5⟩ := id E
  cases hD.symm.trans e1
  obtain ⟨c2, k2, i1, i2, i3, -⟩ := Cond.instantiable_spec wi
  cases e2.symm.trans i1
  cases e3.symm.trans i2
  obtain ⟨kU, u1, u2⟩ := al.2.2 _ _ e3
  have hB : Blank ST x D P.U := ⟨hD, ⟨knV, fun q hq => by rw [hq] at obV; cases obV⟩, by rw [al.findClass]; exact e2, kU, u1, by rw [u2]; exact i3, by rw [u2]; exact e5 i3⟩
  have F1 : Found ST "value" "[B" fV P.U := ⟨SBG.found_only al ⟨cfV, kV, iV, gV⟩, stV⟩
  have F2 : Found ST "coder" "B" fC P.U := ⟨SBG.found_only al ⟨cfC, kC, iC, gC⟩, stC⟩
  have hA : Ch b A P.U := ⟨⟨K.1, State.isArrayOf_alike al K.2.1, K.2.2, by omega⟩, hty⟩
  have hS : StaticIs P.U ST "COMPACT_STRINGS" "Z" (.int z) := by
    obtain ⟨cfS, iS, kS, fS, st, cS, t1, t2, t3, t4, t5, t6, t7⟩ := S
    exact StaticIs.there (s := { Z with heap := P.U.heap }) ⟨cfS, iS, kS, fS, st, cS, t1, t2, t3, t4, t5, (fun q => by rw [q] at t6; cases t6), t7⟩ al rfl
  obtain ⟨v, B, X', ⟨⟨hv, E', V', q1, q2, q3, q4, q5, q6, q7, q8, q9, q10, q11⟩, hl, hc, hs⟩, st⟩ := New1.pays x D fV fC b A z (tab_of (moved hZ hw)) hfr hlo m meth c P g ig mk _ X hg hsize hdg hW hn ⟨r1, r2, rfl, hB, F1, F2, hA, hS, hz, l0, l2, hp⟩
  have al' : Z.vm.Alike B.U.vm := hZ.alike.trans X'.warmed.alike
  have hsz : E'.slots.size = D.slots.size := by
    obtain ⟨-, -, -, kB, w1, w2, w3⟩ := q1
    obtain ⟨kB', y1, y2⟩ := al'.2.2 _ _ e3
    rw [q2.2.1] at w1
    cases w1.symm.trans y1
    rw [w3, e5 i3, y2]
  refine ⟨v, B, X', ⟨_, ⟨hv, ?_, ⟨by omega, fun y cy hy hn' => q10 y cy (by simpa using hn') hy, fun y cy hy => ?_⟩, q11, ⟨E', _, q1.1, by rw [q2.2.1]; exact e2, by rw [q2.2.1]; exact e3, by rw [q2.1]; exact obV, fun _ => by rw [hsz]; exact e5 i3⟩,
    ⟨E', cfV, kV, iV, fV, q1.1, gV, stV, by rw [q2.1]; exact knV, by rw [q2.1]; exact obV, by rw [q2.2.1]; exact asV, q3⟩, ⟨E', cfC, kC, iC, fC, q1.1, gC, stC, by rw [q2.1]; exact knV, by rw [q2.1]; exact obV, by rw [q2.2.1]; exact asC, q4⟩,
    ⟨V', ⟨q5.1, State.isArrayOf_alike al'.symm q5.2.1, q5.2.2.1⟩, q6, by rw [← al'.findClass]; exact q7, q8, fun j hj => by have := q9 j hj; rwa [Nat.zero_add] at this⟩, fun O n d w F n1 n2 => ?_⟩, hl, hc, hs⟩, st⟩
  · intro y hy
    simp only [List.mem_cons, List.not_mem_nil, or_false] at hy
    rcases hy with rfl | rfl <;> rfl
  · by_cases q : y = x
    · subst q
      cases hD.symm.trans hy
      exact ⟨E', q1.1, q2.2.1, q2.1, hsz⟩
    · exact ⟨cy, q10 y cy q hy, rfl, rfl, rfl⟩
  · obtain ⟨D3, cf, k, i, f, g1, g2, g3, g4, g5, g6, g7⟩ := F
    cases hD.symm.trans g1
    simp only [RoadKit.slotOf, g2, gV, gC, Option.map_some, Option.getD_some] at n1 n2
    exact ⟨E', cf, k, i, f, q1.1, g2, g3, by rw [q2.1]; exact g4, by rw [q2.1]; exact g5, by rw [q2.2.1]; exact g6, by rw [q2.2.2 f.slot (by simp [n1, n2])]; exact g7⟩
end StrChars.Road
namespace StrChars.Road
open Jvm Sem ClassFile Op Lib Jvm.Stand Jvm.Free Jvm.Free.XT
/-- WHAT COMES BACK, the byte[] as a list of values -/
def QA (Z : State) (x : Addr) (zn : Int32) (cs : List Int32) (h : Heap) (v : Option Value) (h' : Heap) (L : List Loc) : Prop := v = none ∧ (∀ y ∈ L, y.base = x) ∧ RoadKit.Keep h h' [x] ∧ h'.size = h.size + 1 ∧ RoadKit.Exa Z h' x ST ∧ RoadKit.Fld Z h' x ST "value" "[B" (.ref h.size) ∧ RoadKit.Fld Z h' x ST "coder" "B" (.int 0) ∧
  (∃ kb, Z.vm.findClass "[B" = some kb ∧ RoadKit.Arv Z h' h.size kb .byte zn (cs.map fun c => .int (lo8 c)) (.int 0)) ∧
  ∀ (O n d : String) (w : Value), RoadKit.Fld Z h x O n d w → RoadKit.slotOf Z O n d ≠ RoadKit.slotOf Z ST "value" "[B" → RoadKit.slotOf Z O n d ≠ RoadKit.slotOf Z ST "coder" "B" → RoadKit.Fld Z h' x O n d w
/-- **new String(chars) AT A CALL, THE ARRAYS AS LISTS**: the char[] at b holds cs, not empty, no char above 255 -/
theorem backArv {p : Program} {l : Launch} {e : Env} {R : Room} {s : State} {args : Array Value} {below : List Frame} {len W : Nat} {Z : State} {a0 : Array Value} {h : Heap} (hZ : Z.Warmed39 s.vm) (hw : ∀ d ∈ words, d.before a0 Z = true) {kI : Nat} (wi : (Jvm.Cond.instantiable ST kI).before a0 Z = true)
    {x b : Addr} {k : ClassId} {zn z : Int32} {cs : List Int32} {dv v0 c0 : Value} (E : RoadKit.Exa Z h x ST) (V : RoadKit.Fld Z h x ST "value" "[B" v0) (C : RoadKit.Fld Z h x ST "coder" "B" c0) (K : RoadKit.Arv Z h b k .char zn (cs.map Value.int) dv) (S : RoadKit.Sta Z h ST "COMPACT_STRINGS" "Z" (.int z)) (hz : ¬ z = 0)
    (hlen : zn.toNatClampNeg = cs.length) (h0 : 0 < cs.length) (hbig : cs.length ≤ 536870912) (hall : ∀ c ∈ cs, ¬ 255 < c) (hfr : 4 ≤ R.frames) (hlo : W + 65 ≤ R.locals) :
    Back l R p e below s args New1.yN len W (fun P a => a = #[.ref x, .ref b] ∧ P.U.heap = h ∧ P.cells + 1 ≤ R.cells ∧ P.slots + cs.length ≤ R.slots)
      (fun P _ v B => ∃ L, QA Z x zn cs h v B.U.heap L ∧ B.locs = P.locs ++ L ∧ B.cells = P.cells + 1 ∧ B.slots = P.slots + cs.length) := by
  obtain ⟨A, K1, K2, K3, K4, K5, K6⟩ := K
  have e : A.slots.size = cs.length := K3.trans hlen
  have hat : ∀ (i : Nat) (hi : i < cs.length), A.slots[i]? = some (.int cs[i]) := fun i hi => by rw [K5 i (by omega)]; simp [List.getD_eq_getElem?_getD, hi]
  have hcv : ∀ (i : Nat) (hi : i < cs.length), cv A i = cs[i] := fun i hi => by unfold cv; rw [hat i hi]
  have hty : Typed .char A := fun i v hv => by
    have hi : i < A.slots.size := (Array.getElem?_eq_some_iff.mp hv).1
    have q := K5 i hi
    rw [hv] at q
    rw [Option.some.inj q]
    exact K6 i hi
  refine Back.mono (back hZ hw wi E V C K1 hty S hz (by omega) (by omega) (fun i hi => by rw [hcv i (by omega)]; exact hall _ (List.getElem_mem _)) hfr hlo) (fun P a hp => ⟨hp.1, hp.2.1, hp.2.2.1, by rw [e]; exact hp.2.2.2⟩) (fun P a v B hp hq => ?_)
  obtain ⟨L, ⟨q1, q2, q3, q4, q5, q6, q7, ⟨V', v1, v2, v3, v4, v5⟩, q9⟩, hl, hc, hs⟩ := hq
  refine ⟨L, ⟨q1, q2, q3, q4, q5, q6, q7, ⟨V'.cls, v3, V', v1, rfl, by rw [v4, e, hlen], K4, fun i hi => ?_, fun i hi => ?_⟩, q9⟩, hl, hc, by rw [hs, e]⟩
  · have hi' : i < cs.length := by omega
    rw [v5 i (by omega), hcv i hi']; simp [List.getD_eq_getElem?_getD, hi']
  · have hi' : i < cs.length := by omega
    simp only [List.getD_eq_getElem?_getD, List.getElem?_map, List.getElem?_eq_getElem hi', Option.map_some, Option.getD_some]
    exact fits_lo8 _
end StrChars.Road
namespace StrChars.Road
open Jvm Sem ClassFile Op Lib Jvm.Stand Jvm.Free Jvm.Free.XT
/-- WHAT COMES BACK, in the writer's own shape -/
def QV (Z : State) (x : Addr) (N : Int32) (bs : List Int32) (h : Heap) (n0 : Nat) (v : Option Value) (h' : Heap) (L : List Loc) : Prop := v = none ∧ RoadKit.Fr n0 L ∧ RoadKit.Keep h h' [x] ∧ RoadKit.Exa Z h' x ST ∧ RoadKit.Fld Z h' x ST "coder" "B" (.int 0) ∧
  ∃ (t : Addr) (kb : ClassId), n0 ≤ t ∧ h.size ≤ t ∧ ¬ t = x ∧ RoadKit.Fld Z h' x ST "value" "[B" (.ref t) ∧ RoadKit.Arv Z h' t kb .byte N (bs.map Value.int) (.int 0)
/-- **new String(chars) AT A CALL, FOR THE WRITER**: a char[] of n known ints, each 0 to 255 -/
theorem backV {p : Program} {l : Launch} {e : Env} {R : Room} {s : State} {args : Array Value} {below : List Frame} {len W : Nat} {Z : State} {a0 : Array Value} {h : Heap} (hZ : Z.Warmed39 s.vm) (hw : ∀ d ∈ words, d.before a0 Z = true) {kI : Nat} (wi : (Jvm.Cond.instantiable ST kI).before a0 Z = true)
    {x b : Addr} {kC : ClassId} {cs bs : List Int32} {d v0 c0 : Value} {z N : Int32} {n n0 : Nat} (hx0 : n0 ≤ x) (hh0 : n0 ≤ h.size) (E : RoadKit.Exa Z h x ST) (V : RoadKit.Fld Z h x ST "value" "[B" v0) (C : RoadKit.Fld Z h x ST "coder" "B" c0) (K : RoadKit.Arv Z h b kC .char N (cs.map Value.int) d) (S : RoadKit.Sta Z h ST "COMPACT_STRINGS" "Z" (.int z)) (hz : ¬ z = 0)
    (hn : cs.length = n) (hN : N = Int32.ofNat n) (l0 : 0 < n) (l2 : n ≤ 4000) (hp : ∀ c ∈ cs, ¬ c < 0 ∧ ¬ (255 : Int32) < c) (hb : bs = cs.map (fun c => c.toInt8.toInt32)) (hfr : 4 ≤ R.frames) (hlo : W + 65 ≤ R.locals) :
    Back l R p e below s args (⟨"java/lang/String", "<init>", "([C)V"⟩ : MethodName) len W (fun P a => a = #[.ref x, .ref b] ∧ P.U.heap = h ∧ P.cells + 1 ≤ R.cells ∧ P.slots + n ≤ R.slots)
      (fun P _ v B => ∃ L, QV Z x N bs h n0 v B.U.heap L ∧ B.locs = P.locs ++ L ∧ B.cells = P.cells + 1 ∧ B.slots = P.slots + n) := by
  subst hn hN hb
  refine Back.mono (backArv hZ hw wi E V C K S hz (n32 (by omega)) l0 (by omega) (fun c hc => (hp c hc).2) hfr hlo) (fun P a hp => hp) (fun P a v B hp hq => ?_)
  obtain ⟨L, ⟨q1, q2, q3, q4, q5, q6, q7, ⟨kb, v1, v2⟩, q9⟩, hl, hc, hs⟩ := hq
  exact ⟨L, ⟨q1, fun y hy => by rw [q2 y hy]; exact hx0, q3, q5, q7, h.size, kb, hh0, Nat.le_refl _, Nat.ne_of_gt E.lt, q6, by rw [List.map_map]; exact v2⟩, hl, hc, hs⟩
end StrChars.Road
end Jvm.Pilot.@@N@@
namespace Jvm.Pilot.@@N@@
open Jvm Jvm.ClassFile Sem Op Lib Jvm.Free Jvm.Stand Jvm.LawKit Jvm.RoadKit Bundle Jvm.Pilot.@@N@@.Jvm.D
theorem own_k {Z : State} {a0 : Array Value} (hw : ∀ d ∈ tables_1, d.before a0 Z = true) {d : Jvm.Cond} (i : Nat) (h : tables_1[i]? = some d) : d.before a0 Z = true := hw d (List.mem_of_getElem? h)
theorem own_nn32 {n : Nat} (h : n < 2147483648) : ¬ Int32.ofNat n < 0 := by
  rw [Int32.lt_iff_toInt_lt, Int32.toInt_ofNat_of_lt (by omega), show (0 : Int32).toInt = 0 from rfl]
  omega
/-- from here the run ends as F says -/
def own_G (p : Program) (e : Env) (below : List Frame) (T : State) (g : JFrame) (F : State → Prop) : Prop := ∃ s₂, Steps p.tables e below (T.setTop g) s₂ ∧ F s₂
theorem own_st {p : Program} {e : Env} {below : List Frame} {T T' : State} {g g' : JFrame} {F : State → Prop} (h : ∀ target, Steps p.tables e below (T'.setTop g') target → Steps p.tables e below (T.setTop g) target) (k : own_G p e below T' g' F) : own_G p e below T g F := by
  obtain ⟨s2, a, b⟩ := k
  exact ⟨s2, h _ a, b⟩
theorem own_tr {p : Program} {e : Env} {below : List Frame} {T T' : State} {g g' : JFrame} {F : State → Prop} (h : Steps p.tables e below (T.setTop g) (T'.setTop g')) (k : own_G p e below T' g' F) : own_G p e below T g F := by
  obtain ⟨s2, a, b⟩ := k
  exact ⟨s2, h.trans a, b⟩
theorem own_end {p : Program} {e : Env} {below : List Frame} {T s2 : State} {g : JFrame} {F : State → Prop} (h : Steps p.tables e below (T.setTop g) s2) (k : F s2) : own_G p e below T g F := ⟨s2, h, k⟩
theorem own_join {α : Type} {p : Program} {e : Env} {below : List Frame} {T : State} {g : JFrame} {gj : α → JFrame} {P : α → Prop} {F : State → Prop} (k : ∀ q, P q → own_G p e below T (gj q) F) (h : (∀ q, P q → own_G p e below T (gj q) F) → own_G p e below T g F) : own_G p e below T g F := h k
abbrev own_E (s : State) (below : List Frame) (R : Room) (Q : Option Value → Heap → List Loc → Prop) : State → Prop := fun s₂ => ∃ o, s₂.status = .running ∧ Ended s₂ below o ∧ ∃ v L, o = .returned v ∧ Q v s₂.heap L ∧ FrameEnd s o s₂ L R.cells R.slots
abbrev own_EndW (s : State) (below : List Frame) (R : Room) (Q : Option Value → Heap → List Loc → Prop) : State → Prop := fun s₂ => ∃ o, s₂.status = .running ∧ Ended s₂ below o ∧ ∃ v L, o = .returned v ∧ Q v s₂.heap L ∧ ReturnedEndW s o s₂ L R.cells R.slots
abbrev own_EndH (Z : State) (EL : List (String × Nat)) (s : State) (below : List Frame) (R : Room) (Q : Option Value → Heap → List Loc → Prop) : State → Prop := fun s₂ => ∃ o, s₂.status = .running ∧ Ended s₂ below o ∧ ∃ v L, o = .returned v ∧ Q v s₂.heap L ∧ CHr Z EL s.vm s.heap s₂.vm s₂.heap ∧ ReturnedEndW s o s₂ L R.cells R.slots
abbrev own_M (l : Launch) (y : MethodName) (bs : ByteArray) (ml : Nat) (rt : Option FieldType) (ws : List Jvm.Cond) (R : Room) (as' : Array Value) (Z : State) (h0 : Heap) (Q : Option Value → Heap → List Loc → Prop) : Prop :=
  MetFree l y (head1 (Jvm.Cond.code y bs ml rt :: ws) R) (fun av U => av = as' ∧ Z.Warmed39 U.vm ∧ U.heap = h0) (fun _ _ _ _ _ => True) (fun _ U o U' => ∃ v L, o = .returned v ∧ Q v U'.heap L ∧ FrameEnd U o U' L R.cells R.slots)
abbrev own_MW (l : Launch) (y : MethodName) (bs : ByteArray) (ml : Nat) (rt : Option FieldType) (ws : List Jvm.Cond) (R : Room) (as' : Array Value) (Z : State) (h0 : Heap) (Q : Option Value → Heap → List Loc → Prop) : Prop :=
  MetFree l y (head1 (Jvm.Cond.code y bs ml rt :: ws) R) (fun av U => av = as' ∧ Z.Warmed39 U.vm ∧ U.heap = h0) (fun _ _ _ _ _ => True) (fun _ U o U' => ∃ v L, o = .returned v ∧ Q v U'.heap L ∧ ReturnedEndW U o U' L R.cells R.slots)
abbrev own_MH (EL : List (String × Nat)) (l : Launch) (y : MethodName) (bs : ByteArray) (ml : Nat) (rt : Option FieldType) (ws : List Jvm.Cond) (R : Room) (as' : Array Value) (Z : State) (h0 : Heap) (Q : Option Value → Heap → List Loc → Prop) : Prop :=
  MetFree l y (head1 (Jvm.Cond.code y bs ml rt :: ws) R) (fun av U => av = as' ∧ Z.Warmed39 U.vm ∧ U.heap = h0 ∧ CHv Z EL U.vm h0) (fun _ _ _ _ _ => True) (fun _ U o U' => ∃ v L, o = .returned v ∧ Q v U'.heap L ∧ CHr Z EL U.vm U.heap U'.vm U'.heap ∧ ReturnedEndW U o U' L R.cells R.slots)
theorem own_go {l : Launch} {y : MethodName} {bs : ByteArray} {ml : Nat} {rt : Option FieldType} {ws : List Jvm.Cond} {R : Room} {as' : Array Value} {Z : State} {h0 : Heap} {Q : Option Value → Heap → List Loc → Prop} (hpn : plainFor y = true) {ff : MethodId → JFrame} (hff : ∀ m, entryFrame m as' ml = ff m)
    (body : ∀ p e s m below meth c s₁, BodyLoose p l y (head1 (Jvm.Cond.code y bs ml rt :: ws) R) bs ml rt e s m as' below meth c s₁ → p.tables.exec = Jvm.exec → c.code = bs → c.maxLocals = ml → Z.Warmed39 s.vm → s.heap = h0 → s.vm.findClass y.cls = some m.cls → meth.name = y.name → Stand p l e R s m as' below meth c s₁ [] 0 0 → s₁.heap = h0 → own_G p e below s₁ (ff m) (own_E s below R Q)) : own_M l y bs ml rt ws R as' Z h0 Q := by
  refine MetFree.of_bodySF hpn hisR ?_
  intro p e s m args below meth c s₁ Bd hml0 hP hK
  obtain ⟨rfl, hZ, hh⟩ := hP
  obtain ⟨s2, g1, o, g2⟩ := body p e s m below meth c s₁ Bd Bd.exec Bd.bytes hml0 hZ hh (findClass_of_methodNamed Bd.named) (name_of_methodNamed Bd.named Bd.method).1 (Stand.of_body Bd) (by rw [← hh, Bd.state]; rfl)
  exact ⟨s2, o, castTop (hff m) g1, g2⟩
theorem own_goW {l : Launch} {y : MethodName} {bs : ByteArray} {ml : Nat} {rt : Option FieldType} {ws : List Jvm.Cond} {R : Room} {as' : Array Value} {Z : State} {h0 : Heap} {Q : Option Value → Heap → List Loc → Prop} (hpn : plainFor y = true) {ff : MethodId → JFrame} (hff : ∀ m, entryFrame m as' ml = ff m)
    (body : ∀ p e s m below meth c s₁, BodyLoose p l y (head1 (Jvm.Cond.code y bs ml rt :: ws) R) bs ml rt e s m as' below meth c s₁ → p.tables.exec = Jvm.exec → c.code = bs → c.maxLocals = ml → Z.Warmed39 s.vm → s.heap = h0 → s.vm.findClass y.cls = some m.cls → meth.name = y.name → Stand p l e R (s.setVm s.vm) m as' below meth c s₁ [] 0 0 → s₁.heap = h0 → s.Since s.vm h0.size → own_G p e below s₁ (ff m) (own_EndW s below R Q)) : own_MW l y bs ml rt ws R as' Z h0 Q := by
  refine MetFree.of_bodySF hpn hisR ?_
  intro p e s m args below meth c s₁ Bd hml0 hP hK
  obtain ⟨rfl, hZ, hh⟩ := hP
  obtain ⟨s2, g1, o, g2⟩ := body p e s m below meth c s₁ Bd Bd.exec Bd.bytes hml0 hZ hh (findClass_of_methodNamed Bd.named) (name_of_methodNamed Bd.named Bd.method).1 (Stand.of_body Bd) (by rw [← hh, Bd.state]; rfl) ((State.WarmedH.refl s).since _)
  exact ⟨s2, o, castTop (hff m) g1, g2⟩
theorem own_goH {EL : List (String × Nat)} {l : Launch} {y : MethodName} {bs : ByteArray} {ml : Nat} {rt : Option FieldType} {ws : List Jvm.Cond} {R : Room} {as' : Array Value} {Z : State} {h0 : Heap} {Q : Option Value → Heap → List Loc → Prop} (hpn : plainFor y = true) {ff : MethodId → JFrame} (hff : ∀ m, entryFrame m as' ml = ff m)
    (body : ∀ p e s m below meth c s₁, BodyLoose p l y (head1 (Jvm.Cond.code y bs ml rt :: ws) R) bs ml rt e s m as' below meth c s₁ → p.tables.exec = Jvm.exec → c.code = bs → c.maxLocals = ml → Z.Warmed39 s.vm → s.heap = h0 → s.vm.findClass y.cls = some m.cls → meth.name = y.name → Stand p l e R (s.setVm s.vm) m as' below meth c s₁ [] 0 0 → s₁.heap = h0 → s.Since s.vm h0.size → CHr Z EL s.vm h0 s.vm h0 → own_G p e below s₁ (ff m) (own_EndH Z EL s below R Q)) : own_MH EL l y bs ml rt ws R as' Z h0 Q := by
  refine MetFree.of_bodySF hpn hisR ?_
  intro p e s m args below meth c s₁ Bd hml0 hP hK
  obtain ⟨rfl, hZ, hh, hCH⟩ := hP
  obtain ⟨s2, g1, o, g2⟩ := body p e s m below meth c s₁ Bd Bd.exec Bd.bytes hml0 hZ hh (findClass_of_methodNamed Bd.named) (name_of_methodNamed Bd.named Bd.method).1 (Stand.of_body Bd) (by rw [← hh, Bd.state]; rfl) ((State.WarmedH.refl s).since _) (CHr.refl hCH)
  exact ⟨s2, o, castTop (hff m) g1, g2⟩
theorem own_pop2 {tb : Tables} [Ours tb] {e : Env} {below : List Frame} {T target : State} {m : MethodId} {c : Code} {g : JFrame} (h : At T m c below) (hx : tb.exec = Jvm.exec) (hg : g.method = m) {x : Value} {rest : List Value} (hd : decode c.code g.pc = .ok (.pop2, 1)) (hs : g.stack = x :: rest) (hc : x.category = 2)
    (hr : Steps tb e below (T.setTop { g with pc := g.pc + 1, stack := rest }) target) : Steps tb e below (T.setTop g) target := by
  subst hg
  jvm_step h [h.top, hx, hd, hs, hc]
  exact hr
theorem own_w0 {g : JFrame} {rest : List Value} {W : Nat} (h : g.monitorRoom = 0) (k : (rest.map fun v => v.category).sum = W) : 2 * g.monitorRoom + (rest.map fun v => v.category).sum ≤ W := by
  rw [h, k]; omega
section Own
variable {p : Program} {l : Launch} {e : Env} {R : Room} {s : State} {m : MethodId} {args : Array Value} {below : List Frame} {meth : Method} {c : Code} {T : State} {locs : List Loc} {cells slots : Nat} {Z : State} {h h' : Heap} {a : Addr} {k : ClassId} {ty : FieldType} {z j : Int32} {vs : List Value} {d v : Value} {g : JFrame} {rest : List Value}
theorem own_joinT {α : Type} {gj : α → JFrame} {P : α → Prop} {F : State → Prop} (X : Stand p l e R s m args below meth c T locs cells slots) (eT : T.heap = h)
    (k : ∀ T' q, P q → Stand p l e R s m args below meth c T' locs cells slots → T'.heap = h → own_G p e below T' (gj q) F) (r : (∀ T' q, P q → Stand p l e R s m args below meth c T' locs cells slots → T'.heap = h → own_G p e below T' (gj q) F) → own_G p e below T g F) : own_G p e below T g F := r k
theorem own_loop {α : Type} {gj : α → JFrame} {P : Nat → α → Prop} {F : State → Prop} (X : Stand p l e R s m args below meth c T locs cells slots) (eT : T.heap = h)
    (k : ∀ n, (∀ i, i < n → ∀ T' q, P i q → Stand p l e R s m args below meth c T' locs cells slots → T'.heap = h → own_G p e below T' (gj q) F) → ∀ T' q, P n q → Stand p l e R s m args below meth c T' locs cells slots → T'.heap = h → own_G p e below T' (gj q) F)
    (r : (∀ n T' q, P n q → Stand p l e R s m args below meth c T' locs cells slots → T'.heap = h → own_G p e below T' (gj q) F) → own_G p e below T g F) : own_G p e below T g F :=
  r fun n => Nat.strongRecOn n fun n ih => k n ih
theorem own_joinH {α : Type} {gj : α → JFrame} {P : List Loc → Heap → α → Prop} {F : State → Prop} {cells' slots' : Nat} (X : Stand p l e R s m args below meth c T locs cells slots)
    (k : ∀ T' L h' q, P L h' q → Stand p l e R s m args below meth c T' L cells' slots' → T'.heap = h' → own_G p e below T' (gj q) F) (r : (∀ T' L h' q, P L h' q → Stand p l e R s m args below meth c T' L cells' slots' → T'.heap = h' → own_G p e below T' (gj q) F) → own_G p e below T g F) : own_G p e below T g F := r k
theorem own_joinHV {α : Type} {gj : α → JFrame} {P : Vm → Nat → List Loc → Heap → α → Prop} {F : State → Prop} {cells' slots' : Nat} {vm0 : Vm} (X : Stand p l e R (s.setVm vm0) m args below meth c T locs cells slots)
    (k : ∀ vm1 k1 T' L h' q, P vm1 k1 L h' q → Stand p l e R (s.setVm vm1) m args below meth c T' L cells' slots' → T'.heap = h' → own_G p e below T' (gj q) F) (r : (∀ vm1 k1 T' L h' q, P vm1 k1 L h' q → Stand p l e R (s.setVm vm1) m args below meth c T' L cells' slots' → T'.heap = h' → own_G p e below T' (gj q) F) → own_G p e below T g F) : own_G p e below T g F := r k
theorem own_alen (X : Stand p l e R s m args below meth c T locs cells slots) (hx : p.tables.exec = Jvm.exec) (hZ : Z.Warmed39 s.vm) (eT : T.heap = h) (F : Arv Z h a k ty z vs d) (hg : g.method = m) (hs : g.stack = .ref a :: rest) (hd : decode c.code g.pc = .ok (.arraylength, 1)) :
    ∀ target, Steps p.tables e below (T.setTop { g with pc := g.pc + 1, stack := .int z :: rest }) target → Steps p.tables e below (T.setTop g) target := by
  obtain ⟨cl, A, -, S, M, -⟩ := F
  intro target hr
  refine X.arraylength hx (cell := cl) (by rw [eT]; exact A.1) (State.isArrayOf_alike hZ.alike A.2.1) hg hs hd target ?_
  rw [len_of S M]; exact hr
theorem own_ial (X : Stand p l e R s m args below meth c T locs cells slots) (hx : p.tables.exec = Jvm.exec) (hZ : Z.Warmed39 s.vm) (eT : T.heap = h) (F : Arv Z h a k .int z vs d) (hj : ¬ j < 0 ∧ j < z) (hv : vs.getD j.toNatClampNeg d = v) (hg : g.method = m) (hs : g.stack = .int j :: .ref a :: rest) (hd : decode c.code g.pc = .ok (.iaload, 1)) :
    ∀ target, Steps p.tables e below (T.setTop { g with pc := g.pc + 1, stack := v :: rest }) target → Steps p.tables e below (T.setTop g) target := by
  obtain ⟨cl, A, -, S, M, H, -⟩ := F
  intro target hr
  exact X.iaload hx (by rw [eT]; exact A.1) (State.isArrayOf_alike hZ.alike A.2.1) A.2.2 (inb_of S hj) (H.at (inb_of S hj) hv) hg hs hd target hr
theorem own_cal (X : Stand p l e R s m args below meth c T locs cells slots) (hx : p.tables.exec = Jvm.exec) (hZ : Z.Warmed39 s.vm) (eT : T.heap = h) (F : Arv Z h a k .char z vs d) (hj : ¬ j < 0 ∧ j < z) (hv : vs.getD j.toNatClampNeg d = v) (hg : g.method = m) (hs : g.stack = .int j :: .ref a :: rest) (hd : decode c.code g.pc = .ok (.caload, 1)) :
    ∀ target, Steps p.tables e below (T.setTop { g with pc := g.pc + 1, stack := v :: rest }) target → Steps p.tables e below (T.setTop g) target := by
  obtain ⟨cl, A, -, S, M, H, -⟩ := F
  intro target hr
  exact X.caload hx (by rw [eT]; exact A.1) (State.isArrayOf_alike hZ.alike A.2.1) A.2.2 (inb_of S hj) (H.at (inb_of S hj) hv) hg hs hd target hr
theorem own_bal (X : Stand p l e R s m args below meth c T locs cells slots) (hx : p.tables.exec = Jvm.exec) (hZ : Z.Warmed39 s.vm) (eT : T.heap = h) (F : Arv Z h a k .byte z vs d) (hj : ¬ j < 0 ∧ j < z) (hv : vs.getD j.toNatClampNeg d = v) (hg : g.method = m) (hs : g.stack = .int j :: .ref a :: rest) (hd : decode c.code g.pc = .ok (.baload, 1)) :
    ∀ target, Steps p.tables e below (T.setTop { g with pc := g.pc + 1, stack := v :: rest }) target → Steps p.tables e below (T.setTop g) target := by
  obtain ⟨cl, A, -, S, M, H, -⟩ := F
  intro target hr
  exact X.baloadBytes hx (by rw [eT]; exact A.1) (State.isArrayOf_alike hZ.alike A.2.1) A.2.2 (inb_of S hj) (H.at (inb_of S hj) hv) hg hs hd target hr
theorem own_lal (X : Stand p l e R s m args below meth c T locs cells slots) (hx : p.tables.exec = Jvm.exec) (hZ : Z.Warmed39 s.vm) (eT : T.heap = h) (F : Arv Z h a k .long z vs d) (hj : ¬ j < 0 ∧ j < z) (hv : vs.getD j.toNatClampNeg d = v) (hg : g.method = m) (hs : g.stack = .int j :: .ref a :: rest) (hd : decode c.code g.pc = .ok (.laload, 1)) :
    ∀ target, Steps p.tables e below (T.setTop { g with pc := g.pc + 1, stack := v :: rest }) target → Steps p.tables e below (T.setTop g) target := by
  obtain ⟨cl, A, -, S, M, H, -⟩ := F
  intro target hr
  exact X.laload hx (by rw [eT]; exact A.1) (State.isArrayOf_alike hZ.alike A.2.1) A.2.2 (inb_of S hj) (H.at (inb_of S hj) hv) hg hs hd target hr
theorem own_dal (X : Stand p l e R s m args below meth c T locs cells slots) (hx : p.tables.exec = Jvm.exec) (hZ : Z.Warmed39 s.vm) (eT : T.heap = h) (F : Arv Z h a k .double z vs d) (hj : ¬ j < 0 ∧ j < z) (hv : vs.getD j.toNatClampNeg d = v) (hg : g.method = m) (hs : g.stack = .int j :: .ref a :: rest) (hd : decode c.code g.pc = .ok (.daload, 1)) :
    ∀ target, Steps p.tables e below (T.setTop { g with pc := g.pc + 1, stack := v :: rest }) target → Steps p.tables e below (T.setTop g) target := by
  obtain ⟨cl, A, -, S, M, H, -⟩ := F
  intro target hr
  exact X.daload hx (by rw [eT]; exact A.1) (State.isArrayOf_alike hZ.alike A.2.1) A.2.2 (inb_of S hj) (H.at (inb_of S hj) hv) hg hs hd target hr
theorem own_aal (X : Stand p l e R s m args below meth c T locs cells slots) (hx : p.tables.exec = Jvm.exec) (hZ : Z.Warmed39 s.vm) (eT : T.heap = h) (F : Arv Z h a k ty z vs d) (hty : ty.isReference = true) (hj : ¬ j < 0 ∧ j < z) (hv : vs.getD j.toNatClampNeg d = v) (hg : g.method = m) (hs : g.stack = .int j :: .ref a :: rest) (hd : decode c.code g.pc = .ok (.aaload, 1)) :
    ∀ target, Steps p.tables e below (T.setTop { g with pc := g.pc + 1, stack := v :: rest }) target → Steps p.tables e below (T.setTop g) target := by
  obtain ⟨cl, A, -, S, M, H, -⟩ := F
  intro target hr
  exact X.aaload hx (by rw [eT]; exact A.1) (State.isArrayOf_alike hZ.alike A.2.1) hty A.2.2 (inb_of S hj) (H.at (inb_of S hj) hv) hg hs hd target hr
theorem own_ist (X : Stand p l e R s m args below meth c T locs cells slots) (hx : p.tables.exec = Jvm.exec) (hZ : Z.Warmed39 s.vm) (eT : T.heap = h) (F : Arv Z h a k .int z vs d) (hj : ¬ j < 0 ∧ j < z) {i : Nat} (hi : j.toNatClampNeg = i) (hl : i < vs.length) {x : Int32} (hg : g.method = m) (hs : g.stack = .int x :: .int j :: .ref a :: rest) (hd : decode c.code g.pc = .ok (.iastore, 1)) :
    ∃ T' h', Stand p l e R s m args below meth c T' (locs ++ [⟨a, j.toNatClampNeg⟩]) cells slots ∧ T'.heap = h' ∧ Wr h h' a j.toNatClampNeg (.int x) ∧ Arv Z h' a k .int z (vs.set i (.int x)) d ∧ ∀ target, Steps p.tables e below (T'.setTop { g with pc := g.pc + 1, stack := rest }) target → Steps p.tables e below (T.setTop g) target := by
  obtain ⟨cl, A, q, S, M, H, G⟩ := F
  obtain ⟨T', h', X', e', W, st⟩ := stI X hx hZ eT A (inb_of S hj) hg hs hd
  exact ⟨T', h', X', e', W, Arv.set A q S M H G rfl W i hi hl, st⟩
theorem own_lst (X : Stand p l e R s m args below meth c T locs cells slots) (hx : p.tables.exec = Jvm.exec) (hZ : Z.Warmed39 s.vm) (eT : T.heap = h) (F : Arv Z h a k .long z vs d) (hj : ¬ j < 0 ∧ j < z) {i : Nat} (hi : j.toNatClampNeg = i) (hl : i < vs.length) {x : Int64} (hg : g.method = m) (hs : g.stack = .long x :: .int j :: .ref a :: rest) (hd : decode c.code g.pc = .ok (.lastore, 1)) :
    ∃ T' h', Stand p l e R s m args below meth c T' (locs ++ [⟨a, j.toNatClampNeg⟩]) cells slots ∧ T'.heap = h' ∧ Wr h h' a j.toNatClampNeg (.long x) ∧ Arv Z h' a k .long z (vs.set i (.long x)) d ∧ ∀ target, Steps p.tables e below (T'.setTop { g with pc := g.pc + 1, stack := rest }) target → Steps p.tables e below (T.setTop g) target := by
  obtain ⟨cl, A, q, S, M, H, G⟩ := F
  obtain ⟨T', h', X', e', W, st⟩ := stJ X hx hZ eT A (inb_of S hj) hg hs hd
  exact ⟨T', h', X', e', W, Arv.set A q S M H G rfl W i hi hl, st⟩
theorem own_dst (X : Stand p l e R s m args below meth c T locs cells slots) (hx : p.tables.exec = Jvm.exec) (hZ : Z.Warmed39 s.vm) (eT : T.heap = h) (F : Arv Z h a k .double z vs d) (hj : ¬ j < 0 ∧ j < z) {i : Nat} (hi : j.toNatClampNeg = i) (hl : i < vs.length) {x : UInt64} (hg : g.method = m) (hs : g.stack = .double x :: .int j :: .ref a :: rest) (hd : decode c.code g.pc = .ok (.dastore, 1)) :
    ∃ T' h', Stand p l e R s m args below meth c T' (locs ++ [⟨a, j.toNatClampNeg⟩]) cells slots ∧ T'.heap = h' ∧ Wr h h' a j.toNatClampNeg (.double x) ∧ Arv Z h' a k .double z (vs.set i (.double x)) d ∧ ∀ target, Steps p.tables e below (T'.setTop { g with pc := g.pc + 1, stack := rest }) target → Steps p.tables e below (T.setTop g) target := by
  obtain ⟨cl, A, q, S, M, H, G⟩ := F
  obtain ⟨T', h', X', e', W, st⟩ := stD X hx hZ eT A (inb_of S hj) hg hs hd
  exact ⟨T', h', X', e', W, Arv.set A q S M H G rfl W i hi hl, st⟩
theorem own_cst (X : Stand p l e R s m args below meth c T locs cells slots) (hx : p.tables.exec = Jvm.exec) (hZ : Z.Warmed39 s.vm) (eT : T.heap = h) (F : Arv Z h a k .char z vs d) (hj : ¬ j < 0 ∧ j < z) {i : Nat} (hi : j.toNatClampNeg = i) (hl : i < vs.length) {x y : Int32} (hn : nar .char x = y) (hg : g.method = m) (hs : g.stack = .int x :: .int j :: .ref a :: rest) (hd : decode c.code g.pc = .ok (.castore, 1)) :
    ∃ T' h', Stand p l e R s m args below meth c T' (locs ++ [⟨a, j.toNatClampNeg⟩]) cells slots ∧ T'.heap = h' ∧ Wr h h' a j.toNatClampNeg (.int y) ∧ Arv Z h' a k .char z (vs.set i (.int y)) d ∧ ∀ target, Steps p.tables e below (T'.setTop { g with pc := g.pc + 1, stack := rest }) target → Steps p.tables e below (T.setTop g) target := by
  obtain ⟨cl, A, q, S, M, H, G⟩ := F
  obtain ⟨T', h', X', e', W, st⟩ := stC X hx hZ eT A (inb_of S hj) hg hs hd
  rw [hn] at W
  exact ⟨T', h', X', e', W, Arv.set A q S M H G (by rw [← hn]; exact fits_nar_char x) W i hi hl, st⟩
theorem own_bst (X : Stand p l e R s m args below meth c T locs cells slots) (hx : p.tables.exec = Jvm.exec) (hZ : Z.Warmed39 s.vm) (eT : T.heap = h) (F : Arv Z h a k .byte z vs d) (hj : ¬ j < 0 ∧ j < z) {i : Nat} (hi : j.toNatClampNeg = i) (hl : i < vs.length) {x y : Int32} (hn : nar .byte x = y) (hg : g.method = m) (hs : g.stack = .int x :: .int j :: .ref a :: rest) (hd : decode c.code g.pc = .ok (.bastore, 1)) :
    ∃ T' h', Stand p l e R s m args below meth c T' (locs ++ [⟨a, j.toNatClampNeg⟩]) cells slots ∧ T'.heap = h' ∧ Wr h h' a j.toNatClampNeg (.int y) ∧ Arv Z h' a k .byte z (vs.set i (.int y)) d ∧ ∀ target, Steps p.tables e below (T'.setTop { g with pc := g.pc + 1, stack := rest }) target → Steps p.tables e below (T.setTop g) target := by
  obtain ⟨cl, A, q, S, M, H, G⟩ := F
  obtain ⟨T', h', X', e', W, st⟩ := stB X hx hZ eT A (inb_of S hj) hg hs hd
  rw [hn] at W
  exact ⟨T', h', X', e', W, Arv.set A q S M H G (by rw [← hn]; exact fits_nar_byte x) W i hi hl, st⟩
theorem own_ast (X : Stand p l e R s m args below meth c T locs cells slots) (hx : p.tables.exec = Jvm.exec) (hZ : Z.Warmed39 s.vm) (eT : T.heap = h) (F : Arv Z h a k ty z vs d) (hty : ty.isReference = true) (hj : ¬ j < 0 ∧ j < z) {i : Nat} (hi : j.toNatClampNeg = i) (hl : i < vs.length) (hv : fits ty v = true) (Q : Sto Z h a v) (hg : g.method = m) (hs : g.stack = v :: .int j :: .ref a :: rest) (hd : decode c.code g.pc = .ok (.aastore, 1)) :
    ∃ T' h', Stand p l e R s m args below meth c T' (locs ++ [⟨a, j.toNatClampNeg⟩]) cells slots ∧ T'.heap = h' ∧ Wr h h' a j.toNatClampNeg v ∧ Arv Z h' a k ty z (vs.set i v) d ∧ ∀ target, Steps p.tables e below (T'.setTop { g with pc := g.pc + 1, stack := rest }) target → Steps p.tables e below (T.setTop g) target := by
  obtain ⟨cl, A, q, S, M, H, G⟩ := F
  obtain ⟨T', h', X', e', W, st⟩ := stR X hx hZ eT A (inb_of S hj) hty Q hg hs hd
  exact ⟨T', h', X', e', W, Arv.set A q S M H G hv W i hi hl, st⟩
theorem own_retJ (X : Stand p l e R s m args below meth c T locs cells slots) (hx : p.tables.exec = Jvm.exec) {pc : Nat} {Ls : Array Slot} {w : Int64} (hret : meth.sig.returnType = some .long) (hd : decode c.code pc = .ok (.lreturn, 1)) {fs : List Frame}
    (hl : ∀ (f : JFrame) (acts : List Action), f.method = m → f.locked = none → f.entered = [] → (doReturn e (T.setTop f) acts (some (.long w))).1 = T.setFrames fs) : Steps p.tables e below (T.setTop (mkF m pc Ls (.long w :: rest))) (T.setFrames fs) :=
  retOut X hx hret rfl (Or.inr (Or.inl ⟨rfl, rfl, w, rfl⟩)) hd hl
theorem own_retD (X : Stand p l e R s m args below meth c T locs cells slots) (hx : p.tables.exec = Jvm.exec) {pc : Nat} {Ls : Array Slot} {w : UInt64} (hret : meth.sig.returnType = some .double) (hd : decode c.code pc = .ok (.dreturn, 1)) {fs : List Frame}
    (hl : ∀ (f : JFrame) (acts : List Action), f.method = m → f.locked = none → f.entered = [] → (doReturn e (T.setTop f) acts (some (.double w))).1 = T.setFrames fs) : Steps p.tables e below (T.setTop (mkF m pc Ls (.double w :: rest))) (T.setFrames fs) :=
  retOut X hx hret rfl (Or.inr (Or.inr (Or.inl ⟨rfl, rfl, w, rfl⟩))) hd hl
theorem own_retI (X : Stand p l e R s m args below meth c T locs cells slots) (hx : p.tables.exec = Jvm.exec) {pc : Nat} {Ls : Array Slot} {w : Int32} (hret : meth.sig.returnType = some .int) (hd : decode c.code pc = .ok (.ireturn, 1)) {fs : List Frame}
    (hl : ∀ (f : JFrame) (acts : List Action), f.method = m → f.locked = none → f.entered = [] → (doReturn e (T.setTop f) acts (some (.int w))).1 = T.setFrames fs) : Steps p.tables e below (T.setTop (mkF m pc Ls (.int w :: rest))) (T.setFrames fs) :=
  retOut X hx hret rfl (Or.inl ⟨rfl, Or.inl rfl, w, rfl⟩) hd hl
theorem own_retA (X : Stand p l e R s m args below meth c T locs cells slots) (hx : p.tables.exec = Jvm.exec) {pc : Nat} {Ls : Array Slot} {w : Value} {t : FieldType} (hret : meth.sig.returnType = some t) (ht : t.isReference = true) (hn : narrow t w = w) (hw : w.isRef = true) (hd : decode c.code pc = .ok (.areturn, 1)) {fs : List Frame}
    (hl : ∀ (f : JFrame) (acts : List Action), f.method = m → f.locked = none → f.entered = [] → (doReturn e (T.setTop f) acts (some w)).1 = T.setFrames fs) : Steps p.tables e below (T.setTop (mkF m pc Ls (w :: rest))) (T.setFrames fs) :=
  retOut X hx hret hn (Or.inr (Or.inr (Or.inr (Or.inr ⟨rfl, ht, hw⟩)))) hd hl
end Own
set_option maxRecDepth 65536
set_option maxHeartbeats 40000000
abbrev yN0 : MethodName := ⟨"java/lang/String", "charAt", "(I)C"⟩
abbrev yN1 : MethodName := ⟨"java/lang/String", "equals", "(Ljava/lang/Object;)Z"⟩
abbrev yN2 : MethodName := ⟨"com/example/lotd/lotd/ProcessingModeOfPinLaw", "eq", "([CILjava/lang/String;)Z"⟩
abbrev yN3 : MethodName := ⟨"com/example/lotd/lotd/ProcessingMode", "of", "(Ljava/lang/String;)Lcom/example/lotd/lotd/ProcessingMode;"⟩
abbrev yN4 : MethodName := ⟨"com/example/lotd/lotd/ProcessingModeOfPinLaw", "str", "([CI)Ljava/lang/String;"⟩
abbrev yN5 : MethodName := ⟨"java/lang/String", "<init>", "([C)V"⟩
abbrev yN6 : MethodName := ⟨"java/lang/String", "length", "()I"⟩
abbrev yN7 : MethodName := ⟨"com/example/lotd/lotd/ProcessingMode", "values", "()[Lcom/example/lotd/lotd/ProcessingMode;"⟩
abbrev yN8 : MethodName := ⟨"java/lang/StringLatin1", "equals", "([B[B)Z"⟩
def own_EL : List (String × Nat) := [("com/example/lotd/lotd/ProcessingModeOfPinLaw", 21), ("com/example/lotd/lotd/ProcessingModeOfPinLaw", 27), ("java/lang/String", 7)]
theorem own_EW {Z : State} {a0 : Array Value} (hw : ∀ d ∈ tables_1, d.before a0 Z = true) : EW Z a0 own_EL := (EW.cons (own_k hw 65 rfl) (by decide +kernel) (EW.cons (own_k hw 81 rfl) (by decide +kernel) (EW.cons (own_k hw 108 rfl) (by decide +kernel) EW.nil)))
theorem own_safeStr {Z : State} {EL : List (String × Nat)} {vm : Vm} {h : Heap} {x : Addr} (hal : Z.vm.Alike vm) (E : Exa Z h x "java/lang/String") (V : Fld Z h x "java/lang/String" "value" "[B" .null) : Safe Z EL vm h x := fun B => by
  obtain ⟨p, hp, u, a, hb, q, qa, S, hy⟩ := B
  obtain ⟨cS, ⟨⟨s1, s2, s3, ⟨cv, kv, iv, s4, s4'⟩, ⟨cc, kc, ic, s5, s5'⟩, s6, s7, s8, s9, s10, s11, s12, s13, s14, s15, s16⟩, hfS, hcS⟩, -, hB, -⟩ := S
  rcases hy with rfl | rfl
  · obtain ⟨cell, cf, k, i, f, h1, h2, -, -, -, -, h7⟩ := V
    obtain ⟨kv', z4⟩ := ff_back hal s4
    have s1' : h[q.sa]? = some q.sC := s1
    cases h1.symm.trans s1'
    cases h2.symm.trans z4
    cases h7.symm.trans s8
  · obtain ⟨cell, k, h1, h2, h3, -, -⟩ := E
    have s10' : h[q.sd]? = some q.SA := s10
    cases h1.symm.trans s10'
    have hB' : Z.vm.findClass "[B" = some q.SA.cls := by rw [← hal.findClass]; exact hB
    obtain ⟨k1, a1, a2⟩ := Vm.findClass_spec h2
    obtain ⟨k2, b1, b2⟩ := Vm.findClass_spec hB'
    cases a1.symm.trans b1
    exact absurd (a2.symm.trans b2) (by decide)
theorem own_wS {Z : State} {a0 : Array Value} (hw : ∀ d ∈ tables_1, d.before a0 Z = true) : ∀ d ∈ Bundle.stringAtoms, d.before a0 Z = true := by
  intro d hd
  simp only [Bundle.stringAtoms, Bundle.sN, List.mem_cons, List.not_mem_nil, or_false] at hd
  rcases hd with rfl | rfl | rfl | rfl | rfl | rfl | rfl
  · exact own_k hw 31 rfl
  · exact own_k hw 38 rfl
  · exact own_k hw 54 rfl
  · exact own_k hw 64 rfl
  · exact own_k hw 62 rfl
  · exact own_k hw 66 rfl
  · exact own_k hw 67 rfl
theorem own_and255 (x : Int32) : ∃ n : Nat, n ≤ 255 ∧ x &&& 255 = Int32.ofNat n := by
  refine ⟨(x &&& 255).toBitVec.toNat, ?_, ?_⟩
  · simp only [Int32.toBitVec_and, BitVec.toNat_and]
    exact Nat.and_le_right
  · apply Int32.toBitVec_inj.mp
    show _ = BitVec.ofNat 32 _
    rw [BitVec.ofNat_toNat]; simp
theorem own_ch (x : Int32) : ¬ (x &&& (255 : Int32)).toUInt32.toUInt16.toUInt32.toInt32 < 0 ∧ ¬ (255 : Int32) < (x &&& (255 : Int32)).toUInt32.toUInt16.toUInt32.toInt32 := by
  rw [i2c_mask]
  obtain ⟨n, h, e⟩ := own_and255 x
  rw [e]
  simp only [Int32.lt_iff_toInt_lt, Int32.toInt_ofNat_of_lt (show n < 2 ^ 31 by omega)]
  have : (255 : Int32).toInt = 255 := rfl; have : (0 : Int32).toInt = 0 := rfl
  omega
theorem own_hws {Z : State} {a0 : Array Value} (hw : ∀ d ∈ tables_1, d.before a0 Z = true) : ∀ d ∈ StrChars.Road.words, d.before a0 Z = true := fun d hd => hw d ((by decide +kernel : ∀ d ∈ StrChars.Road.words, d ∈ tables_1) d hd)

section OwnC
variable {p : Program} {l : Launch} {e : Env} {R : Room} {s : State} {m : MethodId} {args : Array Value} {below : List Frame} {meth : Method} {c : Code} {T : State} {locs : List Loc} {cells slots : Nat} {Z : State} {h h' : Heap} {a : Addr} {ty : FieldType}
theorem own_cln (X : Stand p l e R s m args below meth c T locs cells slots) (hx : p.tables.exec = Jvm.exec) (hZ : Z.Warmed39 s.vm) {a0 : Array Value} {own ad : String} {index : Nat} (hown : s.vm.findClass own = some m.cls)
    (w1 : (Cond.methodLink own index ⟨ad, "clone", "()Ljava/lang/Object;"⟩).before a0 Z = true) (w2 : (Cond.sameMethod ad "java/lang/Object" "clone" "()Ljava/lang/Object;").before a0 Z = true) (w3 : (Cond.native ⟨"java/lang/Object", "clone", "()Ljava/lang/Object;"⟩).before a0 Z = true)
    (w4 : (Cond.instanceMethod ⟨"java/lang/Object", "clone", "()Ljava/lang/Object;"⟩).before a0 Z = true) (w5 : (Cond.selects ad ⟨ad, "clone", "()Ljava/lang/Object;"⟩ ⟨"java/lang/Object", "clone", "()Ljava/lang/Object;"⟩).before a0 Z = true) (w6 : (Cond.castable ad "java/lang/Cloneable").before a0 Z = true)
    (eT : T.heap = h) {k : ClassId} {z : Int32} {vs : List Value} {dv : Value} (F : Arv Z h a k ty z vs dv) (E : Exa Z h a ad) {g : JFrame} (hg : g.method = m) (hsize : g.locals.size = c.maxLocals) {rest : List Value} (hst : g.stack = .ref a :: rest) (hd : decode c.code g.pc = .ok (.invokevirtual index, 3))
    (hf : 1 ≤ R.frames) {W : Nat} (hW : 2 * g.monitorRoom + (rest.map fun v => v.category).sum ≤ W) (hl : W + 14 ≤ R.locals) {cap : Nat} (hcap : z.toNatClampNeg ≤ cap) (hc : cells + 1 ≤ R.cells) (hsl : slots + cap ≤ R.slots) :
    ∃ T' h', Stand p l e R s m args below meth c T' locs (cells + 1) (slots + cap) ∧ T'.heap = h' ∧ Ext h h' ∧ Arv Z h' h.size k ty z vs dv ∧ Exa Z h' h.size ad ∧
      ∀ target, Steps p.tables e below (T'.setTop { g with pc := g.pc + 3, stack := .ref h.size :: rest }) target → Steps p.tables e below (T.setTop g) target := by
  obtain ⟨cl, A, q1, S, q3, H, G⟩ := F
  have FC : FitC Z cl := fitC_of A fun i hi v hv => by rw [H i hi] at hv; cases hv; exact G i hi
  obtain ⟨T', h', X', e', ex, A', E', st⟩ := cloneA X hx hZ hown w1 w2 w3 w4 w5 w6 eT A E FC hg hsize hst hd hf hW hl (by rw [S]; exact hcap) hc hsl
  exact ⟨T', h', X', e', ex, ⟨cloneOf cl, A', q1, S, q3, H, G⟩, E', st⟩
end OwnC
def own_cc (x : Int32) : Prop := ¬ x < 0 ∧ ¬ (255 : Int32) < x ∧ nar .char x = x
theorem own_nar (x : Int32) : nar .char (x &&& (255 : Int32)).toUInt32.toUInt16.toUInt32.toInt32 = (x &&& (255 : Int32)).toUInt32.toUInt16.toUInt32.toInt32 := by simp only [nar, UInt32.toUInt32_toInt32, UInt16.toUInt16_toUInt32]
theorem own_mkc (x : Int32) : own_cc (x &&& (255 : Int32)).toUInt32.toUInt16.toUInt32.toInt32 := ⟨(own_ch x).1, (own_ch x).2, own_nar x⟩
theorem own_b8 : ∀ m : Fin 256, (Int8.ofNat m.val).toInt32 &&& 255 = Int32.ofNat m.val := by decide +kernel
theorem own_i8 (n : Nat) : (Int32.ofNat n).toInt8 = Int8.ofNat (n % 256) := by
  apply Int8.toBitVec_inj.mp
  rw [Int32.toBitVec_toInt8, BitVec.signExtend_eq_setWidth_of_le _ (by decide)]
  apply BitVec.eq_of_toNat_eq
  show ((BitVec.ofNat 32 n).setWidth 8).toNat = (BitVec.ofNat 8 (n % 256)).toNat
  rw [BitVec.toNat_setWidth, BitVec.toNat_ofNat, BitVec.toNat_ofNat]
  omega
theorem own_rt {x : Int32} (h : own_cc x) : x.toInt8.toInt32 &&& 255 = x := by
  obtain ⟨h1, h2, -⟩ := h
  rw [Int32.lt_iff_toInt_lt, show (0 : Int32).toInt = 0 from rfl] at h1
  rw [Int32.lt_iff_toInt_lt, show (255 : Int32).toInt = 255 from rfl] at h2
  have e : x = Int32.ofNat x.toInt.toNat := by
    rw [← Int32.toInt_inj, Int32.toInt_ofNat_of_lt (by omega)]; omega
  rw [e, own_i8, Nat.mod_eq_of_lt (by omega)]
  exact own_b8 ⟨x.toInt.toNat, by omega⟩
theorem own_eqb {x k : Int32} (h : own_cc x) (e : k = x.toInt8.toInt32) (hk : k &&& 255 = k) : x = k := by
  have := own_rt h
  rw [← e, hk] at this; exact this.symm
def own_q8 (x : Int32) : Prop := x = 0 ∨ x = 1 ∨ x = 2 ∨ x = 3 ∨ x = 4 ∨ x = 5 ∨ x = 6 ∨ x = 7
theorem own_and7 (x : Int32) : own_q8 (x &&& (7 : Int32)) := by
  have h : (x &&& 7).toBitVec.toNat ≤ 7 := by
    simp only [Int32.toBitVec_and, BitVec.toNat_and]
    exact Nat.and_le_right
  have e : x &&& 7 = Int32.ofNat (x &&& 7).toBitVec.toNat := by
    apply Int32.toBitVec_inj.mp
    show _ = BitVec.ofNat 32 _
    rw [BitVec.ofNat_toNat]; simp
  rw [e]
  generalize (x &&& 7).toBitVec.toNat = n at h
  unfold own_q8
  match n, h with
  | 0, _ => decide
  | 1, _ => decide
  | 2, _ => decide
  | 3, _ => decide
  | 4, _ => decide
  | 5, _ => decide
  | 6, _ => decide
  | 7, _ => decide
def own_m6 (x0 x1 x2 x3 x4 x5 : Int32) : Int32 := if x0 = 115 ∧ x1 = 116 ∧ x2 = 114 ∧ x3 = 105 ∧ x4 = 99 ∧ x5 = 116 then 1 else 0
theorem own_mt6 {x0 x1 x2 x3 x4 x5 : Int32} (h : x0 = 115 ∧ x1 = 116 ∧ x2 = 114 ∧ x3 = 105 ∧ x4 = 99 ∧ x5 = 116) : (1 : Int32) = own_m6 x0 x1 x2 x3 x4 x5 := (if_pos h).symm
theorem own_mf6 {x0 x1 x2 x3 x4 x5 : Int32} (h : ¬ (x0 = 115 ∧ x1 = 116 ∧ x2 = 114 ∧ x3 = 105 ∧ x4 = 99 ∧ x5 = 116)) : (0 : Int32) = own_m6 x0 x1 x2 x3 x4 x5 := (if_neg h).symm
theorem own_mz6 {x0 x1 x2 x3 x4 x5 : Int32} (h : ¬ own_m6 x0 x1 x2 x3 x4 x5 = 0) : (1 : Int32) = own_m6 x0 x1 x2 x3 x4 x5 := by
  unfold own_m6 at h ⊢
  by_cases q : x0 = 115 ∧ x1 = 116 ∧ x2 = 114 ∧ x3 = 105 ∧ x4 = 99 ∧ x5 = 116
  · rw [if_pos q]
  · rw [if_neg q] at h; exact absurd rfl h
def own_m7 (x0 x1 x2 x3 x4 x5 x6 : Int32) : Int32 := if x0 = 108 ∧ x1 = 101 ∧ x2 = 110 ∧ x3 = 105 ∧ x4 = 101 ∧ x5 = 110 ∧ x6 = 116 then 1 else 0
theorem own_mt7 {x0 x1 x2 x3 x4 x5 x6 : Int32} (h : x0 = 108 ∧ x1 = 101 ∧ x2 = 110 ∧ x3 = 105 ∧ x4 = 101 ∧ x5 = 110 ∧ x6 = 116) : (1 : Int32) = own_m7 x0 x1 x2 x3 x4 x5 x6 := (if_pos h).symm
theorem own_mf7 {x0 x1 x2 x3 x4 x5 x6 : Int32} (h : ¬ (x0 = 108 ∧ x1 = 101 ∧ x2 = 110 ∧ x3 = 105 ∧ x4 = 101 ∧ x5 = 110 ∧ x6 = 116)) : (0 : Int32) = own_m7 x0 x1 x2 x3 x4 x5 x6 := (if_neg h).symm
theorem own_mz7 {x0 x1 x2 x3 x4 x5 x6 : Int32} (h : ¬ own_m7 x0 x1 x2 x3 x4 x5 x6 = 0) : (1 : Int32) = own_m7 x0 x1 x2 x3 x4 x5 x6 := by
  unfold own_m7 at h ⊢
  by_cases q : x0 = 108 ∧ x1 = 101 ∧ x2 = 110 ∧ x3 = 105 ∧ x4 = 101 ∧ x5 = 110 ∧ x6 = 116
  · rw [if_pos q]
  · rw [if_neg q] at h; exact absurd rfl h
theorem d19_0 : decode jdk_41_method_11_code 0 = .ok (.iload_n 0, 1) := by decide +kernel
theorem d19_1 : decode jdk_41_method_11_code 1 = .ok (.ifCond .lt 8, 3) := by decide +kernel
theorem d19_4 : decode jdk_41_method_11_code 4 = .ok (.iload_n 0, 1) := by decide +kernel
theorem d19_5 : decode jdk_41_method_11_code 5 = .ok (.iload_n 1, 1) := by decide +kernel
theorem d19_6 : decode jdk_41_method_11_code 6 = .ok (.if_icmp .lt 10, 3) := by decide +kernel
theorem d19_16 : decode jdk_41_method_11_code 16 = .ok (.iload_n 0, 1) := by decide +kernel
theorem d19_17 : decode jdk_41_method_11_code 17 = .ok (.ireturn, 1) := by decide +kernel
theorem own_ef1 (m : MethodId) (x0 : Int32) (x1 : Int32) (x2 : Value) (hx2 : x2.isRef = true) : entryFrame m #[(.int x0), (.int x1), x2] 3 = mkF m 0 #[.val (.int x0), .val (.int x1), .val x2] [] := by rcases ref_cases hx2 with rfl | ⟨_, rfl⟩ <;> first | (simp [entryFrame, mkF, argsToLocals, Value.category]; done) | rfl
def own_pciQ (Z : State) (u1 : Int32) (u2 : Int32) (fmt : Value) (h0 : Heap) (n0 : Nat) (v : Option Value) (h : Heap) (L : List Loc) : Prop := v = some (.int u1) ∧ Fr n0 L ∧ h = h0
theorem own_pn1 : plainName "jdk/internal/util/Preconditions" = true := by first | (simp [plainName, overriddenIn]; done) | decide +kernel
abbrev own_pciR : Room := { frames := 0, cells := 0, slots := 0, locals := 0 }
theorem own_pci (l : Launch) (Z : State) (a0 : Array Value) (hw : ∀ d ∈ tables_1, d.before a0 Z = true) (ws : List Jvm.Cond) (u1 : Int32) (u2 : Int32) (fmt : Value) (h0 : Heap) (n0 : Nat) (Z0 : n0 ≤ h0.size) (pr1 : ¬ u1 < 0) (pr2 : u1 < u2) (pr3 : fmt.isRef = true) :
    own_M l (⟨"jdk/internal/util/Preconditions", "checkIndex", "(IILjava/util/function/BiFunction;)I"⟩ : MethodName) jdk_41_method_11_code 3 (some .int) ws own_pciR #[(.int u1), (.int u2), fmt] Z h0 (own_pciQ Z u1 u2 fmt h0 n0) := by
  refine own_go (plainFor_of_name own_pn1) (fun m => own_ef1 m u1 u2 fmt pr3) ?_
  intro p e s m below meth c s₁ Bd hx hby hml hZ hh hown hnm X0 e0
  have N0 := Fr.nil n0
  refine own_st (T' := s₁) (g' := (mkF m 17 #[.val (.int u1), .val (.int u2), .val fmt] [(.int u1)])) (fun _ kt => XS.iloadN X0.here hx rfl (hb hby d19_0) rfl (XS.ifNo X0.here hx rfl (hb hby d19_1) rfl (XT.i0_lt_f pr1) (XS.iloadN X0.here hx rfl (hb hby d19_4) rfl (XS.iloadN X0.here hx rfl (hb hby d19_5) rfl (XS.icmpYes X0.here hx rfl (pc0 := 6) (pc' := 16) rfl (hb hby d19_6) rfl (XT.ii_lt_t pr2) (by decide) (by decide) (XS.iloadN X0.here hx rfl (hb hby d19_16) rfl kt)))))) ?_
  obtain ⟨fs, hr, hrun, hended, hW, hsame⟩ := X0.leave (v := some (.int u1)) (fun h => by rw [Bd.returns] at h; cases h)
  refine own_end (own_retI X0 hx Bd.returns (hb hby d19_17) hr) ⟨_, hrun, hended, _, _, rfl, ?_, ⟨_, rfl⟩, hW, hsame.mono (by decide) (by decide)⟩
  show own_pciQ Z _ _ _ h0 n0 _ s₁.heap _
  rw [e0]
  exact ⟨rfl, N0, rfl⟩
theorem d18_0 : decode jdk_42_method_155_code 0 = .ok (.iload_n 0, 1) := by decide +kernel
theorem d18_1 : decode jdk_42_method_155_code 1 = .ok (.iload_n 1, 1) := by decide +kernel
theorem d18_2 : decode jdk_42_method_155_code 2 = .ok (.getstatic 1053, 3) := by decide +kernel
theorem d18_5 : decode jdk_42_method_155_code 5 = .ok (.invokestatic 1059, 3) := by decide +kernel
theorem own_pd1 : parseMethodDescriptor "(IILjava/util/function/BiFunction;)I" = some ⟨[.int, .int, (.object "java/util/function/BiFunction")], some .int⟩ := by decide +kernel
theorem d18_8 : decode jdk_42_method_155_code 8 = .ok (.pop, 1) := by decide +kernel
theorem d18_9 : decode jdk_42_method_155_code 9 = .ok (.return_, 1) := by decide +kernel
theorem own_ef2 (m : MethodId) (x0 : Int32) (x1 : Int32) : entryFrame m #[(.int x0), (.int x1)] 2 = mkF m 0 #[.val (.int x0), .val (.int x1)] [] := by first | (simp [entryFrame, mkF, argsToLocals, Value.category]; done) | rfl
def own_ciQ (Z : State) (u1 : Int32) (u2 : Int32) (fmt : Value) (h0 : Heap) (n0 : Nat) (v : Option Value) (h : Heap) (L : List Loc) : Prop := v = none ∧ Fr n0 L ∧ h = h0
theorem own_pn2 : plainName "java/lang/String" = true := by first | (simp [plainName, overriddenIn]; done) | decide +kernel
abbrev own_ciR : Room := { frames := 1, cells := 0, slots := 0, locals := 14 }
theorem own_ci (l : Launch) (Z : State) (a0 : Array Value) (hw : ∀ d ∈ tables_1, d.before a0 Z = true) (ws : List Jvm.Cond) (u1 : Int32) (u2 : Int32) (fmt : Value) (h0 : Heap) (n0 : Nat) (Z0 : n0 ≤ h0.size) (pr1 : Old Z n0 h0) (pr2 : Sta Z Z.heap "jdk/internal/util/Preconditions" "SIOOBE_FORMATTER" "Ljava/util/function/BiFunction;" fmt) (pr3 : ¬ u1 < 0) (pr4 : u1 < u2) (pr5 : fmt.isRef = true) :
    own_M l (⟨"java/lang/String", "checkIndex", "(II)V"⟩ : MethodName) jdk_42_method_155_code 2 none ws own_ciR #[(.int u1), (.int u2)] Z h0 (own_ciQ Z u1 u2 fmt h0 n0) := by
  refine own_go (plainFor_of_name own_pn2) (fun m => own_ef2 m u1 u2 ) ?_
  intro p e s m below meth c s₁ Bd hx hby hml hZ hh hown hnm X0 e0
  have N0 := Fr.nil n0
  refine own_st (T' := s₁) (g' := (mkF m 2 #[.val (.int u1), .val (.int u2)] [(.int u2), (.int u1)])) (fun _ kt => XS.iloadN X0.here hx rfl (hb hby d18_0) rfl (XS.iloadN X0.here hx rfl (hb hby d18_1) rfl kt)) ?_
  obtain ⟨T1, X1, e1, st1⟩ := getS2 X0 hx hZ hown (host := "") (Or.inl (own_k hw 103 rfl)) Via.refl e0 (Sta.ext pr1.2 pr2) (g := (mkF m 2 #[.val (.int u1), .val (.int u2)] [(.int u2), (.int u1)])) rfl (hb hby d18_2)
  refine own_st (T' := T1) (g' := (mkF m 5 #[.val (.int u1), .val (.int u2)] [fmt, (.int u2), (.int u1)])) st1 ?_
  obtain ⟨_, _, ⟨T2, L2, k2, n2⟩, -, X2, ⟨Lc2, hQ2, l2, y2, z2⟩, st2⟩ := Jvm.LawKit.callS X1 hx (y := (⟨"jdk/internal/util/Preconditions", "checkIndex", "(IILjava/util/function/BiFunction;)I"⟩ : MethodName)) hown (mvT hZ (own_k hw 105 rfl)) (mvT hZ (own_k hw 106 rfl)) (mvT hZ (own_k hw 104 rfl)) (mvT hZ (own_k hw 107 rfl)) (by decide) (backOf (W := 0) (own_pci l Z a0 hw [] u1 u2 fmt h0 n0 Z0 pr3 pr4 pr5) hZ (own_k hw 107 rfl) (own_k hw 104 rfl) (by decide) (by decide)) (g := (mkF m 5 #[.val (.int u1), .val (.int u2)] [fmt, (.int u2), (.int u1)])) rfl hml.symm  (argsL := [(.int u1), (.int u2), fmt]) (rest := []) (lenOf own_pd1 rfl) rfl (own_w0 rfl rfl) (hb hby d18_5) (fun _ _ => ⟨rfl, e1, (by decide : 0 + 0 ≤ 0), (by decide : 0 + 0 ≤ 0)⟩)
  dsimp only [Pt.U, Pt.locs, Pt.cells, Pt.slots] at X2 l2 y2 z2 st2 hQ2
  subst l2 y2 z2
  obtain ⟨rfl, N2, e2⟩ := hQ2
  have N3 := Fr.app N0 N2
  refine own_st (T' := T2) (g' := (mkF m 8 #[.val (.int u1), .val (.int u2)] [(.int u1)])) st2 ?_
  refine own_st (T' := T2) (g' := (mkF m 9 #[.val (.int u1), .val (.int u2)] [])) (fun _ kt => XT.pop X2.here hx rfl (hb hby d18_8) rfl rfl kt) ?_
  obtain ⟨fs, hr, hrun, hended, hW, hsame⟩ := X2.leave (v := none) (fun _ => rfl)
  refine own_end (X2.returnOut hx Bd.returns (hb hby d18_9) hr) ⟨_, hrun, hended, _, _, rfl, ?_, ⟨_, rfl⟩, hW, hsame.mono (by decide) (by decide)⟩
  show own_ciQ Z _ _ _ h0 n0 _ T2.heap _
  rw [e2]
  exact ⟨rfl, N3, rfl⟩
theorem d16_0 : decode jdk_42_method_154_code 0 = .ok (.getstatic 38, 3) := by decide +kernel
theorem d16_3 : decode jdk_42_method_154_code 3 = .ok (.ifCond .eq 14, 3) := by decide +kernel
theorem d16_6 : decode jdk_42_method_154_code 6 = .ok (.aload_n 0, 1) := by decide +kernel
theorem d16_7 : decode jdk_42_method_154_code 7 = .ok (.getfield 15, 3) := by decide +kernel
theorem d16_10 : decode jdk_42_method_154_code 10 = .ok (.ifCond .ne 7, 3) := by decide +kernel
theorem d16_13 : decode jdk_42_method_154_code 13 = .ok (.iconst 1, 1) := by decide +kernel
theorem d16_14 : decode jdk_42_method_154_code 14 = .ok (.goto 4, 3) := by decide +kernel
theorem d16_18 : decode jdk_42_method_154_code 18 = .ok (.ireturn, 1) := by decide +kernel
theorem own_ef3 (m : MethodId) (x0 : Addr) : entryFrame m #[(.ref x0)] 1 = mkF m 0 #[.val (.ref x0)] [] := by first | (simp [entryFrame, mkF, argsToLocals, Value.category]; done) | rfl
def own_ilQ (Z : State) (x0 : Addr) (zc : Int32) (h0 : Heap) (n0 : Nat) (v : Option Value) (h : Heap) (L : List Loc) : Prop := v = some (.int 1) ∧ Fr n0 L ∧ h = h0
abbrev own_ilR : Room := { frames := 0, cells := 0, slots := 0, locals := 0 }
theorem own_il (l : Launch) (Z : State) (a0 : Array Value) (hw : ∀ d ∈ tables_1, d.before a0 Z = true) (ws : List Jvm.Cond) (x0 : Addr) (zc : Int32) (h0 : Heap) (n0 : Nat) (Z0 : n0 ≤ h0.size) (pr1 : Old Z n0 h0) (pr2 : Sta Z Z.heap "java/lang/String" "COMPACT_STRINGS" "Z" (.int zc)) (pr3 : ¬ zc = 0) (pr4 : Fld Z h0 x0 "java/lang/String" "coder" "B" (.int 0)) :
    own_M l (⟨"java/lang/String", "isLatin1", "()Z"⟩ : MethodName) jdk_42_method_154_code 1 (some .boolean) ws own_ilR #[(.ref x0)] Z h0 (own_ilQ Z x0 zc h0 n0) := by
  refine own_go (plainFor_of_name own_pn2) (fun m => own_ef3 m x0 ) ?_
  intro p e s m below meth c s₁ Bd hx hby hml hZ hh hown hnm X0 e0
  have N0 := Fr.nil n0
  obtain ⟨T4, X4, e4, st4⟩ := getS2 X0 hx hZ hown (host := "") (Or.inl (own_k hw 49 rfl)) Via.refl e0 (Sta.ext pr1.2 pr2) (g := (mkF m 0 #[.val (.ref x0)] [])) rfl (hb hby d16_0)
  refine own_st (T' := T4) (g' := (mkF m 3 #[.val (.ref x0)] [(.int zc)])) st4 ?_
  refine own_st (T' := T4) (g' := (mkF m 7 #[.val (.ref x0)] [(.ref x0)])) (fun _ kt => XS.ifNo X4.here hx rfl (hb hby d16_3) rfl (XT.i0_eq_f pr3) (XS.aloadN X4.here hx rfl (hb hby d16_6) rfl rfl kt)) ?_
  obtain ⟨T5, X5, e5, st5⟩ := getF X4 hx hZ hown (host := "") (Or.inl (own_k hw 61 rfl)) Via.refl e4 pr4 (g := (mkF m 7 #[.val (.ref x0)] [(.ref x0)])) rfl rfl (hb hby d16_7)
  refine own_st (T' := T5) (g' := (mkF m 10 #[.val (.ref x0)] [(.int 0)])) st5 ?_
  refine own_st (T' := T5) (g' := (mkF m 18 #[.val (.ref x0)] [(.int 1)])) (fun _ kt => XS.ifNo X5.here hx rfl (hb hby d16_10) rfl (XT.i0_ne_f (by decide)) (XS.iconst X5.here hx rfl (hb hby d16_13) (XS.goto X5.here hx rfl (pc0 := 14) (pc' := 18) rfl (hb hby d16_14) (by decide) (by decide) kt))) ?_
  obtain ⟨fs, hr, hrun, hended, hW, hsame⟩ := X5.leave (v := some (.int 1)) (fun h => by rw [Bd.returns] at h; cases h)
  refine own_end (retN X5 hx (t := .boolean) Bd.returns (by simp) (hb hby d16_18) hr) ⟨_, hrun, hended, _, _, rfl, ?_, ⟨_, rfl⟩, hW, hsame.mono (by decide) (by decide)⟩
  show own_ilQ Z _ _ h0 n0 _ T5.heap _
  rw [e5]
  exact ⟨rfl, N0, rfl⟩
theorem d13_0 : decode jdk_42_method_152_code 0 = .ok (.getstatic 38, 3) := by decide +kernel
theorem d13_3 : decode jdk_42_method_152_code 3 = .ok (.ifCond .eq 10, 3) := by decide +kernel
theorem d13_6 : decode jdk_42_method_152_code 6 = .ok (.aload_n 0, 1) := by decide +kernel
theorem d13_7 : decode jdk_42_method_152_code 7 = .ok (.getfield 15, 3) := by decide +kernel
theorem d13_10 : decode jdk_42_method_152_code 10 = .ok (.goto 4, 3) := by decide +kernel
theorem d13_14 : decode jdk_42_method_152_code 14 = .ok (.ireturn, 1) := by decide +kernel
def own_codQ (Z : State) (x0 : Addr) (zc : Int32) (h0 : Heap) (n0 : Nat) (v : Option Value) (h : Heap) (L : List Loc) : Prop := v = some (.int 0) ∧ Fr n0 L ∧ h = h0
abbrev own_codR : Room := { frames := 0, cells := 0, slots := 0, locals := 0 }
theorem own_cod (l : Launch) (Z : State) (a0 : Array Value) (hw : ∀ d ∈ tables_1, d.before a0 Z = true) (ws : List Jvm.Cond) (x0 : Addr) (zc : Int32) (h0 : Heap) (n0 : Nat) (Z0 : n0 ≤ h0.size) (pr1 : Old Z n0 h0) (pr2 : Sta Z Z.heap "java/lang/String" "COMPACT_STRINGS" "Z" (.int zc)) (pr3 : ¬ zc = 0) (pr4 : Fld Z h0 x0 "java/lang/String" "coder" "B" (.int 0)) :
    own_M l (⟨"java/lang/String", "coder", "()B"⟩ : MethodName) jdk_42_method_152_code 1 (some .byte) ws own_codR #[(.ref x0)] Z h0 (own_codQ Z x0 zc h0 n0) := by
  refine own_go (plainFor_of_name own_pn2) (fun m => own_ef3 m x0 ) ?_
  intro p e s m below meth c s₁ Bd hx hby hml hZ hh hown hnm X0 e0
  have N0 := Fr.nil n0
  obtain ⟨T6, X6, e6, st6⟩ := getS2 X0 hx hZ hown (host := "") (Or.inl (own_k hw 49 rfl)) Via.refl e0 (Sta.ext pr1.2 pr2) (g := (mkF m 0 #[.val (.ref x0)] [])) rfl (hb hby d13_0)
  refine own_st (T' := T6) (g' := (mkF m 3 #[.val (.ref x0)] [(.int zc)])) st6 ?_
  refine own_st (T' := T6) (g' := (mkF m 7 #[.val (.ref x0)] [(.ref x0)])) (fun _ kt => XS.ifNo X6.here hx rfl (hb hby d13_3) rfl (XT.i0_eq_f pr3) (XS.aloadN X6.here hx rfl (hb hby d13_6) rfl rfl kt)) ?_
  obtain ⟨T7, X7, e7, st7⟩ := getF X6 hx hZ hown (host := "") (Or.inl (own_k hw 61 rfl)) Via.refl e6 pr4 (g := (mkF m 7 #[.val (.ref x0)] [(.ref x0)])) rfl rfl (hb hby d13_7)
  refine own_st (T' := T7) (g' := (mkF m 10 #[.val (.ref x0)] [(.int 0)])) st7 ?_
  refine own_st (T' := T7) (g' := (mkF m 14 #[.val (.ref x0)] [(.int 0)])) (fun _ kt => XS.goto X7.here hx rfl (pc0 := 10) (pc' := 14) rfl (hb hby d13_10) (by decide) (by decide) kt) ?_
  obtain ⟨fs, hr, hrun, hended, hW, hsame⟩ := X7.leave (v := some (.int 0)) (fun h => by rw [Bd.returns] at h; cases h)
  refine own_end (retN X7 hx (t := .byte) Bd.returns (by simp) (hb hby d13_14) hr) ⟨_, hrun, hended, _, _, rfl, ?_, ⟨_, rfl⟩, hW, hsame.mono (by decide) (by decide)⟩
  show own_codQ Z _ _ h0 n0 _ T7.heap _
  rw [e7]
  exact ⟨rfl, N0, rfl⟩
theorem own_shr0 (x : Int32) : x >>> ((0 : Int32) &&& 31) = x := by
  apply Int32.toBitVec_inj.mp
  simp
theorem d12_0 : decode jdk_42_method_54_code 0 = .ok (.aload_n 0, 1) := by decide +kernel
theorem d12_1 : decode jdk_42_method_54_code 1 = .ok (.getfield 9, 3) := by decide +kernel
theorem d12_4 : decode jdk_42_method_54_code 4 = .ok (.arraylength, 1) := by decide +kernel
theorem d12_5 : decode jdk_42_method_54_code 5 = .ok (.aload_n 0, 1) := by decide +kernel
theorem d12_6 : decode jdk_42_method_54_code 6 = .ok (.invokevirtual 335, 3) := by decide +kernel
theorem own_pd2 : parseMethodDescriptor "()B" = some ⟨[], some .byte⟩ := by decide +kernel
theorem d12_9 : decode jdk_42_method_54_code 9 = .ok (.ishr, 1) := by decide +kernel
theorem d12_10 : decode jdk_42_method_54_code 10 = .ok (.ireturn, 1) := by decide +kernel
def own_lenQ (Z : State) (x0 : Addr) (zc : Int32) (t : Addr) (kb : ClassId) (zz : Int32) (vl : List Value) (dd : Value) (h0 : Heap) (n0 : Nat) (v : Option Value) (h : Heap) (L : List Loc) : Prop := v = some (.int zz) ∧ Fr n0 L ∧ h = h0
abbrev own_lenR : Room := { frames := 1, cells := 0, slots := 0, locals := 13 }
theorem own_len (l : Launch) (Z : State) (a0 : Array Value) (hw : ∀ d ∈ tables_1, d.before a0 Z = true) (ws : List Jvm.Cond) (x0 : Addr) (zc : Int32) (t : Addr) (kb : ClassId) (zz : Int32) (vl : List Value) (dd : Value) (h0 : Heap) (n0 : Nat) (Z0 : n0 ≤ h0.size) (pr1 : Old Z n0 h0) (pr2 : Sta Z Z.heap "java/lang/String" "COMPACT_STRINGS" "Z" (.int zc)) (pr3 : ¬ zc = 0) (pr4 : Exa Z h0 x0 "java/lang/String") (pr5 : Fld Z h0 x0 "java/lang/String" "coder" "B" (.int 0)) (pr6 : Fld Z h0 x0 "java/lang/String" "value" "[B" (.ref t)) (pr7 : Arv Z h0 t kb .byte zz vl dd) :
    own_M l yN6 jdk_42_method_54_code 1 (some .int) ws own_lenR #[(.ref x0)] Z h0 (own_lenQ Z x0 zc t kb zz vl dd h0 n0) := by
  refine own_go (plainFor_of_name own_pn2) (fun m => own_ef3 m x0 ) ?_
  intro p e s m below meth c s₁ Bd hx hby hml hZ hh hown hnm X0 e0
  have N0 := Fr.nil n0
  refine own_st (T' := s₁) (g' := (mkF m 1 #[.val (.ref x0)] [(.ref x0)])) (fun _ kt => XS.aloadN X0.here hx rfl (hb hby d12_0) rfl rfl kt) ?_
  obtain ⟨T8, X8, e8, st8⟩ := getF X0 hx hZ hown (host := "") (Or.inl (own_k hw 63 rfl)) Via.refl e0 pr6 (g := (mkF m 1 #[.val (.ref x0)] [(.ref x0)])) rfl rfl (hb hby d12_1)
  refine own_st (T' := T8) (g' := (mkF m 4 #[.val (.ref x0)] [(.ref t)])) st8 ?_
  refine own_st (T' := T8) (g' := (mkF m 5 #[.val (.ref x0)] [(.int zz)])) (own_alen X8 hx hZ e8 pr7 (g := (mkF m 4 #[.val (.ref x0)] [(.ref t)])) rfl rfl (hb hby d12_4)) ?_
  refine own_st (T' := T8) (g' := (mkF m 6 #[.val (.ref x0)] [(.ref x0), (.int zz)])) (fun _ kt => XS.aloadN X8.here hx rfl (hb hby d12_5) rfl rfl kt) ?_
  obtain ⟨cq10, kq10, qa10, qb10, qc10⟩ := isOf hZ e8 pr4
  obtain ⟨_, _, ⟨T9, L9, k9, n9⟩, -, X9, ⟨Lc9, hQ9, l9, y9, z9⟩, st9⟩ := X8.virtualBack hx (y := (⟨"java/lang/String", "coder", "()B"⟩ : MethodName)) (z := (⟨"java/lang/String", "coder", "()B"⟩ : MethodName)) hown (mvT hZ (own_k hw 76 rfl)) (mvT hZ (own_k hw 77 rfl)) (notFace_of_selects (args := #[]) (mvT hZ (own_k hw 79 rfl))) (mvT hZ (own_k hw 79 rfl)) (mvT hZ (own_k hw 78 rfl)) (by decide) (backOf (W := 1) (own_cod l Z a0 hw [] x0 zc h0 n0 Z0 pr1 pr2 pr3 pr5) hZ (own_k hw 80 rfl) (own_k hw 31 rfl) (by decide) (by decide)) qa10 qc10 (g := (mkF m 6 #[.val (.ref x0)] [(.ref x0), (.int zz)])) rfl hml.symm (Steps.refl _) (argsL := []) (rest := [(.int zz)]) (lenOf own_pd2 rfl) rfl (own_w0 rfl rfl) (hb hby d12_6) (fun _ _ => ⟨rfl, e8, (by decide : 0 + 0 ≤ 0), (by decide : 0 + 0 ≤ 0)⟩)
  dsimp only [Pt.U, Pt.locs, Pt.cells, Pt.slots] at X9 l9 y9 z9 st9 hQ9
  subst l9 y9 z9
  obtain ⟨rfl, N9, e9⟩ := hQ9
  have N11 := Fr.app N0 N9
  refine own_tr (T' := T9) (g' := (mkF m 9 #[.val (.ref x0)] [(.int 0), (.int zz)])) st9 ?_
  refine own_st (T' := T9) (g' := (mkF m 10 #[.val (.ref x0)] [(.int (zz >>> ((0 : Int32) &&& 31)))])) (fun _ kt => XT.ishr X9.here hx rfl (hb hby d12_9) rfl kt) ?_
  obtain ⟨fs, hr, hrun, hended, hW, hsame⟩ := X9.leave (v := some (.int (zz >>> ((0 : Int32) &&& 31)))) (fun h => by rw [Bd.returns] at h; cases h)
  refine own_end (own_retI X9 hx Bd.returns (hb hby d12_10) hr) ⟨_, hrun, hended, _, _, rfl, ?_, ⟨_, rfl⟩, hW, hsame.mono (by decide) (by decide)⟩
  show own_lenQ Z _ _ _ _ _ _ _ h0 n0 _ T9.heap _
  rw [e9]
  exact ⟨(by rw [own_shr0]), N11, rfl⟩
theorem d17_0 : decode jdk_43_method_2_code 0 = .ok (.iload_n 1, 1) := by decide +kernel
theorem d17_1 : decode jdk_43_method_2_code 1 = .ok (.aload_n 0, 1) := by decide +kernel
theorem d17_2 : decode jdk_43_method_2_code 2 = .ok (.arraylength, 1) := by decide +kernel
theorem d17_3 : decode jdk_43_method_2_code 3 = .ok (.invokestatic 9, 3) := by decide +kernel
theorem own_pd3 : parseMethodDescriptor "(II)V" = some ⟨[.int, .int], none⟩ := by decide +kernel
theorem d17_6 : decode jdk_43_method_2_code 6 = .ok (.aload_n 0, 1) := by decide +kernel
theorem d17_7 : decode jdk_43_method_2_code 7 = .ok (.iload_n 1, 1) := by decide +kernel
theorem d17_8 : decode jdk_43_method_2_code 8 = .ok (.baload, 1) := by decide +kernel
theorem d17_9 : decode jdk_43_method_2_code 9 = .ok (.sipush 255, 3) := by decide +kernel
theorem d17_12 : decode jdk_43_method_2_code 12 = .ok (.iand, 1) := by decide +kernel
theorem d17_13 : decode jdk_43_method_2_code 13 = .ok (.i2c, 1) := by decide +kernel
theorem d17_14 : decode jdk_43_method_2_code 14 = .ok (.ireturn, 1) := by decide +kernel
theorem own_ef4 (m : MethodId) (x0 : Addr) (x1 : Int32) : entryFrame m #[(.ref x0), (.int x1)] 2 = mkF m 0 #[.val (.ref x0), .val (.int x1)] [] := by first | (simp [entryFrame, mkF, argsToLocals, Value.category]; done) | rfl
def own_lcQ (Z : State) (t : Addr) (ii : Int32) (fmt : Value) (kb : ClassId) (zz : Int32) (vl : List Value) (bb : Int32) (cc : Int32) (h0 : Heap) (n0 : Nat) (v : Option Value) (h : Heap) (L : List Loc) : Prop := v = some (.int cc) ∧ Fr n0 L ∧ h = h0
theorem own_pn3 : plainName "java/lang/StringLatin1" = true := by first | (simp [plainName, overriddenIn]; done) | decide +kernel
abbrev own_lcR : Room := { frames := 2, cells := 0, slots := 0, locals := 27 }
theorem own_lc (l : Launch) (Z : State) (a0 : Array Value) (hw : ∀ d ∈ tables_1, d.before a0 Z = true) (ws : List Jvm.Cond) (t : Addr) (ii : Int32) (fmt : Value) (kb : ClassId) (zz : Int32) (vl : List Value) (bb : Int32) (cc : Int32) (h0 : Heap) (n0 : Nat) (Z0 : n0 ≤ h0.size) (pr1 : Old Z n0 h0) (pr2 : Sta Z Z.heap "jdk/internal/util/Preconditions" "SIOOBE_FORMATTER" "Ljava/util/function/BiFunction;" fmt) (pr3 : fmt.isRef = true) (pr4 : Arv Z h0 t kb .byte zz vl (.int 0)) (pr5 : ¬ ii < 0 ∧ ii < zz) (pr6 : vl.getD ii.toNatClampNeg (.int 0) = .int bb) (pr7 : nar .char ((bb &&& (255 : Int32)).toUInt32.toUInt16.toUInt32.toInt32) = cc) :
    own_M l (⟨"java/lang/StringLatin1", "charAt", "([BI)C"⟩ : MethodName) jdk_43_method_2_code 2 (some .char) ws own_lcR #[(.ref t), (.int ii)] Z h0 (own_lcQ Z t ii fmt kb zz vl bb cc h0 n0) := by
  refine own_go (plainFor_of_name own_pn3) (fun m => own_ef4 m t ii ) ?_
  intro p e s m below meth c s₁ Bd hx hby hml hZ hh hown hnm X0 e0
  have N0 := Fr.nil n0
  refine own_st (T' := s₁) (g' := (mkF m 2 #[.val (.ref t), .val (.int ii)] [(.ref t), (.int ii)])) (fun _ kt => XS.iloadN X0.here hx rfl (hb hby d17_0) rfl (XS.aloadN X0.here hx rfl (hb hby d17_1) rfl rfl kt)) ?_
  refine own_st (T' := s₁) (g' := (mkF m 3 #[.val (.ref t), .val (.int ii)] [(.int zz), (.int ii)])) (own_alen X0 hx hZ e0 pr4 (g := (mkF m 2 #[.val (.ref t), .val (.int ii)] [(.ref t), (.int ii)])) rfl rfl (hb hby d17_2)) ?_
  obtain ⟨_, _, ⟨T12, L12, k12, n12⟩, -, X12, ⟨Lc12, hQ12, l12, y12, z12⟩, st12⟩ := Jvm.LawKit.callS X0 hx (y := (⟨"java/lang/String", "checkIndex", "(II)V"⟩ : MethodName)) hown (mvT hZ (own_k hw 100 rfl)) (mvT hZ (own_k hw 101 rfl)) (mvT hZ (own_k hw 31 rfl)) (mvT hZ (own_k hw 102 rfl)) (by decide) (backOf (W := 0) (own_ci l Z a0 hw [] ii zz fmt h0 n0 Z0 pr1 pr2 (show ¬ ii < 0 from pr5.1) (show ii < zz from pr5.2) pr3) hZ (own_k hw 102 rfl) (own_k hw 31 rfl) (by decide) (by decide)) (g := (mkF m 3 #[.val (.ref t), .val (.int ii)] [(.int zz), (.int ii)])) rfl hml.symm  (argsL := [(.int ii), (.int zz)]) (rest := []) (lenOf own_pd3 rfl) rfl (own_w0 rfl rfl) (hb hby d17_3) (fun _ _ => ⟨rfl, e0, (by decide : 0 + 0 ≤ 0), (by decide : 0 + 0 ≤ 0)⟩)
  dsimp only [Pt.U, Pt.locs, Pt.cells, Pt.slots] at X12 l12 y12 z12 st12 hQ12
  subst l12 y12 z12
  obtain ⟨rfl, N12, e12⟩ := hQ12
  have N13 := Fr.app N0 N12
  refine own_st (T' := T12) (g' := (mkF m 6 #[.val (.ref t), .val (.int ii)] [])) st12 ?_
  refine own_st (T' := T12) (g' := (mkF m 8 #[.val (.ref t), .val (.int ii)] [(.int ii), (.ref t)])) (fun _ kt => XS.aloadN X12.here hx rfl (hb hby d17_6) rfl rfl (XS.iloadN X12.here hx rfl (hb hby d17_7) rfl kt)) ?_
  refine own_st (T' := T12) (g' := (mkF m 9 #[.val (.ref t), .val (.int ii)] [(.int bb)])) (own_bal X12 hx hZ e12 pr4 pr5 pr6 (g := (mkF m 8 #[.val (.ref t), .val (.int ii)] [(.int ii), (.ref t)])) rfl rfl (hb hby d17_8)) ?_
  refine own_st (T' := T12) (g' := (mkF m 14 #[.val (.ref t), .val (.int ii)] [(.int ((bb &&& (255 : Int32)).toUInt32.toUInt16.toUInt32.toInt32))])) (fun _ kt => XS.sipush X12.here hx rfl (hb hby d17_9) (XS.iand X12.here hx rfl (hb hby d17_12) rfl (XT.i2c X12.here hx rfl (hb hby d17_13) rfl kt))) ?_
  obtain ⟨fs, hr, hrun, hended, hW, hsame⟩ := X12.leave (v := some (.int (nar .char ((bb &&& (255 : Int32)).toUInt32.toUInt16.toUInt32.toInt32)))) (fun h => by rw [Bd.returns] at h; cases h)
  refine own_end (retN X12 hx (t := .char) Bd.returns (by simp) (hb hby d17_14) hr) ⟨_, hrun, hended, _, _, rfl, ?_, ⟨_, rfl⟩, hW, hsame.mono (by decide) (by decide)⟩
  show own_lcQ Z _ _ _ _ _ _ _ _ h0 n0 _ T12.heap _
  rw [e12]
  exact ⟨(by rw [pr7]), N13, rfl⟩
theorem d15_0 : decode jdk_42_method_56_code 0 = .ok (.aload_n 0, 1) := by decide +kernel
theorem d15_1 : decode jdk_42_method_56_code 1 = .ok (.invokevirtual 492, 3) := by decide +kernel
theorem own_pd4 : parseMethodDescriptor "()Z" = some ⟨[], some .boolean⟩ := by decide +kernel
theorem d15_4 : decode jdk_42_method_56_code 4 = .ok (.ifCond .eq 12, 3) := by decide +kernel
theorem d15_7 : decode jdk_42_method_56_code 7 = .ok (.aload_n 0, 1) := by decide +kernel
theorem d15_8 : decode jdk_42_method_56_code 8 = .ok (.getfield 9, 3) := by decide +kernel
theorem d15_11 : decode jdk_42_method_56_code 11 = .ok (.iload_n 1, 1) := by decide +kernel
theorem d15_12 : decode jdk_42_method_56_code 12 = .ok (.invokestatic 495, 3) := by decide +kernel
theorem own_pd5 : parseMethodDescriptor "([BI)C" = some ⟨[(.array .byte), .int], some .char⟩ := by decide +kernel
theorem d15_15 : decode jdk_42_method_56_code 15 = .ok (.ireturn, 1) := by decide +kernel
def own_caQ (Z : State) (x0 : Addr) (zc : Int32) (t : Addr) (ii : Int32) (fmt : Value) (kb : ClassId) (zz : Int32) (vl : List Value) (bb : Int32) (cc : Int32) (h0 : Heap) (n0 : Nat) (v : Option Value) (h : Heap) (L : List Loc) : Prop := v = some (.int cc) ∧ Fr n0 L ∧ h = h0
abbrev own_caR : Room := { frames := 3, cells := 0, slots := 0, locals := 40 }
theorem own_ca (l : Launch) (Z : State) (a0 : Array Value) (hw : ∀ d ∈ tables_1, d.before a0 Z = true) (ws : List Jvm.Cond) (x0 : Addr) (zc : Int32) (t : Addr) (ii : Int32) (fmt : Value) (kb : ClassId) (zz : Int32) (vl : List Value) (bb : Int32) (cc : Int32) (h0 : Heap) (n0 : Nat) (Z0 : n0 ≤ h0.size) (pr1 : Old Z n0 h0) (pr2 : Sta Z Z.heap "java/lang/String" "COMPACT_STRINGS" "Z" (.int zc)) (pr3 : ¬ zc = 0) (pr4 : Sta Z Z.heap "jdk/internal/util/Preconditions" "SIOOBE_FORMATTER" "Ljava/util/function/BiFunction;" fmt) (pr5 : fmt.isRef = true) (pr6 : Exa Z h0 x0 "java/lang/String") (pr7 : Fld Z h0 x0 "java/lang/String" "coder" "B" (.int 0)) (pr8 : Fld Z h0 x0 "java/lang/String" "value" "[B" (.ref t)) (pr9 : Arv Z h0 t kb .byte zz vl (.int 0)) (pr10 : ¬ ii < 0 ∧ ii < zz) (pr11 : vl.getD ii.toNatClampNeg (.int 0) = .int bb) (pr12 : nar .char ((bb &&& (255 : Int32)).toUInt32.toUInt16.toUInt32.toInt32) = cc) (pr13 : nar .char cc = cc) :
    own_M l yN0 jdk_42_method_56_code 2 (some .char) ws own_caR #[(.ref x0), (.int ii)] Z h0 (own_caQ Z x0 zc t ii fmt kb zz vl bb cc h0 n0) := by
  refine own_go (plainFor_of_name own_pn2) (fun m => own_ef4 m x0 ii ) ?_
  intro p e s m below meth c s₁ Bd hx hby hml hZ hh hown hnm X0 e0
  have N0 := Fr.nil n0
  refine own_st (T' := s₁) (g' := (mkF m 1 #[.val (.ref x0), .val (.int ii)] [(.ref x0)])) (fun _ kt => XS.aloadN X0.here hx rfl (hb hby d15_0) rfl rfl kt) ?_
  obtain ⟨cq15, kq15, qa15, qb15, qc15⟩ := isOf hZ e0 pr6
  obtain ⟨_, _, ⟨T14, L14, k14, n14⟩, -, X14, ⟨Lc14, hQ14, l14, y14, z14⟩, st14⟩ := X0.virtualBack hx (y := (⟨"java/lang/String", "isLatin1", "()Z"⟩ : MethodName)) (z := (⟨"java/lang/String", "isLatin1", "()Z"⟩ : MethodName)) hown (mvT hZ (own_k hw 92 rfl)) (mvT hZ (own_k hw 93 rfl)) (notFace_of_selects (args := #[]) (mvT hZ (own_k hw 95 rfl))) (mvT hZ (own_k hw 95 rfl)) (mvT hZ (own_k hw 94 rfl)) (by decide) (backOf (W := 0) (own_il l Z a0 hw [] x0 zc h0 n0 Z0 pr1 pr2 pr3 pr7) hZ (own_k hw 96 rfl) (own_k hw 31 rfl) (by decide) (by decide)) qa15 qc15 (g := (mkF m 1 #[.val (.ref x0), .val (.int ii)] [(.ref x0)])) rfl hml.symm (Steps.refl _) (argsL := []) (rest := []) (lenOf own_pd4 rfl) rfl (own_w0 rfl rfl) (hb hby d15_1) (fun _ _ => ⟨rfl, e0, (by decide : 0 + 0 ≤ 0), (by decide : 0 + 0 ≤ 0)⟩)
  dsimp only [Pt.U, Pt.locs, Pt.cells, Pt.slots] at X14 l14 y14 z14 st14 hQ14
  subst l14 y14 z14
  obtain ⟨rfl, N14, e14⟩ := hQ14
  have N16 := Fr.app N0 N14
  refine own_tr (T' := T14) (g' := (mkF m 4 #[.val (.ref x0), .val (.int ii)] [(.int 1)])) st14 ?_
  refine own_st (T' := T14) (g' := (mkF m 8 #[.val (.ref x0), .val (.int ii)] [(.ref x0)])) (fun _ kt => XS.ifNo X14.here hx rfl (hb hby d15_4) rfl (XT.i0_eq_f (by decide)) (XS.aloadN X14.here hx rfl (hb hby d15_7) rfl rfl kt)) ?_
  obtain ⟨T17, X17, e17, st17⟩ := getF X14 hx hZ hown (host := "") (Or.inl (own_k hw 63 rfl)) Via.refl e14 pr8 (g := (mkF m 8 #[.val (.ref x0), .val (.int ii)] [(.ref x0)])) rfl rfl (hb hby d15_8)
  refine own_st (T' := T17) (g' := (mkF m 11 #[.val (.ref x0), .val (.int ii)] [(.ref t)])) st17 ?_
  refine own_st (T' := T17) (g' := (mkF m 12 #[.val (.ref x0), .val (.int ii)] [(.int ii), (.ref t)])) (fun _ kt => XS.iloadN X17.here hx rfl (hb hby d15_11) rfl kt) ?_
  obtain ⟨_, _, ⟨T18, L18, k18, n18⟩, -, X18, ⟨Lc18, hQ18, l18, y18, z18⟩, st18⟩ := Jvm.LawKit.callS X17 hx (y := (⟨"java/lang/StringLatin1", "charAt", "([BI)C"⟩ : MethodName)) hown (mvT hZ (own_k hw 97 rfl)) (mvT hZ (own_k hw 98 rfl)) (mvT hZ (own_k hw 85 rfl)) (mvT hZ (own_k hw 99 rfl)) (by decide) (backOf (W := 0) (own_lc l Z a0 hw [] t ii fmt kb zz vl bb cc h0 n0 Z0 pr1 pr4 pr5 pr9 pr10 pr11 pr12) hZ (own_k hw 99 rfl) (own_k hw 85 rfl) (by decide) (by decide)) (g := (mkF m 12 #[.val (.ref x0), .val (.int ii)] [(.int ii), (.ref t)])) rfl hml.symm  (argsL := [(.ref t), (.int ii)]) (rest := []) (lenOf own_pd5 rfl) rfl (own_w0 rfl rfl) (hb hby d15_12) (fun _ _ => ⟨rfl, e17, (by decide : 0 + 0 ≤ 0), (by decide : 0 + 0 ≤ 0)⟩)
  dsimp only [Pt.U, Pt.locs, Pt.cells, Pt.slots] at X18 l18 y18 z18 st18 hQ18
  subst l18 y18 z18
  obtain ⟨rfl, N18, e18⟩ := hQ18
  have N19 := Fr.app N16 N18
  refine own_st (T' := T18) (g' := (mkF m 15 #[.val (.ref x0), .val (.int ii)] [(.int cc)])) st18 ?_
  obtain ⟨fs, hr, hrun, hended, hW, hsame⟩ := X18.leave (v := some (.int (nar .char cc))) (fun h => by rw [Bd.returns] at h; cases h)
  refine own_end (retN X18 hx (t := .char) Bd.returns (by simp) (hb hby d15_15) hr) ⟨_, hrun, hended, _, _, rfl, ?_, ⟨_, rfl⟩, hW, hsame.mono (by decide) (by decide)⟩
  show own_caQ Z _ _ _ _ _ _ _ _ _ _ h0 n0 _ T18.heap _
  rw [e18]
  exact ⟨(by rw [pr13]), N19, rfl⟩
theorem d14_0 : decode jdk_43_method_13_code 0 = .ok (.aload_n 0, 1) := by decide +kernel
theorem d14_1 : decode jdk_43_method_13_code 1 = .ok (.arraylength, 1) := by decide +kernel
theorem d14_2 : decode jdk_43_method_13_code 2 = .ok (.aload_n 1, 1) := by decide +kernel
theorem d14_3 : decode jdk_43_method_13_code 3 = .ok (.arraylength, 1) := by decide +kernel
theorem d14_4 : decode jdk_43_method_13_code 4 = .ok (.if_icmp .ne 30, 3) := by decide +kernel
theorem d14_34 : decode jdk_43_method_13_code 34 = .ok (.iconst 0, 1) := by decide +kernel
theorem d14_35 : decode jdk_43_method_13_code 35 = .ok (.ireturn, 1) := by decide +kernel
theorem own_ef5 (m : MethodId) (x0 : Addr) (x1 : Addr) : entryFrame m #[(.ref x0), (.ref x1)] 3 = mkF m 0 #[.val (.ref x0), .val (.ref x1), .unset] [] := by first | (simp [entryFrame, mkF, argsToLocals, Value.category]; done) | rfl
def own_ledQ (Z : State) (t : Addr) (y : Addr) (kt : ClassId) (ky : ClassId) (z1 : Int32) (z2 : Int32) (vt : List Value) (vy : List Value) (h0 : Heap) (n0 : Nat) (v : Option Value) (h : Heap) (L : List Loc) : Prop := v = some (.int 0) ∧ Fr n0 L ∧ h = h0
abbrev own_ledR : Room := { frames := 0, cells := 0, slots := 0, locals := 0 }
theorem own_led (l : Launch) (Z : State) (a0 : Array Value) (hw : ∀ d ∈ tables_1, d.before a0 Z = true) (ws : List Jvm.Cond) (t : Addr) (y : Addr) (kt : ClassId) (ky : ClassId) (z1 : Int32) (z2 : Int32) (vt : List Value) (vy : List Value) (h0 : Heap) (n0 : Nat) (Z0 : n0 ≤ h0.size) (pr1 : Arv Z h0 t kt .byte z1 vt (.int 0)) (pr2 : Arv Z h0 y ky .byte z2 vy (.int 0)) (pr3 : ¬ z1 = z2) :
    own_M l yN8 jdk_43_method_13_code 3 (some .boolean) ws own_ledR #[(.ref t), (.ref y)] Z h0 (own_ledQ Z t y kt ky z1 z2 vt vy h0 n0) := by
  refine own_go (plainFor_of_name own_pn3) (fun m => own_ef5 m t y ) ?_
  intro p e s m below meth c s₁ Bd hx hby hml hZ hh hown hnm X0 e0
  have N0 := Fr.nil n0
  refine own_st (T' := s₁) (g' := (mkF m 1 #[.val (.ref t), .val (.ref y), .unset] [(.ref t)])) (fun _ kt => XS.aloadN X0.here hx rfl (hb hby d14_0) rfl rfl kt) ?_
  refine own_st (T' := s₁) (g' := (mkF m 2 #[.val (.ref t), .val (.ref y), .unset] [(.int z1)])) (own_alen X0 hx hZ e0 pr1 (g := (mkF m 1 #[.val (.ref t), .val (.ref y), .unset] [(.ref t)])) rfl rfl (hb hby d14_1)) ?_
  refine own_st (T' := s₁) (g' := (mkF m 3 #[.val (.ref t), .val (.ref y), .unset] [(.ref y), (.int z1)])) (fun _ kt => XS.aloadN X0.here hx rfl (hb hby d14_2) rfl rfl kt) ?_
  refine own_st (T' := s₁) (g' := (mkF m 4 #[.val (.ref t), .val (.ref y), .unset] [(.int z2), (.int z1)])) (own_alen X0 hx hZ e0 pr2 (g := (mkF m 3 #[.val (.ref t), .val (.ref y), .unset] [(.ref y), (.int z1)])) rfl rfl (hb hby d14_3)) ?_
  refine own_st (T' := s₁) (g' := (mkF m 35 #[.val (.ref t), .val (.ref y), .unset] [(.int 0)])) (fun _ kt => XS.icmpYes X0.here hx rfl (pc0 := 4) (pc' := 34) rfl (hb hby d14_4) rfl (XT.ii_ne_t pr3) (by decide) (by decide) (XS.iconst X0.here hx rfl (hb hby d14_34) kt)) ?_
  obtain ⟨fs, hr, hrun, hended, hW, hsame⟩ := X0.leave (v := some (.int 0)) (fun h => by rw [Bd.returns] at h; cases h)
  refine own_end (retN X0 hx (t := .boolean) Bd.returns (by simp) (hb hby d14_35) hr) ⟨_, hrun, hended, _, _, rfl, ?_, ⟨_, rfl⟩, hW, hsame.mono (by decide) (by decide)⟩
  show own_ledQ Z _ _ _ _ _ _ _ _ h0 n0 _ s₁.heap _
  rw [e0]
  exact ⟨rfl, N0, rfl⟩
theorem d14_7 : decode jdk_43_method_13_code 7 = .ok (.iconst 0, 1) := by decide +kernel
theorem d14_8 : decode jdk_43_method_13_code 8 = .ok (.istore_n 2, 1) := by decide +kernel
theorem d14_9 : decode jdk_43_method_13_code 9 = .ok (.iload_n 2, 1) := by decide +kernel
theorem d14_10 : decode jdk_43_method_13_code 10 = .ok (.aload_n 0, 1) := by decide +kernel
theorem d14_11 : decode jdk_43_method_13_code 11 = .ok (.arraylength, 1) := by decide +kernel
theorem d14_12 : decode jdk_43_method_13_code 12 = .ok (.if_icmp .ge 20, 3) := by decide +kernel
theorem d14_15 : decode jdk_43_method_13_code 15 = .ok (.aload_n 0, 1) := by decide +kernel
theorem d14_16 : decode jdk_43_method_13_code 16 = .ok (.iload_n 2, 1) := by decide +kernel
theorem d14_17 : decode jdk_43_method_13_code 17 = .ok (.baload, 1) := by decide +kernel
theorem d14_18 : decode jdk_43_method_13_code 18 = .ok (.aload_n 1, 1) := by decide +kernel
theorem d14_19 : decode jdk_43_method_13_code 19 = .ok (.iload_n 2, 1) := by decide +kernel
theorem d14_20 : decode jdk_43_method_13_code 20 = .ok (.baload, 1) := by decide +kernel
theorem d14_21 : decode jdk_43_method_13_code 21 = .ok (.if_icmp .eq 5, 3) := by decide +kernel
theorem d14_26 : decode jdk_43_method_13_code 26 = .ok (.iinc 2 1, 3) := by decide +kernel
theorem d14_29 : decode jdk_43_method_13_code 29 = .ok (.goto (-20), 3) := by decide +kernel
theorem d14_32 : decode jdk_43_method_13_code 32 = .ok (.iconst 1, 1) := by decide +kernel
theorem d14_33 : decode jdk_43_method_13_code 33 = .ok (.ireturn, 1) := by decide +kernel
theorem d14_24 : decode jdk_43_method_13_code 24 = .ok (.iconst 0, 1) := by decide +kernel
theorem d14_25 : decode jdk_43_method_13_code 25 = .ok (.ireturn, 1) := by decide +kernel
def own_le6Q (Z : State) (t : Addr) (y : Addr) (kt : ClassId) (ky : ClassId) (x0 : Int32) (x1 : Int32) (x2 : Int32) (x3 : Int32) (x4 : Int32) (x5 : Int32) (h0 : Heap) (n0 : Nat) (v : Option Value) (h : Heap) (L : List Loc) : Prop := v = some (.int (own_m6 x0 x1 x2 x3 x4 x5)) ∧ Fr n0 L ∧ h = h0
abbrev own_le6R : Room := { frames := 0, cells := 0, slots := 0, locals := 0 }
theorem own_le6 (l : Launch) (Z : State) (a0 : Array Value) (hw : ∀ d ∈ tables_1, d.before a0 Z = true) (ws : List Jvm.Cond) (t : Addr) (y : Addr) (kt : ClassId) (ky : ClassId) (x0 : Int32) (x1 : Int32) (x2 : Int32) (x3 : Int32) (x4 : Int32) (x5 : Int32) (h0 : Heap) (n0 : Nat) (Z0 : n0 ≤ h0.size) (pr1 : Arv Z h0 t kt .byte (6 : Int32) [(.int 115), (.int 116), (.int 114), (.int 105), (.int 99), (.int 116)] (.int 0)) (pr2 : Arv Z h0 y ky .byte (6 : Int32) [(.int x0.toInt8.toInt32), (.int x1.toInt8.toInt32), (.int x2.toInt8.toInt32), (.int x3.toInt8.toInt32), (.int x4.toInt8.toInt32), (.int x5.toInt8.toInt32)] (.int 0)) (pr3 : own_cc x0) (pr4 : own_cc x1) (pr5 : own_cc x2) (pr6 : own_cc x3) (pr7 : own_cc x4) (pr8 : own_cc x5) :
    own_M l yN8 jdk_43_method_13_code 3 (some .boolean) ws own_le6R #[(.ref t), (.ref y)] Z h0 (own_le6Q Z t y kt ky x0 x1 x2 x3 x4 x5 h0 n0) := by
  refine own_go (plainFor_of_name own_pn3) (fun m => own_ef5 m t y ) ?_
  intro p e s m below meth c s₁ Bd hx hby hml hZ hh hown hnm X0 e0
  have N0 := Fr.nil n0
  refine own_st (T' := s₁) (g' := (mkF m 1 #[.val (.ref t), .val (.ref y), .unset] [(.ref t)])) (fun _ kt => XS.aloadN X0.here hx rfl (hb hby d14_0) rfl rfl kt) ?_
  refine own_st (T' := s₁) (g' := (mkF m 2 #[.val (.ref t), .val (.ref y), .unset] [(.int 6)])) (own_alen X0 hx hZ e0 pr1 (g := (mkF m 1 #[.val (.ref t), .val (.ref y), .unset] [(.ref t)])) rfl rfl (hb hby d14_1)) ?_
  refine own_st (T' := s₁) (g' := (mkF m 3 #[.val (.ref t), .val (.ref y), .unset] [(.ref y), (.int 6)])) (fun _ kt => XS.aloadN X0.here hx rfl (hb hby d14_2) rfl rfl kt) ?_
  refine own_st (T' := s₁) (g' := (mkF m 4 #[.val (.ref t), .val (.ref y), .unset] [(.int 6), (.int 6)])) (own_alen X0 hx hZ e0 pr2 (g := (mkF m 3 #[.val (.ref t), .val (.ref y), .unset] [(.ref y), (.int 6)])) rfl rfl (hb hby d14_3)) ?_
  refine own_st (T' := s₁) (g' := (mkF m 11 #[.val (.ref t), .val (.ref y), .val (.int 0)] [(.ref t), (.int 0)])) (fun _ kt => XS.icmpNo X0.here hx rfl (hb hby d14_4) rfl (XT.ii_ne_f (by decide)) (XS.iconst X0.here hx rfl (hb hby d14_7) (XS.istoreN X0.here hx rfl (hb hby d14_8) rfl (l' := #[.val (.ref t), .val (.ref y), .val (.int 0)]) rfl (XS.iloadN X0.here hx rfl (hb hby d14_9) rfl (XS.aloadN X0.here hx rfl (hb hby d14_10) rfl rfl kt))))) ?_
  refine own_st (T' := s₁) (g' := (mkF m 12 #[.val (.ref t), .val (.ref y), .val (.int 0)] [(.int 6), (.int 0)])) (own_alen X0 hx hZ e0 pr1 (g := (mkF m 11 #[.val (.ref t), .val (.ref y), .val (.int 0)] [(.ref t), (.int 0)])) rfl rfl (hb hby d14_11)) ?_
  refine own_st (T' := s₁) (g' := (mkF m 17 #[.val (.ref t), .val (.ref y), .val (.int 0)] [(.int 0), (.ref t)])) (fun _ kt => XS.icmpNo X0.here hx rfl (hb hby d14_12) rfl (XT.ii_ge_f (by decide)) (XS.aloadN X0.here hx rfl (hb hby d14_15) rfl rfl (XS.iloadN X0.here hx rfl (hb hby d14_16) rfl kt))) ?_
  refine own_st (T' := s₁) (g' := (mkF m 18 #[.val (.ref t), .val (.ref y), .val (.int 0)] [(.int 115)])) (own_bal X0 hx hZ e0 pr1 ⟨by decide, by decide⟩ rfl (g := (mkF m 17 #[.val (.ref t), .val (.ref y), .val (.int 0)] [(.int 0), (.ref t)])) rfl rfl (hb hby d14_17)) ?_
  refine own_st (T' := s₁) (g' := (mkF m 20 #[.val (.ref t), .val (.ref y), .val (.int 0)] [(.int 0), (.ref y), (.int 115)])) (fun _ kt => XS.aloadN X0.here hx rfl (hb hby d14_18) rfl rfl (XS.iloadN X0.here hx rfl (hb hby d14_19) rfl kt)) ?_
  refine own_st (T' := s₁) (g' := (mkF m 21 #[.val (.ref t), .val (.ref y), .val (.int 0)] [(.int x0.toInt8.toInt32), (.int 115)])) (own_bal X0 hx hZ e0 pr2 ⟨by decide, by decide⟩ rfl (g := (mkF m 20 #[.val (.ref t), .val (.ref y), .val (.int 0)] [(.int 0), (.ref y), (.int 115)])) rfl rfl (hb hby d14_20)) ?_
  by_cases hc20 : (115 : Int32) = x0.toInt8.toInt32
  ·
    refine own_st (T' := s₁) (g' := (mkF m 11 #[.val (.ref t), .val (.ref y), .val (.int 1)] [(.ref t), (.int 1)])) (fun _ kt => XS.icmpYes X0.here hx rfl (pc0 := 21) (pc' := 26) rfl (hb hby d14_21) rfl (XT.ii_eq_t hc20) (by decide) (by decide) (XS.iinc X0.here hx rfl (hb hby d14_26) rfl (l' := #[.val (.ref t), .val (.ref y), .val (.int 1)]) rfl (XS.goto X0.here hx rfl (pc0 := 29) (pc' := 9) rfl (hb hby d14_29) (by decide) (by decide) (XS.iloadN X0.here hx rfl (hb hby d14_9) rfl (XS.aloadN X0.here hx rfl (hb hby d14_10) rfl rfl kt))))) ?_
    refine own_st (T' := s₁) (g' := (mkF m 12 #[.val (.ref t), .val (.ref y), .val (.int 1)] [(.int 6), (.int 1)])) (own_alen X0 hx hZ e0 pr1 (g := (mkF m 11 #[.val (.ref t), .val (.ref y), .val (.int 1)] [(.ref t), (.int 1)])) rfl rfl (hb hby d14_11)) ?_
    refine own_st (T' := s₁) (g' := (mkF m 17 #[.val (.ref t), .val (.ref y), .val (.int 1)] [(.int 1), (.ref t)])) (fun _ kt => XS.icmpNo X0.here hx rfl (hb hby d14_12) rfl (XT.ii_ge_f (by decide)) (XS.aloadN X0.here hx rfl (hb hby d14_15) rfl rfl (XS.iloadN X0.here hx rfl (hb hby d14_16) rfl kt))) ?_
    refine own_st (T' := s₁) (g' := (mkF m 18 #[.val (.ref t), .val (.ref y), .val (.int 1)] [(.int 116)])) (own_bal X0 hx hZ e0 pr1 ⟨by decide, by decide⟩ rfl (g := (mkF m 17 #[.val (.ref t), .val (.ref y), .val (.int 1)] [(.int 1), (.ref t)])) rfl rfl (hb hby d14_17)) ?_
    refine own_st (T' := s₁) (g' := (mkF m 20 #[.val (.ref t), .val (.ref y), .val (.int 1)] [(.int 1), (.ref y), (.int 116)])) (fun _ kt => XS.aloadN X0.here hx rfl (hb hby d14_18) rfl rfl (XS.iloadN X0.here hx rfl (hb hby d14_19) rfl kt)) ?_
    refine own_st (T' := s₁) (g' := (mkF m 21 #[.val (.ref t), .val (.ref y), .val (.int 1)] [(.int x1.toInt8.toInt32), (.int 116)])) (own_bal X0 hx hZ e0 pr2 ⟨by decide, by decide⟩ rfl (g := (mkF m 20 #[.val (.ref t), .val (.ref y), .val (.int 1)] [(.int 1), (.ref y), (.int 116)])) rfl rfl (hb hby d14_20)) ?_
    by_cases hc21 : (116 : Int32) = x1.toInt8.toInt32
    ·
      refine own_st (T' := s₁) (g' := (mkF m 11 #[.val (.ref t), .val (.ref y), .val (.int 2)] [(.ref t), (.int 2)])) (fun _ kt => XS.icmpYes X0.here hx rfl (pc0 := 21) (pc' := 26) rfl (hb hby d14_21) rfl (XT.ii_eq_t hc21) (by decide) (by decide) (XS.iinc X0.here hx rfl (hb hby d14_26) rfl (l' := #[.val (.ref t), .val (.ref y), .val (.int 2)]) rfl (XS.goto X0.here hx rfl (pc0 := 29) (pc' := 9) rfl (hb hby d14_29) (by decide) (by decide) (XS.iloadN X0.here hx rfl (hb hby d14_9) rfl (XS.aloadN X0.here hx rfl (hb hby d14_10) rfl rfl kt))))) ?_
      refine own_st (T' := s₁) (g' := (mkF m 12 #[.val (.ref t), .val (.ref y), .val (.int 2)] [(.int 6), (.int 2)])) (own_alen X0 hx hZ e0 pr1 (g := (mkF m 11 #[.val (.ref t), .val (.ref y), .val (.int 2)] [(.ref t), (.int 2)])) rfl rfl (hb hby d14_11)) ?_
      refine own_st (T' := s₁) (g' := (mkF m 17 #[.val (.ref t), .val (.ref y), .val (.int 2)] [(.int 2), (.ref t)])) (fun _ kt => XS.icmpNo X0.here hx rfl (hb hby d14_12) rfl (XT.ii_ge_f (by decide)) (XS.aloadN X0.here hx rfl (hb hby d14_15) rfl rfl (XS.iloadN X0.here hx rfl (hb hby d14_16) rfl kt))) ?_
      refine own_st (T' := s₁) (g' := (mkF m 18 #[.val (.ref t), .val (.ref y), .val (.int 2)] [(.int 114)])) (own_bal X0 hx hZ e0 pr1 ⟨by decide, by decide⟩ rfl (g := (mkF m 17 #[.val (.ref t), .val (.ref y), .val (.int 2)] [(.int 2), (.ref t)])) rfl rfl (hb hby d14_17)) ?_
      refine own_st (T' := s₁) (g' := (mkF m 20 #[.val (.ref t), .val (.ref y), .val (.int 2)] [(.int 2), (.ref y), (.int 114)])) (fun _ kt => XS.aloadN X0.here hx rfl (hb hby d14_18) rfl rfl (XS.iloadN X0.here hx rfl (hb hby d14_19) rfl kt)) ?_
      refine own_st (T' := s₁) (g' := (mkF m 21 #[.val (.ref t), .val (.ref y), .val (.int 2)] [(.int x2.toInt8.toInt32), (.int 114)])) (own_bal X0 hx hZ e0 pr2 ⟨by decide, by decide⟩ rfl (g := (mkF m 20 #[.val (.ref t), .val (.ref y), .val (.int 2)] [(.int 2), (.ref y), (.int 114)])) rfl rfl (hb hby d14_20)) ?_
      by_cases hc22 : (114 : Int32) = x2.toInt8.toInt32
      ·
        refine own_st (T' := s₁) (g' := (mkF m 11 #[.val (.ref t), .val (.ref y), .val (.int 3)] [(.ref t), (.int 3)])) (fun _ kt => XS.icmpYes X0.here hx rfl (pc0 := 21) (pc' := 26) rfl (hb hby d14_21) rfl (XT.ii_eq_t hc22) (by decide) (by decide) (XS.iinc X0.here hx rfl (hb hby d14_26) rfl (l' := #[.val (.ref t), .val (.ref y), .val (.int 3)]) rfl (XS.goto X0.here hx rfl (pc0 := 29) (pc' := 9) rfl (hb hby d14_29) (by decide) (by decide) (XS.iloadN X0.here hx rfl (hb hby d14_9) rfl (XS.aloadN X0.here hx rfl (hb hby d14_10) rfl rfl kt))))) ?_
        refine own_st (T' := s₁) (g' := (mkF m 12 #[.val (.ref t), .val (.ref y), .val (.int 3)] [(.int 6), (.int 3)])) (own_alen X0 hx hZ e0 pr1 (g := (mkF m 11 #[.val (.ref t), .val (.ref y), .val (.int 3)] [(.ref t), (.int 3)])) rfl rfl (hb hby d14_11)) ?_
        refine own_st (T' := s₁) (g' := (mkF m 17 #[.val (.ref t), .val (.ref y), .val (.int 3)] [(.int 3), (.ref t)])) (fun _ kt => XS.icmpNo X0.here hx rfl (hb hby d14_12) rfl (XT.ii_ge_f (by decide)) (XS.aloadN X0.here hx rfl (hb hby d14_15) rfl rfl (XS.iloadN X0.here hx rfl (hb hby d14_16) rfl kt))) ?_
        refine own_st (T' := s₁) (g' := (mkF m 18 #[.val (.ref t), .val (.ref y), .val (.int 3)] [(.int 105)])) (own_bal X0 hx hZ e0 pr1 ⟨by decide, by decide⟩ rfl (g := (mkF m 17 #[.val (.ref t), .val (.ref y), .val (.int 3)] [(.int 3), (.ref t)])) rfl rfl (hb hby d14_17)) ?_
        refine own_st (T' := s₁) (g' := (mkF m 20 #[.val (.ref t), .val (.ref y), .val (.int 3)] [(.int 3), (.ref y), (.int 105)])) (fun _ kt => XS.aloadN X0.here hx rfl (hb hby d14_18) rfl rfl (XS.iloadN X0.here hx rfl (hb hby d14_19) rfl kt)) ?_
        refine own_st (T' := s₁) (g' := (mkF m 21 #[.val (.ref t), .val (.ref y), .val (.int 3)] [(.int x3.toInt8.toInt32), (.int 105)])) (own_bal X0 hx hZ e0 pr2 ⟨by decide, by decide⟩ rfl (g := (mkF m 20 #[.val (.ref t), .val (.ref y), .val (.int 3)] [(.int 3), (.ref y), (.int 105)])) rfl rfl (hb hby d14_20)) ?_
        by_cases hc23 : (105 : Int32) = x3.toInt8.toInt32
        ·
          refine own_st (T' := s₁) (g' := (mkF m 11 #[.val (.ref t), .val (.ref y), .val (.int 4)] [(.ref t), (.int 4)])) (fun _ kt => XS.icmpYes X0.here hx rfl (pc0 := 21) (pc' := 26) rfl (hb hby d14_21) rfl (XT.ii_eq_t hc23) (by decide) (by decide) (XS.iinc X0.here hx rfl (hb hby d14_26) rfl (l' := #[.val (.ref t), .val (.ref y), .val (.int 4)]) rfl (XS.goto X0.here hx rfl (pc0 := 29) (pc' := 9) rfl (hb hby d14_29) (by decide) (by decide) (XS.iloadN X0.here hx rfl (hb hby d14_9) rfl (XS.aloadN X0.here hx rfl (hb hby d14_10) rfl rfl kt))))) ?_
          refine own_st (T' := s₁) (g' := (mkF m 12 #[.val (.ref t), .val (.ref y), .val (.int 4)] [(.int 6), (.int 4)])) (own_alen X0 hx hZ e0 pr1 (g := (mkF m 11 #[.val (.ref t), .val (.ref y), .val (.int 4)] [(.ref t), (.int 4)])) rfl rfl (hb hby d14_11)) ?_
          refine own_st (T' := s₁) (g' := (mkF m 17 #[.val (.ref t), .val (.ref y), .val (.int 4)] [(.int 4), (.ref t)])) (fun _ kt => XS.icmpNo X0.here hx rfl (hb hby d14_12) rfl (XT.ii_ge_f (by decide)) (XS.aloadN X0.here hx rfl (hb hby d14_15) rfl rfl (XS.iloadN X0.here hx rfl (hb hby d14_16) rfl kt))) ?_
          refine own_st (T' := s₁) (g' := (mkF m 18 #[.val (.ref t), .val (.ref y), .val (.int 4)] [(.int 99)])) (own_bal X0 hx hZ e0 pr1 ⟨by decide, by decide⟩ rfl (g := (mkF m 17 #[.val (.ref t), .val (.ref y), .val (.int 4)] [(.int 4), (.ref t)])) rfl rfl (hb hby d14_17)) ?_
          refine own_st (T' := s₁) (g' := (mkF m 20 #[.val (.ref t), .val (.ref y), .val (.int 4)] [(.int 4), (.ref y), (.int 99)])) (fun _ kt => XS.aloadN X0.here hx rfl (hb hby d14_18) rfl rfl (XS.iloadN X0.here hx rfl (hb hby d14_19) rfl kt)) ?_
          refine own_st (T' := s₁) (g' := (mkF m 21 #[.val (.ref t), .val (.ref y), .val (.int 4)] [(.int x4.toInt8.toInt32), (.int 99)])) (own_bal X0 hx hZ e0 pr2 ⟨by decide, by decide⟩ rfl (g := (mkF m 20 #[.val (.ref t), .val (.ref y), .val (.int 4)] [(.int 4), (.ref y), (.int 99)])) rfl rfl (hb hby d14_20)) ?_
          by_cases hc24 : (99 : Int32) = x4.toInt8.toInt32
          ·
            refine own_st (T' := s₁) (g' := (mkF m 11 #[.val (.ref t), .val (.ref y), .val (.int 5)] [(.ref t), (.int 5)])) (fun _ kt => XS.icmpYes X0.here hx rfl (pc0 := 21) (pc' := 26) rfl (hb hby d14_21) rfl (XT.ii_eq_t hc24) (by decide) (by decide) (XS.iinc X0.here hx rfl (hb hby d14_26) rfl (l' := #[.val (.ref t), .val (.ref y), .val (.int 5)]) rfl (XS.goto X0.here hx rfl (pc0 := 29) (pc' := 9) rfl (hb hby d14_29) (by decide) (by decide) (XS.iloadN X0.here hx rfl (hb hby d14_9) rfl (XS.aloadN X0.here hx rfl (hb hby d14_10) rfl rfl kt))))) ?_
            refine own_st (T' := s₁) (g' := (mkF m 12 #[.val (.ref t), .val (.ref y), .val (.int 5)] [(.int 6), (.int 5)])) (own_alen X0 hx hZ e0 pr1 (g := (mkF m 11 #[.val (.ref t), .val (.ref y), .val (.int 5)] [(.ref t), (.int 5)])) rfl rfl (hb hby d14_11)) ?_
            refine own_st (T' := s₁) (g' := (mkF m 17 #[.val (.ref t), .val (.ref y), .val (.int 5)] [(.int 5), (.ref t)])) (fun _ kt => XS.icmpNo X0.here hx rfl (hb hby d14_12) rfl (XT.ii_ge_f (by decide)) (XS.aloadN X0.here hx rfl (hb hby d14_15) rfl rfl (XS.iloadN X0.here hx rfl (hb hby d14_16) rfl kt))) ?_
            refine own_st (T' := s₁) (g' := (mkF m 18 #[.val (.ref t), .val (.ref y), .val (.int 5)] [(.int 116)])) (own_bal X0 hx hZ e0 pr1 ⟨by decide, by decide⟩ rfl (g := (mkF m 17 #[.val (.ref t), .val (.ref y), .val (.int 5)] [(.int 5), (.ref t)])) rfl rfl (hb hby d14_17)) ?_
            refine own_st (T' := s₁) (g' := (mkF m 20 #[.val (.ref t), .val (.ref y), .val (.int 5)] [(.int 5), (.ref y), (.int 116)])) (fun _ kt => XS.aloadN X0.here hx rfl (hb hby d14_18) rfl rfl (XS.iloadN X0.here hx rfl (hb hby d14_19) rfl kt)) ?_
            refine own_st (T' := s₁) (g' := (mkF m 21 #[.val (.ref t), .val (.ref y), .val (.int 5)] [(.int x5.toInt8.toInt32), (.int 116)])) (own_bal X0 hx hZ e0 pr2 ⟨by decide, by decide⟩ rfl (g := (mkF m 20 #[.val (.ref t), .val (.ref y), .val (.int 5)] [(.int 5), (.ref y), (.int 116)])) rfl rfl (hb hby d14_20)) ?_
            by_cases hc25 : (116 : Int32) = x5.toInt8.toInt32
            ·
              refine own_st (T' := s₁) (g' := (mkF m 11 #[.val (.ref t), .val (.ref y), .val (.int 6)] [(.ref t), (.int 6)])) (fun _ kt => XS.icmpYes X0.here hx rfl (pc0 := 21) (pc' := 26) rfl (hb hby d14_21) rfl (XT.ii_eq_t hc25) (by decide) (by decide) (XS.iinc X0.here hx rfl (hb hby d14_26) rfl (l' := #[.val (.ref t), .val (.ref y), .val (.int 6)]) rfl (XS.goto X0.here hx rfl (pc0 := 29) (pc' := 9) rfl (hb hby d14_29) (by decide) (by decide) (XS.iloadN X0.here hx rfl (hb hby d14_9) rfl (XS.aloadN X0.here hx rfl (hb hby d14_10) rfl rfl kt))))) ?_
              refine own_st (T' := s₁) (g' := (mkF m 12 #[.val (.ref t), .val (.ref y), .val (.int 6)] [(.int 6), (.int 6)])) (own_alen X0 hx hZ e0 pr1 (g := (mkF m 11 #[.val (.ref t), .val (.ref y), .val (.int 6)] [(.ref t), (.int 6)])) rfl rfl (hb hby d14_11)) ?_
              refine own_st (T' := s₁) (g' := (mkF m 33 #[.val (.ref t), .val (.ref y), .val (.int 6)] [(.int 1)])) (fun _ kt => XS.icmpYes X0.here hx rfl (pc0 := 12) (pc' := 32) rfl (hb hby d14_12) rfl (XT.ii_ge_t (by decide)) (by decide) (by decide) (XS.iconst X0.here hx rfl (hb hby d14_32) kt)) ?_
              obtain ⟨fs, hr, hrun, hended, hW, hsame⟩ := X0.leave (v := some (.int 1)) (fun h => by rw [Bd.returns] at h; cases h)
              refine own_end (retN X0 hx (t := .boolean) Bd.returns (by simp) (hb hby d14_33) hr) ⟨_, hrun, hended, _, _, rfl, ?_, ⟨_, rfl⟩, hW, hsame.mono (by decide) (by decide)⟩
              show own_le6Q Z _ _ _ _ _ _ _ _ _ _ h0 n0 _ s₁.heap _
              rw [e0]
              exact ⟨(congrArg (fun z => some (Value.int z)) (own_mt6 ⟨own_eqb pr3 hc20 (by decide), own_eqb pr4 hc21 (by decide), own_eqb pr5 hc22 (by decide), own_eqb pr6 hc23 (by decide), own_eqb pr7 hc24 (by decide), own_eqb pr8 hc25 (by decide)⟩)), N0, rfl⟩
            ·
              refine own_st (T' := s₁) (g' := (mkF m 25 #[.val (.ref t), .val (.ref y), .val (.int 5)] [(.int 0)])) (fun _ kt => XS.icmpNo X0.here hx rfl (hb hby d14_21) rfl (XT.ii_eq_f hc25) (XS.iconst X0.here hx rfl (hb hby d14_24) kt)) ?_
              obtain ⟨fs, hr, hrun, hended, hW, hsame⟩ := X0.leave (v := some (.int 0)) (fun h => by rw [Bd.returns] at h; cases h)
              refine own_end (retN X0 hx (t := .boolean) Bd.returns (by simp) (hb hby d14_25) hr) ⟨_, hrun, hended, _, _, rfl, ?_, ⟨_, rfl⟩, hW, hsame.mono (by decide) (by decide)⟩
              show own_le6Q Z _ _ _ _ _ _ _ _ _ _ h0 n0 _ s₁.heap _
              rw [e0]
              exact ⟨(congrArg (fun z => some (Value.int z)) (own_mf6 (fun q => hc25 (by rw [q.2.2.2.2.2]; decide)))), N0, rfl⟩
          ·
            refine own_st (T' := s₁) (g' := (mkF m 25 #[.val (.ref t), .val (.ref y), .val (.int 4)] [(.int 0)])) (fun _ kt => XS.icmpNo X0.here hx rfl (hb hby d14_21) rfl (XT.ii_eq_f hc24) (XS.iconst X0.here hx rfl (hb hby d14_24) kt)) ?_
            obtain ⟨fs, hr, hrun, hended, hW, hsame⟩ := X0.leave (v := some (.int 0)) (fun h => by rw [Bd.returns] at h; cases h)
            refine own_end (retN X0 hx (t := .boolean) Bd.returns (by simp) (hb hby d14_25) hr) ⟨_, hrun, hended, _, _, rfl, ?_, ⟨_, rfl⟩, hW, hsame.mono (by decide) (by decide)⟩
            show own_le6Q Z _ _ _ _ _ _ _ _ _ _ h0 n0 _ s₁.heap _
            rw [e0]
            exact ⟨(congrArg (fun z => some (Value.int z)) (own_mf6 (fun q => hc24 (by rw [q.2.2.2.2.1]; decide)))), N0, rfl⟩
        ·
          refine own_st (T' := s₁) (g' := (mkF m 25 #[.val (.ref t), .val (.ref y), .val (.int 3)] [(.int 0)])) (fun _ kt => XS.icmpNo X0.here hx rfl (hb hby d14_21) rfl (XT.ii_eq_f hc23) (XS.iconst X0.here hx rfl (hb hby d14_24) kt)) ?_
          obtain ⟨fs, hr, hrun, hended, hW, hsame⟩ := X0.leave (v := some (.int 0)) (fun h => by rw [Bd.returns] at h; cases h)
          refine own_end (retN X0 hx (t := .boolean) Bd.returns (by simp) (hb hby d14_25) hr) ⟨_, hrun, hended, _, _, rfl, ?_, ⟨_, rfl⟩, hW, hsame.mono (by decide) (by decide)⟩
          show own_le6Q Z _ _ _ _ _ _ _ _ _ _ h0 n0 _ s₁.heap _
          rw [e0]
          exact ⟨(congrArg (fun z => some (Value.int z)) (own_mf6 (fun q => hc23 (by rw [q.2.2.2.1]; decide)))), N0, rfl⟩
      ·
        refine own_st (T' := s₁) (g' := (mkF m 25 #[.val (.ref t), .val (.ref y), .val (.int 2)] [(.int 0)])) (fun _ kt => XS.icmpNo X0.here hx rfl (hb hby d14_21) rfl (XT.ii_eq_f hc22) (XS.iconst X0.here hx rfl (hb hby d14_24) kt)) ?_
        obtain ⟨fs, hr, hrun, hended, hW, hsame⟩ := X0.leave (v := some (.int 0)) (fun h => by rw [Bd.returns] at h; cases h)
        refine own_end (retN X0 hx (t := .boolean) Bd.returns (by simp) (hb hby d14_25) hr) ⟨_, hrun, hended, _, _, rfl, ?_, ⟨_, rfl⟩, hW, hsame.mono (by decide) (by decide)⟩
        show own_le6Q Z _ _ _ _ _ _ _ _ _ _ h0 n0 _ s₁.heap _
        rw [e0]
        exact ⟨(congrArg (fun z => some (Value.int z)) (own_mf6 (fun q => hc22 (by rw [q.2.2.1]; decide)))), N0, rfl⟩
    ·
      refine own_st (T' := s₁) (g' := (mkF m 25 #[.val (.ref t), .val (.ref y), .val (.int 1)] [(.int 0)])) (fun _ kt => XS.icmpNo X0.here hx rfl (hb hby d14_21) rfl (XT.ii_eq_f hc21) (XS.iconst X0.here hx rfl (hb hby d14_24) kt)) ?_
      obtain ⟨fs, hr, hrun, hended, hW, hsame⟩ := X0.leave (v := some (.int 0)) (fun h => by rw [Bd.returns] at h; cases h)
      refine own_end (retN X0 hx (t := .boolean) Bd.returns (by simp) (hb hby d14_25) hr) ⟨_, hrun, hended, _, _, rfl, ?_, ⟨_, rfl⟩, hW, hsame.mono (by decide) (by decide)⟩
      show own_le6Q Z _ _ _ _ _ _ _ _ _ _ h0 n0 _ s₁.heap _
      rw [e0]
      exact ⟨(congrArg (fun z => some (Value.int z)) (own_mf6 (fun q => hc21 (by rw [q.2.1]; decide)))), N0, rfl⟩
  ·
    refine own_st (T' := s₁) (g' := (mkF m 25 #[.val (.ref t), .val (.ref y), .val (.int 0)] [(.int 0)])) (fun _ kt => XS.icmpNo X0.here hx rfl (hb hby d14_21) rfl (XT.ii_eq_f hc20) (XS.iconst X0.here hx rfl (hb hby d14_24) kt)) ?_
    obtain ⟨fs, hr, hrun, hended, hW, hsame⟩ := X0.leave (v := some (.int 0)) (fun h => by rw [Bd.returns] at h; cases h)
    refine own_end (retN X0 hx (t := .boolean) Bd.returns (by simp) (hb hby d14_25) hr) ⟨_, hrun, hended, _, _, rfl, ?_, ⟨_, rfl⟩, hW, hsame.mono (by decide) (by decide)⟩
    show own_le6Q Z _ _ _ _ _ _ _ _ _ _ h0 n0 _ s₁.heap _
    rw [e0]
    exact ⟨(congrArg (fun z => some (Value.int z)) (own_mf6 (fun q => hc20 (by rw [q.1]; decide)))), N0, rfl⟩
def own_le7Q (Z : State) (t : Addr) (y : Addr) (kt : ClassId) (ky : ClassId) (x0 : Int32) (x1 : Int32) (x2 : Int32) (x3 : Int32) (x4 : Int32) (x5 : Int32) (x6 : Int32) (h0 : Heap) (n0 : Nat) (v : Option Value) (h : Heap) (L : List Loc) : Prop := v = some (.int (own_m7 x0 x1 x2 x3 x4 x5 x6)) ∧ Fr n0 L ∧ h = h0
abbrev own_le7R : Room := { frames := 0, cells := 0, slots := 0, locals := 0 }
theorem own_le7 (l : Launch) (Z : State) (a0 : Array Value) (hw : ∀ d ∈ tables_1, d.before a0 Z = true) (ws : List Jvm.Cond) (t : Addr) (y : Addr) (kt : ClassId) (ky : ClassId) (x0 : Int32) (x1 : Int32) (x2 : Int32) (x3 : Int32) (x4 : Int32) (x5 : Int32) (x6 : Int32) (h0 : Heap) (n0 : Nat) (Z0 : n0 ≤ h0.size) (pr1 : Arv Z h0 t kt .byte (7 : Int32) [(.int 108), (.int 101), (.int 110), (.int 105), (.int 101), (.int 110), (.int 116)] (.int 0)) (pr2 : Arv Z h0 y ky .byte (7 : Int32) [(.int x0.toInt8.toInt32), (.int x1.toInt8.toInt32), (.int x2.toInt8.toInt32), (.int x3.toInt8.toInt32), (.int x4.toInt8.toInt32), (.int x5.toInt8.toInt32), (.int x6.toInt8.toInt32)] (.int 0)) (pr3 : own_cc x0) (pr4 : own_cc x1) (pr5 : own_cc x2) (pr6 : own_cc x3) (pr7 : own_cc x4) (pr8 : own_cc x5) (pr9 : own_cc x6) :
    own_M l yN8 jdk_43_method_13_code 3 (some .boolean) ws own_le7R #[(.ref t), (.ref y)] Z h0 (own_le7Q Z t y kt ky x0 x1 x2 x3 x4 x5 x6 h0 n0) := by
  refine own_go (plainFor_of_name own_pn3) (fun m => own_ef5 m t y ) ?_
  intro p e s m below meth c s₁ Bd hx hby hml hZ hh hown hnm X0 e0
  have N0 := Fr.nil n0
  refine own_st (T' := s₁) (g' := (mkF m 1 #[.val (.ref t), .val (.ref y), .unset] [(.ref t)])) (fun _ kt => XS.aloadN X0.here hx rfl (hb hby d14_0) rfl rfl kt) ?_
  refine own_st (T' := s₁) (g' := (mkF m 2 #[.val (.ref t), .val (.ref y), .unset] [(.int 7)])) (own_alen X0 hx hZ e0 pr1 (g := (mkF m 1 #[.val (.ref t), .val (.ref y), .unset] [(.ref t)])) rfl rfl (hb hby d14_1)) ?_
  refine own_st (T' := s₁) (g' := (mkF m 3 #[.val (.ref t), .val (.ref y), .unset] [(.ref y), (.int 7)])) (fun _ kt => XS.aloadN X0.here hx rfl (hb hby d14_2) rfl rfl kt) ?_
  refine own_st (T' := s₁) (g' := (mkF m 4 #[.val (.ref t), .val (.ref y), .unset] [(.int 7), (.int 7)])) (own_alen X0 hx hZ e0 pr2 (g := (mkF m 3 #[.val (.ref t), .val (.ref y), .unset] [(.ref y), (.int 7)])) rfl rfl (hb hby d14_3)) ?_
  refine own_st (T' := s₁) (g' := (mkF m 11 #[.val (.ref t), .val (.ref y), .val (.int 0)] [(.ref t), (.int 0)])) (fun _ kt => XS.icmpNo X0.here hx rfl (hb hby d14_4) rfl (XT.ii_ne_f (by decide)) (XS.iconst X0.here hx rfl (hb hby d14_7) (XS.istoreN X0.here hx rfl (hb hby d14_8) rfl (l' := #[.val (.ref t), .val (.ref y), .val (.int 0)]) rfl (XS.iloadN X0.here hx rfl (hb hby d14_9) rfl (XS.aloadN X0.here hx rfl (hb hby d14_10) rfl rfl kt))))) ?_
  refine own_st (T' := s₁) (g' := (mkF m 12 #[.val (.ref t), .val (.ref y), .val (.int 0)] [(.int 7), (.int 0)])) (own_alen X0 hx hZ e0 pr1 (g := (mkF m 11 #[.val (.ref t), .val (.ref y), .val (.int 0)] [(.ref t), (.int 0)])) rfl rfl (hb hby d14_11)) ?_
  refine own_st (T' := s₁) (g' := (mkF m 17 #[.val (.ref t), .val (.ref y), .val (.int 0)] [(.int 0), (.ref t)])) (fun _ kt => XS.icmpNo X0.here hx rfl (hb hby d14_12) rfl (XT.ii_ge_f (by decide)) (XS.aloadN X0.here hx rfl (hb hby d14_15) rfl rfl (XS.iloadN X0.here hx rfl (hb hby d14_16) rfl kt))) ?_
  refine own_st (T' := s₁) (g' := (mkF m 18 #[.val (.ref t), .val (.ref y), .val (.int 0)] [(.int 108)])) (own_bal X0 hx hZ e0 pr1 ⟨by decide, by decide⟩ rfl (g := (mkF m 17 #[.val (.ref t), .val (.ref y), .val (.int 0)] [(.int 0), (.ref t)])) rfl rfl (hb hby d14_17)) ?_
  refine own_st (T' := s₁) (g' := (mkF m 20 #[.val (.ref t), .val (.ref y), .val (.int 0)] [(.int 0), (.ref y), (.int 108)])) (fun _ kt => XS.aloadN X0.here hx rfl (hb hby d14_18) rfl rfl (XS.iloadN X0.here hx rfl (hb hby d14_19) rfl kt)) ?_
  refine own_st (T' := s₁) (g' := (mkF m 21 #[.val (.ref t), .val (.ref y), .val (.int 0)] [(.int x0.toInt8.toInt32), (.int 108)])) (own_bal X0 hx hZ e0 pr2 ⟨by decide, by decide⟩ rfl (g := (mkF m 20 #[.val (.ref t), .val (.ref y), .val (.int 0)] [(.int 0), (.ref y), (.int 108)])) rfl rfl (hb hby d14_20)) ?_
  by_cases hc26 : (108 : Int32) = x0.toInt8.toInt32
  ·
    refine own_st (T' := s₁) (g' := (mkF m 11 #[.val (.ref t), .val (.ref y), .val (.int 1)] [(.ref t), (.int 1)])) (fun _ kt => XS.icmpYes X0.here hx rfl (pc0 := 21) (pc' := 26) rfl (hb hby d14_21) rfl (XT.ii_eq_t hc26) (by decide) (by decide) (XS.iinc X0.here hx rfl (hb hby d14_26) rfl (l' := #[.val (.ref t), .val (.ref y), .val (.int 1)]) rfl (XS.goto X0.here hx rfl (pc0 := 29) (pc' := 9) rfl (hb hby d14_29) (by decide) (by decide) (XS.iloadN X0.here hx rfl (hb hby d14_9) rfl (XS.aloadN X0.here hx rfl (hb hby d14_10) rfl rfl kt))))) ?_
    refine own_st (T' := s₁) (g' := (mkF m 12 #[.val (.ref t), .val (.ref y), .val (.int 1)] [(.int 7), (.int 1)])) (own_alen X0 hx hZ e0 pr1 (g := (mkF m 11 #[.val (.ref t), .val (.ref y), .val (.int 1)] [(.ref t), (.int 1)])) rfl rfl (hb hby d14_11)) ?_
    refine own_st (T' := s₁) (g' := (mkF m 17 #[.val (.ref t), .val (.ref y), .val (.int 1)] [(.int 1), (.ref t)])) (fun _ kt => XS.icmpNo X0.here hx rfl (hb hby d14_12) rfl (XT.ii_ge_f (by decide)) (XS.aloadN X0.here hx rfl (hb hby d14_15) rfl rfl (XS.iloadN X0.here hx rfl (hb hby d14_16) rfl kt))) ?_
    refine own_st (T' := s₁) (g' := (mkF m 18 #[.val (.ref t), .val (.ref y), .val (.int 1)] [(.int 101)])) (own_bal X0 hx hZ e0 pr1 ⟨by decide, by decide⟩ rfl (g := (mkF m 17 #[.val (.ref t), .val (.ref y), .val (.int 1)] [(.int 1), (.ref t)])) rfl rfl (hb hby d14_17)) ?_
    refine own_st (T' := s₁) (g' := (mkF m 20 #[.val (.ref t), .val (.ref y), .val (.int 1)] [(.int 1), (.ref y), (.int 101)])) (fun _ kt => XS.aloadN X0.here hx rfl (hb hby d14_18) rfl rfl (XS.iloadN X0.here hx rfl (hb hby d14_19) rfl kt)) ?_
    refine own_st (T' := s₁) (g' := (mkF m 21 #[.val (.ref t), .val (.ref y), .val (.int 1)] [(.int x1.toInt8.toInt32), (.int 101)])) (own_bal X0 hx hZ e0 pr2 ⟨by decide, by decide⟩ rfl (g := (mkF m 20 #[.val (.ref t), .val (.ref y), .val (.int 1)] [(.int 1), (.ref y), (.int 101)])) rfl rfl (hb hby d14_20)) ?_
    by_cases hc27 : (101 : Int32) = x1.toInt8.toInt32
    ·
      refine own_st (T' := s₁) (g' := (mkF m 11 #[.val (.ref t), .val (.ref y), .val (.int 2)] [(.ref t), (.int 2)])) (fun _ kt => XS.icmpYes X0.here hx rfl (pc0 := 21) (pc' := 26) rfl (hb hby d14_21) rfl (XT.ii_eq_t hc27) (by decide) (by decide) (XS.iinc X0.here hx rfl (hb hby d14_26) rfl (l' := #[.val (.ref t), .val (.ref y), .val (.int 2)]) rfl (XS.goto X0.here hx rfl (pc0 := 29) (pc' := 9) rfl (hb hby d14_29) (by decide) (by decide) (XS.iloadN X0.here hx rfl (hb hby d14_9) rfl (XS.aloadN X0.here hx rfl (hb hby d14_10) rfl rfl kt))))) ?_
      refine own_st (T' := s₁) (g' := (mkF m 12 #[.val (.ref t), .val (.ref y), .val (.int 2)] [(.int 7), (.int 2)])) (own_alen X0 hx hZ e0 pr1 (g := (mkF m 11 #[.val (.ref t), .val (.ref y), .val (.int 2)] [(.ref t), (.int 2)])) rfl rfl (hb hby d14_11)) ?_
      refine own_st (T' := s₁) (g' := (mkF m 17 #[.val (.ref t), .val (.ref y), .val (.int 2)] [(.int 2), (.ref t)])) (fun _ kt => XS.icmpNo X0.here hx rfl (hb hby d14_12) rfl (XT.ii_ge_f (by decide)) (XS.aloadN X0.here hx rfl (hb hby d14_15) rfl rfl (XS.iloadN X0.here hx rfl (hb hby d14_16) rfl kt))) ?_
      refine own_st (T' := s₁) (g' := (mkF m 18 #[.val (.ref t), .val (.ref y), .val (.int 2)] [(.int 110)])) (own_bal X0 hx hZ e0 pr1 ⟨by decide, by decide⟩ rfl (g := (mkF m 17 #[.val (.ref t), .val (.ref y), .val (.int 2)] [(.int 2), (.ref t)])) rfl rfl (hb hby d14_17)) ?_
      refine own_st (T' := s₁) (g' := (mkF m 20 #[.val (.ref t), .val (.ref y), .val (.int 2)] [(.int 2), (.ref y), (.int 110)])) (fun _ kt => XS.aloadN X0.here hx rfl (hb hby d14_18) rfl rfl (XS.iloadN X0.here hx rfl (hb hby d14_19) rfl kt)) ?_
      refine own_st (T' := s₁) (g' := (mkF m 21 #[.val (.ref t), .val (.ref y), .val (.int 2)] [(.int x2.toInt8.toInt32), (.int 110)])) (own_bal X0 hx hZ e0 pr2 ⟨by decide, by decide⟩ rfl (g := (mkF m 20 #[.val (.ref t), .val (.ref y), .val (.int 2)] [(.int 2), (.ref y), (.int 110)])) rfl rfl (hb hby d14_20)) ?_
      by_cases hc28 : (110 : Int32) = x2.toInt8.toInt32
      ·
        refine own_st (T' := s₁) (g' := (mkF m 11 #[.val (.ref t), .val (.ref y), .val (.int 3)] [(.ref t), (.int 3)])) (fun _ kt => XS.icmpYes X0.here hx rfl (pc0 := 21) (pc' := 26) rfl (hb hby d14_21) rfl (XT.ii_eq_t hc28) (by decide) (by decide) (XS.iinc X0.here hx rfl (hb hby d14_26) rfl (l' := #[.val (.ref t), .val (.ref y), .val (.int 3)]) rfl (XS.goto X0.here hx rfl (pc0 := 29) (pc' := 9) rfl (hb hby d14_29) (by decide) (by decide) (XS.iloadN X0.here hx rfl (hb hby d14_9) rfl (XS.aloadN X0.here hx rfl (hb hby d14_10) rfl rfl kt))))) ?_
        refine own_st (T' := s₁) (g' := (mkF m 12 #[.val (.ref t), .val (.ref y), .val (.int 3)] [(.int 7), (.int 3)])) (own_alen X0 hx hZ e0 pr1 (g := (mkF m 11 #[.val (.ref t), .val (.ref y), .val (.int 3)] [(.ref t), (.int 3)])) rfl rfl (hb hby d14_11)) ?_
        refine own_st (T' := s₁) (g' := (mkF m 17 #[.val (.ref t), .val (.ref y), .val (.int 3)] [(.int 3), (.ref t)])) (fun _ kt => XS.icmpNo X0.here hx rfl (hb hby d14_12) rfl (XT.ii_ge_f (by decide)) (XS.aloadN X0.here hx rfl (hb hby d14_15) rfl rfl (XS.iloadN X0.here hx rfl (hb hby d14_16) rfl kt))) ?_
        refine own_st (T' := s₁) (g' := (mkF m 18 #[.val (.ref t), .val (.ref y), .val (.int 3)] [(.int 105)])) (own_bal X0 hx hZ e0 pr1 ⟨by decide, by decide⟩ rfl (g := (mkF m 17 #[.val (.ref t), .val (.ref y), .val (.int 3)] [(.int 3), (.ref t)])) rfl rfl (hb hby d14_17)) ?_
        refine own_st (T' := s₁) (g' := (mkF m 20 #[.val (.ref t), .val (.ref y), .val (.int 3)] [(.int 3), (.ref y), (.int 105)])) (fun _ kt => XS.aloadN X0.here hx rfl (hb hby d14_18) rfl rfl (XS.iloadN X0.here hx rfl (hb hby d14_19) rfl kt)) ?_
        refine own_st (T' := s₁) (g' := (mkF m 21 #[.val (.ref t), .val (.ref y), .val (.int 3)] [(.int x3.toInt8.toInt32), (.int 105)])) (own_bal X0 hx hZ e0 pr2 ⟨by decide, by decide⟩ rfl (g := (mkF m 20 #[.val (.ref t), .val (.ref y), .val (.int 3)] [(.int 3), (.ref y), (.int 105)])) rfl rfl (hb hby d14_20)) ?_
        by_cases hc29 : (105 : Int32) = x3.toInt8.toInt32
        ·
          refine own_st (T' := s₁) (g' := (mkF m 11 #[.val (.ref t), .val (.ref y), .val (.int 4)] [(.ref t), (.int 4)])) (fun _ kt => XS.icmpYes X0.here hx rfl (pc0 := 21) (pc' := 26) rfl (hb hby d14_21) rfl (XT.ii_eq_t hc29) (by decide) (by decide) (XS.iinc X0.here hx rfl (hb hby d14_26) rfl (l' := #[.val (.ref t), .val (.ref y), .val (.int 4)]) rfl (XS.goto X0.here hx rfl (pc0 := 29) (pc' := 9) rfl (hb hby d14_29) (by decide) (by decide) (XS.iloadN X0.here hx rfl (hb hby d14_9) rfl (XS.aloadN X0.here hx rfl (hb hby d14_10) rfl rfl kt))))) ?_
          refine own_st (T' := s₁) (g' := (mkF m 12 #[.val (.ref t), .val (.ref y), .val (.int 4)] [(.int 7), (.int 4)])) (own_alen X0 hx hZ e0 pr1 (g := (mkF m 11 #[.val (.ref t), .val (.ref y), .val (.int 4)] [(.ref t), (.int 4)])) rfl rfl (hb hby d14_11)) ?_
          refine own_st (T' := s₁) (g' := (mkF m 17 #[.val (.ref t), .val (.ref y), .val (.int 4)] [(.int 4), (.ref t)])) (fun _ kt => XS.icmpNo X0.here hx rfl (hb hby d14_12) rfl (XT.ii_ge_f (by decide)) (XS.aloadN X0.here hx rfl (hb hby d14_15) rfl rfl (XS.iloadN X0.here hx rfl (hb hby d14_16) rfl kt))) ?_
          refine own_st (T' := s₁) (g' := (mkF m 18 #[.val (.ref t), .val (.ref y), .val (.int 4)] [(.int 101)])) (own_bal X0 hx hZ e0 pr1 ⟨by decide, by decide⟩ rfl (g := (mkF m 17 #[.val (.ref t), .val (.ref y), .val (.int 4)] [(.int 4), (.ref t)])) rfl rfl (hb hby d14_17)) ?_
          refine own_st (T' := s₁) (g' := (mkF m 20 #[.val (.ref t), .val (.ref y), .val (.int 4)] [(.int 4), (.ref y), (.int 101)])) (fun _ kt => XS.aloadN X0.here hx rfl (hb hby d14_18) rfl rfl (XS.iloadN X0.here hx rfl (hb hby d14_19) rfl kt)) ?_
          refine own_st (T' := s₁) (g' := (mkF m 21 #[.val (.ref t), .val (.ref y), .val (.int 4)] [(.int x4.toInt8.toInt32), (.int 101)])) (own_bal X0 hx hZ e0 pr2 ⟨by decide, by decide⟩ rfl (g := (mkF m 20 #[.val (.ref t), .val (.ref y), .val (.int 4)] [(.int 4), (.ref y), (.int 101)])) rfl rfl (hb hby d14_20)) ?_
          by_cases hc30 : (101 : Int32) = x4.toInt8.toInt32
          ·
            refine own_st (T' := s₁) (g' := (mkF m 11 #[.val (.ref t), .val (.ref y), .val (.int 5)] [(.ref t), (.int 5)])) (fun _ kt => XS.icmpYes X0.here hx rfl (pc0 := 21) (pc' := 26) rfl (hb hby d14_21) rfl (XT.ii_eq_t hc30) (by decide) (by decide) (XS.iinc X0.here hx rfl (hb hby d14_26) rfl (l' := #[.val (.ref t), .val (.ref y), .val (.int 5)]) rfl (XS.goto X0.here hx rfl (pc0 := 29) (pc' := 9) rfl (hb hby d14_29) (by decide) (by decide) (XS.iloadN X0.here hx rfl (hb hby d14_9) rfl (XS.aloadN X0.here hx rfl (hb hby d14_10) rfl rfl kt))))) ?_
            refine own_st (T' := s₁) (g' := (mkF m 12 #[.val (.ref t), .val (.ref y), .val (.int 5)] [(.int 7), (.int 5)])) (own_alen X0 hx hZ e0 pr1 (g := (mkF m 11 #[.val (.ref t), .val (.ref y), .val (.int 5)] [(.ref t), (.int 5)])) rfl rfl (hb hby d14_11)) ?_
            refine own_st (T' := s₁) (g' := (mkF m 17 #[.val (.ref t), .val (.ref y), .val (.int 5)] [(.int 5), (.ref t)])) (fun _ kt => XS.icmpNo X0.here hx rfl (hb hby d14_12) rfl (XT.ii_ge_f (by decide)) (XS.aloadN X0.here hx rfl (hb hby d14_15) rfl rfl (XS.iloadN X0.here hx rfl (hb hby d14_16) rfl kt))) ?_
            refine own_st (T' := s₁) (g' := (mkF m 18 #[.val (.ref t), .val (.ref y), .val (.int 5)] [(.int 110)])) (own_bal X0 hx hZ e0 pr1 ⟨by decide, by decide⟩ rfl (g := (mkF m 17 #[.val (.ref t), .val (.ref y), .val (.int 5)] [(.int 5), (.ref t)])) rfl rfl (hb hby d14_17)) ?_
            refine own_st (T' := s₁) (g' := (mkF m 20 #[.val (.ref t), .val (.ref y), .val (.int 5)] [(.int 5), (.ref y), (.int 110)])) (fun _ kt => XS.aloadN X0.here hx rfl (hb hby d14_18) rfl rfl (XS.iloadN X0.here hx rfl (hb hby d14_19) rfl kt)) ?_
            refine own_st (T' := s₁) (g' := (mkF m 21 #[.val (.ref t), .val (.ref y), .val (.int 5)] [(.int x5.toInt8.toInt32), (.int 110)])) (own_bal X0 hx hZ e0 pr2 ⟨by decide, by decide⟩ rfl (g := (mkF m 20 #[.val (.ref t), .val (.ref y), .val (.int 5)] [(.int 5), (.ref y), (.int 110)])) rfl rfl (hb hby d14_20)) ?_
            by_cases hc31 : (110 : Int32) = x5.toInt8.toInt32
            ·
              refine own_st (T' := s₁) (g' := (mkF m 11 #[.val (.ref t), .val (.ref y), .val (.int 6)] [(.ref t), (.int 6)])) (fun _ kt => XS.icmpYes X0.here hx rfl (pc0 := 21) (pc' := 26) rfl (hb hby d14_21) rfl (XT.ii_eq_t hc31) (by decide) (by decide) (XS.iinc X0.here hx rfl (hb hby d14_26) rfl (l' := #[.val (.ref t), .val (.ref y), .val (.int 6)]) rfl (XS.goto X0.here hx rfl (pc0 := 29) (pc' := 9) rfl (hb hby d14_29) (by decide) (by decide) (XS.iloadN X0.here hx rfl (hb hby d14_9) rfl (XS.aloadN X0.here hx rfl (hb hby d14_10) rfl rfl kt))))) ?_
              refine own_st (T' := s₁) (g' := (mkF m 12 #[.val (.ref t), .val (.ref y), .val (.int 6)] [(.int 7), (.int 6)])) (own_alen X0 hx hZ e0 pr1 (g := (mkF m 11 #[.val (.ref t), .val (.ref y), .val (.int 6)] [(.ref t), (.int 6)])) rfl rfl (hb hby d14_11)) ?_
              refine own_st (T' := s₁) (g' := (mkF m 17 #[.val (.ref t), .val (.ref y), .val (.int 6)] [(.int 6), (.ref t)])) (fun _ kt => XS.icmpNo X0.here hx rfl (hb hby d14_12) rfl (XT.ii_ge_f (by decide)) (XS.aloadN X0.here hx rfl (hb hby d14_15) rfl rfl (XS.iloadN X0.here hx rfl (hb hby d14_16) rfl kt))) ?_
              refine own_st (T' := s₁) (g' := (mkF m 18 #[.val (.ref t), .val (.ref y), .val (.int 6)] [(.int 116)])) (own_bal X0 hx hZ e0 pr1 ⟨by decide, by decide⟩ rfl (g := (mkF m 17 #[.val (.ref t), .val (.ref y), .val (.int 6)] [(.int 6), (.ref t)])) rfl rfl (hb hby d14_17)) ?_
              refine own_st (T' := s₁) (g' := (mkF m 20 #[.val (.ref t), .val (.ref y), .val (.int 6)] [(.int 6), (.ref y), (.int 116)])) (fun _ kt => XS.aloadN X0.here hx rfl (hb hby d14_18) rfl rfl (XS.iloadN X0.here hx rfl (hb hby d14_19) rfl kt)) ?_
              refine own_st (T' := s₁) (g' := (mkF m 21 #[.val (.ref t), .val (.ref y), .val (.int 6)] [(.int x6.toInt8.toInt32), (.int 116)])) (own_bal X0 hx hZ e0 pr2 ⟨by decide, by decide⟩ rfl (g := (mkF m 20 #[.val (.ref t), .val (.ref y), .val (.int 6)] [(.int 6), (.ref y), (.int 116)])) rfl rfl (hb hby d14_20)) ?_
              by_cases hc32 : (116 : Int32) = x6.toInt8.toInt32
              ·
                refine own_st (T' := s₁) (g' := (mkF m 11 #[.val (.ref t), .val (.ref y), .val (.int 7)] [(.ref t), (.int 7)])) (fun _ kt => XS.icmpYes X0.here hx rfl (pc0 := 21) (pc' := 26) rfl (hb hby d14_21) rfl (XT.ii_eq_t hc32) (by decide) (by decide) (XS.iinc X0.here hx rfl (hb hby d14_26) rfl (l' := #[.val (.ref t), .val (.ref y), .val (.int 7)]) rfl (XS.goto X0.here hx rfl (pc0 := 29) (pc' := 9) rfl (hb hby d14_29) (by decide) (by decide) (XS.iloadN X0.here hx rfl (hb hby d14_9) rfl (XS.aloadN X0.here hx rfl (hb hby d14_10) rfl rfl kt))))) ?_
                refine own_st (T' := s₁) (g' := (mkF m 12 #[.val (.ref t), .val (.ref y), .val (.int 7)] [(.int 7), (.int 7)])) (own_alen X0 hx hZ e0 pr1 (g := (mkF m 11 #[.val (.ref t), .val (.ref y), .val (.int 7)] [(.ref t), (.int 7)])) rfl rfl (hb hby d14_11)) ?_
                refine own_st (T' := s₁) (g' := (mkF m 33 #[.val (.ref t), .val (.ref y), .val (.int 7)] [(.int 1)])) (fun _ kt => XS.icmpYes X0.here hx rfl (pc0 := 12) (pc' := 32) rfl (hb hby d14_12) rfl (XT.ii_ge_t (by decide)) (by decide) (by decide) (XS.iconst X0.here hx rfl (hb hby d14_32) kt)) ?_
                obtain ⟨fs, hr, hrun, hended, hW, hsame⟩ := X0.leave (v := some (.int 1)) (fun h => by rw [Bd.returns] at h; cases h)
                refine own_end (retN X0 hx (t := .boolean) Bd.returns (by simp) (hb hby d14_33) hr) ⟨_, hrun, hended, _, _, rfl, ?_, ⟨_, rfl⟩, hW, hsame.mono (by decide) (by decide)⟩
                show own_le7Q Z _ _ _ _ _ _ _ _ _ _ _ h0 n0 _ s₁.heap _
                rw [e0]
                exact ⟨(congrArg (fun z => some (Value.int z)) (own_mt7 ⟨own_eqb pr3 hc26 (by decide), own_eqb pr4 hc27 (by decide), own_eqb pr5 hc28 (by decide), own_eqb pr6 hc29 (by decide), own_eqb pr7 hc30 (by decide), own_eqb pr8 hc31 (by decide), own_eqb pr9 hc32 (by decide)⟩)), N0, rfl⟩
              ·
                refine own_st (T' := s₁) (g' := (mkF m 25 #[.val (.ref t), .val (.ref y), .val (.int 6)] [(.int 0)])) (fun _ kt => XS.icmpNo X0.here hx rfl (hb hby d14_21) rfl (XT.ii_eq_f hc32) (XS.iconst X0.here hx rfl (hb hby d14_24) kt)) ?_
                obtain ⟨fs, hr, hrun, hended, hW, hsame⟩ := X0.leave (v := some (.int 0)) (fun h => by rw [Bd.returns] at h; cases h)
                refine own_end (retN X0 hx (t := .boolean) Bd.returns (by simp) (hb hby d14_25) hr) ⟨_, hrun, hended, _, _, rfl, ?_, ⟨_, rfl⟩, hW, hsame.mono (by decide) (by decide)⟩
                show own_le7Q Z _ _ _ _ _ _ _ _ _ _ _ h0 n0 _ s₁.heap _
                rw [e0]
                exact ⟨(congrArg (fun z => some (Value.int z)) (own_mf7 (fun q => hc32 (by rw [q.2.2.2.2.2.2]; decide)))), N0, rfl⟩
            ·
              refine own_st (T' := s₁) (g' := (mkF m 25 #[.val (.ref t), .val (.ref y), .val (.int 5)] [(.int 0)])) (fun _ kt => XS.icmpNo X0.here hx rfl (hb hby d14_21) rfl (XT.ii_eq_f hc31) (XS.iconst X0.here hx rfl (hb hby d14_24) kt)) ?_
              obtain ⟨fs, hr, hrun, hended, hW, hsame⟩ := X0.leave (v := some (.int 0)) (fun h => by rw [Bd.returns] at h; cases h)
              refine own_end (retN X0 hx (t := .boolean) Bd.returns (by simp) (hb hby d14_25) hr) ⟨_, hrun, hended, _, _, rfl, ?_, ⟨_, rfl⟩, hW, hsame.mono (by decide) (by decide)⟩
              show own_le7Q Z _ _ _ _ _ _ _ _ _ _ _ h0 n0 _ s₁.heap _
              rw [e0]
              exact ⟨(congrArg (fun z => some (Value.int z)) (own_mf7 (fun q => hc31 (by rw [q.2.2.2.2.2.1]; decide)))), N0, rfl⟩
          ·
            refine own_st (T' := s₁) (g' := (mkF m 25 #[.val (.ref t), .val (.ref y), .val (.int 4)] [(.int 0)])) (fun _ kt => XS.icmpNo X0.here hx rfl (hb hby d14_21) rfl (XT.ii_eq_f hc30) (XS.iconst X0.here hx rfl (hb hby d14_24) kt)) ?_
            obtain ⟨fs, hr, hrun, hended, hW, hsame⟩ := X0.leave (v := some (.int 0)) (fun h => by rw [Bd.returns] at h; cases h)
            refine own_end (retN X0 hx (t := .boolean) Bd.returns (by simp) (hb hby d14_25) hr) ⟨_, hrun, hended, _, _, rfl, ?_, ⟨_, rfl⟩, hW, hsame.mono (by decide) (by decide)⟩
            show own_le7Q Z _ _ _ _ _ _ _ _ _ _ _ h0 n0 _ s₁.heap _
            rw [e0]
            exact ⟨(congrArg (fun z => some (Value.int z)) (own_mf7 (fun q => hc30 (by rw [q.2.2.2.2.1]; decide)))), N0, rfl⟩
        ·
          refine own_st (T' := s₁) (g' := (mkF m 25 #[.val (.ref t), .val (.ref y), .val (.int 3)] [(.int 0)])) (fun _ kt => XS.icmpNo X0.here hx rfl (hb hby d14_21) rfl (XT.ii_eq_f hc29) (XS.iconst X0.here hx rfl (hb hby d14_24) kt)) ?_
          obtain ⟨fs, hr, hrun, hended, hW, hsame⟩ := X0.leave (v := some (.int 0)) (fun h => by rw [Bd.returns] at h; cases h)
          refine own_end (retN X0 hx (t := .boolean) Bd.returns (by simp) (hb hby d14_25) hr) ⟨_, hrun, hended, _, _, rfl, ?_, ⟨_, rfl⟩, hW, hsame.mono (by decide) (by decide)⟩
          show own_le7Q Z _ _ _ _ _ _ _ _ _ _ _ h0 n0 _ s₁.heap _
          rw [e0]
          exact ⟨(congrArg (fun z => some (Value.int z)) (own_mf7 (fun q => hc29 (by rw [q.2.2.2.1]; decide)))), N0, rfl⟩
      ·
        refine own_st (T' := s₁) (g' := (mkF m 25 #[.val (.ref t), .val (.ref y), .val (.int 2)] [(.int 0)])) (fun _ kt => XS.icmpNo X0.here hx rfl (hb hby d14_21) rfl (XT.ii_eq_f hc28) (XS.iconst X0.here hx rfl (hb hby d14_24) kt)) ?_
        obtain ⟨fs, hr, hrun, hended, hW, hsame⟩ := X0.leave (v := some (.int 0)) (fun h => by rw [Bd.returns] at h; cases h)
        refine own_end (retN X0 hx (t := .boolean) Bd.returns (by simp) (hb hby d14_25) hr) ⟨_, hrun, hended, _, _, rfl, ?_, ⟨_, rfl⟩, hW, hsame.mono (by decide) (by decide)⟩
        show own_le7Q Z _ _ _ _ _ _ _ _ _ _ _ h0 n0 _ s₁.heap _
        rw [e0]
        exact ⟨(congrArg (fun z => some (Value.int z)) (own_mf7 (fun q => hc28 (by rw [q.2.2.1]; decide)))), N0, rfl⟩
    ·
      refine own_st (T' := s₁) (g' := (mkF m 25 #[.val (.ref t), .val (.ref y), .val (.int 1)] [(.int 0)])) (fun _ kt => XS.icmpNo X0.here hx rfl (hb hby d14_21) rfl (XT.ii_eq_f hc27) (XS.iconst X0.here hx rfl (hb hby d14_24) kt)) ?_
      obtain ⟨fs, hr, hrun, hended, hW, hsame⟩ := X0.leave (v := some (.int 0)) (fun h => by rw [Bd.returns] at h; cases h)
      refine own_end (retN X0 hx (t := .boolean) Bd.returns (by simp) (hb hby d14_25) hr) ⟨_, hrun, hended, _, _, rfl, ?_, ⟨_, rfl⟩, hW, hsame.mono (by decide) (by decide)⟩
      show own_le7Q Z _ _ _ _ _ _ _ _ _ _ _ h0 n0 _ s₁.heap _
      rw [e0]
      exact ⟨(congrArg (fun z => some (Value.int z)) (own_mf7 (fun q => hc27 (by rw [q.2.1]; decide)))), N0, rfl⟩
  ·
    refine own_st (T' := s₁) (g' := (mkF m 25 #[.val (.ref t), .val (.ref y), .val (.int 0)] [(.int 0)])) (fun _ kt => XS.icmpNo X0.here hx rfl (hb hby d14_21) rfl (XT.ii_eq_f hc26) (XS.iconst X0.here hx rfl (hb hby d14_24) kt)) ?_
    obtain ⟨fs, hr, hrun, hended, hW, hsame⟩ := X0.leave (v := some (.int 0)) (fun h => by rw [Bd.returns] at h; cases h)
    refine own_end (retN X0 hx (t := .boolean) Bd.returns (by simp) (hb hby d14_25) hr) ⟨_, hrun, hended, _, _, rfl, ?_, ⟨_, rfl⟩, hW, hsame.mono (by decide) (by decide)⟩
    show own_le7Q Z _ _ _ _ _ _ _ _ _ _ _ h0 n0 _ s₁.heap _
    rw [e0]
    exact ⟨(congrArg (fun z => some (Value.int z)) (own_mf7 (fun q => hc26 (by rw [q.1]; decide)))), N0, rfl⟩
theorem d3_0 : decode jdk_42_method_66_code 0 = .ok (.aload_n 0, 1) := by decide +kernel
theorem d3_1 : decode jdk_42_method_66_code 1 = .ok (.aload_n 1, 1) := by decide +kernel
theorem d3_2 : decode jdk_42_method_66_code 2 = .ok (.if_acmp .ne 5, 3) := by decide +kernel
theorem d3_5 : decode jdk_42_method_66_code 5 = .ok (.iconst 1, 1) := by decide +kernel
theorem d3_6 : decode jdk_42_method_66_code 6 = .ok (.ireturn, 1) := by decide +kernel
def own_esQ (Z : State) (x : Addr) (h0 : Heap) (n0 : Nat) (v : Option Value) (h : Heap) (L : List Loc) : Prop := v = some (.int 1) ∧ Fr n0 L ∧ h = h0
abbrev own_esR : Room := { frames := 0, cells := 0, slots := 0, locals := 0 }
theorem own_es (l : Launch) (Z : State) (a0 : Array Value) (hw : ∀ d ∈ tables_1, d.before a0 Z = true) (ws : List Jvm.Cond) (x : Addr) (h0 : Heap) (n0 : Nat) (Z0 : n0 ≤ h0.size)  :
    own_M l yN1 jdk_42_method_66_code 3 (some .boolean) ws own_esR #[(.ref x), (.ref x)] Z h0 (own_esQ Z x h0 n0) := by
  refine own_go (plainFor_of_name own_pn2) (fun m => own_ef5 m x x ) ?_
  intro p e s m below meth c s₁ Bd hx hby hml hZ hh hown hnm X0 e0
  have N0 := Fr.nil n0
  refine own_st (T' := s₁) (g' := (mkF m 6 #[.val (.ref x), .val (.ref x), .unset] [(.int 1)])) (fun _ kt => XS.aloadN X0.here hx rfl (hb hby d3_0) rfl rfl (XS.aloadN X0.here hx rfl (hb hby d3_1) rfl rfl (XT.acmpNo X0.here hx rfl (hb hby d3_2) rfl rfl rfl (XT.aa_ne_f rfl) (XS.iconst X0.here hx rfl (hb hby d3_5) kt)))) ?_
  obtain ⟨fs, hr, hrun, hended, hW, hsame⟩ := X0.leave (v := some (.int 1)) (fun h => by rw [Bd.returns] at h; cases h)
  refine own_end (retN X0 hx (t := .boolean) Bd.returns (by simp) (hb hby d3_6) hr) ⟨_, hrun, hended, _, _, rfl, ?_, ⟨_, rfl⟩, hW, hsame.mono (by decide) (by decide)⟩
  show own_esQ Z _ h0 n0 _ s₁.heap _
  rw [e0]
  exact ⟨rfl, N0, rfl⟩
theorem d3_7 : decode jdk_42_method_66_code 7 = .ok (.aload_n 1, 1) := by decide +kernel
theorem d3_8 : decode jdk_42_method_66_code 8 = .ok (.instanceof 10, 3) := by decide +kernel
theorem d3_11 : decode jdk_42_method_66_code 11 = .ok (.ifCond .eq 43, 3) := by decide +kernel
theorem d3_14 : decode jdk_42_method_66_code 14 = .ok (.aload_n 1, 1) := by decide +kernel
theorem d3_15 : decode jdk_42_method_66_code 15 = .ok (.checkcast 10, 3) := by decide +kernel
theorem d3_18 : decode jdk_42_method_66_code 18 = .ok (.astore_n 2, 1) := by decide +kernel
theorem d3_19 : decode jdk_42_method_66_code 19 = .ok (.getstatic 38, 3) := by decide +kernel
theorem d3_22 : decode jdk_42_method_66_code 22 = .ok (.ifCond .eq 14, 3) := by decide +kernel
theorem d3_25 : decode jdk_42_method_66_code 25 = .ok (.aload_n 0, 1) := by decide +kernel
theorem d3_26 : decode jdk_42_method_66_code 26 = .ok (.getfield 15, 3) := by decide +kernel
theorem d3_29 : decode jdk_42_method_66_code 29 = .ok (.aload_n 2, 1) := by decide +kernel
theorem d3_30 : decode jdk_42_method_66_code 30 = .ok (.getfield 15, 3) := by decide +kernel
theorem d3_33 : decode jdk_42_method_66_code 33 = .ok (.if_icmp .ne 21, 3) := by decide +kernel
theorem d3_36 : decode jdk_42_method_66_code 36 = .ok (.aload_n 0, 1) := by decide +kernel
theorem d3_37 : decode jdk_42_method_66_code 37 = .ok (.getfield 9, 3) := by decide +kernel
theorem d3_40 : decode jdk_42_method_66_code 40 = .ok (.aload_n 2, 1) := by decide +kernel
theorem d3_41 : decode jdk_42_method_66_code 41 = .ok (.getfield 9, 3) := by decide +kernel
theorem d3_44 : decode jdk_42_method_66_code 44 = .ok (.invokestatic 541, 3) := by decide +kernel
theorem own_pd6 : parseMethodDescriptor "([B[B)Z" = some ⟨[(.array .byte), (.array .byte)], some .boolean⟩ := by decide +kernel
theorem d3_47 : decode jdk_42_method_66_code 47 = .ok (.ifCond .eq 7, 3) := by decide +kernel
theorem d3_54 : decode jdk_42_method_66_code 54 = .ok (.iconst 0, 1) := by decide +kernel
theorem d3_55 : decode jdk_42_method_66_code 55 = .ok (.ireturn, 1) := by decide +kernel
def own_edQ (Z : State) (x : Addr) (y : Addr) (zc : Int32) (tx : Addr) (ty : Addr) (kt : ClassId) (ky : ClassId) (z1 : Int32) (z2 : Int32) (vt : List Value) (vy : List Value) (h0 : Heap) (n0 : Nat) (v : Option Value) (h : Heap) (L : List Loc) : Prop := v = some (.int 0) ∧ Fr n0 L ∧ h = h0
abbrev own_edR : Room := { frames := 1, cells := 0, slots := 0, locals := 14 }
theorem own_ed (l : Launch) (Z : State) (a0 : Array Value) (hw : ∀ d ∈ tables_1, d.before a0 Z = true) (ws : List Jvm.Cond) (x : Addr) (y : Addr) (zc : Int32) (tx : Addr) (ty : Addr) (kt : ClassId) (ky : ClassId) (z1 : Int32) (z2 : Int32) (vt : List Value) (vy : List Value) (h0 : Heap) (n0 : Nat) (Z0 : n0 ≤ h0.size) (pr1 : Old Z n0 h0) (pr2 : Sta Z Z.heap "java/lang/String" "COMPACT_STRINGS" "Z" (.int zc)) (pr3 : ¬ zc = 0) (pr4 : x ≠ y) (pr5 : Exa Z h0 x "java/lang/String") (pr6 : Fld Z h0 x "java/lang/String" "coder" "B" (.int 0)) (pr7 : Fld Z h0 x "java/lang/String" "value" "[B" (.ref tx)) (pr8 : Arv Z h0 tx kt .byte z1 vt (.int 0)) (pr9 : Exa Z h0 y "java/lang/String") (pr10 : Fld Z h0 y "java/lang/String" "coder" "B" (.int 0)) (pr11 : Fld Z h0 y "java/lang/String" "value" "[B" (.ref ty)) (pr12 : Arv Z h0 ty ky .byte z2 vy (.int 0)) (pr13 : ¬ z1 = z2) :
    own_M l yN1 jdk_42_method_66_code 3 (some .boolean) ws own_edR #[(.ref x), (.ref y)] Z h0 (own_edQ Z x y zc tx ty kt ky z1 z2 vt vy h0 n0) := by
  refine own_go (plainFor_of_name own_pn2) (fun m => own_ef5 m x y ) ?_
  intro p e s m below meth c s₁ Bd hx hby hml hZ hh hown hnm X0 e0
  have N0 := Fr.nil n0
  refine own_st (T' := s₁) (g' := (mkF m 8 #[.val (.ref x), .val (.ref y), .unset] [(.ref y)])) (fun _ kt => XS.aloadN X0.here hx rfl (hb hby d3_0) rfl rfl (XS.aloadN X0.here hx rfl (hb hby d3_1) rfl rfl (XT.acmpYes X0.here hx rfl (pc0 := 2) (pc' := 7) rfl (hb hby d3_2) rfl rfl rfl (XT.aa_ne_t (fun q => pr4 (by injection q))) (by decide) (by decide) (XS.aloadN X0.here hx rfl (hb hby d3_7) rfl rfl kt)))) ?_
  obtain ⟨T33, X33, e33, st33⟩ := instY X0 hx hZ hown (own_k hw 82 rfl) e0 (Ins.self pr9) (g := (mkF m 8 #[.val (.ref x), .val (.ref y), .unset] [(.ref y)])) rfl rfl (hb hby d3_8)
  refine own_st (T' := T33) (g' := (mkF m 11 #[.val (.ref x), .val (.ref y), .unset] [(.int 1)])) st33 ?_
  refine own_st (T' := T33) (g' := (mkF m 15 #[.val (.ref x), .val (.ref y), .unset] [(.ref y)])) (fun _ kt => XS.ifNo X33.here hx rfl (hb hby d3_11) rfl (XT.i0_eq_f (by decide)) (XS.aloadN X33.here hx rfl (hb hby d3_14) rfl rfl kt)) ?_
  obtain ⟨T34, X34, e34, st34⟩ := castY X33 hx hZ hown (own_k hw 82 rfl) e33 (Ins.self pr9) (g := (mkF m 15 #[.val (.ref x), .val (.ref y), .unset] [(.ref y)])) rfl rfl (hb hby d3_15)
  refine own_st (T' := T34) (g' := (mkF m 18 #[.val (.ref x), .val (.ref y), .unset] [(.ref y)])) st34 ?_
  refine own_st (T' := T34) (g' := (mkF m 19 #[.val (.ref x), .val (.ref y), .val (.ref y)] [])) (fun _ kt => XS.astoreN X34.here hx rfl (hb hby d3_18) rfl rfl (l' := #[.val (.ref x), .val (.ref y), .val (.ref y)]) rfl kt) ?_
  obtain ⟨T35, X35, e35, st35⟩ := getS2 X34 hx hZ hown (host := "") (Or.inl (own_k hw 49 rfl)) Via.refl e34 (Sta.ext pr1.2 pr2) (g := (mkF m 19 #[.val (.ref x), .val (.ref y), .val (.ref y)] [])) rfl (hb hby d3_19)
  refine own_st (T' := T35) (g' := (mkF m 22 #[.val (.ref x), .val (.ref y), .val (.ref y)] [(.int zc)])) st35 ?_
  refine own_st (T' := T35) (g' := (mkF m 26 #[.val (.ref x), .val (.ref y), .val (.ref y)] [(.ref x)])) (fun _ kt => XS.ifNo X35.here hx rfl (hb hby d3_22) rfl (XT.i0_eq_f pr3) (XS.aloadN X35.here hx rfl (hb hby d3_25) rfl rfl kt)) ?_
  obtain ⟨T36, X36, e36, st36⟩ := getF X35 hx hZ hown (host := "") (Or.inl (own_k hw 61 rfl)) Via.refl e35 pr6 (g := (mkF m 26 #[.val (.ref x), .val (.ref y), .val (.ref y)] [(.ref x)])) rfl rfl (hb hby d3_26)
  refine own_st (T' := T36) (g' := (mkF m 29 #[.val (.ref x), .val (.ref y), .val (.ref y)] [(.int 0)])) st36 ?_
  refine own_st (T' := T36) (g' := (mkF m 30 #[.val (.ref x), .val (.ref y), .val (.ref y)] [(.ref y), (.int 0)])) (fun _ kt => XS.aloadN X36.here hx rfl (hb hby d3_29) rfl rfl kt) ?_
  obtain ⟨T37, X37, e37, st37⟩ := getF X36 hx hZ hown (host := "") (Or.inl (own_k hw 61 rfl)) Via.refl e36 pr10 (g := (mkF m 30 #[.val (.ref x), .val (.ref y), .val (.ref y)] [(.ref y), (.int 0)])) rfl rfl (hb hby d3_30)
  refine own_st (T' := T37) (g' := (mkF m 33 #[.val (.ref x), .val (.ref y), .val (.ref y)] [(.int 0), (.int 0)])) st37 ?_
  refine own_st (T' := T37) (g' := (mkF m 37 #[.val (.ref x), .val (.ref y), .val (.ref y)] [(.ref x)])) (fun _ kt => XS.icmpNo X37.here hx rfl (hb hby d3_33) rfl (XT.ii_ne_f (by decide)) (XS.aloadN X37.here hx rfl (hb hby d3_36) rfl rfl kt)) ?_
  obtain ⟨T38, X38, e38, st38⟩ := getF X37 hx hZ hown (host := "") (Or.inl (own_k hw 63 rfl)) Via.refl e37 pr7 (g := (mkF m 37 #[.val (.ref x), .val (.ref y), .val (.ref y)] [(.ref x)])) rfl rfl (hb hby d3_37)
  refine own_st (T' := T38) (g' := (mkF m 40 #[.val (.ref x), .val (.ref y), .val (.ref y)] [(.ref tx)])) st38 ?_
  refine own_st (T' := T38) (g' := (mkF m 41 #[.val (.ref x), .val (.ref y), .val (.ref y)] [(.ref y), (.ref tx)])) (fun _ kt => XS.aloadN X38.here hx rfl (hb hby d3_40) rfl rfl kt) ?_
  obtain ⟨T39, X39, e39, st39⟩ := getF X38 hx hZ hown (host := "") (Or.inl (own_k hw 63 rfl)) Via.refl e38 pr11 (g := (mkF m 41 #[.val (.ref x), .val (.ref y), .val (.ref y)] [(.ref y), (.ref tx)])) rfl rfl (hb hby d3_41)
  refine own_st (T' := T39) (g' := (mkF m 44 #[.val (.ref x), .val (.ref y), .val (.ref y)] [(.ref ty), (.ref tx)])) st39 ?_
  obtain ⟨_, _, ⟨T40, L40, k40, n40⟩, -, X40, ⟨Lc40, hQ40, l40, y40, z40⟩, st40⟩ := Jvm.LawKit.callS X39 hx (y := yN8) hown (mvT hZ (own_k hw 83 rfl)) (mvT hZ (own_k hw 84 rfl)) (mvT hZ (own_k hw 85 rfl)) (mvT hZ (own_k hw 86 rfl)) (by decide) (backOf (W := 0) (own_led l Z a0 hw [] tx ty kt ky z1 z2 vt vy h0 n0 Z0 pr8 pr12 pr13) hZ (own_k hw 86 rfl) (own_k hw 85 rfl) (by decide) (by decide)) (g := (mkF m 44 #[.val (.ref x), .val (.ref y), .val (.ref y)] [(.ref ty), (.ref tx)])) rfl hml.symm  (argsL := [(.ref tx), (.ref ty)]) (rest := []) (lenOf own_pd6 rfl) rfl (own_w0 rfl rfl) (hb hby d3_44) (fun _ _ => ⟨rfl, e39, (by decide : 0 + 0 ≤ 0), (by decide : 0 + 0 ≤ 0)⟩)
  dsimp only [Pt.U, Pt.locs, Pt.cells, Pt.slots] at X40 l40 y40 z40 st40 hQ40
  subst l40 y40 z40
  obtain ⟨rfl, N40, e40⟩ := hQ40
  have N41 := Fr.app N0 N40
  refine own_st (T' := T40) (g' := (mkF m 47 #[.val (.ref x), .val (.ref y), .val (.ref y)] [(.int 0)])) st40 ?_
  refine own_st (T' := T40) (g' := (mkF m 55 #[.val (.ref x), .val (.ref y), .val (.ref y)] [(.int 0)])) (fun _ kt => XS.ifYes X40.here hx rfl (pc0 := 47) (pc' := 54) rfl (hb hby d3_47) rfl (XT.i0_eq_t (by decide)) (by decide) (by decide) (XS.iconst X40.here hx rfl (hb hby d3_54) kt)) ?_
  obtain ⟨fs, hr, hrun, hended, hW, hsame⟩ := X40.leave (v := some (.int 0)) (fun h => by rw [Bd.returns] at h; cases h)
  refine own_end (retN X40 hx (t := .boolean) Bd.returns (by simp) (hb hby d3_55) hr) ⟨_, hrun, hended, _, _, rfl, ?_, ⟨_, rfl⟩, hW, hsame.mono (by decide) (by decide)⟩
  show own_edQ Z _ _ _ _ _ _ _ _ _ _ _ h0 n0 _ T40.heap _
  rw [e40]
  exact ⟨rfl, N41, rfl⟩
theorem d3_50 : decode jdk_42_method_66_code 50 = .ok (.iconst 1, 1) := by decide +kernel
theorem d3_51 : decode jdk_42_method_66_code 51 = .ok (.goto 4, 3) := by decide +kernel
def own_ee6Q (Z : State) (x : Addr) (y : Addr) (zc : Int32) (tx : Addr) (ty : Addr) (kt : ClassId) (ky : ClassId) (x0 : Int32) (x1 : Int32) (x2 : Int32) (x3 : Int32) (x4 : Int32) (x5 : Int32) (h0 : Heap) (n0 : Nat) (v : Option Value) (h : Heap) (L : List Loc) : Prop := v = some (.int (own_m6 x0 x1 x2 x3 x4 x5)) ∧ Fr n0 L ∧ h = h0
abbrev own_ee6R : Room := { frames := 1, cells := 0, slots := 0, locals := 14 }
theorem own_ee6 (l : Launch) (Z : State) (a0 : Array Value) (hw : ∀ d ∈ tables_1, d.before a0 Z = true) (ws : List Jvm.Cond) (x : Addr) (y : Addr) (zc : Int32) (tx : Addr) (ty : Addr) (kt : ClassId) (ky : ClassId) (x0 : Int32) (x1 : Int32) (x2 : Int32) (x3 : Int32) (x4 : Int32) (x5 : Int32) (h0 : Heap) (n0 : Nat) (Z0 : n0 ≤ h0.size) (pr1 : Old Z n0 h0) (pr2 : Sta Z Z.heap "java/lang/String" "COMPACT_STRINGS" "Z" (.int zc)) (pr3 : ¬ zc = 0) (pr4 : x ≠ y) (pr5 : Exa Z h0 x "java/lang/String") (pr6 : Fld Z h0 x "java/lang/String" "coder" "B" (.int 0)) (pr7 : Fld Z h0 x "java/lang/String" "value" "[B" (.ref tx)) (pr8 : Arv Z h0 tx kt .byte (6 : Int32) [(.int 115), (.int 116), (.int 114), (.int 105), (.int 99), (.int 116)] (.int 0)) (pr9 : Exa Z h0 y "java/lang/String") (pr10 : Fld Z h0 y "java/lang/String" "coder" "B" (.int 0)) (pr11 : Fld Z h0 y "java/lang/String" "value" "[B" (.ref ty)) (pr12 : Arv Z h0 ty ky .byte (6 : Int32) [(.int x0.toInt8.toInt32), (.int x1.toInt8.toInt32), (.int x2.toInt8.toInt32), (.int x3.toInt8.toInt32), (.int x4.toInt8.toInt32), (.int x5.toInt8.toInt32)] (.int 0)) (pr13 : own_cc x0) (pr14 : own_cc x1) (pr15 : own_cc x2) (pr16 : own_cc x3) (pr17 : own_cc x4) (pr18 : own_cc x5) :
    own_M l yN1 jdk_42_method_66_code 3 (some .boolean) ws own_ee6R #[(.ref x), (.ref y)] Z h0 (own_ee6Q Z x y zc tx ty kt ky x0 x1 x2 x3 x4 x5 h0 n0) := by
  refine own_go (plainFor_of_name own_pn2) (fun m => own_ef5 m x y ) ?_
  intro p e s m below meth c s₁ Bd hx hby hml hZ hh hown hnm X0 e0
  have N0 := Fr.nil n0
  refine own_st (T' := s₁) (g' := (mkF m 8 #[.val (.ref x), .val (.ref y), .unset] [(.ref y)])) (fun _ kt => XS.aloadN X0.here hx rfl (hb hby d3_0) rfl rfl (XS.aloadN X0.here hx rfl (hb hby d3_1) rfl rfl (XT.acmpYes X0.here hx rfl (pc0 := 2) (pc' := 7) rfl (hb hby d3_2) rfl rfl rfl (XT.aa_ne_t (fun q => pr4 (by injection q))) (by decide) (by decide) (XS.aloadN X0.here hx rfl (hb hby d3_7) rfl rfl kt)))) ?_
  obtain ⟨T42, X42, e42, st42⟩ := instY X0 hx hZ hown (own_k hw 82 rfl) e0 (Ins.self pr9) (g := (mkF m 8 #[.val (.ref x), .val (.ref y), .unset] [(.ref y)])) rfl rfl (hb hby d3_8)
  refine own_st (T' := T42) (g' := (mkF m 11 #[.val (.ref x), .val (.ref y), .unset] [(.int 1)])) st42 ?_
  refine own_st (T' := T42) (g' := (mkF m 15 #[.val (.ref x), .val (.ref y), .unset] [(.ref y)])) (fun _ kt => XS.ifNo X42.here hx rfl (hb hby d3_11) rfl (XT.i0_eq_f (by decide)) (XS.aloadN X42.here hx rfl (hb hby d3_14) rfl rfl kt)) ?_
  obtain ⟨T43, X43, e43, st43⟩ := castY X42 hx hZ hown (own_k hw 82 rfl) e42 (Ins.self pr9) (g := (mkF m 15 #[.val (.ref x), .val (.ref y), .unset] [(.ref y)])) rfl rfl (hb hby d3_15)
  refine own_st (T' := T43) (g' := (mkF m 18 #[.val (.ref x), .val (.ref y), .unset] [(.ref y)])) st43 ?_
  refine own_st (T' := T43) (g' := (mkF m 19 #[.val (.ref x), .val (.ref y), .val (.ref y)] [])) (fun _ kt => XS.astoreN X43.here hx rfl (hb hby d3_18) rfl rfl (l' := #[.val (.ref x), .val (.ref y), .val (.ref y)]) rfl kt) ?_
  obtain ⟨T44, X44, e44, st44⟩ := getS2 X43 hx hZ hown (host := "") (Or.inl (own_k hw 49 rfl)) Via.refl e43 (Sta.ext pr1.2 pr2) (g := (mkF m 19 #[.val (.ref x), .val (.ref y), .val (.ref y)] [])) rfl (hb hby d3_19)
  refine own_st (T' := T44) (g' := (mkF m 22 #[.val (.ref x), .val (.ref y), .val (.ref y)] [(.int zc)])) st44 ?_
  refine own_st (T' := T44) (g' := (mkF m 26 #[.val (.ref x), .val (.ref y), .val (.ref y)] [(.ref x)])) (fun _ kt => XS.ifNo X44.here hx rfl (hb hby d3_22) rfl (XT.i0_eq_f pr3) (XS.aloadN X44.here hx rfl (hb hby d3_25) rfl rfl kt)) ?_
  obtain ⟨T45, X45, e45, st45⟩ := getF X44 hx hZ hown (host := "") (Or.inl (own_k hw 61 rfl)) Via.refl e44 pr6 (g := (mkF m 26 #[.val (.ref x), .val (.ref y), .val (.ref y)] [(.ref x)])) rfl rfl (hb hby d3_26)
  refine own_st (T' := T45) (g' := (mkF m 29 #[.val (.ref x), .val (.ref y), .val (.ref y)] [(.int 0)])) st45 ?_
  refine own_st (T' := T45) (g' := (mkF m 30 #[.val (.ref x), .val (.ref y), .val (.ref y)] [(.ref y), (.int 0)])) (fun _ kt => XS.aloadN X45.here hx rfl (hb hby d3_29) rfl rfl kt) ?_
  obtain ⟨T46, X46, e46, st46⟩ := getF X45 hx hZ hown (host := "") (Or.inl (own_k hw 61 rfl)) Via.refl e45 pr10 (g := (mkF m 30 #[.val (.ref x), .val (.ref y), .val (.ref y)] [(.ref y), (.int 0)])) rfl rfl (hb hby d3_30)
  refine own_st (T' := T46) (g' := (mkF m 33 #[.val (.ref x), .val (.ref y), .val (.ref y)] [(.int 0), (.int 0)])) st46 ?_
  refine own_st (T' := T46) (g' := (mkF m 37 #[.val (.ref x), .val (.ref y), .val (.ref y)] [(.ref x)])) (fun _ kt => XS.icmpNo X46.here hx rfl (hb hby d3_33) rfl (XT.ii_ne_f (by decide)) (XS.aloadN X46.here hx rfl (hb hby d3_36) rfl rfl kt)) ?_
  obtain ⟨T47, X47, e47, st47⟩ := getF X46 hx hZ hown (host := "") (Or.inl (own_k hw 63 rfl)) Via.refl e46 pr7 (g := (mkF m 37 #[.val (.ref x), .val (.ref y), .val (.ref y)] [(.ref x)])) rfl rfl (hb hby d3_37)
  refine own_st (T' := T47) (g' := (mkF m 40 #[.val (.ref x), .val (.ref y), .val (.ref y)] [(.ref tx)])) st47 ?_
  refine own_st (T' := T47) (g' := (mkF m 41 #[.val (.ref x), .val (.ref y), .val (.ref y)] [(.ref y), (.ref tx)])) (fun _ kt => XS.aloadN X47.here hx rfl (hb hby d3_40) rfl rfl kt) ?_
  obtain ⟨T48, X48, e48, st48⟩ := getF X47 hx hZ hown (host := "") (Or.inl (own_k hw 63 rfl)) Via.refl e47 pr11 (g := (mkF m 41 #[.val (.ref x), .val (.ref y), .val (.ref y)] [(.ref y), (.ref tx)])) rfl rfl (hb hby d3_41)
  refine own_st (T' := T48) (g' := (mkF m 44 #[.val (.ref x), .val (.ref y), .val (.ref y)] [(.ref ty), (.ref tx)])) st48 ?_
  obtain ⟨_, _, ⟨T49, L49, k49, n49⟩, -, X49, ⟨Lc49, hQ49, l49, y49, z49⟩, st49⟩ := Jvm.LawKit.callS X48 hx (y := yN8) hown (mvT hZ (own_k hw 83 rfl)) (mvT hZ (own_k hw 84 rfl)) (mvT hZ (own_k hw 85 rfl)) (mvT hZ (own_k hw 86 rfl)) (by decide) (backOf (W := 0) (own_le6 l Z a0 hw [] tx ty kt ky x0 x1 x2 x3 x4 x5 h0 n0 Z0 pr8 pr12 pr13 pr14 pr15 pr16 pr17 pr18) hZ (own_k hw 86 rfl) (own_k hw 85 rfl) (by decide) (by decide)) (g := (mkF m 44 #[.val (.ref x), .val (.ref y), .val (.ref y)] [(.ref ty), (.ref tx)])) rfl hml.symm  (argsL := [(.ref tx), (.ref ty)]) (rest := []) (lenOf own_pd6 rfl) rfl (own_w0 rfl rfl) (hb hby d3_44) (fun _ _ => ⟨rfl, e48, (by decide : 0 + 0 ≤ 0), (by decide : 0 + 0 ≤ 0)⟩)
  dsimp only [Pt.U, Pt.locs, Pt.cells, Pt.slots] at X49 l49 y49 z49 st49 hQ49
  subst l49 y49 z49
  obtain ⟨rfl, N49, e49⟩ := hQ49
  have N50 := Fr.app N0 N49
  refine own_st (T' := T49) (g' := (mkF m 47 #[.val (.ref x), .val (.ref y), .val (.ref y)] [(.int (own_m6 x0 x1 x2 x3 x4 x5))])) st49 ?_
  by_cases hc51 : (own_m6 x0 x1 x2 x3 x4 x5) = 0
  ·
    refine own_st (T' := T49) (g' := (mkF m 55 #[.val (.ref x), .val (.ref y), .val (.ref y)] [(.int 0)])) (fun _ kt => XS.ifYes X49.here hx rfl (pc0 := 47) (pc' := 54) rfl (hb hby d3_47) rfl (XT.i0_eq_t hc51) (by decide) (by decide) (XS.iconst X49.here hx rfl (hb hby d3_54) kt)) ?_
    obtain ⟨fs, hr, hrun, hended, hW, hsame⟩ := X49.leave (v := some (.int 0)) (fun h => by rw [Bd.returns] at h; cases h)
    refine own_end (retN X49 hx (t := .boolean) Bd.returns (by simp) (hb hby d3_55) hr) ⟨_, hrun, hended, _, _, rfl, ?_, ⟨_, rfl⟩, hW, hsame.mono (by decide) (by decide)⟩
    show own_ee6Q Z _ _ _ _ _ _ _ _ _ _ _ _ _ h0 n0 _ T49.heap _
    rw [e49]
    exact ⟨(congrArg (fun z => some (Value.int z)) (hc51.symm)), N50, rfl⟩
  ·
    refine own_st (T' := T49) (g' := (mkF m 55 #[.val (.ref x), .val (.ref y), .val (.ref y)] [(.int 1)])) (fun _ kt => XS.ifNo X49.here hx rfl (hb hby d3_47) rfl (XT.i0_eq_f hc51) (XS.iconst X49.here hx rfl (hb hby d3_50) (XS.goto X49.here hx rfl (pc0 := 51) (pc' := 55) rfl (hb hby d3_51) (by decide) (by decide) kt))) ?_
    obtain ⟨fs, hr, hrun, hended, hW, hsame⟩ := X49.leave (v := some (.int 1)) (fun h => by rw [Bd.returns] at h; cases h)
    refine own_end (retN X49 hx (t := .boolean) Bd.returns (by simp) (hb hby d3_55) hr) ⟨_, hrun, hended, _, _, rfl, ?_, ⟨_, rfl⟩, hW, hsame.mono (by decide) (by decide)⟩
    show own_ee6Q Z _ _ _ _ _ _ _ _ _ _ _ _ _ h0 n0 _ T49.heap _
    rw [e49]
    exact ⟨(congrArg (fun z => some (Value.int z)) (own_mz6 hc51)), N50, rfl⟩
def own_ee7Q (Z : State) (x : Addr) (y : Addr) (zc : Int32) (tx : Addr) (ty : Addr) (kt : ClassId) (ky : ClassId) (x0 : Int32) (x1 : Int32) (x2 : Int32) (x3 : Int32) (x4 : Int32) (x5 : Int32) (x6 : Int32) (h0 : Heap) (n0 : Nat) (v : Option Value) (h : Heap) (L : List Loc) : Prop := v = some (.int (own_m7 x0 x1 x2 x3 x4 x5 x6)) ∧ Fr n0 L ∧ h = h0
abbrev own_ee7R : Room := { frames := 1, cells := 0, slots := 0, locals := 14 }
theorem own_ee7 (l : Launch) (Z : State) (a0 : Array Value) (hw : ∀ d ∈ tables_1, d.before a0 Z = true) (ws : List Jvm.Cond) (x : Addr) (y : Addr) (zc : Int32) (tx : Addr) (ty : Addr) (kt : ClassId) (ky : ClassId) (x0 : Int32) (x1 : Int32) (x2 : Int32) (x3 : Int32) (x4 : Int32) (x5 : Int32) (x6 : Int32) (h0 : Heap) (n0 : Nat) (Z0 : n0 ≤ h0.size) (pr1 : Old Z n0 h0) (pr2 : Sta Z Z.heap "java/lang/String" "COMPACT_STRINGS" "Z" (.int zc)) (pr3 : ¬ zc = 0) (pr4 : x ≠ y) (pr5 : Exa Z h0 x "java/lang/String") (pr6 : Fld Z h0 x "java/lang/String" "coder" "B" (.int 0)) (pr7 : Fld Z h0 x "java/lang/String" "value" "[B" (.ref tx)) (pr8 : Arv Z h0 tx kt .byte (7 : Int32) [(.int 108), (.int 101), (.int 110), (.int 105), (.int 101), (.int 110), (.int 116)] (.int 0)) (pr9 : Exa Z h0 y "java/lang/String") (pr10 : Fld Z h0 y "java/lang/String" "coder" "B" (.int 0)) (pr11 : Fld Z h0 y "java/lang/String" "value" "[B" (.ref ty)) (pr12 : Arv Z h0 ty ky .byte (7 : Int32) [(.int x0.toInt8.toInt32), (.int x1.toInt8.toInt32), (.int x2.toInt8.toInt32), (.int x3.toInt8.toInt32), (.int x4.toInt8.toInt32), (.int x5.toInt8.toInt32), (.int x6.toInt8.toInt32)] (.int 0)) (pr13 : own_cc x0) (pr14 : own_cc x1) (pr15 : own_cc x2) (pr16 : own_cc x3) (pr17 : own_cc x4) (pr18 : own_cc x5) (pr19 : own_cc x6) :
    own_M l yN1 jdk_42_method_66_code 3 (some .boolean) ws own_ee7R #[(.ref x), (.ref y)] Z h0 (own_ee7Q Z x y zc tx ty kt ky x0 x1 x2 x3 x4 x5 x6 h0 n0) := by
  refine own_go (plainFor_of_name own_pn2) (fun m => own_ef5 m x y ) ?_
  intro p e s m below meth c s₁ Bd hx hby hml hZ hh hown hnm X0 e0
  have N0 := Fr.nil n0
  refine own_st (T' := s₁) (g' := (mkF m 8 #[.val (.ref x), .val (.ref y), .unset] [(.ref y)])) (fun _ kt => XS.aloadN X0.here hx rfl (hb hby d3_0) rfl rfl (XS.aloadN X0.here hx rfl (hb hby d3_1) rfl rfl (XT.acmpYes X0.here hx rfl (pc0 := 2) (pc' := 7) rfl (hb hby d3_2) rfl rfl rfl (XT.aa_ne_t (fun q => pr4 (by injection q))) (by decide) (by decide) (XS.aloadN X0.here hx rfl (hb hby d3_7) rfl rfl kt)))) ?_
  obtain ⟨T52, X52, e52, st52⟩ := instY X0 hx hZ hown (own_k hw 82 rfl) e0 (Ins.self pr9) (g := (mkF m 8 #[.val (.ref x), .val (.ref y), .unset] [(.ref y)])) rfl rfl (hb hby d3_8)
  refine own_st (T' := T52) (g' := (mkF m 11 #[.val (.ref x), .val (.ref y), .unset] [(.int 1)])) st52 ?_
  refine own_st (T' := T52) (g' := (mkF m 15 #[.val (.ref x), .val (.ref y), .unset] [(.ref y)])) (fun _ kt => XS.ifNo X52.here hx rfl (hb hby d3_11) rfl (XT.i0_eq_f (by decide)) (XS.aloadN X52.here hx rfl (hb hby d3_14) rfl rfl kt)) ?_
  obtain ⟨T53, X53, e53, st53⟩ := castY X52 hx hZ hown (own_k hw 82 rfl) e52 (Ins.self pr9) (g := (mkF m 15 #[.val (.ref x), .val (.ref y), .unset] [(.ref y)])) rfl rfl (hb hby d3_15)
  refine own_st (T' := T53) (g' := (mkF m 18 #[.val (.ref x), .val (.ref y), .unset] [(.ref y)])) st53 ?_
  refine own_st (T' := T53) (g' := (mkF m 19 #[.val (.ref x), .val (.ref y), .val (.ref y)] [])) (fun _ kt => XS.astoreN X53.here hx rfl (hb hby d3_18) rfl rfl (l' := #[.val (.ref x), .val (.ref y), .val (.ref y)]) rfl kt) ?_
  obtain ⟨T54, X54, e54, st54⟩ := getS2 X53 hx hZ hown (host := "") (Or.inl (own_k hw 49 rfl)) Via.refl e53 (Sta.ext pr1.2 pr2) (g := (mkF m 19 #[.val (.ref x), .val (.ref y), .val (.ref y)] [])) rfl (hb hby d3_19)
  refine own_st (T' := T54) (g' := (mkF m 22 #[.val (.ref x), .val (.ref y), .val (.ref y)] [(.int zc)])) st54 ?_
  refine own_st (T' := T54) (g' := (mkF m 26 #[.val (.ref x), .val (.ref y), .val (.ref y)] [(.ref x)])) (fun _ kt => XS.ifNo X54.here hx rfl (hb hby d3_22) rfl (XT.i0_eq_f pr3) (XS.aloadN X54.here hx rfl (hb hby d3_25) rfl rfl kt)) ?_
  obtain ⟨T55, X55, e55, st55⟩ := getF X54 hx hZ hown (host := "") (Or.inl (own_k hw 61 rfl)) Via.refl e54 pr6 (g := (mkF m 26 #[.val (.ref x), .val (.ref y), .val (.ref y)] [(.ref x)])) rfl rfl (hb hby d3_26)
  refine own_st (T' := T55) (g' := (mkF m 29 #[.val (.ref x), .val (.ref y), .val (.ref y)] [(.int 0)])) st55 ?_
  refine own_st (T' := T55) (g' := (mkF m 30 #[.val (.ref x), .val (.ref y), .val (.ref y)] [(.ref y), (.int 0)])) (fun _ kt => XS.aloadN X55.here hx rfl (hb hby d3_29) rfl rfl kt) ?_
  obtain ⟨T56, X56, e56, st56⟩ := getF X55 hx hZ hown (host := "") (Or.inl (own_k hw 61 rfl)) Via.refl e55 pr10 (g := (mkF m 30 #[.val (.ref x), .val (.ref y), .val (.ref y)] [(.ref y), (.int 0)])) rfl rfl (hb hby d3_30)
  refine own_st (T' := T56) (g' := (mkF m 33 #[.val (.ref x), .val (.ref y), .val (.ref y)] [(.int 0), (.int 0)])) st56 ?_
  refine own_st (T' := T56) (g' := (mkF m 37 #[.val (.ref x), .val (.ref y), .val (.ref y)] [(.ref x)])) (fun _ kt => XS.icmpNo X56.here hx rfl (hb hby d3_33) rfl (XT.ii_ne_f (by decide)) (XS.aloadN X56.here hx rfl (hb hby d3_36) rfl rfl kt)) ?_
  obtain ⟨T57, X57, e57, st57⟩ := getF X56 hx hZ hown (host := "") (Or.inl (own_k hw 63 rfl)) Via.refl e56 pr7 (g := (mkF m 37 #[.val (.ref x), .val (.ref y), .val (.ref y)] [(.ref x)])) rfl rfl (hb hby d3_37)
  refine own_st (T' := T57) (g' := (mkF m 40 #[.val (.ref x), .val (.ref y), .val (.ref y)] [(.ref tx)])) st57 ?_
  refine own_st (T' := T57) (g' := (mkF m 41 #[.val (.ref x), .val (.ref y), .val (.ref y)] [(.ref y), (.ref tx)])) (fun _ kt => XS.aloadN X57.here hx rfl (hb hby d3_40) rfl rfl kt) ?_
  obtain ⟨T58, X58, e58, st58⟩ := getF X57 hx hZ hown (host := "") (Or.inl (own_k hw 63 rfl)) Via.refl e57 pr11 (g := (mkF m 41 #[.val (.ref x), .val (.ref y), .val (.ref y)] [(.ref y), (.ref tx)])) rfl rfl (hb hby d3_41)
  refine own_st (T' := T58) (g' := (mkF m 44 #[.val (.ref x), .val (.ref y), .val (.ref y)] [(.ref ty), (.ref tx)])) st58 ?_
  obtain ⟨_, _, ⟨T59, L59, k59, n59⟩, -, X59, ⟨Lc59, hQ59, l59, y59, z59⟩, st59⟩ := Jvm.LawKit.callS X58 hx (y := yN8) hown (mvT hZ (own_k hw 83 rfl)) (mvT hZ (own_k hw 84 rfl)) (mvT hZ (own_k hw 85 rfl)) (mvT hZ (own_k hw 86 rfl)) (by decide) (backOf (W := 0) (own_le7 l Z a0 hw [] tx ty kt ky x0 x1 x2 x3 x4 x5 x6 h0 n0 Z0 pr8 pr12 pr13 pr14 pr15 pr16 pr17 pr18 pr19) hZ (own_k hw 86 rfl) (own_k hw 85 rfl) (by decide) (by decide)) (g := (mkF m 44 #[.val (.ref x), .val (.ref y), .val (.ref y)] [(.ref ty), (.ref tx)])) rfl hml.symm  (argsL := [(.ref tx), (.ref ty)]) (rest := []) (lenOf own_pd6 rfl) rfl (own_w0 rfl rfl) (hb hby d3_44) (fun _ _ => ⟨rfl, e58, (by decide : 0 + 0 ≤ 0), (by decide : 0 + 0 ≤ 0)⟩)
  dsimp only [Pt.U, Pt.locs, Pt.cells, Pt.slots] at X59 l59 y59 z59 st59 hQ59
  subst l59 y59 z59
  obtain ⟨rfl, N59, e59⟩ := hQ59
  have N60 := Fr.app N0 N59
  refine own_st (T' := T59) (g' := (mkF m 47 #[.val (.ref x), .val (.ref y), .val (.ref y)] [(.int (own_m7 x0 x1 x2 x3 x4 x5 x6))])) st59 ?_
  by_cases hc61 : (own_m7 x0 x1 x2 x3 x4 x5 x6) = 0
  ·
    refine own_st (T' := T59) (g' := (mkF m 55 #[.val (.ref x), .val (.ref y), .val (.ref y)] [(.int 0)])) (fun _ kt => XS.ifYes X59.here hx rfl (pc0 := 47) (pc' := 54) rfl (hb hby d3_47) rfl (XT.i0_eq_t hc61) (by decide) (by decide) (XS.iconst X59.here hx rfl (hb hby d3_54) kt)) ?_
    obtain ⟨fs, hr, hrun, hended, hW, hsame⟩ := X59.leave (v := some (.int 0)) (fun h => by rw [Bd.returns] at h; cases h)
    refine own_end (retN X59 hx (t := .boolean) Bd.returns (by simp) (hb hby d3_55) hr) ⟨_, hrun, hended, _, _, rfl, ?_, ⟨_, rfl⟩, hW, hsame.mono (by decide) (by decide)⟩
    show own_ee7Q Z _ _ _ _ _ _ _ _ _ _ _ _ _ _ h0 n0 _ T59.heap _
    rw [e59]
    exact ⟨(congrArg (fun z => some (Value.int z)) (hc61.symm)), N60, rfl⟩
  ·
    refine own_st (T' := T59) (g' := (mkF m 55 #[.val (.ref x), .val (.ref y), .val (.ref y)] [(.int 1)])) (fun _ kt => XS.ifNo X59.here hx rfl (hb hby d3_47) rfl (XT.i0_eq_f hc61) (XS.iconst X59.here hx rfl (hb hby d3_50) (XS.goto X59.here hx rfl (pc0 := 51) (pc' := 55) rfl (hb hby d3_51) (by decide) (by decide) kt))) ?_
    obtain ⟨fs, hr, hrun, hended, hW, hsame⟩ := X59.leave (v := some (.int 1)) (fun h => by rw [Bd.returns] at h; cases h)
    refine own_end (retN X59 hx (t := .boolean) Bd.returns (by simp) (hb hby d3_55) hr) ⟨_, hrun, hended, _, _, rfl, ?_, ⟨_, rfl⟩, hW, hsame.mono (by decide) (by decide)⟩
    show own_ee7Q Z _ _ _ _ _ _ _ _ _ _ _ _ _ _ h0 n0 _ T59.heap _
    rw [e59]
    exact ⟨(congrArg (fun z => some (Value.int z)) (own_mz7 hc61)), N60, rfl⟩
theorem d2_0 : decode prog_10_method_1_code 0 = .ok (.getstatic 10, 3) := by decide +kernel
theorem d2_3 : decode prog_10_method_1_code 3 = .ok (.invokevirtual 14, 3) := by decide +kernel
theorem d2_6 : decode prog_10_method_1_code 6 = .ok (.checkcast 15, 3) := by decide +kernel
theorem d2_9 : decode prog_10_method_1_code 9 = .ok (.areturn, 1) := by decide +kernel
theorem own_ef6 (m : MethodId)  : entryFrame m #[] 0 = mkF m 0 #[] [] := by first | (simp [entryFrame, mkF, argsToLocals, Value.category]; done) | rfl
def own_vaQ (Z : State) (va : Addr) (kv : ClassId) (sc : Addr) (le : Addr) (h0 : Heap) (n0 : Nat) (v : Option Value) (h : Heap) (L : List Loc) : Prop := ∃ (b : Addr), ∃ (kb : ClassId), v = some (.ref b) ∧ Fr n0 L ∧ Keep h0 h [] ∧ (Arv Z h b kb (.object "com/example/lotd/lotd/ProcessingMode") (2 : Int32) [(.ref sc), (.ref le)] .null) ∧ (h0.size ≤ b)
theorem own_pn4 : plainName "com/example/lotd/lotd/ProcessingMode" = true := by first | (simp [plainName, overriddenIn]; done) | decide +kernel
abbrev own_vaR : Room := { frames := 1, cells := 1, slots := 2, locals := 14 }
theorem own_va (l : Launch) (Z : State) (a0 : Array Value) (hw : ∀ d ∈ tables_1, d.before a0 Z = true) (ws : List Jvm.Cond) (va : Addr) (kv : ClassId) (sc : Addr) (le : Addr) (h0 : Heap) (n0 : Nat) (Z0 : n0 ≤ h0.size) (pr1 : Old Z n0 h0) (pr2 : Sta Z Z.heap "com/example/lotd/lotd/ProcessingMode" "$VALUES" "[Lcom/example/lotd/lotd/ProcessingMode;" (.ref va)) (pr3 : Exa Z Z.heap va "[Lcom/example/lotd/lotd/ProcessingMode;") (pr4 : Arv Z Z.heap va kv (.object "com/example/lotd/lotd/ProcessingMode") (2 : Int32) [(.ref sc), (.ref le)] .null) :
    own_M l yN7 prog_10_method_1_code 0 (some (.array (.object "com/example/lotd/lotd/ProcessingMode"))) ws own_vaR #[] Z h0 (own_vaQ Z va kv sc le h0 n0) := by
  refine own_go (plainFor_of_name own_pn4) (fun m => own_ef6 m  ) ?_
  intro p e s m below meth c s₁ Bd hx hby hml hZ hh hown hnm X0 e0
  have N0 := Fr.nil n0
  have K0 : Keep h0 h0 [] := Keep.refl h0 _
  obtain ⟨T62, X62, e62, st62⟩ := getS2 X0 hx hZ hown (host := "") (Or.inl (own_k hw 14 rfl)) Via.refl e0 (Sta.ext pr1.2 pr2) (g := (mkF m 0 #[] [])) rfl (hb hby d2_0)
  refine own_st (T' := T62) (g' := (mkF m 3 #[] [(.ref va)])) st62 ?_
  have F64 : Arv Z h0 va kv (.object "com/example/lotd/lotd/ProcessingMode") (2 : Int32) [(.ref sc), (.ref le)] .null := (pr4.ext pr1.2)
  have F65 : Exa Z h0 va "[Lcom/example/lotd/lotd/ProcessingMode;" := (Exa.ext pr1.2 pr3)
  obtain ⟨T63, h63, X63, e63, E63, A63, B63, st63⟩ := own_cln X62 hx hZ hown (own_k hw 16 rfl) (own_k hw 17 rfl) (own_k hw 21 rfl) (own_k hw 19 rfl) (own_k hw 20 rfl) (own_k hw 22 rfl) e62 F64 F65 (g := (mkF m 3 #[] [(.ref va)])) rfl hml.symm rfl (hb hby d2_3) (by decide) (W := 0) (own_w0 rfl rfl) (by decide) (cap := 2) (by decide) (by decide) (by decide)
  obtain ⟨b63, g63⟩ : ∃ z, z = h0.size := ⟨_, rfl⟩
  rw [← g63] at A63 B63 st63
  have Z66 : n0 ≤ h63.size := Nat.le_trans Z0 E63.1
  have K66 : Keep h0 h63 [] := (Keep.ext K0 E63)
  have ge_b63 : n0 ≤ b63 := Nat.le_trans Z0 (Nat.le_of_eq g63.symm)
  refine own_st (T' := T63) (g' := (mkF m 6 #[] [(.ref b63)])) st63 ?_
  obtain ⟨T67, X67, e67, st67⟩ := castY X63 hx hZ hown (own_k hw 25 rfl) e63 (Ins.of_exa B63 (own_k hw 26 rfl)) (g := (mkF m 6 #[] [(.ref b63)])) rfl rfl (hb hby d2_6)
  refine own_st (T' := T67) (g' := (mkF m 9 #[] [(.ref b63)])) st67 ?_
  obtain ⟨fs, hr, hrun, hended, hW, hsame⟩ := X67.leave (v := some (.ref b63)) (fun h => by rw [Bd.returns] at h; cases h)
  refine own_end (own_retA X67 hx Bd.returns rfl rfl rfl (hb hby d2_9) hr) ⟨_, hrun, hended, _, _, rfl, ?_, ⟨_, rfl⟩, hW, hsame.mono (by decide) (by decide)⟩
  show own_vaQ Z _ _ _ _ h0 n0 _ T67.heap _
  rw [e67]
  exact ⟨b63, kv, rfl, N0, K66, A63, (Nat.le_trans K0.1 (Nat.le_of_eq g63.symm))⟩
theorem d1_0 : decode prog_10_method_4_code 0 = .ok (.aload_n 0, 1) := by decide +kernel
theorem d1_1 : decode prog_10_method_4_code 1 = .ok (.ifnonnull 12, 3) := by decide +kernel
theorem d1_4 : decode prog_10_method_4_code 4 = .ok (.getstatic 3, 3) := by decide +kernel
theorem d1_7 : decode prog_10_method_4_code 7 = .ok (.getfield 29, 3) := by decide +kernel
theorem d1_10 : decode prog_10_method_4_code 10 = .ok (.goto 4, 3) := by decide +kernel
theorem d1_14 : decode prog_10_method_4_code 14 = .ok (.astore_n 1, 1) := by decide +kernel
theorem d1_15 : decode prog_10_method_4_code 15 = .ok (.invokestatic 33, 3) := by decide +kernel
theorem own_pd7 : parseMethodDescriptor "()[Lcom/example/lotd/lotd/ProcessingMode;" = some ⟨[], some (.array (.object "com/example/lotd/lotd/ProcessingMode"))⟩ := by decide +kernel
theorem d1_18 : decode prog_10_method_4_code 18 = .ok (.astore_n 2, 1) := by decide +kernel
theorem d1_19 : decode prog_10_method_4_code 19 = .ok (.aload_n 2, 1) := by decide +kernel
theorem d1_20 : decode prog_10_method_4_code 20 = .ok (.arraylength, 1) := by decide +kernel
theorem d1_21 : decode prog_10_method_4_code 21 = .ok (.istore_n 3, 1) := by decide +kernel
theorem d1_22 : decode prog_10_method_4_code 22 = .ok (.iconst 0, 1) := by decide +kernel
theorem d1_23 : decode prog_10_method_4_code 23 = .ok (.istore 4, 2) := by decide +kernel
theorem d1_25 : decode prog_10_method_4_code 25 = .ok (.iload 4, 2) := by decide +kernel
theorem d1_27 : decode prog_10_method_4_code 27 = .ok (.iload_n 3, 1) := by decide +kernel
theorem d1_28 : decode prog_10_method_4_code 28 = .ok (.if_icmp .ge 30, 3) := by decide +kernel
theorem d1_31 : decode prog_10_method_4_code 31 = .ok (.aload_n 2, 1) := by decide +kernel
theorem d1_32 : decode prog_10_method_4_code 32 = .ok (.iload 4, 2) := by decide +kernel
theorem d1_34 : decode prog_10_method_4_code 34 = .ok (.aaload, 1) := by decide +kernel
theorem d1_35 : decode prog_10_method_4_code 35 = .ok (.astore 5, 2) := by decide +kernel
theorem d1_37 : decode prog_10_method_4_code 37 = .ok (.aload 5, 2) := by decide +kernel
theorem d1_39 : decode prog_10_method_4_code 39 = .ok (.getfield 29, 3) := by decide +kernel
theorem d1_42 : decode prog_10_method_4_code 42 = .ok (.aload_n 1, 1) := by decide +kernel
theorem d1_43 : decode prog_10_method_4_code 43 = .ok (.invokevirtual 37, 3) := by decide +kernel
theorem own_pd8 : parseMethodDescriptor "(Ljava/lang/Object;)Z" = some ⟨[(.object "java/lang/Object")], some .boolean⟩ := by decide +kernel
theorem d1_46 : decode prog_10_method_4_code 46 = .ok (.ifCond .eq 6, 3) := by decide +kernel
theorem d1_49 : decode prog_10_method_4_code 49 = .ok (.aload 5, 2) := by decide +kernel
theorem d1_51 : decode prog_10_method_4_code 51 = .ok (.areturn, 1) := by decide +kernel
theorem own_ef7 (m : MethodId)  : entryFrame m #[.null] 6 = mkF m 0 #[.val .null, .unset, .unset, .unset, .unset, .unset] [] := by first | (simp [entryFrame, mkF, argsToLocals, Value.category]; done) | rfl
def own_of0Q (Z : State) (va : Addr) (kv : ClassId) (sc : Addr) (le : Addr) (zc : Int32) (sv : Addr) (lv : Addr) (ts : Addr) (tl : Addr) (k1 : ClassId) (k2 : ClassId) (h0 : Heap) (n0 : Nat) (v : Option Value) (h : Heap) (L : List Loc) : Prop := ∃ (b : Addr), v = some (.ref sc) ∧ Fr n0 L ∧ Keep h0 h []
abbrev own_of0R : Room := { frames := 2, cells := 1, slots := 2, locals := 25 }
theorem own_of0 (l : Launch) (Z : State) (a0 : Array Value) (hw : ∀ d ∈ tables_1, d.before a0 Z = true) (ws : List Jvm.Cond) (va : Addr) (kv : ClassId) (sc : Addr) (le : Addr) (zc : Int32) (sv : Addr) (lv : Addr) (ts : Addr) (tl : Addr) (k1 : ClassId) (k2 : ClassId) (h0 : Heap) (n0 : Nat) (Z0 : n0 ≤ h0.size) (pr1 : Old Z n0 h0) (pr2 : Sta Z Z.heap "com/example/lotd/lotd/ProcessingMode" "$VALUES" "[Lcom/example/lotd/lotd/ProcessingMode;" (.ref va)) (pr3 : Exa Z Z.heap va "[Lcom/example/lotd/lotd/ProcessingMode;") (pr4 : Arv Z Z.heap va kv (.object "com/example/lotd/lotd/ProcessingMode") (2 : Int32) [(.ref sc), (.ref le)] .null) (pr5 : Sta Z Z.heap "java/lang/String" "COMPACT_STRINGS" "Z" (.int zc)) (pr6 : ¬ zc = 0) (pr7 : Sta Z Z.heap "com/example/lotd/lotd/ProcessingMode" "STRICT" "Lcom/example/lotd/lotd/ProcessingMode;" (.ref sc)) (pr8 : Exa Z Z.heap sc "com/example/lotd/lotd/ProcessingMode") (pr9 : Exa Z Z.heap le "com/example/lotd/lotd/ProcessingMode") (pr10 : Fld Z Z.heap sc "com/example/lotd/lotd/ProcessingMode" "value" "Ljava/lang/String;" (.ref sv)) (pr11 : Fld Z Z.heap le "com/example/lotd/lotd/ProcessingMode" "value" "Ljava/lang/String;" (.ref lv)) (pr12 : Exa Z Z.heap sv "java/lang/String") (pr13 : Fld Z Z.heap sv "java/lang/String" "coder" "B" (.int 0)) (pr14 : Fld Z Z.heap sv "java/lang/String" "value" "[B" (.ref ts)) (pr15 : Arv Z Z.heap ts k1 .byte (6 : Int32) [(.int 115), (.int 116), (.int 114), (.int 105), (.int 99), (.int 116)] (.int 0)) (pr16 : Exa Z Z.heap lv "java/lang/String") (pr17 : Fld Z Z.heap lv "java/lang/String" "coder" "B" (.int 0)) (pr18 : Fld Z Z.heap lv "java/lang/String" "value" "[B" (.ref tl)) (pr19 : Arv Z Z.heap tl k2 .byte (7 : Int32) [(.int 108), (.int 101), (.int 110), (.int 105), (.int 101), (.int 110), (.int 116)] (.int 0)) :
    own_M l yN3 prog_10_method_4_code 6 (some (.object "com/example/lotd/lotd/ProcessingMode")) ws own_of0R #[.null] Z h0 (own_of0Q Z va kv sc le zc sv lv ts tl k1 k2 h0 n0) := by
  refine own_go (plainFor_of_name own_pn4) (fun m => own_ef7 m  ) ?_
  intro p e s m below meth c s₁ Bd hx hby hml hZ hh hown hnm X0 e0
  have N0 := Fr.nil n0
  have K0 : Keep h0 h0 [] := Keep.refl h0 _
  refine own_st (T' := s₁) (g' := (mkF m 4 #[.val .null, .unset, .unset, .unset, .unset, .unset] [])) (fun _ kt => XS.aloadN X0.here hx rfl (hb hby d1_0) rfl rfl (XT.ifnonnullNo X0.here hx rfl (hb hby d1_1) rfl kt)) ?_
  obtain ⟨T68, X68, e68, st68⟩ := getS2 X0 hx hZ hown (host := "") (Or.inl (own_k hw 8 rfl)) Via.refl e0 (Sta.ext pr1.2 pr7) (g := (mkF m 4 #[.val .null, .unset, .unset, .unset, .unset, .unset] [])) rfl (hb hby d1_4)
  refine own_st (T' := T68) (g' := (mkF m 7 #[.val .null, .unset, .unset, .unset, .unset, .unset] [(.ref sc)])) st68 ?_
  have F69 : Fld Z h0 sc "com/example/lotd/lotd/ProcessingMode" "value" "Ljava/lang/String;" (.ref sv) := (Fld.ext pr1.2 pr10)
  obtain ⟨T70, X70, e70, st70⟩ := getF X68 hx hZ hown (host := "") (Or.inl (own_k hw 9 rfl)) Via.refl e68 F69 (g := (mkF m 7 #[.val .null, .unset, .unset, .unset, .unset, .unset] [(.ref sc)])) rfl rfl (hb hby d1_7)
  refine own_st (T' := T70) (g' := (mkF m 10 #[.val .null, .unset, .unset, .unset, .unset, .unset] [(.ref sv)])) st70 ?_
  refine own_st (T' := T70) (g' := (mkF m 15 #[.val .null, .val (.ref sv), .unset, .unset, .unset, .unset] [])) (fun _ kt => XS.goto X70.here hx rfl (pc0 := 10) (pc' := 14) rfl (hb hby d1_10) (by decide) (by decide) (XS.astoreN X70.here hx rfl (hb hby d1_14) rfl rfl (l' := #[.val .null, .val (.ref sv), .unset, .unset, .unset, .unset]) rfl kt)) ?_
  obtain ⟨_, _, ⟨T71, L71, k71, n71⟩, -, X71, ⟨Lc71, hQ71, l71, y71, z71⟩, st71⟩ := Jvm.LawKit.callS X70 hx (y := yN7) hown (mvT hZ (own_k hw 11 rfl)) (mvT hZ (own_k hw 12 rfl)) (mvT hZ (own_k hw 3 rfl)) (mvT hZ (own_k hw 13 rfl)) (by decide) (backOf (W := 0) (own_va l Z a0 hw [] va kv sc le h0 n0 Z0 pr1 pr2 pr3 pr4) hZ (own_k hw 13 rfl) (own_k hw 3 rfl) (by decide) (by decide)) (g := (mkF m 15 #[.val .null, .val (.ref sv), .unset, .unset, .unset, .unset] [])) rfl hml.symm  (argsL := []) (rest := []) (lenOf own_pd7 rfl) rfl (own_w0 rfl rfl) (hb hby d1_15) (fun _ _ => ⟨rfl, e70, (by decide : 0 + 1 ≤ 1), (by decide : 0 + 2 ≤ 2)⟩)
  dsimp only [Pt.U, Pt.locs, Pt.cells, Pt.slots] at X71 l71 y71 z71 st71 hQ71
  subst l71 y71 z71
  obtain ⟨b_71, kb_71, rfl, N71, K71_, P72, P73⟩ := hQ71
  have N74 := Fr.app N0 N71
  have Z75 : n0 ≤ T71.heap.size := Nat.le_trans Z0 K71_.1
  have K75 : Keep h0 T71.heap [] := (Keep.trans K0 K71_ all0)
  have ge76 : n0 ≤ b_71 := Nat.le_trans Z0 P73
  refine own_st (T' := T71) (g' := (mkF m 18 #[.val .null, .val (.ref sv), .unset, .unset, .unset, .unset] [(.ref b_71)])) st71 ?_
  refine own_st (T' := T71) (g' := (mkF m 20 #[.val .null, .val (.ref sv), .val (.ref b_71), .unset, .unset, .unset] [(.ref b_71)])) (fun _ kt => XS.astoreN X71.here hx rfl (hb hby d1_18) rfl rfl (l' := #[.val .null, .val (.ref sv), .val (.ref b_71), .unset, .unset, .unset]) rfl (XS.aloadN X71.here hx rfl (hb hby d1_19) rfl rfl kt)) ?_
  refine own_st (T' := T71) (g' := (mkF m 21 #[.val .null, .val (.ref sv), .val (.ref b_71), .unset, .unset, .unset] [(.int 2)])) (own_alen X71 hx hZ rfl P72 (g := (mkF m 20 #[.val .null, .val (.ref sv), .val (.ref b_71), .unset, .unset, .unset] [(.ref b_71)])) rfl rfl (hb hby d1_20)) ?_
  refine own_st (T' := T71) (g' := (mkF m 34 #[.val .null, .val (.ref sv), .val (.ref b_71), .val (.int 2), .val (.int 0), .unset] [(.int 0), (.ref b_71)])) (fun _ kt => XS.istoreN X71.here hx rfl (hb hby d1_21) rfl (l' := #[.val .null, .val (.ref sv), .val (.ref b_71), .val (.int 2), .unset, .unset]) rfl (XS.iconst X71.here hx rfl (hb hby d1_22) (XS.istore X71.here hx rfl (hb hby d1_23) rfl (l' := #[.val .null, .val (.ref sv), .val (.ref b_71), .val (.int 2), .val (.int 0), .unset]) rfl (XS.iload X71.here hx rfl (hb hby d1_25) rfl (XS.iloadN X71.here hx rfl (hb hby d1_27) rfl (XS.icmpNo X71.here hx rfl (hb hby d1_28) rfl (XT.ii_ge_f (by decide)) (XS.aloadN X71.here hx rfl (hb hby d1_31) rfl rfl (XS.iload X71.here hx rfl (hb hby d1_32) rfl kt)))))))) ?_
  refine own_st (T' := T71) (g' := (mkF m 35 #[.val .null, .val (.ref sv), .val (.ref b_71), .val (.int 2), .val (.int 0), .unset] [(.ref sc)])) (own_aal X71 hx hZ rfl P72 rfl ⟨by decide, by decide⟩ rfl (g := (mkF m 34 #[.val .null, .val (.ref sv), .val (.ref b_71), .val (.int 2), .val (.int 0), .unset] [(.int 0), (.ref b_71)])) rfl rfl (hb hby d1_34)) ?_
  refine own_st (T' := T71) (g' := (mkF m 39 #[.val .null, .val (.ref sv), .val (.ref b_71), .val (.int 2), .val (.int 0), .val (.ref sc)] [(.ref sc)])) (fun _ kt => XS.astore X71.here hx rfl (hb hby d1_35) rfl rfl (l' := #[.val .null, .val (.ref sv), .val (.ref b_71), .val (.int 2), .val (.int 0), .val (.ref sc)]) rfl (XS.aload X71.here hx rfl (hb hby d1_37) rfl rfl kt)) ?_
  have F77 : Old Z n0 T71.heap := (Old.keep pr1 K71_ all0)
  have F78 : Fld Z T71.heap sc "com/example/lotd/lotd/ProcessingMode" "value" "Ljava/lang/String;" (.ref sv) := (Fld.ext F77.2 pr10)
  obtain ⟨T79, X79, e79, st79⟩ := getF X71 hx hZ hown (host := "") (Or.inl (own_k hw 9 rfl)) Via.refl rfl F78 (g := (mkF m 39 #[.val .null, .val (.ref sv), .val (.ref b_71), .val (.int 2), .val (.int 0), .val (.ref sc)] [(.ref sc)])) rfl rfl (hb hby d1_39)
  refine own_st (T' := T79) (g' := (mkF m 42 #[.val .null, .val (.ref sv), .val (.ref b_71), .val (.int 2), .val (.int 0), .val (.ref sc)] [(.ref sv)])) st79 ?_
  refine own_st (T' := T79) (g' := (mkF m 43 #[.val .null, .val (.ref sv), .val (.ref b_71), .val (.int 2), .val (.int 0), .val (.ref sc)] [(.ref sv), (.ref sv)])) (fun _ kt => XS.aloadN X79.here hx rfl (hb hby d1_42) rfl rfl kt) ?_
  have F80 : Exa Z T71.heap sv "java/lang/String" := (Exa.ext F77.2 pr12)
  obtain ⟨cq82, kq82, qa82, qb82, qc82⟩ := isOf hZ e79 F80
  obtain ⟨_, _, ⟨T81, L81, k81, n81⟩, -, X81, ⟨Lc81, hQ81, l81, y81, z81⟩, st81⟩ := X79.virtualBack hx (y := yN1) (z := yN1) hown (mvT hZ (own_k hw 27 rfl)) (mvT hZ (own_k hw 28 rfl)) (notFace_of_selects (args := #[]) (mvT hZ (own_k hw 30 rfl))) (mvT hZ (own_k hw 30 rfl)) (mvT hZ (own_k hw 29 rfl)) (by decide) (backOf (W := 0) (own_es l Z a0 hw [] sv T71.heap n0 Z75 ) hZ (own_k hw 32 rfl) (own_k hw 31 rfl) (by decide) (by decide)) qa82 qc82 (g := (mkF m 43 #[.val .null, .val (.ref sv), .val (.ref b_71), .val (.int 2), .val (.int 0), .val (.ref sc)] [(.ref sv), (.ref sv)])) rfl hml.symm (Steps.refl _) (argsL := [(.ref sv)]) (rest := []) (lenOf own_pd8 rfl) rfl (own_w0 rfl rfl) (hb hby d1_43) (fun _ _ => ⟨rfl, e79, (by decide : 1 + 0 ≤ 1), (by decide : 2 + 0 ≤ 2)⟩)
  dsimp only [Pt.U, Pt.locs, Pt.cells, Pt.slots] at X81 l81 y81 z81 st81 hQ81
  subst l81 y81 z81
  obtain ⟨rfl, N81, e81⟩ := hQ81
  have N83 := Fr.app N74 N81
  refine own_tr (T' := T81) (g' := (mkF m 46 #[.val .null, .val (.ref sv), .val (.ref b_71), .val (.int 2), .val (.int 0), .val (.ref sc)] [(.int 1)])) st81 ?_
  refine own_st (T' := T81) (g' := (mkF m 51 #[.val .null, .val (.ref sv), .val (.ref b_71), .val (.int 2), .val (.int 0), .val (.ref sc)] [(.ref sc)])) (fun _ kt => XS.ifNo X81.here hx rfl (hb hby d1_46) rfl (XT.i0_eq_f (by decide)) (XS.aload X81.here hx rfl (hb hby d1_49) rfl rfl kt)) ?_
  obtain ⟨fs, hr, hrun, hended, hW, hsame⟩ := X81.leave (v := some (.ref sc)) (fun h => by rw [Bd.returns] at h; cases h)
  refine own_end (own_retA X81 hx Bd.returns rfl rfl rfl (hb hby d1_51) hr) ⟨_, hrun, hended, _, _, rfl, ?_, ⟨_, rfl⟩, hW, hsame.mono (by decide) (by decide)⟩
  show own_of0Q Z _ _ _ _ _ _ _ _ _ _ _ h0 n0 _ T81.heap _
  rw [e81]
  exact ⟨b_71, rfl, N83, K75⟩
theorem d1_13 : decode prog_10_method_4_code 13 = .ok (.aload_n 0, 1) := by decide +kernel
theorem d1_52 : decode prog_10_method_4_code 52 = .ok (.iinc 4 1, 3) := by decide +kernel
theorem d1_55 : decode prog_10_method_4_code 55 = .ok (.goto (-30), 3) := by decide +kernel
theorem d1_58 : decode prog_10_method_4_code 58 = .ok (.aconst_null, 1) := by decide +kernel
theorem d1_59 : decode prog_10_method_4_code 59 = .ok (.areturn, 1) := by decide +kernel
theorem own_ef8 (m : MethodId) (x0 : Addr) : entryFrame m #[(.ref x0)] 6 = mkF m 0 #[.val (.ref x0), .unset, .unset, .unset, .unset, .unset] [] := by first | (simp [entryFrame, mkF, argsToLocals, Value.category]; done) | rfl
def own_ofnQ (Z : State) (va : Addr) (kv : ClassId) (sc : Addr) (le : Addr) (zc : Int32) (sv : Addr) (lv : Addr) (ts : Addr) (tl : Addr) (k1 : ClassId) (k2 : ClassId) (y : Addr) (t : Addr) (ky : ClassId) (zy : Int32) (vy : List Value) (h0 : Heap) (n0 : Nat) (v : Option Value) (h : Heap) (L : List Loc) : Prop := ∃ (b : Addr), v = some .null ∧ Fr n0 L ∧ Keep h0 h []
abbrev own_ofnR : Room := { frames := 2, cells := 1, slots := 2, locals := 28 }
theorem own_ofn (l : Launch) (Z : State) (a0 : Array Value) (hw : ∀ d ∈ tables_1, d.before a0 Z = true) (ws : List Jvm.Cond) (va : Addr) (kv : ClassId) (sc : Addr) (le : Addr) (zc : Int32) (sv : Addr) (lv : Addr) (ts : Addr) (tl : Addr) (k1 : ClassId) (k2 : ClassId) (y : Addr) (t : Addr) (ky : ClassId) (zy : Int32) (vy : List Value) (h0 : Heap) (n0 : Nat) (Z0 : n0 ≤ h0.size) (pr1 : Old Z n0 h0) (pr2 : Sta Z Z.heap "com/example/lotd/lotd/ProcessingMode" "$VALUES" "[Lcom/example/lotd/lotd/ProcessingMode;" (.ref va)) (pr3 : Exa Z Z.heap va "[Lcom/example/lotd/lotd/ProcessingMode;") (pr4 : Arv Z Z.heap va kv (.object "com/example/lotd/lotd/ProcessingMode") (2 : Int32) [(.ref sc), (.ref le)] .null) (pr5 : Sta Z Z.heap "java/lang/String" "COMPACT_STRINGS" "Z" (.int zc)) (pr6 : ¬ zc = 0) (pr7 : Sta Z Z.heap "com/example/lotd/lotd/ProcessingMode" "STRICT" "Lcom/example/lotd/lotd/ProcessingMode;" (.ref sc)) (pr8 : Exa Z Z.heap sc "com/example/lotd/lotd/ProcessingMode") (pr9 : Exa Z Z.heap le "com/example/lotd/lotd/ProcessingMode") (pr10 : Fld Z Z.heap sc "com/example/lotd/lotd/ProcessingMode" "value" "Ljava/lang/String;" (.ref sv)) (pr11 : Fld Z Z.heap le "com/example/lotd/lotd/ProcessingMode" "value" "Ljava/lang/String;" (.ref lv)) (pr12 : Exa Z Z.heap sv "java/lang/String") (pr13 : Fld Z Z.heap sv "java/lang/String" "coder" "B" (.int 0)) (pr14 : Fld Z Z.heap sv "java/lang/String" "value" "[B" (.ref ts)) (pr15 : Arv Z Z.heap ts k1 .byte (6 : Int32) [(.int 115), (.int 116), (.int 114), (.int 105), (.int 99), (.int 116)] (.int 0)) (pr16 : Exa Z Z.heap lv "java/lang/String") (pr17 : Fld Z Z.heap lv "java/lang/String" "coder" "B" (.int 0)) (pr18 : Fld Z Z.heap lv "java/lang/String" "value" "[B" (.ref tl)) (pr19 : Arv Z Z.heap tl k2 .byte (7 : Int32) [(.int 108), (.int 101), (.int 110), (.int 105), (.int 101), (.int 110), (.int 116)] (.int 0)) (pr20 : n0 ≤ y) (pr21 : Exa Z h0 y "java/lang/String") (pr22 : Fld Z h0 y "java/lang/String" "coder" "B" (.int 0)) (pr23 : Fld Z h0 y "java/lang/String" "value" "[B" (.ref t)) (pr24 : Arv Z h0 t ky .byte zy vy (.int 0)) (pr25 : ¬ (6 : Int32) = zy) (pr26 : ¬ (7 : Int32) = zy) :
    own_M l yN3 prog_10_method_4_code 6 (some (.object "com/example/lotd/lotd/ProcessingMode")) ws own_ofnR #[(.ref y)] Z h0 (own_ofnQ Z va kv sc le zc sv lv ts tl k1 k2 y t ky zy vy h0 n0) := by
  refine own_go (plainFor_of_name own_pn4) (fun m => own_ef8 m y ) ?_
  intro p e s m below meth c s₁ Bd hx hby hml hZ hh hown hnm X0 e0
  have N0 := Fr.nil n0
  have K0 : Keep h0 h0 [] := Keep.refl h0 _
  refine own_st (T' := s₁) (g' := (mkF m 15 #[.val (.ref y), .val (.ref y), .unset, .unset, .unset, .unset] [])) (fun _ kt => XS.aloadN X0.here hx rfl (hb hby d1_0) rfl rfl (XT.ifnonnullYes X0.here hx rfl (pc0 := 1) (pc' := 13) rfl (hb hby d1_1) rfl (by decide) (by decide) (XS.aloadN X0.here hx rfl (hb hby d1_13) rfl rfl (XS.astoreN X0.here hx rfl (hb hby d1_14) rfl rfl (l' := #[.val (.ref y), .val (.ref y), .unset, .unset, .unset, .unset]) rfl kt)))) ?_
  obtain ⟨_, _, ⟨T84, L84, k84, n84⟩, -, X84, ⟨Lc84, hQ84, l84, y84, z84⟩, st84⟩ := Jvm.LawKit.callS X0 hx (y := yN7) hown (mvT hZ (own_k hw 11 rfl)) (mvT hZ (own_k hw 12 rfl)) (mvT hZ (own_k hw 3 rfl)) (mvT hZ (own_k hw 13 rfl)) (by decide) (backOf (W := 0) (own_va l Z a0 hw [] va kv sc le h0 n0 Z0 pr1 pr2 pr3 pr4) hZ (own_k hw 13 rfl) (own_k hw 3 rfl) (by decide) (by decide)) (g := (mkF m 15 #[.val (.ref y), .val (.ref y), .unset, .unset, .unset, .unset] [])) rfl hml.symm  (argsL := []) (rest := []) (lenOf own_pd7 rfl) rfl (own_w0 rfl rfl) (hb hby d1_15) (fun _ _ => ⟨rfl, e0, (by decide : 0 + 1 ≤ 1), (by decide : 0 + 2 ≤ 2)⟩)
  dsimp only [Pt.U, Pt.locs, Pt.cells, Pt.slots] at X84 l84 y84 z84 st84 hQ84
  subst l84 y84 z84
  obtain ⟨b_84, kb_84, rfl, N84, K84_, P85, P86⟩ := hQ84
  have N87 := Fr.app N0 N84
  have Z88 : n0 ≤ T84.heap.size := Nat.le_trans Z0 K84_.1
  have K88 : Keep h0 T84.heap [] := (Keep.trans K0 K84_ all0)
  have ne89 : y ≠ b_84 := Nat.ne_of_lt (Nat.lt_of_lt_of_le pr21.lt P86)
  have ne90 : t ≠ b_84 := Nat.ne_of_lt (Nat.lt_of_lt_of_le pr24.lt P86)
  have ge91 : n0 ≤ b_84 := Nat.le_trans Z0 P86
  refine own_st (T' := T84) (g' := (mkF m 18 #[.val (.ref y), .val (.ref y), .unset, .unset, .unset, .unset] [(.ref b_84)])) st84 ?_
  refine own_st (T' := T84) (g' := (mkF m 20 #[.val (.ref y), .val (.ref y), .val (.ref b_84), .unset, .unset, .unset] [(.ref b_84)])) (fun _ kt => XS.astoreN X84.here hx rfl (hb hby d1_18) rfl rfl (l' := #[.val (.ref y), .val (.ref y), .val (.ref b_84), .unset, .unset, .unset]) rfl (XS.aloadN X84.here hx rfl (hb hby d1_19) rfl rfl kt)) ?_
  refine own_st (T' := T84) (g' := (mkF m 21 #[.val (.ref y), .val (.ref y), .val (.ref b_84), .unset, .unset, .unset] [(.int 2)])) (own_alen X84 hx hZ rfl P85 (g := (mkF m 20 #[.val (.ref y), .val (.ref y), .val (.ref b_84), .unset, .unset, .unset] [(.ref b_84)])) rfl rfl (hb hby d1_20)) ?_
  refine own_st (T' := T84) (g' := (mkF m 34 #[.val (.ref y), .val (.ref y), .val (.ref b_84), .val (.int 2), .val (.int 0), .unset] [(.int 0), (.ref b_84)])) (fun _ kt => XS.istoreN X84.here hx rfl (hb hby d1_21) rfl (l' := #[.val (.ref y), .val (.ref y), .val (.ref b_84), .val (.int 2), .unset, .unset]) rfl (XS.iconst X84.here hx rfl (hb hby d1_22) (XS.istore X84.here hx rfl (hb hby d1_23) rfl (l' := #[.val (.ref y), .val (.ref y), .val (.ref b_84), .val (.int 2), .val (.int 0), .unset]) rfl (XS.iload X84.here hx rfl (hb hby d1_25) rfl (XS.iloadN X84.here hx rfl (hb hby d1_27) rfl (XS.icmpNo X84.here hx rfl (hb hby d1_28) rfl (XT.ii_ge_f (by decide)) (XS.aloadN X84.here hx rfl (hb hby d1_31) rfl rfl (XS.iload X84.here hx rfl (hb hby d1_32) rfl kt)))))))) ?_
  refine own_st (T' := T84) (g' := (mkF m 35 #[.val (.ref y), .val (.ref y), .val (.ref b_84), .val (.int 2), .val (.int 0), .unset] [(.ref sc)])) (own_aal X84 hx hZ rfl P85 rfl ⟨by decide, by decide⟩ rfl (g := (mkF m 34 #[.val (.ref y), .val (.ref y), .val (.ref b_84), .val (.int 2), .val (.int 0), .unset] [(.int 0), (.ref b_84)])) rfl rfl (hb hby d1_34)) ?_
  refine own_st (T' := T84) (g' := (mkF m 39 #[.val (.ref y), .val (.ref y), .val (.ref b_84), .val (.int 2), .val (.int 0), .val (.ref sc)] [(.ref sc)])) (fun _ kt => XS.astore X84.here hx rfl (hb hby d1_35) rfl rfl (l' := #[.val (.ref y), .val (.ref y), .val (.ref b_84), .val (.int 2), .val (.int 0), .val (.ref sc)]) rfl (XS.aload X84.here hx rfl (hb hby d1_37) rfl rfl kt)) ?_
  have F92 : Old Z n0 T84.heap := (Old.keep pr1 K84_ all0)
  have F93 : Fld Z T84.heap sc "com/example/lotd/lotd/ProcessingMode" "value" "Ljava/lang/String;" (.ref sv) := (Fld.ext F92.2 pr10)
  obtain ⟨T94, X94, e94, st94⟩ := getF X84 hx hZ hown (host := "") (Or.inl (own_k hw 9 rfl)) Via.refl rfl F93 (g := (mkF m 39 #[.val (.ref y), .val (.ref y), .val (.ref b_84), .val (.int 2), .val (.int 0), .val (.ref sc)] [(.ref sc)])) rfl rfl (hb hby d1_39)
  refine own_st (T' := T94) (g' := (mkF m 42 #[.val (.ref y), .val (.ref y), .val (.ref b_84), .val (.int 2), .val (.int 0), .val (.ref sc)] [(.ref sv)])) st94 ?_
  refine own_st (T' := T94) (g' := (mkF m 43 #[.val (.ref y), .val (.ref y), .val (.ref b_84), .val (.int 2), .val (.int 0), .val (.ref sc)] [(.ref y), (.ref sv)])) (fun _ kt => XS.aloadN X94.here hx rfl (hb hby d1_42) rfl rfl kt) ?_
  have F95 : Exa Z T84.heap sv "java/lang/String" := (Exa.ext F92.2 pr12)
  have F96 : Fld Z T84.heap sv "java/lang/String" "coder" "B" (.int 0) := (Fld.ext F92.2 pr13)
  have F97 : Fld Z T84.heap sv "java/lang/String" "value" "[B" (.ref ts) := (Fld.ext F92.2 pr14)
  have F98 : Arv Z T84.heap ts k1 .byte (6 : Int32) [(.int 115), (.int 116), (.int 114), (.int 105), (.int 99), (.int 116)] (.int 0) := (pr15.ext F92.2)
  have F99 : Exa Z T84.heap y "java/lang/String" := (Exa.keep pr21 K84_)
  have F100 : Fld Z T84.heap y "java/lang/String" "coder" "B" (.int 0) := (Fld.keep pr22 K84_ nin0)
  have F101 : Fld Z T84.heap y "java/lang/String" "value" "[B" (.ref t) := (Fld.keep pr23 K84_ nin0)
  have F102 : Arv Z T84.heap t ky .byte zy vy (.int 0) := (Arv.keep pr24 K84_ nin0)
  obtain ⟨cq104, kq104, qa104, qb104, qc104⟩ := isOf hZ e94 F95
  obtain ⟨_, _, ⟨T103, L103, k103, n103⟩, -, X103, ⟨Lc103, hQ103, l103, y103, z103⟩, st103⟩ := X94.virtualBack hx (y := yN1) (z := yN1) hown (mvT hZ (own_k hw 27 rfl)) (mvT hZ (own_k hw 28 rfl)) (notFace_of_selects (args := #[]) (mvT hZ (own_k hw 30 rfl))) (mvT hZ (own_k hw 30 rfl)) (mvT hZ (own_k hw 29 rfl)) (by decide) (backOf (W := 0) (own_ed l Z a0 hw [] sv y zc ts t k1 ky (6 : Int32) zy [(.int 115), (.int 116), (.int 114), (.int 105), (.int 99), (.int 116)] vy T84.heap n0 Z88 F92 pr5 pr6 (Old.ne F92 pr12.lt pr20) F95 F96 F97 F98 F99 F100 F101 F102 pr25) hZ (own_k hw 32 rfl) (own_k hw 31 rfl) (by decide) (by decide)) qa104 qc104 (g := (mkF m 43 #[.val (.ref y), .val (.ref y), .val (.ref b_84), .val (.int 2), .val (.int 0), .val (.ref sc)] [(.ref y), (.ref sv)])) rfl hml.symm (Steps.refl _) (argsL := [(.ref y)]) (rest := []) (lenOf own_pd8 rfl) rfl (own_w0 rfl rfl) (hb hby d1_43) (fun _ _ => ⟨rfl, e94, (by decide : 1 + 0 ≤ 1), (by decide : 2 + 0 ≤ 2)⟩)
  dsimp only [Pt.U, Pt.locs, Pt.cells, Pt.slots] at X103 l103 y103 z103 st103 hQ103
  subst l103 y103 z103
  obtain ⟨rfl, N103, e103⟩ := hQ103
  have N105 := Fr.app N87 N103
  refine own_tr (T' := T103) (g' := (mkF m 46 #[.val (.ref y), .val (.ref y), .val (.ref b_84), .val (.int 2), .val (.int 0), .val (.ref sc)] [(.int 0)])) st103 ?_
  refine own_st (T' := T103) (g' := (mkF m 34 #[.val (.ref y), .val (.ref y), .val (.ref b_84), .val (.int 2), .val (.int 1), .val (.ref sc)] [(.int 1), (.ref b_84)])) (fun _ kt => XS.ifYes X103.here hx rfl (pc0 := 46) (pc' := 52) rfl (hb hby d1_46) rfl (XT.i0_eq_t (by decide)) (by decide) (by decide) (XS.iinc X103.here hx rfl (hb hby d1_52) rfl (l' := #[.val (.ref y), .val (.ref y), .val (.ref b_84), .val (.int 2), .val (.int 1), .val (.ref sc)]) rfl (XS.goto X103.here hx rfl (pc0 := 55) (pc' := 25) rfl (hb hby d1_55) (by decide) (by decide) (XS.iload X103.here hx rfl (hb hby d1_25) rfl (XS.iloadN X103.here hx rfl (hb hby d1_27) rfl (XS.icmpNo X103.here hx rfl (hb hby d1_28) rfl (XT.ii_ge_f (by decide)) (XS.aloadN X103.here hx rfl (hb hby d1_31) rfl rfl (XS.iload X103.here hx rfl (hb hby d1_32) rfl kt)))))))) ?_
  refine own_st (T' := T103) (g' := (mkF m 35 #[.val (.ref y), .val (.ref y), .val (.ref b_84), .val (.int 2), .val (.int 1), .val (.ref sc)] [(.ref le)])) (own_aal X103 hx hZ e103 P85 rfl ⟨by decide, by decide⟩ rfl (g := (mkF m 34 #[.val (.ref y), .val (.ref y), .val (.ref b_84), .val (.int 2), .val (.int 1), .val (.ref sc)] [(.int 1), (.ref b_84)])) rfl rfl (hb hby d1_34)) ?_
  refine own_st (T' := T103) (g' := (mkF m 39 #[.val (.ref y), .val (.ref y), .val (.ref b_84), .val (.int 2), .val (.int 1), .val (.ref le)] [(.ref le)])) (fun _ kt => XS.astore X103.here hx rfl (hb hby d1_35) rfl rfl (l' := #[.val (.ref y), .val (.ref y), .val (.ref b_84), .val (.int 2), .val (.int 1), .val (.ref le)]) rfl (XS.aload X103.here hx rfl (hb hby d1_37) rfl rfl kt)) ?_
  have F106 : Fld Z T84.heap le "com/example/lotd/lotd/ProcessingMode" "value" "Ljava/lang/String;" (.ref lv) := (Fld.ext F92.2 pr11)
  obtain ⟨T107, X107, e107, st107⟩ := getF X103 hx hZ hown (host := "") (Or.inl (own_k hw 9 rfl)) Via.refl e103 F106 (g := (mkF m 39 #[.val (.ref y), .val (.ref y), .val (.ref b_84), .val (.int 2), .val (.int 1), .val (.ref le)] [(.ref le)])) rfl rfl (hb hby d1_39)
  refine own_st (T' := T107) (g' := (mkF m 42 #[.val (.ref y), .val (.ref y), .val (.ref b_84), .val (.int 2), .val (.int 1), .val (.ref le)] [(.ref lv)])) st107 ?_
  refine own_st (T' := T107) (g' := (mkF m 43 #[.val (.ref y), .val (.ref y), .val (.ref b_84), .val (.int 2), .val (.int 1), .val (.ref le)] [(.ref y), (.ref lv)])) (fun _ kt => XS.aloadN X107.here hx rfl (hb hby d1_42) rfl rfl kt) ?_
  have F108 : Exa Z T84.heap lv "java/lang/String" := (Exa.ext F92.2 pr16)
  have F109 : Fld Z T84.heap lv "java/lang/String" "coder" "B" (.int 0) := (Fld.ext F92.2 pr17)
  have F110 : Fld Z T84.heap lv "java/lang/String" "value" "[B" (.ref tl) := (Fld.ext F92.2 pr18)
  have F111 : Arv Z T84.heap tl k2 .byte (7 : Int32) [(.int 108), (.int 101), (.int 110), (.int 105), (.int 101), (.int 110), (.int 116)] (.int 0) := (pr19.ext F92.2)
  obtain ⟨cq113, kq113, qa113, qb113, qc113⟩ := isOf hZ e107 F108
  obtain ⟨_, _, ⟨T112, L112, k112, n112⟩, -, X112, ⟨Lc112, hQ112, l112, y112, z112⟩, st112⟩ := X107.virtualBack hx (y := yN1) (z := yN1) hown (mvT hZ (own_k hw 27 rfl)) (mvT hZ (own_k hw 28 rfl)) (notFace_of_selects (args := #[]) (mvT hZ (own_k hw 30 rfl))) (mvT hZ (own_k hw 30 rfl)) (mvT hZ (own_k hw 29 rfl)) (by decide) (backOf (W := 0) (own_ed l Z a0 hw [] lv y zc tl t k2 ky (7 : Int32) zy [(.int 108), (.int 101), (.int 110), (.int 105), (.int 101), (.int 110), (.int 116)] vy T84.heap n0 Z88 F92 pr5 pr6 (Old.ne F92 pr16.lt pr20) F108 F109 F110 F111 F99 F100 F101 F102 pr26) hZ (own_k hw 32 rfl) (own_k hw 31 rfl) (by decide) (by decide)) qa113 qc113 (g := (mkF m 43 #[.val (.ref y), .val (.ref y), .val (.ref b_84), .val (.int 2), .val (.int 1), .val (.ref le)] [(.ref y), (.ref lv)])) rfl hml.symm (Steps.refl _) (argsL := [(.ref y)]) (rest := []) (lenOf own_pd8 rfl) rfl (own_w0 rfl rfl) (hb hby d1_43) (fun _ _ => ⟨rfl, e107, (by decide : 1 + 0 ≤ 1), (by decide : 2 + 0 ≤ 2)⟩)
  dsimp only [Pt.U, Pt.locs, Pt.cells, Pt.slots] at X112 l112 y112 z112 st112 hQ112
  subst l112 y112 z112
  obtain ⟨rfl, N112, e112⟩ := hQ112
  have N114 := Fr.app N105 N112
  refine own_tr (T' := T112) (g' := (mkF m 46 #[.val (.ref y), .val (.ref y), .val (.ref b_84), .val (.int 2), .val (.int 1), .val (.ref le)] [(.int 0)])) st112 ?_
  refine own_st (T' := T112) (g' := (mkF m 59 #[.val (.ref y), .val (.ref y), .val (.ref b_84), .val (.int 2), .val (.int 2), .val (.ref le)] [.null])) (fun _ kt => XS.ifYes X112.here hx rfl (pc0 := 46) (pc' := 52) rfl (hb hby d1_46) rfl (XT.i0_eq_t (by decide)) (by decide) (by decide) (XS.iinc X112.here hx rfl (hb hby d1_52) rfl (l' := #[.val (.ref y), .val (.ref y), .val (.ref b_84), .val (.int 2), .val (.int 2), .val (.ref le)]) rfl (XS.goto X112.here hx rfl (pc0 := 55) (pc' := 25) rfl (hb hby d1_55) (by decide) (by decide) (XS.iload X112.here hx rfl (hb hby d1_25) rfl (XS.iloadN X112.here hx rfl (hb hby d1_27) rfl (XS.icmpYes X112.here hx rfl (pc0 := 28) (pc' := 58) rfl (hb hby d1_28) rfl (XT.ii_ge_t (by decide)) (by decide) (by decide) (XS.aconstNull X112.here hx rfl (hb hby d1_58) kt))))))) ?_
  obtain ⟨fs, hr, hrun, hended, hW, hsame⟩ := X112.leave (v := some .null) (fun h => by rw [Bd.returns] at h; cases h)
  refine own_end (own_retA X112 hx Bd.returns rfl rfl rfl (hb hby d1_59) hr) ⟨_, hrun, hended, _, _, rfl, ?_, ⟨_, rfl⟩, hW, hsame.mono (by decide) (by decide)⟩
  show own_ofnQ Z _ _ _ _ _ _ _ _ _ _ _ _ _ _ _ _ h0 n0 _ T112.heap _
  rw [e112]
  exact ⟨b_84, rfl, N114, K88⟩
def own_of6tQ (Z : State) (va : Addr) (kv : ClassId) (sc : Addr) (le : Addr) (zc : Int32) (sv : Addr) (lv : Addr) (ts : Addr) (tl : Addr) (k1 : ClassId) (k2 : ClassId) (y : Addr) (t : Addr) (ky : ClassId) (x0 : Int32) (x1 : Int32) (x2 : Int32) (x3 : Int32) (x4 : Int32) (x5 : Int32) (h0 : Heap) (n0 : Nat) (v : Option Value) (h : Heap) (L : List Loc) : Prop := ∃ (b : Addr), v = some (.ref sc) ∧ Fr n0 L ∧ Keep h0 h []
abbrev own_of6tR : Room := { frames := 2, cells := 1, slots := 2, locals := 28 }
theorem own_of6t (l : Launch) (Z : State) (a0 : Array Value) (hw : ∀ d ∈ tables_1, d.before a0 Z = true) (ws : List Jvm.Cond) (va : Addr) (kv : ClassId) (sc : Addr) (le : Addr) (zc : Int32) (sv : Addr) (lv : Addr) (ts : Addr) (tl : Addr) (k1 : ClassId) (k2 : ClassId) (y : Addr) (t : Addr) (ky : ClassId) (x0 : Int32) (x1 : Int32) (x2 : Int32) (x3 : Int32) (x4 : Int32) (x5 : Int32) (h0 : Heap) (n0 : Nat) (Z0 : n0 ≤ h0.size) (pr1 : Old Z n0 h0) (pr2 : Sta Z Z.heap "com/example/lotd/lotd/ProcessingMode" "$VALUES" "[Lcom/example/lotd/lotd/ProcessingMode;" (.ref va)) (pr3 : Exa Z Z.heap va "[Lcom/example/lotd/lotd/ProcessingMode;") (pr4 : Arv Z Z.heap va kv (.object "com/example/lotd/lotd/ProcessingMode") (2 : Int32) [(.ref sc), (.ref le)] .null) (pr5 : Sta Z Z.heap "java/lang/String" "COMPACT_STRINGS" "Z" (.int zc)) (pr6 : ¬ zc = 0) (pr7 : Sta Z Z.heap "com/example/lotd/lotd/ProcessingMode" "STRICT" "Lcom/example/lotd/lotd/ProcessingMode;" (.ref sc)) (pr8 : Exa Z Z.heap sc "com/example/lotd/lotd/ProcessingMode") (pr9 : Exa Z Z.heap le "com/example/lotd/lotd/ProcessingMode") (pr10 : Fld Z Z.heap sc "com/example/lotd/lotd/ProcessingMode" "value" "Ljava/lang/String;" (.ref sv)) (pr11 : Fld Z Z.heap le "com/example/lotd/lotd/ProcessingMode" "value" "Ljava/lang/String;" (.ref lv)) (pr12 : Exa Z Z.heap sv "java/lang/String") (pr13 : Fld Z Z.heap sv "java/lang/String" "coder" "B" (.int 0)) (pr14 : Fld Z Z.heap sv "java/lang/String" "value" "[B" (.ref ts)) (pr15 : Arv Z Z.heap ts k1 .byte (6 : Int32) [(.int 115), (.int 116), (.int 114), (.int 105), (.int 99), (.int 116)] (.int 0)) (pr16 : Exa Z Z.heap lv "java/lang/String") (pr17 : Fld Z Z.heap lv "java/lang/String" "coder" "B" (.int 0)) (pr18 : Fld Z Z.heap lv "java/lang/String" "value" "[B" (.ref tl)) (pr19 : Arv Z Z.heap tl k2 .byte (7 : Int32) [(.int 108), (.int 101), (.int 110), (.int 105), (.int 101), (.int 110), (.int 116)] (.int 0)) (pr20 : n0 ≤ y) (pr21 : Exa Z h0 y "java/lang/String") (pr22 : Fld Z h0 y "java/lang/String" "coder" "B" (.int 0)) (pr23 : Fld Z h0 y "java/lang/String" "value" "[B" (.ref t)) (pr24 : Arv Z h0 t ky .byte (6 : Int32) [(.int x0.toInt8.toInt32), (.int x1.toInt8.toInt32), (.int x2.toInt8.toInt32), (.int x3.toInt8.toInt32), (.int x4.toInt8.toInt32), (.int x5.toInt8.toInt32)] (.int 0)) (pr25 : own_cc x0) (pr26 : own_cc x1) (pr27 : own_cc x2) (pr28 : own_cc x3) (pr29 : own_cc x4) (pr30 : own_cc x5) (pr31 : ¬ (own_m6 x0 x1 x2 x3 x4 x5) = 0) :
    own_M l yN3 prog_10_method_4_code 6 (some (.object "com/example/lotd/lotd/ProcessingMode")) ws own_of6tR #[(.ref y)] Z h0 (own_of6tQ Z va kv sc le zc sv lv ts tl k1 k2 y t ky x0 x1 x2 x3 x4 x5 h0 n0) := by
  refine own_go (plainFor_of_name own_pn4) (fun m => own_ef8 m y ) ?_
  intro p e s m below meth c s₁ Bd hx hby hml hZ hh hown hnm X0 e0
  have N0 := Fr.nil n0
  have K0 : Keep h0 h0 [] := Keep.refl h0 _
  refine own_st (T' := s₁) (g' := (mkF m 15 #[.val (.ref y), .val (.ref y), .unset, .unset, .unset, .unset] [])) (fun _ kt => XS.aloadN X0.here hx rfl (hb hby d1_0) rfl rfl (XT.ifnonnullYes X0.here hx rfl (pc0 := 1) (pc' := 13) rfl (hb hby d1_1) rfl (by decide) (by decide) (XS.aloadN X0.here hx rfl (hb hby d1_13) rfl rfl (XS.astoreN X0.here hx rfl (hb hby d1_14) rfl rfl (l' := #[.val (.ref y), .val (.ref y), .unset, .unset, .unset, .unset]) rfl kt)))) ?_
  obtain ⟨_, _, ⟨T115, L115, k115, n115⟩, -, X115, ⟨Lc115, hQ115, l115, y115, z115⟩, st115⟩ := Jvm.LawKit.callS X0 hx (y := yN7) hown (mvT hZ (own_k hw 11 rfl)) (mvT hZ (own_k hw 12 rfl)) (mvT hZ (own_k hw 3 rfl)) (mvT hZ (own_k hw 13 rfl)) (by decide) (backOf (W := 0) (own_va l Z a0 hw [] va kv sc le h0 n0 Z0 pr1 pr2 pr3 pr4) hZ (own_k hw 13 rfl) (own_k hw 3 rfl) (by decide) (by decide)) (g := (mkF m 15 #[.val (.ref y), .val (.ref y), .unset, .unset, .unset, .unset] [])) rfl hml.symm  (argsL := []) (rest := []) (lenOf own_pd7 rfl) rfl (own_w0 rfl rfl) (hb hby d1_15) (fun _ _ => ⟨rfl, e0, (by decide : 0 + 1 ≤ 1), (by decide : 0 + 2 ≤ 2)⟩)
  dsimp only [Pt.U, Pt.locs, Pt.cells, Pt.slots] at X115 l115 y115 z115 st115 hQ115
  subst l115 y115 z115
  obtain ⟨b_115, kb_115, rfl, N115, K115_, P116, P117⟩ := hQ115
  have N118 := Fr.app N0 N115
  have Z119 : n0 ≤ T115.heap.size := Nat.le_trans Z0 K115_.1
  have K119 : Keep h0 T115.heap [] := (Keep.trans K0 K115_ all0)
  have ne120 : y ≠ b_115 := Nat.ne_of_lt (Nat.lt_of_lt_of_le pr21.lt P117)
  have ne121 : t ≠ b_115 := Nat.ne_of_lt (Nat.lt_of_lt_of_le pr24.lt P117)
  have ge122 : n0 ≤ b_115 := Nat.le_trans Z0 P117
  refine own_st (T' := T115) (g' := (mkF m 18 #[.val (.ref y), .val (.ref y), .unset, .unset, .unset, .unset] [(.ref b_115)])) st115 ?_
  refine own_st (T' := T115) (g' := (mkF m 20 #[.val (.ref y), .val (.ref y), .val (.ref b_115), .unset, .unset, .unset] [(.ref b_115)])) (fun _ kt => XS.astoreN X115.here hx rfl (hb hby d1_18) rfl rfl (l' := #[.val (.ref y), .val (.ref y), .val (.ref b_115), .unset, .unset, .unset]) rfl (XS.aloadN X115.here hx rfl (hb hby d1_19) rfl rfl kt)) ?_
  refine own_st (T' := T115) (g' := (mkF m 21 #[.val (.ref y), .val (.ref y), .val (.ref b_115), .unset, .unset, .unset] [(.int 2)])) (own_alen X115 hx hZ rfl P116 (g := (mkF m 20 #[.val (.ref y), .val (.ref y), .val (.ref b_115), .unset, .unset, .unset] [(.ref b_115)])) rfl rfl (hb hby d1_20)) ?_
  refine own_st (T' := T115) (g' := (mkF m 34 #[.val (.ref y), .val (.ref y), .val (.ref b_115), .val (.int 2), .val (.int 0), .unset] [(.int 0), (.ref b_115)])) (fun _ kt => XS.istoreN X115.here hx rfl (hb hby d1_21) rfl (l' := #[.val (.ref y), .val (.ref y), .val (.ref b_115), .val (.int 2), .unset, .unset]) rfl (XS.iconst X115.here hx rfl (hb hby d1_22) (XS.istore X115.here hx rfl (hb hby d1_23) rfl (l' := #[.val (.ref y), .val (.ref y), .val (.ref b_115), .val (.int 2), .val (.int 0), .unset]) rfl (XS.iload X115.here hx rfl (hb hby d1_25) rfl (XS.iloadN X115.here hx rfl (hb hby d1_27) rfl (XS.icmpNo X115.here hx rfl (hb hby d1_28) rfl (XT.ii_ge_f (by decide)) (XS.aloadN X115.here hx rfl (hb hby d1_31) rfl rfl (XS.iload X115.here hx rfl (hb hby d1_32) rfl kt)))))))) ?_
  refine own_st (T' := T115) (g' := (mkF m 35 #[.val (.ref y), .val (.ref y), .val (.ref b_115), .val (.int 2), .val (.int 0), .unset] [(.ref sc)])) (own_aal X115 hx hZ rfl P116 rfl ⟨by decide, by decide⟩ rfl (g := (mkF m 34 #[.val (.ref y), .val (.ref y), .val (.ref b_115), .val (.int 2), .val (.int 0), .unset] [(.int 0), (.ref b_115)])) rfl rfl (hb hby d1_34)) ?_
  refine own_st (T' := T115) (g' := (mkF m 39 #[.val (.ref y), .val (.ref y), .val (.ref b_115), .val (.int 2), .val (.int 0), .val (.ref sc)] [(.ref sc)])) (fun _ kt => XS.astore X115.here hx rfl (hb hby d1_35) rfl rfl (l' := #[.val (.ref y), .val (.ref y), .val (.ref b_115), .val (.int 2), .val (.int 0), .val (.ref sc)]) rfl (XS.aload X115.here hx rfl (hb hby d1_37) rfl rfl kt)) ?_
  have F123 : Old Z n0 T115.heap := (Old.keep pr1 K115_ all0)
  have F124 : Fld Z T115.heap sc "com/example/lotd/lotd/ProcessingMode" "value" "Ljava/lang/String;" (.ref sv) := (Fld.ext F123.2 pr10)
  obtain ⟨T125, X125, e125, st125⟩ := getF X115 hx hZ hown (host := "") (Or.inl (own_k hw 9 rfl)) Via.refl rfl F124 (g := (mkF m 39 #[.val (.ref y), .val (.ref y), .val (.ref b_115), .val (.int 2), .val (.int 0), .val (.ref sc)] [(.ref sc)])) rfl rfl (hb hby d1_39)
  refine own_st (T' := T125) (g' := (mkF m 42 #[.val (.ref y), .val (.ref y), .val (.ref b_115), .val (.int 2), .val (.int 0), .val (.ref sc)] [(.ref sv)])) st125 ?_
  refine own_st (T' := T125) (g' := (mkF m 43 #[.val (.ref y), .val (.ref y), .val (.ref b_115), .val (.int 2), .val (.int 0), .val (.ref sc)] [(.ref y), (.ref sv)])) (fun _ kt => XS.aloadN X125.here hx rfl (hb hby d1_42) rfl rfl kt) ?_
  have F126 : Exa Z T115.heap sv "java/lang/String" := (Exa.ext F123.2 pr12)
  have F127 : Fld Z T115.heap sv "java/lang/String" "coder" "B" (.int 0) := (Fld.ext F123.2 pr13)
  have F128 : Fld Z T115.heap sv "java/lang/String" "value" "[B" (.ref ts) := (Fld.ext F123.2 pr14)
  have F129 : Arv Z T115.heap ts k1 .byte (6 : Int32) [(.int 115), (.int 116), (.int 114), (.int 105), (.int 99), (.int 116)] (.int 0) := (pr15.ext F123.2)
  have F130 : Exa Z T115.heap y "java/lang/String" := (Exa.keep pr21 K115_)
  have F131 : Fld Z T115.heap y "java/lang/String" "coder" "B" (.int 0) := (Fld.keep pr22 K115_ nin0)
  have F132 : Fld Z T115.heap y "java/lang/String" "value" "[B" (.ref t) := (Fld.keep pr23 K115_ nin0)
  have F133 : Arv Z T115.heap t ky .byte (6 : Int32) [(.int x0.toInt8.toInt32), (.int x1.toInt8.toInt32), (.int x2.toInt8.toInt32), (.int x3.toInt8.toInt32), (.int x4.toInt8.toInt32), (.int x5.toInt8.toInt32)] (.int 0) := (Arv.keep pr24 K115_ nin0)
  obtain ⟨cq135, kq135, qa135, qb135, qc135⟩ := isOf hZ e125 F126
  obtain ⟨_, _, ⟨T134, L134, k134, n134⟩, -, X134, ⟨Lc134, hQ134, l134, y134, z134⟩, st134⟩ := X125.virtualBack hx (y := yN1) (z := yN1) hown (mvT hZ (own_k hw 27 rfl)) (mvT hZ (own_k hw 28 rfl)) (notFace_of_selects (args := #[]) (mvT hZ (own_k hw 30 rfl))) (mvT hZ (own_k hw 30 rfl)) (mvT hZ (own_k hw 29 rfl)) (by decide) (backOf (W := 0) (own_ee6 l Z a0 hw [] sv y zc ts t k1 ky x0 x1 x2 x3 x4 x5 T115.heap n0 Z119 F123 pr5 pr6 (Old.ne F123 pr12.lt pr20) F126 F127 F128 F129 F130 F131 F132 F133 pr25 pr26 pr27 pr28 pr29 pr30) hZ (own_k hw 32 rfl) (own_k hw 31 rfl) (by decide) (by decide)) qa135 qc135 (g := (mkF m 43 #[.val (.ref y), .val (.ref y), .val (.ref b_115), .val (.int 2), .val (.int 0), .val (.ref sc)] [(.ref y), (.ref sv)])) rfl hml.symm (Steps.refl _) (argsL := [(.ref y)]) (rest := []) (lenOf own_pd8 rfl) rfl (own_w0 rfl rfl) (hb hby d1_43) (fun _ _ => ⟨rfl, e125, (by decide : 1 + 0 ≤ 1), (by decide : 2 + 0 ≤ 2)⟩)
  dsimp only [Pt.U, Pt.locs, Pt.cells, Pt.slots] at X134 l134 y134 z134 st134 hQ134
  subst l134 y134 z134
  obtain ⟨rfl, N134, e134⟩ := hQ134
  have N136 := Fr.app N118 N134
  refine own_tr (T' := T134) (g' := (mkF m 46 #[.val (.ref y), .val (.ref y), .val (.ref b_115), .val (.int 2), .val (.int 0), .val (.ref sc)] [(.int (own_m6 x0 x1 x2 x3 x4 x5))])) st134 ?_
  refine own_st (T' := T134) (g' := (mkF m 51 #[.val (.ref y), .val (.ref y), .val (.ref b_115), .val (.int 2), .val (.int 0), .val (.ref sc)] [(.ref sc)])) (fun _ kt => XS.ifNo X134.here hx rfl (hb hby d1_46) rfl (XT.i0_eq_f pr31) (XS.aload X134.here hx rfl (hb hby d1_49) rfl rfl kt)) ?_
  obtain ⟨fs, hr, hrun, hended, hW, hsame⟩ := X134.leave (v := some (.ref sc)) (fun h => by rw [Bd.returns] at h; cases h)
  refine own_end (own_retA X134 hx Bd.returns rfl rfl rfl (hb hby d1_51) hr) ⟨_, hrun, hended, _, _, rfl, ?_, ⟨_, rfl⟩, hW, hsame.mono (by decide) (by decide)⟩
  show own_of6tQ Z _ _ _ _ _ _ _ _ _ _ _ _ _ _ _ _ _ _ _ _ h0 n0 _ T134.heap _
  rw [e134]
  exact ⟨b_115, rfl, N136, K119⟩
def own_of6fQ (Z : State) (va : Addr) (kv : ClassId) (sc : Addr) (le : Addr) (zc : Int32) (sv : Addr) (lv : Addr) (ts : Addr) (tl : Addr) (k1 : ClassId) (k2 : ClassId) (y : Addr) (t : Addr) (ky : ClassId) (x0 : Int32) (x1 : Int32) (x2 : Int32) (x3 : Int32) (x4 : Int32) (x5 : Int32) (h0 : Heap) (n0 : Nat) (v : Option Value) (h : Heap) (L : List Loc) : Prop := ∃ (b : Addr), v = some .null ∧ Fr n0 L ∧ Keep h0 h []
abbrev own_of6fR : Room := { frames := 2, cells := 1, slots := 2, locals := 28 }
theorem own_of6f (l : Launch) (Z : State) (a0 : Array Value) (hw : ∀ d ∈ tables_1, d.before a0 Z = true) (ws : List Jvm.Cond) (va : Addr) (kv : ClassId) (sc : Addr) (le : Addr) (zc : Int32) (sv : Addr) (lv : Addr) (ts : Addr) (tl : Addr) (k1 : ClassId) (k2 : ClassId) (y : Addr) (t : Addr) (ky : ClassId) (x0 : Int32) (x1 : Int32) (x2 : Int32) (x3 : Int32) (x4 : Int32) (x5 : Int32) (h0 : Heap) (n0 : Nat) (Z0 : n0 ≤ h0.size) (pr1 : Old Z n0 h0) (pr2 : Sta Z Z.heap "com/example/lotd/lotd/ProcessingMode" "$VALUES" "[Lcom/example/lotd/lotd/ProcessingMode;" (.ref va)) (pr3 : Exa Z Z.heap va "[Lcom/example/lotd/lotd/ProcessingMode;") (pr4 : Arv Z Z.heap va kv (.object "com/example/lotd/lotd/ProcessingMode") (2 : Int32) [(.ref sc), (.ref le)] .null) (pr5 : Sta Z Z.heap "java/lang/String" "COMPACT_STRINGS" "Z" (.int zc)) (pr6 : ¬ zc = 0) (pr7 : Sta Z Z.heap "com/example/lotd/lotd/ProcessingMode" "STRICT" "Lcom/example/lotd/lotd/ProcessingMode;" (.ref sc)) (pr8 : Exa Z Z.heap sc "com/example/lotd/lotd/ProcessingMode") (pr9 : Exa Z Z.heap le "com/example/lotd/lotd/ProcessingMode") (pr10 : Fld Z Z.heap sc "com/example/lotd/lotd/ProcessingMode" "value" "Ljava/lang/String;" (.ref sv)) (pr11 : Fld Z Z.heap le "com/example/lotd/lotd/ProcessingMode" "value" "Ljava/lang/String;" (.ref lv)) (pr12 : Exa Z Z.heap sv "java/lang/String") (pr13 : Fld Z Z.heap sv "java/lang/String" "coder" "B" (.int 0)) (pr14 : Fld Z Z.heap sv "java/lang/String" "value" "[B" (.ref ts)) (pr15 : Arv Z Z.heap ts k1 .byte (6 : Int32) [(.int 115), (.int 116), (.int 114), (.int 105), (.int 99), (.int 116)] (.int 0)) (pr16 : Exa Z Z.heap lv "java/lang/String") (pr17 : Fld Z Z.heap lv "java/lang/String" "coder" "B" (.int 0)) (pr18 : Fld Z Z.heap lv "java/lang/String" "value" "[B" (.ref tl)) (pr19 : Arv Z Z.heap tl k2 .byte (7 : Int32) [(.int 108), (.int 101), (.int 110), (.int 105), (.int 101), (.int 110), (.int 116)] (.int 0)) (pr20 : n0 ≤ y) (pr21 : Exa Z h0 y "java/lang/String") (pr22 : Fld Z h0 y "java/lang/String" "coder" "B" (.int 0)) (pr23 : Fld Z h0 y "java/lang/String" "value" "[B" (.ref t)) (pr24 : Arv Z h0 t ky .byte (6 : Int32) [(.int x0.toInt8.toInt32), (.int x1.toInt8.toInt32), (.int x2.toInt8.toInt32), (.int x3.toInt8.toInt32), (.int x4.toInt8.toInt32), (.int x5.toInt8.toInt32)] (.int 0)) (pr25 : own_cc x0) (pr26 : own_cc x1) (pr27 : own_cc x2) (pr28 : own_cc x3) (pr29 : own_cc x4) (pr30 : own_cc x5) (pr31 : (own_m6 x0 x1 x2 x3 x4 x5) = 0) :
    own_M l yN3 prog_10_method_4_code 6 (some (.object "com/example/lotd/lotd/ProcessingMode")) ws own_of6fR #[(.ref y)] Z h0 (own_of6fQ Z va kv sc le zc sv lv ts tl k1 k2 y t ky x0 x1 x2 x3 x4 x5 h0 n0) := by
  refine own_go (plainFor_of_name own_pn4) (fun m => own_ef8 m y ) ?_
  intro p e s m below meth c s₁ Bd hx hby hml hZ hh hown hnm X0 e0
  have N0 := Fr.nil n0
  have K0 : Keep h0 h0 [] := Keep.refl h0 _
  refine own_st (T' := s₁) (g' := (mkF m 15 #[.val (.ref y), .val (.ref y), .unset, .unset, .unset, .unset] [])) (fun _ kt => XS.aloadN X0.here hx rfl (hb hby d1_0) rfl rfl (XT.ifnonnullYes X0.here hx rfl (pc0 := 1) (pc' := 13) rfl (hb hby d1_1) rfl (by decide) (by decide) (XS.aloadN X0.here hx rfl (hb hby d1_13) rfl rfl (XS.astoreN X0.here hx rfl (hb hby d1_14) rfl rfl (l' := #[.val (.ref y), .val (.ref y), .unset, .unset, .unset, .unset]) rfl kt)))) ?_
  obtain ⟨_, _, ⟨T137, L137, k137, n137⟩, -, X137, ⟨Lc137, hQ137, l137, y137, z137⟩, st137⟩ := Jvm.LawKit.callS X0 hx (y := yN7) hown (mvT hZ (own_k hw 11 rfl)) (mvT hZ (own_k hw 12 rfl)) (mvT hZ (own_k hw 3 rfl)) (mvT hZ (own_k hw 13 rfl)) (by decide) (backOf (W := 0) (own_va l Z a0 hw [] va kv sc le h0 n0 Z0 pr1 pr2 pr3 pr4) hZ (own_k hw 13 rfl) (own_k hw 3 rfl) (by decide) (by decide)) (g := (mkF m 15 #[.val (.ref y), .val (.ref y), .unset, .unset, .unset, .unset] [])) rfl hml.symm  (argsL := []) (rest := []) (lenOf own_pd7 rfl) rfl (own_w0 rfl rfl) (hb hby d1_15) (fun _ _ => ⟨rfl, e0, (by decide : 0 + 1 ≤ 1), (by decide : 0 + 2 ≤ 2)⟩)
  dsimp only [Pt.U, Pt.locs, Pt.cells, Pt.slots] at X137 l137 y137 z137 st137 hQ137
  subst l137 y137 z137
  obtain ⟨b_137, kb_137, rfl, N137, K137_, P138, P139⟩ := hQ137
  have N140 := Fr.app N0 N137
  have Z141 : n0 ≤ T137.heap.size := Nat.le_trans Z0 K137_.1
  have K141 : Keep h0 T137.heap [] := (Keep.trans K0 K137_ all0)
  have ne142 : y ≠ b_137 := Nat.ne_of_lt (Nat.lt_of_lt_of_le pr21.lt P139)
  have ne143 : t ≠ b_137 := Nat.ne_of_lt (Nat.lt_of_lt_of_le pr24.lt P139)
  have ge144 : n0 ≤ b_137 := Nat.le_trans Z0 P139
  refine own_st (T' := T137) (g' := (mkF m 18 #[.val (.ref y), .val (.ref y), .unset, .unset, .unset, .unset] [(.ref b_137)])) st137 ?_
  refine own_st (T' := T137) (g' := (mkF m 20 #[.val (.ref y), .val (.ref y), .val (.ref b_137), .unset, .unset, .unset] [(.ref b_137)])) (fun _ kt => XS.astoreN X137.here hx rfl (hb hby d1_18) rfl rfl (l' := #[.val (.ref y), .val (.ref y), .val (.ref b_137), .unset, .unset, .unset]) rfl (XS.aloadN X137.here hx rfl (hb hby d1_19) rfl rfl kt)) ?_
  refine own_st (T' := T137) (g' := (mkF m 21 #[.val (.ref y), .val (.ref y), .val (.ref b_137), .unset, .unset, .unset] [(.int 2)])) (own_alen X137 hx hZ rfl P138 (g := (mkF m 20 #[.val (.ref y), .val (.ref y), .val (.ref b_137), .unset, .unset, .unset] [(.ref b_137)])) rfl rfl (hb hby d1_20)) ?_
  refine own_st (T' := T137) (g' := (mkF m 34 #[.val (.ref y), .val (.ref y), .val (.ref b_137), .val (.int 2), .val (.int 0), .unset] [(.int 0), (.ref b_137)])) (fun _ kt => XS.istoreN X137.here hx rfl (hb hby d1_21) rfl (l' := #[.val (.ref y), .val (.ref y), .val (.ref b_137), .val (.int 2), .unset, .unset]) rfl (XS.iconst X137.here hx rfl (hb hby d1_22) (XS.istore X137.here hx rfl (hb hby d1_23) rfl (l' := #[.val (.ref y), .val (.ref y), .val (.ref b_137), .val (.int 2), .val (.int 0), .unset]) rfl (XS.iload X137.here hx rfl (hb hby d1_25) rfl (XS.iloadN X137.here hx rfl (hb hby d1_27) rfl (XS.icmpNo X137.here hx rfl (hb hby d1_28) rfl (XT.ii_ge_f (by decide)) (XS.aloadN X137.here hx rfl (hb hby d1_31) rfl rfl (XS.iload X137.here hx rfl (hb hby d1_32) rfl kt)))))))) ?_
  refine own_st (T' := T137) (g' := (mkF m 35 #[.val (.ref y), .val (.ref y), .val (.ref b_137), .val (.int 2), .val (.int 0), .unset] [(.ref sc)])) (own_aal X137 hx hZ rfl P138 rfl ⟨by decide, by decide⟩ rfl (g := (mkF m 34 #[.val (.ref y), .val (.ref y), .val (.ref b_137), .val (.int 2), .val (.int 0), .unset] [(.int 0), (.ref b_137)])) rfl rfl (hb hby d1_34)) ?_
  refine own_st (T' := T137) (g' := (mkF m 39 #[.val (.ref y), .val (.ref y), .val (.ref b_137), .val (.int 2), .val (.int 0), .val (.ref sc)] [(.ref sc)])) (fun _ kt => XS.astore X137.here hx rfl (hb hby d1_35) rfl rfl (l' := #[.val (.ref y), .val (.ref y), .val (.ref b_137), .val (.int 2), .val (.int 0), .val (.ref sc)]) rfl (XS.aload X137.here hx rfl (hb hby d1_37) rfl rfl kt)) ?_
  have F145 : Old Z n0 T137.heap := (Old.keep pr1 K137_ all0)
  have F146 : Fld Z T137.heap sc "com/example/lotd/lotd/ProcessingMode" "value" "Ljava/lang/String;" (.ref sv) := (Fld.ext F145.2 pr10)
  obtain ⟨T147, X147, e147, st147⟩ := getF X137 hx hZ hown (host := "") (Or.inl (own_k hw 9 rfl)) Via.refl rfl F146 (g := (mkF m 39 #[.val (.ref y), .val (.ref y), .val (.ref b_137), .val (.int 2), .val (.int 0), .val (.ref sc)] [(.ref sc)])) rfl rfl (hb hby d1_39)
  refine own_st (T' := T147) (g' := (mkF m 42 #[.val (.ref y), .val (.ref y), .val (.ref b_137), .val (.int 2), .val (.int 0), .val (.ref sc)] [(.ref sv)])) st147 ?_
  refine own_st (T' := T147) (g' := (mkF m 43 #[.val (.ref y), .val (.ref y), .val (.ref b_137), .val (.int 2), .val (.int 0), .val (.ref sc)] [(.ref y), (.ref sv)])) (fun _ kt => XS.aloadN X147.here hx rfl (hb hby d1_42) rfl rfl kt) ?_
  have F148 : Exa Z T137.heap sv "java/lang/String" := (Exa.ext F145.2 pr12)
  have F149 : Fld Z T137.heap sv "java/lang/String" "coder" "B" (.int 0) := (Fld.ext F145.2 pr13)
  have F150 : Fld Z T137.heap sv "java/lang/String" "value" "[B" (.ref ts) := (Fld.ext F145.2 pr14)
  have F151 : Arv Z T137.heap ts k1 .byte (6 : Int32) [(.int 115), (.int 116), (.int 114), (.int 105), (.int 99), (.int 116)] (.int 0) := (pr15.ext F145.2)
  have F152 : Exa Z T137.heap y "java/lang/String" := (Exa.keep pr21 K137_)
  have F153 : Fld Z T137.heap y "java/lang/String" "coder" "B" (.int 0) := (Fld.keep pr22 K137_ nin0)
  have F154 : Fld Z T137.heap y "java/lang/String" "value" "[B" (.ref t) := (Fld.keep pr23 K137_ nin0)
  have F155 : Arv Z T137.heap t ky .byte (6 : Int32) [(.int x0.toInt8.toInt32), (.int x1.toInt8.toInt32), (.int x2.toInt8.toInt32), (.int x3.toInt8.toInt32), (.int x4.toInt8.toInt32), (.int x5.toInt8.toInt32)] (.int 0) := (Arv.keep pr24 K137_ nin0)
  obtain ⟨cq157, kq157, qa157, qb157, qc157⟩ := isOf hZ e147 F148
  obtain ⟨_, _, ⟨T156, L156, k156, n156⟩, -, X156, ⟨Lc156, hQ156, l156, y156, z156⟩, st156⟩ := X147.virtualBack hx (y := yN1) (z := yN1) hown (mvT hZ (own_k hw 27 rfl)) (mvT hZ (own_k hw 28 rfl)) (notFace_of_selects (args := #[]) (mvT hZ (own_k hw 30 rfl))) (mvT hZ (own_k hw 30 rfl)) (mvT hZ (own_k hw 29 rfl)) (by decide) (backOf (W := 0) (own_ee6 l Z a0 hw [] sv y zc ts t k1 ky x0 x1 x2 x3 x4 x5 T137.heap n0 Z141 F145 pr5 pr6 (Old.ne F145 pr12.lt pr20) F148 F149 F150 F151 F152 F153 F154 F155 pr25 pr26 pr27 pr28 pr29 pr30) hZ (own_k hw 32 rfl) (own_k hw 31 rfl) (by decide) (by decide)) qa157 qc157 (g := (mkF m 43 #[.val (.ref y), .val (.ref y), .val (.ref b_137), .val (.int 2), .val (.int 0), .val (.ref sc)] [(.ref y), (.ref sv)])) rfl hml.symm (Steps.refl _) (argsL := [(.ref y)]) (rest := []) (lenOf own_pd8 rfl) rfl (own_w0 rfl rfl) (hb hby d1_43) (fun _ _ => ⟨rfl, e147, (by decide : 1 + 0 ≤ 1), (by decide : 2 + 0 ≤ 2)⟩)
  dsimp only [Pt.U, Pt.locs, Pt.cells, Pt.slots] at X156 l156 y156 z156 st156 hQ156
  subst l156 y156 z156
  obtain ⟨rfl, N156, e156⟩ := hQ156
  have N158 := Fr.app N140 N156
  refine own_tr (T' := T156) (g' := (mkF m 46 #[.val (.ref y), .val (.ref y), .val (.ref b_137), .val (.int 2), .val (.int 0), .val (.ref sc)] [(.int (own_m6 x0 x1 x2 x3 x4 x5))])) st156 ?_
  refine own_st (T' := T156) (g' := (mkF m 34 #[.val (.ref y), .val (.ref y), .val (.ref b_137), .val (.int 2), .val (.int 1), .val (.ref sc)] [(.int 1), (.ref b_137)])) (fun _ kt => XS.ifYes X156.here hx rfl (pc0 := 46) (pc' := 52) rfl (hb hby d1_46) rfl (XT.i0_eq_t pr31) (by decide) (by decide) (XS.iinc X156.here hx rfl (hb hby d1_52) rfl (l' := #[.val (.ref y), .val (.ref y), .val (.ref b_137), .val (.int 2), .val (.int 1), .val (.ref sc)]) rfl (XS.goto X156.here hx rfl (pc0 := 55) (pc' := 25) rfl (hb hby d1_55) (by decide) (by decide) (XS.iload X156.here hx rfl (hb hby d1_25) rfl (XS.iloadN X156.here hx rfl (hb hby d1_27) rfl (XS.icmpNo X156.here hx rfl (hb hby d1_28) rfl (XT.ii_ge_f (by decide)) (XS.aloadN X156.here hx rfl (hb hby d1_31) rfl rfl (XS.iload X156.here hx rfl (hb hby d1_32) rfl kt)))))))) ?_
  refine own_st (T' := T156) (g' := (mkF m 35 #[.val (.ref y), .val (.ref y), .val (.ref b_137), .val (.int 2), .val (.int 1), .val (.ref sc)] [(.ref le)])) (own_aal X156 hx hZ e156 P138 rfl ⟨by decide, by decide⟩ rfl (g := (mkF m 34 #[.val (.ref y), .val (.ref y), .val (.ref b_137), .val (.int 2), .val (.int 1), .val (.ref sc)] [(.int 1), (.ref b_137)])) rfl rfl (hb hby d1_34)) ?_
  refine own_st (T' := T156) (g' := (mkF m 39 #[.val (.ref y), .val (.ref y), .val (.ref b_137), .val (.int 2), .val (.int 1), .val (.ref le)] [(.ref le)])) (fun _ kt => XS.astore X156.here hx rfl (hb hby d1_35) rfl rfl (l' := #[.val (.ref y), .val (.ref y), .val (.ref b_137), .val (.int 2), .val (.int 1), .val (.ref le)]) rfl (XS.aload X156.here hx rfl (hb hby d1_37) rfl rfl kt)) ?_
  have F159 : Fld Z T137.heap le "com/example/lotd/lotd/ProcessingMode" "value" "Ljava/lang/String;" (.ref lv) := (Fld.ext F145.2 pr11)
  obtain ⟨T160, X160, e160, st160⟩ := getF X156 hx hZ hown (host := "") (Or.inl (own_k hw 9 rfl)) Via.refl e156 F159 (g := (mkF m 39 #[.val (.ref y), .val (.ref y), .val (.ref b_137), .val (.int 2), .val (.int 1), .val (.ref le)] [(.ref le)])) rfl rfl (hb hby d1_39)
  refine own_st (T' := T160) (g' := (mkF m 42 #[.val (.ref y), .val (.ref y), .val (.ref b_137), .val (.int 2), .val (.int 1), .val (.ref le)] [(.ref lv)])) st160 ?_
  refine own_st (T' := T160) (g' := (mkF m 43 #[.val (.ref y), .val (.ref y), .val (.ref b_137), .val (.int 2), .val (.int 1), .val (.ref le)] [(.ref y), (.ref lv)])) (fun _ kt => XS.aloadN X160.here hx rfl (hb hby d1_42) rfl rfl kt) ?_
  have F161 : Exa Z T137.heap lv "java/lang/String" := (Exa.ext F145.2 pr16)
  have F162 : Fld Z T137.heap lv "java/lang/String" "coder" "B" (.int 0) := (Fld.ext F145.2 pr17)
  have F163 : Fld Z T137.heap lv "java/lang/String" "value" "[B" (.ref tl) := (Fld.ext F145.2 pr18)
  have F164 : Arv Z T137.heap tl k2 .byte (7 : Int32) [(.int 108), (.int 101), (.int 110), (.int 105), (.int 101), (.int 110), (.int 116)] (.int 0) := (pr19.ext F145.2)
  obtain ⟨cq166, kq166, qa166, qb166, qc166⟩ := isOf hZ e160 F161
  obtain ⟨_, _, ⟨T165, L165, k165, n165⟩, -, X165, ⟨Lc165, hQ165, l165, y165, z165⟩, st165⟩ := X160.virtualBack hx (y := yN1) (z := yN1) hown (mvT hZ (own_k hw 27 rfl)) (mvT hZ (own_k hw 28 rfl)) (notFace_of_selects (args := #[]) (mvT hZ (own_k hw 30 rfl))) (mvT hZ (own_k hw 30 rfl)) (mvT hZ (own_k hw 29 rfl)) (by decide) (backOf (W := 0) (own_ed l Z a0 hw [] lv y zc tl t k2 ky (7 : Int32) (6 : Int32) [(.int 108), (.int 101), (.int 110), (.int 105), (.int 101), (.int 110), (.int 116)] [(.int x0.toInt8.toInt32), (.int x1.toInt8.toInt32), (.int x2.toInt8.toInt32), (.int x3.toInt8.toInt32), (.int x4.toInt8.toInt32), (.int x5.toInt8.toInt32)] T137.heap n0 Z141 F145 pr5 pr6 (Old.ne F145 pr16.lt pr20) F161 F162 F163 F164 F152 F153 F154 F155 (show ¬ (7 : Int32) = (6 : Int32) from (by decide))) hZ (own_k hw 32 rfl) (own_k hw 31 rfl) (by decide) (by decide)) qa166 qc166 (g := (mkF m 43 #[.val (.ref y), .val (.ref y), .val (.ref b_137), .val (.int 2), .val (.int 1), .val (.ref le)] [(.ref y), (.ref lv)])) rfl hml.symm (Steps.refl _) (argsL := [(.ref y)]) (rest := []) (lenOf own_pd8 rfl) rfl (own_w0 rfl rfl) (hb hby d1_43) (fun _ _ => ⟨rfl, e160, (by decide : 1 + 0 ≤ 1), (by decide : 2 + 0 ≤ 2)⟩)
  dsimp only [Pt.U, Pt.locs, Pt.cells, Pt.slots] at X165 l165 y165 z165 st165 hQ165
  subst l165 y165 z165
  obtain ⟨rfl, N165, e165⟩ := hQ165
  have N167 := Fr.app N158 N165
  refine own_tr (T' := T165) (g' := (mkF m 46 #[.val (.ref y), .val (.ref y), .val (.ref b_137), .val (.int 2), .val (.int 1), .val (.ref le)] [(.int 0)])) st165 ?_
  refine own_st (T' := T165) (g' := (mkF m 59 #[.val (.ref y), .val (.ref y), .val (.ref b_137), .val (.int 2), .val (.int 2), .val (.ref le)] [.null])) (fun _ kt => XS.ifYes X165.here hx rfl (pc0 := 46) (pc' := 52) rfl (hb hby d1_46) rfl (XT.i0_eq_t (by decide)) (by decide) (by decide) (XS.iinc X165.here hx rfl (hb hby d1_52) rfl (l' := #[.val (.ref y), .val (.ref y), .val (.ref b_137), .val (.int 2), .val (.int 2), .val (.ref le)]) rfl (XS.goto X165.here hx rfl (pc0 := 55) (pc' := 25) rfl (hb hby d1_55) (by decide) (by decide) (XS.iload X165.here hx rfl (hb hby d1_25) rfl (XS.iloadN X165.here hx rfl (hb hby d1_27) rfl (XS.icmpYes X165.here hx rfl (pc0 := 28) (pc' := 58) rfl (hb hby d1_28) rfl (XT.ii_ge_t (by decide)) (by decide) (by decide) (XS.aconstNull X165.here hx rfl (hb hby d1_58) kt))))))) ?_
  obtain ⟨fs, hr, hrun, hended, hW, hsame⟩ := X165.leave (v := some .null) (fun h => by rw [Bd.returns] at h; cases h)
  refine own_end (own_retA X165 hx Bd.returns rfl rfl rfl (hb hby d1_59) hr) ⟨_, hrun, hended, _, _, rfl, ?_, ⟨_, rfl⟩, hW, hsame.mono (by decide) (by decide)⟩
  show own_of6fQ Z _ _ _ _ _ _ _ _ _ _ _ _ _ _ _ _ _ _ _ _ h0 n0 _ T165.heap _
  rw [e165]
  exact ⟨b_137, rfl, N167, K141⟩
def own_of7tQ (Z : State) (va : Addr) (kv : ClassId) (sc : Addr) (le : Addr) (zc : Int32) (sv : Addr) (lv : Addr) (ts : Addr) (tl : Addr) (k1 : ClassId) (k2 : ClassId) (y : Addr) (t : Addr) (ky : ClassId) (x0 : Int32) (x1 : Int32) (x2 : Int32) (x3 : Int32) (x4 : Int32) (x5 : Int32) (x6 : Int32) (h0 : Heap) (n0 : Nat) (v : Option Value) (h : Heap) (L : List Loc) : Prop := ∃ (b : Addr), v = some (.ref le) ∧ Fr n0 L ∧ Keep h0 h []
abbrev own_of7tR : Room := { frames := 2, cells := 1, slots := 2, locals := 28 }
theorem own_of7t (l : Launch) (Z : State) (a0 : Array Value) (hw : ∀ d ∈ tables_1, d.before a0 Z = true) (ws : List Jvm.Cond) (va : Addr) (kv : ClassId) (sc : Addr) (le : Addr) (zc : Int32) (sv : Addr) (lv : Addr) (ts : Addr) (tl : Addr) (k1 : ClassId) (k2 : ClassId) (y : Addr) (t : Addr) (ky : ClassId) (x0 : Int32) (x1 : Int32) (x2 : Int32) (x3 : Int32) (x4 : Int32) (x5 : Int32) (x6 : Int32) (h0 : Heap) (n0 : Nat) (Z0 : n0 ≤ h0.size) (pr1 : Old Z n0 h0) (pr2 : Sta Z Z.heap "com/example/lotd/lotd/ProcessingMode" "$VALUES" "[Lcom/example/lotd/lotd/ProcessingMode;" (.ref va)) (pr3 : Exa Z Z.heap va "[Lcom/example/lotd/lotd/ProcessingMode;") (pr4 : Arv Z Z.heap va kv (.object "com/example/lotd/lotd/ProcessingMode") (2 : Int32) [(.ref sc), (.ref le)] .null) (pr5 : Sta Z Z.heap "java/lang/String" "COMPACT_STRINGS" "Z" (.int zc)) (pr6 : ¬ zc = 0) (pr7 : Sta Z Z.heap "com/example/lotd/lotd/ProcessingMode" "STRICT" "Lcom/example/lotd/lotd/ProcessingMode;" (.ref sc)) (pr8 : Exa Z Z.heap sc "com/example/lotd/lotd/ProcessingMode") (pr9 : Exa Z Z.heap le "com/example/lotd/lotd/ProcessingMode") (pr10 : Fld Z Z.heap sc "com/example/lotd/lotd/ProcessingMode" "value" "Ljava/lang/String;" (.ref sv)) (pr11 : Fld Z Z.heap le "com/example/lotd/lotd/ProcessingMode" "value" "Ljava/lang/String;" (.ref lv)) (pr12 : Exa Z Z.heap sv "java/lang/String") (pr13 : Fld Z Z.heap sv "java/lang/String" "coder" "B" (.int 0)) (pr14 : Fld Z Z.heap sv "java/lang/String" "value" "[B" (.ref ts)) (pr15 : Arv Z Z.heap ts k1 .byte (6 : Int32) [(.int 115), (.int 116), (.int 114), (.int 105), (.int 99), (.int 116)] (.int 0)) (pr16 : Exa Z Z.heap lv "java/lang/String") (pr17 : Fld Z Z.heap lv "java/lang/String" "coder" "B" (.int 0)) (pr18 : Fld Z Z.heap lv "java/lang/String" "value" "[B" (.ref tl)) (pr19 : Arv Z Z.heap tl k2 .byte (7 : Int32) [(.int 108), (.int 101), (.int 110), (.int 105), (.int 101), (.int 110), (.int 116)] (.int 0)) (pr20 : n0 ≤ y) (pr21 : Exa Z h0 y "java/lang/String") (pr22 : Fld Z h0 y "java/lang/String" "coder" "B" (.int 0)) (pr23 : Fld Z h0 y "java/lang/String" "value" "[B" (.ref t)) (pr24 : Arv Z h0 t ky .byte (7 : Int32) [(.int x0.toInt8.toInt32), (.int x1.toInt8.toInt32), (.int x2.toInt8.toInt32), (.int x3.toInt8.toInt32), (.int x4.toInt8.toInt32), (.int x5.toInt8.toInt32), (.int x6.toInt8.toInt32)] (.int 0)) (pr25 : own_cc x0) (pr26 : own_cc x1) (pr27 : own_cc x2) (pr28 : own_cc x3) (pr29 : own_cc x4) (pr30 : own_cc x5) (pr31 : own_cc x6) (pr32 : ¬ (own_m7 x0 x1 x2 x3 x4 x5 x6) = 0) :
    own_M l yN3 prog_10_method_4_code 6 (some (.object "com/example/lotd/lotd/ProcessingMode")) ws own_of7tR #[(.ref y)] Z h0 (own_of7tQ Z va kv sc le zc sv lv ts tl k1 k2 y t ky x0 x1 x2 x3 x4 x5 x6 h0 n0) := by
  refine own_go (plainFor_of_name own_pn4) (fun m => own_ef8 m y ) ?_
  intro p e s m below meth c s₁ Bd hx hby hml hZ hh hown hnm X0 e0
  have N0 := Fr.nil n0
  have K0 : Keep h0 h0 [] := Keep.refl h0 _
  refine own_st (T' := s₁) (g' := (mkF m 15 #[.val (.ref y), .val (.ref y), .unset, .unset, .unset, .unset] [])) (fun _ kt => XS.aloadN X0.here hx rfl (hb hby d1_0) rfl rfl (XT.ifnonnullYes X0.here hx rfl (pc0 := 1) (pc' := 13) rfl (hb hby d1_1) rfl (by decide) (by decide) (XS.aloadN X0.here hx rfl (hb hby d1_13) rfl rfl (XS.astoreN X0.here hx rfl (hb hby d1_14) rfl rfl (l' := #[.val (.ref y), .val (.ref y), .unset, .unset, .unset, .unset]) rfl kt)))) ?_
  obtain ⟨_, _, ⟨T168, L168, k168, n168⟩, -, X168, ⟨Lc168, hQ168, l168, y168, z168⟩, st168⟩ := Jvm.LawKit.callS X0 hx (y := yN7) hown (mvT hZ (own_k hw 11 rfl)) (mvT hZ (own_k hw 12 rfl)) (mvT hZ (own_k hw 3 rfl)) (mvT hZ (own_k hw 13 rfl)) (by decide) (backOf (W := 0) (own_va l Z a0 hw [] va kv sc le h0 n0 Z0 pr1 pr2 pr3 pr4) hZ (own_k hw 13 rfl) (own_k hw 3 rfl) (by decide) (by decide)) (g := (mkF m 15 #[.val (.ref y), .val (.ref y), .unset, .unset, .unset, .unset] [])) rfl hml.symm  (argsL := []) (rest := []) (lenOf own_pd7 rfl) rfl (own_w0 rfl rfl) (hb hby d1_15) (fun _ _ => ⟨rfl, e0, (by decide : 0 + 1 ≤ 1), (by decide : 0 + 2 ≤ 2)⟩)
  dsimp only [Pt.U, Pt.locs, Pt.cells, Pt.slots] at X168 l168 y168 z168 st168 hQ168
  subst l168 y168 z168
  obtain ⟨b_168, kb_168, rfl, N168, K168_, P169, P170⟩ := hQ168
  have N171 := Fr.app N0 N168
  have Z172 : n0 ≤ T168.heap.size := Nat.le_trans Z0 K168_.1
  have K172 : Keep h0 T168.heap [] := (Keep.trans K0 K168_ all0)
  have ne173 : y ≠ b_168 := Nat.ne_of_lt (Nat.lt_of_lt_of_le pr21.lt P170)
  have ne174 : t ≠ b_168 := Nat.ne_of_lt (Nat.lt_of_lt_of_le pr24.lt P170)
  have ge175 : n0 ≤ b_168 := Nat.le_trans Z0 P170
  refine own_st (T' := T168) (g' := (mkF m 18 #[.val (.ref y), .val (.ref y), .unset, .unset, .unset, .unset] [(.ref b_168)])) st168 ?_
  refine own_st (T' := T168) (g' := (mkF m 20 #[.val (.ref y), .val (.ref y), .val (.ref b_168), .unset, .unset, .unset] [(.ref b_168)])) (fun _ kt => XS.astoreN X168.here hx rfl (hb hby d1_18) rfl rfl (l' := #[.val (.ref y), .val (.ref y), .val (.ref b_168), .unset, .unset, .unset]) rfl (XS.aloadN X168.here hx rfl (hb hby d1_19) rfl rfl kt)) ?_
  refine own_st (T' := T168) (g' := (mkF m 21 #[.val (.ref y), .val (.ref y), .val (.ref b_168), .unset, .unset, .unset] [(.int 2)])) (own_alen X168 hx hZ rfl P169 (g := (mkF m 20 #[.val (.ref y), .val (.ref y), .val (.ref b_168), .unset, .unset, .unset] [(.ref b_168)])) rfl rfl (hb hby d1_20)) ?_
  refine own_st (T' := T168) (g' := (mkF m 34 #[.val (.ref y), .val (.ref y), .val (.ref b_168), .val (.int 2), .val (.int 0), .unset] [(.int 0), (.ref b_168)])) (fun _ kt => XS.istoreN X168.here hx rfl (hb hby d1_21) rfl (l' := #[.val (.ref y), .val (.ref y), .val (.ref b_168), .val (.int 2), .unset, .unset]) rfl (XS.iconst X168.here hx rfl (hb hby d1_22) (XS.istore X168.here hx rfl (hb hby d1_23) rfl (l' := #[.val (.ref y), .val (.ref y), .val (.ref b_168), .val (.int 2), .val (.int 0), .unset]) rfl (XS.iload X168.here hx rfl (hb hby d1_25) rfl (XS.iloadN X168.here hx rfl (hb hby d1_27) rfl (XS.icmpNo X168.here hx rfl (hb hby d1_28) rfl (XT.ii_ge_f (by decide)) (XS.aloadN X168.here hx rfl (hb hby d1_31) rfl rfl (XS.iload X168.here hx rfl (hb hby d1_32) rfl kt)))))))) ?_
  refine own_st (T' := T168) (g' := (mkF m 35 #[.val (.ref y), .val (.ref y), .val (.ref b_168), .val (.int 2), .val (.int 0), .unset] [(.ref sc)])) (own_aal X168 hx hZ rfl P169 rfl ⟨by decide, by decide⟩ rfl (g := (mkF m 34 #[.val (.ref y), .val (.ref y), .val (.ref b_168), .val (.int 2), .val (.int 0), .unset] [(.int 0), (.ref b_168)])) rfl rfl (hb hby d1_34)) ?_
  refine own_st (T' := T168) (g' := (mkF m 39 #[.val (.ref y), .val (.ref y), .val (.ref b_168), .val (.int 2), .val (.int 0), .val (.ref sc)] [(.ref sc)])) (fun _ kt => XS.astore X168.here hx rfl (hb hby d1_35) rfl rfl (l' := #[.val (.ref y), .val (.ref y), .val (.ref b_168), .val (.int 2), .val (.int 0), .val (.ref sc)]) rfl (XS.aload X168.here hx rfl (hb hby d1_37) rfl rfl kt)) ?_
  have F176 : Old Z n0 T168.heap := (Old.keep pr1 K168_ all0)
  have F177 : Fld Z T168.heap sc "com/example/lotd/lotd/ProcessingMode" "value" "Ljava/lang/String;" (.ref sv) := (Fld.ext F176.2 pr10)
  obtain ⟨T178, X178, e178, st178⟩ := getF X168 hx hZ hown (host := "") (Or.inl (own_k hw 9 rfl)) Via.refl rfl F177 (g := (mkF m 39 #[.val (.ref y), .val (.ref y), .val (.ref b_168), .val (.int 2), .val (.int 0), .val (.ref sc)] [(.ref sc)])) rfl rfl (hb hby d1_39)
  refine own_st (T' := T178) (g' := (mkF m 42 #[.val (.ref y), .val (.ref y), .val (.ref b_168), .val (.int 2), .val (.int 0), .val (.ref sc)] [(.ref sv)])) st178 ?_
  refine own_st (T' := T178) (g' := (mkF m 43 #[.val (.ref y), .val (.ref y), .val (.ref b_168), .val (.int 2), .val (.int 0), .val (.ref sc)] [(.ref y), (.ref sv)])) (fun _ kt => XS.aloadN X178.here hx rfl (hb hby d1_42) rfl rfl kt) ?_
  have F179 : Exa Z T168.heap sv "java/lang/String" := (Exa.ext F176.2 pr12)
  have F180 : Fld Z T168.heap sv "java/lang/String" "coder" "B" (.int 0) := (Fld.ext F176.2 pr13)
  have F181 : Fld Z T168.heap sv "java/lang/String" "value" "[B" (.ref ts) := (Fld.ext F176.2 pr14)
  have F182 : Arv Z T168.heap ts k1 .byte (6 : Int32) [(.int 115), (.int 116), (.int 114), (.int 105), (.int 99), (.int 116)] (.int 0) := (pr15.ext F176.2)
  have F183 : Exa Z T168.heap y "java/lang/String" := (Exa.keep pr21 K168_)
  have F184 : Fld Z T168.heap y "java/lang/String" "coder" "B" (.int 0) := (Fld.keep pr22 K168_ nin0)
  have F185 : Fld Z T168.heap y "java/lang/String" "value" "[B" (.ref t) := (Fld.keep pr23 K168_ nin0)
  have F186 : Arv Z T168.heap t ky .byte (7 : Int32) [(.int x0.toInt8.toInt32), (.int x1.toInt8.toInt32), (.int x2.toInt8.toInt32), (.int x3.toInt8.toInt32), (.int x4.toInt8.toInt32), (.int x5.toInt8.toInt32), (.int x6.toInt8.toInt32)] (.int 0) := (Arv.keep pr24 K168_ nin0)
  obtain ⟨cq188, kq188, qa188, qb188, qc188⟩ := isOf hZ e178 F179
  obtain ⟨_, _, ⟨T187, L187, k187, n187⟩, -, X187, ⟨Lc187, hQ187, l187, y187, z187⟩, st187⟩ := X178.virtualBack hx (y := yN1) (z := yN1) hown (mvT hZ (own_k hw 27 rfl)) (mvT hZ (own_k hw 28 rfl)) (notFace_of_selects (args := #[]) (mvT hZ (own_k hw 30 rfl))) (mvT hZ (own_k hw 30 rfl)) (mvT hZ (own_k hw 29 rfl)) (by decide) (backOf (W := 0) (own_ed l Z a0 hw [] sv y zc ts t k1 ky (6 : Int32) (7 : Int32) [(.int 115), (.int 116), (.int 114), (.int 105), (.int 99), (.int 116)] [(.int x0.toInt8.toInt32), (.int x1.toInt8.toInt32), (.int x2.toInt8.toInt32), (.int x3.toInt8.toInt32), (.int x4.toInt8.toInt32), (.int x5.toInt8.toInt32), (.int x6.toInt8.toInt32)] T168.heap n0 Z172 F176 pr5 pr6 (Old.ne F176 pr12.lt pr20) F179 F180 F181 F182 F183 F184 F185 F186 (show ¬ (6 : Int32) = (7 : Int32) from (by decide))) hZ (own_k hw 32 rfl) (own_k hw 31 rfl) (by decide) (by decide)) qa188 qc188 (g := (mkF m 43 #[.val (.ref y), .val (.ref y), .val (.ref b_168), .val (.int 2), .val (.int 0), .val (.ref sc)] [(.ref y), (.ref sv)])) rfl hml.symm (Steps.refl _) (argsL := [(.ref y)]) (rest := []) (lenOf own_pd8 rfl) rfl (own_w0 rfl rfl) (hb hby d1_43) (fun _ _ => ⟨rfl, e178, (by decide : 1 + 0 ≤ 1), (by decide : 2 + 0 ≤ 2)⟩)
  dsimp only [Pt.U, Pt.locs, Pt.cells, Pt.slots] at X187 l187 y187 z187 st187 hQ187
  subst l187 y187 z187
  obtain ⟨rfl, N187, e187⟩ := hQ187
  have N189 := Fr.app N171 N187
  refine own_tr (T' := T187) (g' := (mkF m 46 #[.val (.ref y), .val (.ref y), .val (.ref b_168), .val (.int 2), .val (.int 0), .val (.ref sc)] [(.int 0)])) st187 ?_
  refine own_st (T' := T187) (g' := (mkF m 34 #[.val (.ref y), .val (.ref y), .val (.ref b_168), .val (.int 2), .val (.int 1), .val (.ref sc)] [(.int 1), (.ref b_168)])) (fun _ kt => XS.ifYes X187.here hx rfl (pc0 := 46) (pc' := 52) rfl (hb hby d1_46) rfl (XT.i0_eq_t (by decide)) (by decide) (by decide) (XS.iinc X187.here hx rfl (hb hby d1_52) rfl (l' := #[.val (.ref y), .val (.ref y), .val (.ref b_168), .val (.int 2), .val (.int 1), .val (.ref sc)]) rfl (XS.goto X187.here hx rfl (pc0 := 55) (pc' := 25) rfl (hb hby d1_55) (by decide) (by decide) (XS.iload X187.here hx rfl (hb hby d1_25) rfl (XS.iloadN X187.here hx rfl (hb hby d1_27) rfl (XS.icmpNo X187.here hx rfl (hb hby d1_28) rfl (XT.ii_ge_f (by decide)) (XS.aloadN X187.here hx rfl (hb hby d1_31) rfl rfl (XS.iload X187.here hx rfl (hb hby d1_32) rfl kt)))))))) ?_
  refine own_st (T' := T187) (g' := (mkF m 35 #[.val (.ref y), .val (.ref y), .val (.ref b_168), .val (.int 2), .val (.int 1), .val (.ref sc)] [(.ref le)])) (own_aal X187 hx hZ e187 P169 rfl ⟨by decide, by decide⟩ rfl (g := (mkF m 34 #[.val (.ref y), .val (.ref y), .val (.ref b_168), .val (.int 2), .val (.int 1), .val (.ref sc)] [(.int 1), (.ref b_168)])) rfl rfl (hb hby d1_34)) ?_
  refine own_st (T' := T187) (g' := (mkF m 39 #[.val (.ref y), .val (.ref y), .val (.ref b_168), .val (.int 2), .val (.int 1), .val (.ref le)] [(.ref le)])) (fun _ kt => XS.astore X187.here hx rfl (hb hby d1_35) rfl rfl (l' := #[.val (.ref y), .val (.ref y), .val (.ref b_168), .val (.int 2), .val (.int 1), .val (.ref le)]) rfl (XS.aload X187.here hx rfl (hb hby d1_37) rfl rfl kt)) ?_
  have F190 : Fld Z T168.heap le "com/example/lotd/lotd/ProcessingMode" "value" "Ljava/lang/String;" (.ref lv) := (Fld.ext F176.2 pr11)
  obtain ⟨T191, X191, e191, st191⟩ := getF X187 hx hZ hown (host := "") (Or.inl (own_k hw 9 rfl)) Via.refl e187 F190 (g := (mkF m 39 #[.val (.ref y), .val (.ref y), .val (.ref b_168), .val (.int 2), .val (.int 1), .val (.ref le)] [(.ref le)])) rfl rfl (hb hby d1_39)
  refine own_st (T' := T191) (g' := (mkF m 42 #[.val (.ref y), .val (.ref y), .val (.ref b_168), .val (.int 2), .val (.int 1), .val (.ref le)] [(.ref lv)])) st191 ?_
  refine own_st (T' := T191) (g' := (mkF m 43 #[.val (.ref y), .val (.ref y), .val (.ref b_168), .val (.int 2), .val (.int 1), .val (.ref le)] [(.ref y), (.ref lv)])) (fun _ kt => XS.aloadN X191.here hx rfl (hb hby d1_42) rfl rfl kt) ?_
  have F192 : Exa Z T168.heap lv "java/lang/String" := (Exa.ext F176.2 pr16)
  have F193 : Fld Z T168.heap lv "java/lang/String" "coder" "B" (.int 0) := (Fld.ext F176.2 pr17)
  have F194 : Fld Z T168.heap lv "java/lang/String" "value" "[B" (.ref tl) := (Fld.ext F176.2 pr18)
  have F195 : Arv Z T168.heap tl k2 .byte (7 : Int32) [(.int 108), (.int 101), (.int 110), (.int 105), (.int 101), (.int 110), (.int 116)] (.int 0) := (pr19.ext F176.2)
  obtain ⟨cq197, kq197, qa197, qb197, qc197⟩ := isOf hZ e191 F192
  obtain ⟨_, _, ⟨T196, L196, k196, n196⟩, -, X196, ⟨Lc196, hQ196, l196, y196, z196⟩, st196⟩ := X191.virtualBack hx (y := yN1) (z := yN1) hown (mvT hZ (own_k hw 27 rfl)) (mvT hZ (own_k hw 28 rfl)) (notFace_of_selects (args := #[]) (mvT hZ (own_k hw 30 rfl))) (mvT hZ (own_k hw 30 rfl)) (mvT hZ (own_k hw 29 rfl)) (by decide) (backOf (W := 0) (own_ee7 l Z a0 hw [] lv y zc tl t k2 ky x0 x1 x2 x3 x4 x5 x6 T168.heap n0 Z172 F176 pr5 pr6 (Old.ne F176 pr16.lt pr20) F192 F193 F194 F195 F183 F184 F185 F186 pr25 pr26 pr27 pr28 pr29 pr30 pr31) hZ (own_k hw 32 rfl) (own_k hw 31 rfl) (by decide) (by decide)) qa197 qc197 (g := (mkF m 43 #[.val (.ref y), .val (.ref y), .val (.ref b_168), .val (.int 2), .val (.int 1), .val (.ref le)] [(.ref y), (.ref lv)])) rfl hml.symm (Steps.refl _) (argsL := [(.ref y)]) (rest := []) (lenOf own_pd8 rfl) rfl (own_w0 rfl rfl) (hb hby d1_43) (fun _ _ => ⟨rfl, e191, (by decide : 1 + 0 ≤ 1), (by decide : 2 + 0 ≤ 2)⟩)
  dsimp only [Pt.U, Pt.locs, Pt.cells, Pt.slots] at X196 l196 y196 z196 st196 hQ196
  subst l196 y196 z196
  obtain ⟨rfl, N196, e196⟩ := hQ196
  have N198 := Fr.app N189 N196
  refine own_tr (T' := T196) (g' := (mkF m 46 #[.val (.ref y), .val (.ref y), .val (.ref b_168), .val (.int 2), .val (.int 1), .val (.ref le)] [(.int (own_m7 x0 x1 x2 x3 x4 x5 x6))])) st196 ?_
  refine own_st (T' := T196) (g' := (mkF m 51 #[.val (.ref y), .val (.ref y), .val (.ref b_168), .val (.int 2), .val (.int 1), .val (.ref le)] [(.ref le)])) (fun _ kt => XS.ifNo X196.here hx rfl (hb hby d1_46) rfl (XT.i0_eq_f pr32) (XS.aload X196.here hx rfl (hb hby d1_49) rfl rfl kt)) ?_
  obtain ⟨fs, hr, hrun, hended, hW, hsame⟩ := X196.leave (v := some (.ref le)) (fun h => by rw [Bd.returns] at h; cases h)
  refine own_end (own_retA X196 hx Bd.returns rfl rfl rfl (hb hby d1_51) hr) ⟨_, hrun, hended, _, _, rfl, ?_, ⟨_, rfl⟩, hW, hsame.mono (by decide) (by decide)⟩
  show own_of7tQ Z _ _ _ _ _ _ _ _ _ _ _ _ _ _ _ _ _ _ _ _ _ h0 n0 _ T196.heap _
  rw [e196]
  exact ⟨b_168, rfl, N198, K172⟩
def own_of7fQ (Z : State) (va : Addr) (kv : ClassId) (sc : Addr) (le : Addr) (zc : Int32) (sv : Addr) (lv : Addr) (ts : Addr) (tl : Addr) (k1 : ClassId) (k2 : ClassId) (y : Addr) (t : Addr) (ky : ClassId) (x0 : Int32) (x1 : Int32) (x2 : Int32) (x3 : Int32) (x4 : Int32) (x5 : Int32) (x6 : Int32) (h0 : Heap) (n0 : Nat) (v : Option Value) (h : Heap) (L : List Loc) : Prop := ∃ (b : Addr), v = some .null ∧ Fr n0 L ∧ Keep h0 h []
abbrev own_of7fR : Room := { frames := 2, cells := 1, slots := 2, locals := 28 }
theorem own_of7f (l : Launch) (Z : State) (a0 : Array Value) (hw : ∀ d ∈ tables_1, d.before a0 Z = true) (ws : List Jvm.Cond) (va : Addr) (kv : ClassId) (sc : Addr) (le : Addr) (zc : Int32) (sv : Addr) (lv : Addr) (ts : Addr) (tl : Addr) (k1 : ClassId) (k2 : ClassId) (y : Addr) (t : Addr) (ky : ClassId) (x0 : Int32) (x1 : Int32) (x2 : Int32) (x3 : Int32) (x4 : Int32) (x5 : Int32) (x6 : Int32) (h0 : Heap) (n0 : Nat) (Z0 : n0 ≤ h0.size) (pr1 : Old Z n0 h0) (pr2 : Sta Z Z.heap "com/example/lotd/lotd/ProcessingMode" "$VALUES" "[Lcom/example/lotd/lotd/ProcessingMode;" (.ref va)) (pr3 : Exa Z Z.heap va "[Lcom/example/lotd/lotd/ProcessingMode;") (pr4 : Arv Z Z.heap va kv (.object "com/example/lotd/lotd/ProcessingMode") (2 : Int32) [(.ref sc), (.ref le)] .null) (pr5 : Sta Z Z.heap "java/lang/String" "COMPACT_STRINGS" "Z" (.int zc)) (pr6 : ¬ zc = 0) (pr7 : Sta Z Z.heap "com/example/lotd/lotd/ProcessingMode" "STRICT" "Lcom/example/lotd/lotd/ProcessingMode;" (.ref sc)) (pr8 : Exa Z Z.heap sc "com/example/lotd/lotd/ProcessingMode") (pr9 : Exa Z Z.heap le "com/example/lotd/lotd/ProcessingMode") (pr10 : Fld Z Z.heap sc "com/example/lotd/lotd/ProcessingMode" "value" "Ljava/lang/String;" (.ref sv)) (pr11 : Fld Z Z.heap le "com/example/lotd/lotd/ProcessingMode" "value" "Ljava/lang/String;" (.ref lv)) (pr12 : Exa Z Z.heap sv "java/lang/String") (pr13 : Fld Z Z.heap sv "java/lang/String" "coder" "B" (.int 0)) (pr14 : Fld Z Z.heap sv "java/lang/String" "value" "[B" (.ref ts)) (pr15 : Arv Z Z.heap ts k1 .byte (6 : Int32) [(.int 115), (.int 116), (.int 114), (.int 105), (.int 99), (.int 116)] (.int 0)) (pr16 : Exa Z Z.heap lv "java/lang/String") (pr17 : Fld Z Z.heap lv "java/lang/String" "coder" "B" (.int 0)) (pr18 : Fld Z Z.heap lv "java/lang/String" "value" "[B" (.ref tl)) (pr19 : Arv Z Z.heap tl k2 .byte (7 : Int32) [(.int 108), (.int 101), (.int 110), (.int 105), (.int 101), (.int 110), (.int 116)] (.int 0)) (pr20 : n0 ≤ y) (pr21 : Exa Z h0 y "java/lang/String") (pr22 : Fld Z h0 y "java/lang/String" "coder" "B" (.int 0)) (pr23 : Fld Z h0 y "java/lang/String" "value" "[B" (.ref t)) (pr24 : Arv Z h0 t ky .byte (7 : Int32) [(.int x0.toInt8.toInt32), (.int x1.toInt8.toInt32), (.int x2.toInt8.toInt32), (.int x3.toInt8.toInt32), (.int x4.toInt8.toInt32), (.int x5.toInt8.toInt32), (.int x6.toInt8.toInt32)] (.int 0)) (pr25 : own_cc x0) (pr26 : own_cc x1) (pr27 : own_cc x2) (pr28 : own_cc x3) (pr29 : own_cc x4) (pr30 : own_cc x5) (pr31 : own_cc x6) (pr32 : (own_m7 x0 x1 x2 x3 x4 x5 x6) = 0) :
    own_M l yN3 prog_10_method_4_code 6 (some (.object "com/example/lotd/lotd/ProcessingMode")) ws own_of7fR #[(.ref y)] Z h0 (own_of7fQ Z va kv sc le zc sv lv ts tl k1 k2 y t ky x0 x1 x2 x3 x4 x5 x6 h0 n0) := by
  refine own_go (plainFor_of_name own_pn4) (fun m => own_ef8 m y ) ?_
  intro p e s m below meth c s₁ Bd hx hby hml hZ hh hown hnm X0 e0
  have N0 := Fr.nil n0
  have K0 : Keep h0 h0 [] := Keep.refl h0 _
  refine own_st (T' := s₁) (g' := (mkF m 15 #[.val (.ref y), .val (.ref y), .unset, .unset, .unset, .unset] [])) (fun _ kt => XS.aloadN X0.here hx rfl (hb hby d1_0) rfl rfl (XT.ifnonnullYes X0.here hx rfl (pc0 := 1) (pc' := 13) rfl (hb hby d1_1) rfl (by decide) (by decide) (XS.aloadN X0.here hx rfl (hb hby d1_13) rfl rfl (XS.astoreN X0.here hx rfl (hb hby d1_14) rfl rfl (l' := #[.val (.ref y), .val (.ref y), .unset, .unset, .unset, .unset]) rfl kt)))) ?_
  obtain ⟨_, _, ⟨T199, L199, k199, n199⟩, -, X199, ⟨Lc199, hQ199, l199, y199, z199⟩, st199⟩ := Jvm.LawKit.callS X0 hx (y := yN7) hown (mvT hZ (own_k hw 11 rfl)) (mvT hZ (own_k hw 12 rfl)) (mvT hZ (own_k hw 3 rfl)) (mvT hZ (own_k hw 13 rfl)) (by decide) (backOf (W := 0) (own_va l Z a0 hw [] va kv sc le h0 n0 Z0 pr1 pr2 pr3 pr4) hZ (own_k hw 13 rfl) (own_k hw 3 rfl) (by decide) (by decide)) (g := (mkF m 15 #[.val (.ref y), .val (.ref y), .unset, .unset, .unset, .unset] [])) rfl hml.symm  (argsL := []) (rest := []) (lenOf own_pd7 rfl) rfl (own_w0 rfl rfl) (hb hby d1_15) (fun _ _ => ⟨rfl, e0, (by decide : 0 + 1 ≤ 1), (by decide : 0 + 2 ≤ 2)⟩)
  dsimp only [Pt.U, Pt.locs, Pt.cells, Pt.slots] at X199 l199 y199 z199 st199 hQ199
  subst l199 y199 z199
  obtain ⟨b_199, kb_199, rfl, N199, K199_, P200, P201⟩ := hQ199
  have N202 := Fr.app N0 N199
  have Z203 : n0 ≤ T199.heap.size := Nat.le_trans Z0 K199_.1
  have K203 : Keep h0 T199.heap [] := (Keep.trans K0 K199_ all0)
  have ne204 : y ≠ b_199 := Nat.ne_of_lt (Nat.lt_of_lt_of_le pr21.lt P201)
  have ne205 : t ≠ b_199 := Nat.ne_of_lt (Nat.lt_of_lt_of_le pr24.lt P201)
  have ge206 : n0 ≤ b_199 := Nat.le_trans Z0 P201
  refine own_st (T' := T199) (g' := (mkF m 18 #[.val (.ref y), .val (.ref y), .unset, .unset, .unset, .unset] [(.ref b_199)])) st199 ?_
  refine own_st (T' := T199) (g' := (mkF m 20 #[.val (.ref y), .val (.ref y), .val (.ref b_199), .unset, .unset, .unset] [(.ref b_199)])) (fun _ kt => XS.astoreN X199.here hx rfl (hb hby d1_18) rfl rfl (l' := #[.val (.ref y), .val (.ref y), .val (.ref b_199), .unset, .unset, .unset]) rfl (XS.aloadN X199.here hx rfl (hb hby d1_19) rfl rfl kt)) ?_
  refine own_st (T' := T199) (g' := (mkF m 21 #[.val (.ref y), .val (.ref y), .val (.ref b_199), .unset, .unset, .unset] [(.int 2)])) (own_alen X199 hx hZ rfl P200 (g := (mkF m 20 #[.val (.ref y), .val (.ref y), .val (.ref b_199), .unset, .unset, .unset] [(.ref b_199)])) rfl rfl (hb hby d1_20)) ?_
  refine own_st (T' := T199) (g' := (mkF m 34 #[.val (.ref y), .val (.ref y), .val (.ref b_199), .val (.int 2), .val (.int 0), .unset] [(.int 0), (.ref b_199)])) (fun _ kt => XS.istoreN X199.here hx rfl (hb hby d1_21) rfl (l' := #[.val (.ref y), .val (.ref y), .val (.ref b_199), .val (.int 2), .unset, .unset]) rfl (XS.iconst X199.here hx rfl (hb hby d1_22) (XS.istore X199.here hx rfl (hb hby d1_23) rfl (l' := #[.val (.ref y), .val (.ref y), .val (.ref b_199), .val (.int 2), .val (.int 0), .unset]) rfl (XS.iload X199.here hx rfl (hb hby d1_25) rfl (XS.iloadN X199.here hx rfl (hb hby d1_27) rfl (XS.icmpNo X199.here hx rfl (hb hby d1_28) rfl (XT.ii_ge_f (by decide)) (XS.aloadN X199.here hx rfl (hb hby d1_31) rfl rfl (XS.iload X199.here hx rfl (hb hby d1_32) rfl kt)))))))) ?_
  refine own_st (T' := T199) (g' := (mkF m 35 #[.val (.ref y), .val (.ref y), .val (.ref b_199), .val (.int 2), .val (.int 0), .unset] [(.ref sc)])) (own_aal X199 hx hZ rfl P200 rfl ⟨by decide, by decide⟩ rfl (g := (mkF m 34 #[.val (.ref y), .val (.ref y), .val (.ref b_199), .val (.int 2), .val (.int 0), .unset] [(.int 0), (.ref b_199)])) rfl rfl (hb hby d1_34)) ?_
  refine own_st (T' := T199) (g' := (mkF m 39 #[.val (.ref y), .val (.ref y), .val (.ref b_199), .val (.int 2), .val (.int 0), .val (.ref sc)] [(.ref sc)])) (fun _ kt => XS.astore X199.here hx rfl (hb hby d1_35) rfl rfl (l' := #[.val (.ref y), .val (.ref y), .val (.ref b_199), .val (.int 2), .val (.int 0), .val (.ref sc)]) rfl (XS.aload X199.here hx rfl (hb hby d1_37) rfl rfl kt)) ?_
  have F207 : Old Z n0 T199.heap := (Old.keep pr1 K199_ all0)
  have F208 : Fld Z T199.heap sc "com/example/lotd/lotd/ProcessingMode" "value" "Ljava/lang/String;" (.ref sv) := (Fld.ext F207.2 pr10)
  obtain ⟨T209, X209, e209, st209⟩ := getF X199 hx hZ hown (host := "") (Or.inl (own_k hw 9 rfl)) Via.refl rfl F208 (g := (mkF m 39 #[.val (.ref y), .val (.ref y), .val (.ref b_199), .val (.int 2), .val (.int 0), .val (.ref sc)] [(.ref sc)])) rfl rfl (hb hby d1_39)
  refine own_st (T' := T209) (g' := (mkF m 42 #[.val (.ref y), .val (.ref y), .val (.ref b_199), .val (.int 2), .val (.int 0), .val (.ref sc)] [(.ref sv)])) st209 ?_
  refine own_st (T' := T209) (g' := (mkF m 43 #[.val (.ref y), .val (.ref y), .val (.ref b_199), .val (.int 2), .val (.int 0), .val (.ref sc)] [(.ref y), (.ref sv)])) (fun _ kt => XS.aloadN X209.here hx rfl (hb hby d1_42) rfl rfl kt) ?_
  have F210 : Exa Z T199.heap sv "java/lang/String" := (Exa.ext F207.2 pr12)
  have F211 : Fld Z T199.heap sv "java/lang/String" "coder" "B" (.int 0) := (Fld.ext F207.2 pr13)
  have F212 : Fld Z T199.heap sv "java/lang/String" "value" "[B" (.ref ts) := (Fld.ext F207.2 pr14)
  have F213 : Arv Z T199.heap ts k1 .byte (6 : Int32) [(.int 115), (.int 116), (.int 114), (.int 105), (.int 99), (.int 116)] (.int 0) := (pr15.ext F207.2)
  have F214 : Exa Z T199.heap y "java/lang/String" := (Exa.keep pr21 K199_)
  have F215 : Fld Z T199.heap y "java/lang/String" "coder" "B" (.int 0) := (Fld.keep pr22 K199_ nin0)
  have F216 : Fld Z T199.heap y "java/lang/String" "value" "[B" (.ref t) := (Fld.keep pr23 K199_ nin0)
  have F217 : Arv Z T199.heap t ky .byte (7 : Int32) [(.int x0.toInt8.toInt32), (.int x1.toInt8.toInt32), (.int x2.toInt8.toInt32), (.int x3.toInt8.toInt32), (.int x4.toInt8.toInt32), (.int x5.toInt8.toInt32), (.int x6.toInt8.toInt32)] (.int 0) := (Arv.keep pr24 K199_ nin0)
  obtain ⟨cq219, kq219, qa219, qb219, qc219⟩ := isOf hZ e209 F210
  obtain ⟨_, _, ⟨T218, L218, k218, n218⟩, -, X218, ⟨Lc218, hQ218, l218, y218, z218⟩, st218⟩ := X209.virtualBack hx (y := yN1) (z := yN1) hown (mvT hZ (own_k hw 27 rfl)) (mvT hZ (own_k hw 28 rfl)) (notFace_of_selects (args := #[]) (mvT hZ (own_k hw 30 rfl))) (mvT hZ (own_k hw 30 rfl)) (mvT hZ (own_k hw 29 rfl)) (by decide) (backOf (W := 0) (own_ed l Z a0 hw [] sv y zc ts t k1 ky (6 : Int32) (7 : Int32) [(.int 115), (.int 116), (.int 114), (.int 105), (.int 99), (.int 116)] [(.int x0.toInt8.toInt32), (.int x1.toInt8.toInt32), (.int x2.toInt8.toInt32), (.int x3.toInt8.toInt32), (.int x4.toInt8.toInt32), (.int x5.toInt8.toInt32), (.int x6.toInt8.toInt32)] T199.heap n0 Z203 F207 pr5 pr6 (Old.ne F207 pr12.lt pr20) F210 F211 F212 F213 F214 F215 F216 F217 (show ¬ (6 : Int32) = (7 : Int32) from (by decide))) hZ (own_k hw 32 rfl) (own_k hw 31 rfl) (by decide) (by decide)) qa219 qc219 (g := (mkF m 43 #[.val (.ref y), .val (.ref y), .val (.ref b_199), .val (.int 2), .val (.int 0), .val (.ref sc)] [(.ref y), (.ref sv)])) rfl hml.symm (Steps.refl _) (argsL := [(.ref y)]) (rest := []) (lenOf own_pd8 rfl) rfl (own_w0 rfl rfl) (hb hby d1_43) (fun _ _ => ⟨rfl, e209, (by decide : 1 + 0 ≤ 1), (by decide : 2 + 0 ≤ 2)⟩)
  dsimp only [Pt.U, Pt.locs, Pt.cells, Pt.slots] at X218 l218 y218 z218 st218 hQ218
  subst l218 y218 z218
  obtain ⟨rfl, N218, e218⟩ := hQ218
  have N220 := Fr.app N202 N218
  refine own_tr (T' := T218) (g' := (mkF m 46 #[.val (.ref y), .val (.ref y), .val (.ref b_199), .val (.int 2), .val (.int 0), .val (.ref sc)] [(.int 0)])) st218 ?_
  refine own_st (T' := T218) (g' := (mkF m 34 #[.val (.ref y), .val (.ref y), .val (.ref b_199), .val (.int 2), .val (.int 1), .val (.ref sc)] [(.int 1), (.ref b_199)])) (fun _ kt => XS.ifYes X218.here hx rfl (pc0 := 46) (pc' := 52) rfl (hb hby d1_46) rfl (XT.i0_eq_t (by decide)) (by decide) (by decide) (XS.iinc X218.here hx rfl (hb hby d1_52) rfl (l' := #[.val (.ref y), .val (.ref y), .val (.ref b_199), .val (.int 2), .val (.int 1), .val (.ref sc)]) rfl (XS.goto X218.here hx rfl (pc0 := 55) (pc' := 25) rfl (hb hby d1_55) (by decide) (by decide) (XS.iload X218.here hx rfl (hb hby d1_25) rfl (XS.iloadN X218.here hx rfl (hb hby d1_27) rfl (XS.icmpNo X218.here hx rfl (hb hby d1_28) rfl (XT.ii_ge_f (by decide)) (XS.aloadN X218.here hx rfl (hb hby d1_31) rfl rfl (XS.iload X218.here hx rfl (hb hby d1_32) rfl kt)))))))) ?_
  refine own_st (T' := T218) (g' := (mkF m 35 #[.val (.ref y), .val (.ref y), .val (.ref b_199), .val (.int 2), .val (.int 1), .val (.ref sc)] [(.ref le)])) (own_aal X218 hx hZ e218 P200 rfl ⟨by decide, by decide⟩ rfl (g := (mkF m 34 #[.val (.ref y), .val (.ref y), .val (.ref b_199), .val (.int 2), .val (.int 1), .val (.ref sc)] [(.int 1), (.ref b_199)])) rfl rfl (hb hby d1_34)) ?_
  refine own_st (T' := T218) (g' := (mkF m 39 #[.val (.ref y), .val (.ref y), .val (.ref b_199), .val (.int 2), .val (.int 1), .val (.ref le)] [(.ref le)])) (fun _ kt => XS.astore X218.here hx rfl (hb hby d1_35) rfl rfl (l' := #[.val (.ref y), .val (.ref y), .val (.ref b_199), .val (.int 2), .val (.int 1), .val (.ref le)]) rfl (XS.aload X218.here hx rfl (hb hby d1_37) rfl rfl kt)) ?_
  have F221 : Fld Z T199.heap le "com/example/lotd/lotd/ProcessingMode" "value" "Ljava/lang/String;" (.ref lv) := (Fld.ext F207.2 pr11)
  obtain ⟨T222, X222, e222, st222⟩ := getF X218 hx hZ hown (host := "") (Or.inl (own_k hw 9 rfl)) Via.refl e218 F221 (g := (mkF m 39 #[.val (.ref y), .val (.ref y), .val (.ref b_199), .val (.int 2), .val (.int 1), .val (.ref le)] [(.ref le)])) rfl rfl (hb hby d1_39)
  refine own_st (T' := T222) (g' := (mkF m 42 #[.val (.ref y), .val (.ref y), .val (.ref b_199), .val (.int 2), .val (.int 1), .val (.ref le)] [(.ref lv)])) st222 ?_
  refine own_st (T' := T222) (g' := (mkF m 43 #[.val (.ref y), .val (.ref y), .val (.ref b_199), .val (.int 2), .val (.int 1), .val (.ref le)] [(.ref y), (.ref lv)])) (fun _ kt => XS.aloadN X222.here hx rfl (hb hby d1_42) rfl rfl kt) ?_
  have F223 : Exa Z T199.heap lv "java/lang/String" := (Exa.ext F207.2 pr16)
  have F224 : Fld Z T199.heap lv "java/lang/String" "coder" "B" (.int 0) := (Fld.ext F207.2 pr17)
  have F225 : Fld Z T199.heap lv "java/lang/String" "value" "[B" (.ref tl) := (Fld.ext F207.2 pr18)
  have F226 : Arv Z T199.heap tl k2 .byte (7 : Int32) [(.int 108), (.int 101), (.int 110), (.int 105), (.int 101), (.int 110), (.int 116)] (.int 0) := (pr19.ext F207.2)
  obtain ⟨cq228, kq228, qa228, qb228, qc228⟩ := isOf hZ e222 F223
  obtain ⟨_, _, ⟨T227, L227, k227, n227⟩, -, X227, ⟨Lc227, hQ227, l227, y227, z227⟩, st227⟩ := X222.virtualBack hx (y := yN1) (z := yN1) hown (mvT hZ (own_k hw 27 rfl)) (mvT hZ (own_k hw 28 rfl)) (notFace_of_selects (args := #[]) (mvT hZ (own_k hw 30 rfl))) (mvT hZ (own_k hw 30 rfl)) (mvT hZ (own_k hw 29 rfl)) (by decide) (backOf (W := 0) (own_ee7 l Z a0 hw [] lv y zc tl t k2 ky x0 x1 x2 x3 x4 x5 x6 T199.heap n0 Z203 F207 pr5 pr6 (Old.ne F207 pr16.lt pr20) F223 F224 F225 F226 F214 F215 F216 F217 pr25 pr26 pr27 pr28 pr29 pr30 pr31) hZ (own_k hw 32 rfl) (own_k hw 31 rfl) (by decide) (by decide)) qa228 qc228 (g := (mkF m 43 #[.val (.ref y), .val (.ref y), .val (.ref b_199), .val (.int 2), .val (.int 1), .val (.ref le)] [(.ref y), (.ref lv)])) rfl hml.symm (Steps.refl _) (argsL := [(.ref y)]) (rest := []) (lenOf own_pd8 rfl) rfl (own_w0 rfl rfl) (hb hby d1_43) (fun _ _ => ⟨rfl, e222, (by decide : 1 + 0 ≤ 1), (by decide : 2 + 0 ≤ 2)⟩)
  dsimp only [Pt.U, Pt.locs, Pt.cells, Pt.slots] at X227 l227 y227 z227 st227 hQ227
  subst l227 y227 z227
  obtain ⟨rfl, N227, e227⟩ := hQ227
  have N229 := Fr.app N220 N227
  refine own_tr (T' := T227) (g' := (mkF m 46 #[.val (.ref y), .val (.ref y), .val (.ref b_199), .val (.int 2), .val (.int 1), .val (.ref le)] [(.int (own_m7 x0 x1 x2 x3 x4 x5 x6))])) st227 ?_
  refine own_st (T' := T227) (g' := (mkF m 59 #[.val (.ref y), .val (.ref y), .val (.ref b_199), .val (.int 2), .val (.int 2), .val (.ref le)] [.null])) (fun _ kt => XS.ifYes X227.here hx rfl (pc0 := 46) (pc' := 52) rfl (hb hby d1_46) rfl (XT.i0_eq_t pr32) (by decide) (by decide) (XS.iinc X227.here hx rfl (hb hby d1_52) rfl (l' := #[.val (.ref y), .val (.ref y), .val (.ref b_199), .val (.int 2), .val (.int 2), .val (.ref le)]) rfl (XS.goto X227.here hx rfl (pc0 := 55) (pc' := 25) rfl (hb hby d1_55) (by decide) (by decide) (XS.iload X227.here hx rfl (hb hby d1_25) rfl (XS.iloadN X227.here hx rfl (hb hby d1_27) rfl (XS.icmpYes X227.here hx rfl (pc0 := 28) (pc' := 58) rfl (hb hby d1_28) rfl (XT.ii_ge_t (by decide)) (by decide) (by decide) (XS.aconstNull X227.here hx rfl (hb hby d1_58) kt))))))) ?_
  obtain ⟨fs, hr, hrun, hended, hW, hsame⟩ := X227.leave (v := some .null) (fun h => by rw [Bd.returns] at h; cases h)
  refine own_end (own_retA X227 hx Bd.returns rfl rfl rfl (hb hby d1_59) hr) ⟨_, hrun, hended, _, _, rfl, ?_, ⟨_, rfl⟩, hW, hsame.mono (by decide) (by decide)⟩
  show own_of7fQ Z _ _ _ _ _ _ _ _ _ _ _ _ _ _ _ _ _ _ _ _ _ h0 n0 _ T227.heap _
  rw [e227]
  exact ⟨b_199, rfl, N229, K203⟩
theorem d11_0 : decode method_3_code 0 = .ok (.iload_n 1, 1) := by decide +kernel
theorem d11_1 : decode method_3_code 1 = .ok (.aload_n 2, 1) := by decide +kernel
theorem d11_2 : decode method_3_code 2 = .ok (.invokevirtual 36, 3) := by decide +kernel
theorem own_pd9 : parseMethodDescriptor "()I" = some ⟨[], some .int⟩ := by decide +kernel
theorem d11_5 : decode method_3_code 5 = .ok (.if_icmp .ne 123, 3) := by decide +kernel
theorem d11_128 : decode method_3_code 128 = .ok (.iconst 0, 1) := by decide +kernel
theorem d11_129 : decode method_3_code 129 = .ok (.ireturn, 1) := by decide +kernel
theorem own_ef9 (m : MethodId) (x0 : Addr) (x1 : Int32) (x2 : Addr) : entryFrame m #[(.ref x0), (.int x1), (.ref x2)] 3 = mkF m 0 #[.val (.ref x0), .val (.int x1), .val (.ref x2)] [] := by first | (simp [entryFrame, mkF, argsToLocals, Value.category]; done) | rfl
def own_neqQ (Z : State) (cs : Addr) (nn : Int32) (x : Addr) (zc : Int32) (tx : Addr) (kt : ClassId) (z1 : Int32) (vt : List Value) (h0 : Heap) (n0 : Nat) (v : Option Value) (h : Heap) (L : List Loc) : Prop := v = some (.int 0) ∧ Fr n0 L ∧ h = h0
theorem own_pn5 : plainName "com/example/lotd/lotd/ProcessingModeOfPinLaw" = true := by first | (simp [plainName, overriddenIn]; done) | decide +kernel
abbrev own_neqR : Room := { frames := 2, cells := 0, slots := 0, locals := 26 }
theorem own_neq (l : Launch) (Z : State) (a0 : Array Value) (hw : ∀ d ∈ tables_1, d.before a0 Z = true) (ws : List Jvm.Cond) (cs : Addr) (nn : Int32) (x : Addr) (zc : Int32) (tx : Addr) (kt : ClassId) (z1 : Int32) (vt : List Value) (h0 : Heap) (n0 : Nat) (Z0 : n0 ≤ h0.size) (pr1 : Old Z n0 h0) (pr2 : Sta Z Z.heap "java/lang/String" "COMPACT_STRINGS" "Z" (.int zc)) (pr3 : ¬ zc = 0) (pr4 : Exa Z h0 x "java/lang/String") (pr5 : Fld Z h0 x "java/lang/String" "coder" "B" (.int 0)) (pr6 : Fld Z h0 x "java/lang/String" "value" "[B" (.ref tx)) (pr7 : Arv Z h0 tx kt .byte z1 vt (.int 0)) (pr8 : ¬ nn = z1) :
    own_M l yN2 method_3_code 3 (some .boolean) ws own_neqR #[(.ref cs), (.int nn), (.ref x)] Z h0 (own_neqQ Z cs nn x zc tx kt z1 vt h0 n0) := by
  refine own_go (plainFor_of_name own_pn5) (fun m => own_ef9 m cs nn x ) ?_
  intro p e s m below meth c s₁ Bd hx hby hml hZ hh hown hnm X0 e0
  have N0 := Fr.nil n0
  refine own_st (T' := s₁) (g' := (mkF m 2 #[.val (.ref cs), .val (.int nn), .val (.ref x)] [(.ref x), (.int nn)])) (fun _ kt => XS.iloadN X0.here hx rfl (hb hby d11_0) rfl (XS.aloadN X0.here hx rfl (hb hby d11_1) rfl rfl kt)) ?_
  obtain ⟨cq231, kq231, qa231, qb231, qc231⟩ := isOf hZ e0 pr4
  obtain ⟨_, _, ⟨T230, L230, k230, n230⟩, -, X230, ⟨Lc230, hQ230, l230, y230, z230⟩, st230⟩ := X0.virtualBack hx (y := yN6) (z := yN6) hown (mvT hZ (own_k hw 71 rfl)) (mvT hZ (own_k hw 72 rfl)) (notFace_of_selects (args := #[]) (mvT hZ (own_k hw 74 rfl))) (mvT hZ (own_k hw 74 rfl)) (mvT hZ (own_k hw 73 rfl)) (by decide) (backOf (W := 1) (own_len l Z a0 hw [] x zc tx kt z1 vt (.int 0) h0 n0 Z0 pr1 pr2 pr3 pr4 pr5 pr6 pr7) hZ (own_k hw 75 rfl) (own_k hw 31 rfl) (by decide) (by decide)) qa231 qc231 (g := (mkF m 2 #[.val (.ref cs), .val (.int nn), .val (.ref x)] [(.ref x), (.int nn)])) rfl hml.symm (Steps.refl _) (argsL := []) (rest := [(.int nn)]) (lenOf own_pd9 rfl) rfl (own_w0 rfl rfl) (hb hby d11_2) (fun _ _ => ⟨rfl, e0, (by decide : 0 + 0 ≤ 0), (by decide : 0 + 0 ≤ 0)⟩)
  dsimp only [Pt.U, Pt.locs, Pt.cells, Pt.slots] at X230 l230 y230 z230 st230 hQ230
  subst l230 y230 z230
  obtain ⟨rfl, N230, e230⟩ := hQ230
  have N232 := Fr.app N0 N230
  refine own_tr (T' := T230) (g' := (mkF m 5 #[.val (.ref cs), .val (.int nn), .val (.ref x)] [(.int z1), (.int nn)])) st230 ?_
  refine own_st (T' := T230) (g' := (mkF m 129 #[.val (.ref cs), .val (.int nn), .val (.ref x)] [(.int 0)])) (fun _ kt => XS.icmpYes X230.here hx rfl (pc0 := 5) (pc' := 128) rfl (hb hby d11_5) rfl (XT.ii_ne_t pr8) (by decide) (by decide) (XS.iconst X230.here hx rfl (hb hby d11_128) kt)) ?_
  obtain ⟨fs, hr, hrun, hended, hW, hsame⟩ := X230.leave (v := some (.int 0)) (fun h => by rw [Bd.returns] at h; cases h)
  refine own_end (retN X230 hx (t := .boolean) Bd.returns (by simp) (hb hby d11_129) hr) ⟨_, hrun, hended, _, _, rfl, ?_, ⟨_, rfl⟩, hW, hsame.mono (by decide) (by decide)⟩
  show own_neqQ Z _ _ _ _ _ _ _ _ h0 n0 _ T230.heap _
  rw [e230]
  exact ⟨rfl, N232, rfl⟩
theorem d11_8 : decode method_3_code 8 = .ok (.iload_n 1, 1) := by decide +kernel
theorem d11_9 : decode method_3_code 9 = .ok (.iconst 1, 1) := by decide +kernel
theorem d11_10 : decode method_3_code 10 = .ok (.if_icmp .lt 14, 3) := by decide +kernel
theorem d11_13 : decode method_3_code 13 = .ok (.aload_n 0, 1) := by decide +kernel
theorem d11_14 : decode method_3_code 14 = .ok (.iconst 0, 1) := by decide +kernel
theorem d11_15 : decode method_3_code 15 = .ok (.caload, 1) := by decide +kernel
theorem d11_16 : decode method_3_code 16 = .ok (.aload_n 2, 1) := by decide +kernel
theorem d11_17 : decode method_3_code 17 = .ok (.iconst 0, 1) := by decide +kernel
theorem d11_18 : decode method_3_code 18 = .ok (.invokevirtual 42, 3) := by decide +kernel
theorem own_pd10 : parseMethodDescriptor "(I)C" = some ⟨[.int], some .char⟩ := by decide +kernel
theorem d11_21 : decode method_3_code 21 = .ok (.if_icmp .ne 107, 3) := by decide +kernel
theorem d11_24 : decode method_3_code 24 = .ok (.iload_n 1, 1) := by decide +kernel
theorem d11_25 : decode method_3_code 25 = .ok (.iconst 2, 1) := by decide +kernel
theorem d11_26 : decode method_3_code 26 = .ok (.if_icmp .lt 14, 3) := by decide +kernel
theorem d11_29 : decode method_3_code 29 = .ok (.aload_n 0, 1) := by decide +kernel
theorem d11_30 : decode method_3_code 30 = .ok (.iconst 1, 1) := by decide +kernel
theorem d11_31 : decode method_3_code 31 = .ok (.caload, 1) := by decide +kernel
theorem d11_32 : decode method_3_code 32 = .ok (.aload_n 2, 1) := by decide +kernel
theorem d11_33 : decode method_3_code 33 = .ok (.iconst 1, 1) := by decide +kernel
theorem d11_34 : decode method_3_code 34 = .ok (.invokevirtual 42, 3) := by decide +kernel
theorem d11_37 : decode method_3_code 37 = .ok (.if_icmp .ne 91, 3) := by decide +kernel
theorem d11_40 : decode method_3_code 40 = .ok (.iload_n 1, 1) := by decide +kernel
theorem d11_41 : decode method_3_code 41 = .ok (.iconst 3, 1) := by decide +kernel
theorem d11_42 : decode method_3_code 42 = .ok (.if_icmp .lt 14, 3) := by decide +kernel
theorem d11_45 : decode method_3_code 45 = .ok (.aload_n 0, 1) := by decide +kernel
theorem d11_46 : decode method_3_code 46 = .ok (.iconst 2, 1) := by decide +kernel
theorem d11_47 : decode method_3_code 47 = .ok (.caload, 1) := by decide +kernel
theorem d11_48 : decode method_3_code 48 = .ok (.aload_n 2, 1) := by decide +kernel
theorem d11_49 : decode method_3_code 49 = .ok (.iconst 2, 1) := by decide +kernel
theorem d11_50 : decode method_3_code 50 = .ok (.invokevirtual 42, 3) := by decide +kernel
theorem d11_53 : decode method_3_code 53 = .ok (.if_icmp .ne 75, 3) := by decide +kernel
theorem d11_56 : decode method_3_code 56 = .ok (.iload_n 1, 1) := by decide +kernel
theorem d11_57 : decode method_3_code 57 = .ok (.iconst 4, 1) := by decide +kernel
theorem d11_58 : decode method_3_code 58 = .ok (.if_icmp .lt 14, 3) := by decide +kernel
theorem d11_61 : decode method_3_code 61 = .ok (.aload_n 0, 1) := by decide +kernel
theorem d11_62 : decode method_3_code 62 = .ok (.iconst 3, 1) := by decide +kernel
theorem d11_63 : decode method_3_code 63 = .ok (.caload, 1) := by decide +kernel
theorem d11_64 : decode method_3_code 64 = .ok (.aload_n 2, 1) := by decide +kernel
theorem d11_65 : decode method_3_code 65 = .ok (.iconst 3, 1) := by decide +kernel
theorem d11_66 : decode method_3_code 66 = .ok (.invokevirtual 42, 3) := by decide +kernel
theorem d11_69 : decode method_3_code 69 = .ok (.if_icmp .ne 59, 3) := by decide +kernel
theorem d11_72 : decode method_3_code 72 = .ok (.iload_n 1, 1) := by decide +kernel
theorem d11_73 : decode method_3_code 73 = .ok (.iconst 5, 1) := by decide +kernel
theorem d11_74 : decode method_3_code 74 = .ok (.if_icmp .lt 14, 3) := by decide +kernel
theorem d11_77 : decode method_3_code 77 = .ok (.aload_n 0, 1) := by decide +kernel
theorem d11_78 : decode method_3_code 78 = .ok (.iconst 4, 1) := by decide +kernel
theorem d11_79 : decode method_3_code 79 = .ok (.caload, 1) := by decide +kernel
theorem d11_80 : decode method_3_code 80 = .ok (.aload_n 2, 1) := by decide +kernel
theorem d11_81 : decode method_3_code 81 = .ok (.iconst 4, 1) := by decide +kernel
theorem d11_82 : decode method_3_code 82 = .ok (.invokevirtual 42, 3) := by decide +kernel
theorem d11_85 : decode method_3_code 85 = .ok (.if_icmp .ne 43, 3) := by decide +kernel
theorem d11_88 : decode method_3_code 88 = .ok (.iload_n 1, 1) := by decide +kernel
theorem d11_89 : decode method_3_code 89 = .ok (.bipush 6, 2) := by decide +kernel
theorem d11_91 : decode method_3_code 91 = .ok (.if_icmp .lt 14, 3) := by decide +kernel
theorem d11_94 : decode method_3_code 94 = .ok (.aload_n 0, 1) := by decide +kernel
theorem d11_95 : decode method_3_code 95 = .ok (.iconst 5, 1) := by decide +kernel
theorem d11_96 : decode method_3_code 96 = .ok (.caload, 1) := by decide +kernel
theorem d11_97 : decode method_3_code 97 = .ok (.aload_n 2, 1) := by decide +kernel
theorem d11_98 : decode method_3_code 98 = .ok (.iconst 5, 1) := by decide +kernel
theorem d11_99 : decode method_3_code 99 = .ok (.invokevirtual 42, 3) := by decide +kernel
theorem d11_102 : decode method_3_code 102 = .ok (.if_icmp .ne 26, 3) := by decide +kernel
theorem d11_105 : decode method_3_code 105 = .ok (.iload_n 1, 1) := by decide +kernel
theorem d11_106 : decode method_3_code 106 = .ok (.bipush 7, 2) := by decide +kernel
theorem d11_108 : decode method_3_code 108 = .ok (.if_icmp .lt 16, 3) := by decide +kernel
theorem d11_124 : decode method_3_code 124 = .ok (.iconst 1, 1) := by decide +kernel
theorem d11_125 : decode method_3_code 125 = .ok (.goto 4, 3) := by decide +kernel
def own_eq6Q (Z : State) (cs : Addr) (kc : ClassId) (x : Addr) (zc : Int32) (fmt : Value) (tx : Addr) (kt : ClassId) (x0 : Int32) (x1 : Int32) (x2 : Int32) (x3 : Int32) (x4 : Int32) (x5 : Int32) (x6 : Int32) (x7 : Int32) (h0 : Heap) (n0 : Nat) (v : Option Value) (h : Heap) (L : List Loc) : Prop := v = some (.int (own_m6 x0 x1 x2 x3 x4 x5)) ∧ Fr n0 L ∧ h = h0
abbrev own_eq6R : Room := { frames := 4, cells := 0, slots := 0, locals := 54 }
theorem own_eq6 (l : Launch) (Z : State) (a0 : Array Value) (hw : ∀ d ∈ tables_1, d.before a0 Z = true) (ws : List Jvm.Cond) (cs : Addr) (kc : ClassId) (x : Addr) (zc : Int32) (fmt : Value) (tx : Addr) (kt : ClassId) (x0 : Int32) (x1 : Int32) (x2 : Int32) (x3 : Int32) (x4 : Int32) (x5 : Int32) (x6 : Int32) (x7 : Int32) (h0 : Heap) (n0 : Nat) (Z0 : n0 ≤ h0.size) (pr1 : Old Z n0 h0) (pr2 : Sta Z Z.heap "java/lang/String" "COMPACT_STRINGS" "Z" (.int zc)) (pr3 : ¬ zc = 0) (pr4 : Sta Z Z.heap "jdk/internal/util/Preconditions" "SIOOBE_FORMATTER" "Ljava/util/function/BiFunction;" fmt) (pr5 : fmt.isRef = true) (pr6 : Arv Z h0 cs kc .char (8 : Int32) [(.int x0), (.int x1), (.int x2), (.int x3), (.int x4), (.int x5), (.int x6), (.int x7)] (.int 0)) (pr7 : Exa Z h0 x "java/lang/String") (pr8 : Fld Z h0 x "java/lang/String" "coder" "B" (.int 0)) (pr9 : Fld Z h0 x "java/lang/String" "value" "[B" (.ref tx)) (pr10 : Arv Z h0 tx kt .byte (6 : Int32) [(.int 115), (.int 116), (.int 114), (.int 105), (.int 99), (.int 116)] (.int 0)) :
    own_M l yN2 method_3_code 3 (some .boolean) ws own_eq6R #[(.ref cs), (.int 6), (.ref x)] Z h0 (own_eq6Q Z cs kc x zc fmt tx kt x0 x1 x2 x3 x4 x5 x6 x7 h0 n0) := by
  refine own_go (plainFor_of_name own_pn5) (fun m => own_ef9 m cs (6 : Int32) x ) ?_
  intro p e s m below meth c s₁ Bd hx hby hml hZ hh hown hnm X0 e0
  have N0 := Fr.nil n0
  refine own_st (T' := s₁) (g' := (mkF m 2 #[.val (.ref cs), .val (.int 6), .val (.ref x)] [(.ref x), (.int 6)])) (fun _ kt => XS.iloadN X0.here hx rfl (hb hby d11_0) rfl (XS.aloadN X0.here hx rfl (hb hby d11_1) rfl rfl kt)) ?_
  obtain ⟨cq234, kq234, qa234, qb234, qc234⟩ := isOf hZ e0 pr7
  obtain ⟨_, _, ⟨T233, L233, k233, n233⟩, -, X233, ⟨Lc233, hQ233, l233, y233, z233⟩, st233⟩ := X0.virtualBack hx (y := yN6) (z := yN6) hown (mvT hZ (own_k hw 71 rfl)) (mvT hZ (own_k hw 72 rfl)) (notFace_of_selects (args := #[]) (mvT hZ (own_k hw 74 rfl))) (mvT hZ (own_k hw 74 rfl)) (mvT hZ (own_k hw 73 rfl)) (by decide) (backOf (W := 1) (own_len l Z a0 hw [] x zc tx kt (6 : Int32) [(.int 115), (.int 116), (.int 114), (.int 105), (.int 99), (.int 116)] (.int 0) h0 n0 Z0 pr1 pr2 pr3 pr7 pr8 pr9 pr10) hZ (own_k hw 75 rfl) (own_k hw 31 rfl) (by decide) (by decide)) qa234 qc234 (g := (mkF m 2 #[.val (.ref cs), .val (.int 6), .val (.ref x)] [(.ref x), (.int 6)])) rfl hml.symm (Steps.refl _) (argsL := []) (rest := [(.int 6)]) (lenOf own_pd9 rfl) rfl (own_w0 rfl rfl) (hb hby d11_2) (fun _ _ => ⟨rfl, e0, (by decide : 0 + 0 ≤ 0), (by decide : 0 + 0 ≤ 0)⟩)
  dsimp only [Pt.U, Pt.locs, Pt.cells, Pt.slots] at X233 l233 y233 z233 st233 hQ233
  subst l233 y233 z233
  obtain ⟨rfl, N233, e233⟩ := hQ233
  have N235 := Fr.app N0 N233
  refine own_tr (T' := T233) (g' := (mkF m 5 #[.val (.ref cs), .val (.int 6), .val (.ref x)] [(.int 6), (.int 6)])) st233 ?_
  refine own_st (T' := T233) (g' := (mkF m 15 #[.val (.ref cs), .val (.int 6), .val (.ref x)] [(.int 0), (.ref cs)])) (fun _ kt => XS.icmpNo X233.here hx rfl (hb hby d11_5) rfl (XT.ii_ne_f (by decide)) (XS.iloadN X233.here hx rfl (hb hby d11_8) rfl (XS.iconst X233.here hx rfl (hb hby d11_9) (XS.icmpNo X233.here hx rfl (hb hby d11_10) rfl (XT.ii_lt_f (by decide)) (XS.aloadN X233.here hx rfl (hb hby d11_13) rfl rfl (XS.iconst X233.here hx rfl (hb hby d11_14) kt)))))) ?_
  refine own_st (T' := T233) (g' := (mkF m 16 #[.val (.ref cs), .val (.int 6), .val (.ref x)] [(.int x0)])) (own_cal X233 hx hZ e233 pr6 ⟨by decide, by decide⟩ rfl (g := (mkF m 15 #[.val (.ref cs), .val (.int 6), .val (.ref x)] [(.int 0), (.ref cs)])) rfl rfl (hb hby d11_15)) ?_
  refine own_st (T' := T233) (g' := (mkF m 18 #[.val (.ref cs), .val (.int 6), .val (.ref x)] [(.int 0), (.ref x), (.int x0)])) (fun _ kt => XS.aloadN X233.here hx rfl (hb hby d11_16) rfl rfl (XS.iconst X233.here hx rfl (hb hby d11_17) kt)) ?_
  obtain ⟨cq237, kq237, qa237, qb237, qc237⟩ := isOf hZ e233 pr7
  obtain ⟨_, _, ⟨T236, L236, k236, n236⟩, -, X236, ⟨Lc236, hQ236, l236, y236, z236⟩, st236⟩ := X233.virtualBack hx (y := yN0) (z := yN0) hown (mvT hZ (own_k hw 87 rfl)) (mvT hZ (own_k hw 88 rfl)) (notFace_of_selects (args := #[]) (mvT hZ (own_k hw 90 rfl))) (mvT hZ (own_k hw 90 rfl)) (mvT hZ (own_k hw 89 rfl)) (by decide) (backOf (W := 1) (own_ca l Z a0 hw [] x zc tx (0 : Int32) fmt kt (6 : Int32) [(.int 115), (.int 116), (.int 114), (.int 105), (.int 99), (.int 116)] (115 : Int32) (115 : Int32) h0 n0 Z0 pr1 pr2 pr3 pr4 pr5 pr7 pr8 pr9 pr10 (show ¬ (0 : Int32) < 0 ∧ (0 : Int32) < (6 : Int32) from (by decide)) rfl (show nar .char (((115 : Int32) &&& (255 : Int32)).toUInt32.toUInt16.toUInt32.toInt32) = (115 : Int32) from (by decide)) (show nar .char (115 : Int32) = (115 : Int32) from (by decide))) hZ (own_k hw 91 rfl) (own_k hw 31 rfl) (by decide) (by decide)) qa237 qc237 (g := (mkF m 18 #[.val (.ref cs), .val (.int 6), .val (.ref x)] [(.int 0), (.ref x), (.int x0)])) rfl hml.symm (Steps.refl _) (argsL := [(.int 0)]) (rest := [(.int x0)]) (lenOf own_pd10 rfl) rfl (own_w0 rfl rfl) (hb hby d11_18) (fun _ _ => ⟨rfl, e233, (by decide : 0 + 0 ≤ 0), (by decide : 0 + 0 ≤ 0)⟩)
  dsimp only [Pt.U, Pt.locs, Pt.cells, Pt.slots] at X236 l236 y236 z236 st236 hQ236
  subst l236 y236 z236
  obtain ⟨rfl, N236, e236⟩ := hQ236
  have N238 := Fr.app N235 N236
  refine own_tr (T' := T236) (g' := (mkF m 21 #[.val (.ref cs), .val (.int 6), .val (.ref x)] [(.int 115), (.int x0)])) st236 ?_
  by_cases hc239 : x0 = (115 : Int32)
  ·
    refine own_st (T' := T236) (g' := (mkF m 31 #[.val (.ref cs), .val (.int 6), .val (.ref x)] [(.int 1), (.ref cs)])) (fun _ kt => XS.icmpNo X236.here hx rfl (hb hby d11_21) rfl (XT.ii_ne_f hc239) (XS.iloadN X236.here hx rfl (hb hby d11_24) rfl (XS.iconst X236.here hx rfl (hb hby d11_25) (XS.icmpNo X236.here hx rfl (hb hby d11_26) rfl (XT.ii_lt_f (by decide)) (XS.aloadN X236.here hx rfl (hb hby d11_29) rfl rfl (XS.iconst X236.here hx rfl (hb hby d11_30) kt)))))) ?_
    refine own_st (T' := T236) (g' := (mkF m 32 #[.val (.ref cs), .val (.int 6), .val (.ref x)] [(.int x1)])) (own_cal X236 hx hZ e236 pr6 ⟨by decide, by decide⟩ rfl (g := (mkF m 31 #[.val (.ref cs), .val (.int 6), .val (.ref x)] [(.int 1), (.ref cs)])) rfl rfl (hb hby d11_31)) ?_
    refine own_st (T' := T236) (g' := (mkF m 34 #[.val (.ref cs), .val (.int 6), .val (.ref x)] [(.int 1), (.ref x), (.int x1)])) (fun _ kt => XS.aloadN X236.here hx rfl (hb hby d11_32) rfl rfl (XS.iconst X236.here hx rfl (hb hby d11_33) kt)) ?_
    obtain ⟨cq241, kq241, qa241, qb241, qc241⟩ := isOf hZ e236 pr7
    obtain ⟨_, _, ⟨T240, L240, k240, n240⟩, -, X240, ⟨Lc240, hQ240, l240, y240, z240⟩, st240⟩ := X236.virtualBack hx (y := yN0) (z := yN0) hown (mvT hZ (own_k hw 87 rfl)) (mvT hZ (own_k hw 88 rfl)) (notFace_of_selects (args := #[]) (mvT hZ (own_k hw 90 rfl))) (mvT hZ (own_k hw 90 rfl)) (mvT hZ (own_k hw 89 rfl)) (by decide) (backOf (W := 1) (own_ca l Z a0 hw [] x zc tx (1 : Int32) fmt kt (6 : Int32) [(.int 115), (.int 116), (.int 114), (.int 105), (.int 99), (.int 116)] (116 : Int32) (116 : Int32) h0 n0 Z0 pr1 pr2 pr3 pr4 pr5 pr7 pr8 pr9 pr10 (show ¬ (1 : Int32) < 0 ∧ (1 : Int32) < (6 : Int32) from (by decide)) rfl (show nar .char (((116 : Int32) &&& (255 : Int32)).toUInt32.toUInt16.toUInt32.toInt32) = (116 : Int32) from (by decide)) (show nar .char (116 : Int32) = (116 : Int32) from (by decide))) hZ (own_k hw 91 rfl) (own_k hw 31 rfl) (by decide) (by decide)) qa241 qc241 (g := (mkF m 34 #[.val (.ref cs), .val (.int 6), .val (.ref x)] [(.int 1), (.ref x), (.int x1)])) rfl hml.symm (Steps.refl _) (argsL := [(.int 1)]) (rest := [(.int x1)]) (lenOf own_pd10 rfl) rfl (own_w0 rfl rfl) (hb hby d11_34) (fun _ _ => ⟨rfl, e236, (by decide : 0 + 0 ≤ 0), (by decide : 0 + 0 ≤ 0)⟩)
    dsimp only [Pt.U, Pt.locs, Pt.cells, Pt.slots] at X240 l240 y240 z240 st240 hQ240
    subst l240 y240 z240
    obtain ⟨rfl, N240, e240⟩ := hQ240
    have N242 := Fr.app N238 N240
    refine own_tr (T' := T240) (g' := (mkF m 37 #[.val (.ref cs), .val (.int 6), .val (.ref x)] [(.int 116), (.int x1)])) st240 ?_
    by_cases hc243 : x1 = (116 : Int32)
    ·
      refine own_st (T' := T240) (g' := (mkF m 47 #[.val (.ref cs), .val (.int 6), .val (.ref x)] [(.int 2), (.ref cs)])) (fun _ kt => XS.icmpNo X240.here hx rfl (hb hby d11_37) rfl (XT.ii_ne_f hc243) (XS.iloadN X240.here hx rfl (hb hby d11_40) rfl (XS.iconst X240.here hx rfl (hb hby d11_41) (XS.icmpNo X240.here hx rfl (hb hby d11_42) rfl (XT.ii_lt_f (by decide)) (XS.aloadN X240.here hx rfl (hb hby d11_45) rfl rfl (XS.iconst X240.here hx rfl (hb hby d11_46) kt)))))) ?_
      refine own_st (T' := T240) (g' := (mkF m 48 #[.val (.ref cs), .val (.int 6), .val (.ref x)] [(.int x2)])) (own_cal X240 hx hZ e240 pr6 ⟨by decide, by decide⟩ rfl (g := (mkF m 47 #[.val (.ref cs), .val (.int 6), .val (.ref x)] [(.int 2), (.ref cs)])) rfl rfl (hb hby d11_47)) ?_
      refine own_st (T' := T240) (g' := (mkF m 50 #[.val (.ref cs), .val (.int 6), .val (.ref x)] [(.int 2), (.ref x), (.int x2)])) (fun _ kt => XS.aloadN X240.here hx rfl (hb hby d11_48) rfl rfl (XS.iconst X240.here hx rfl (hb hby d11_49) kt)) ?_
      obtain ⟨cq245, kq245, qa245, qb245, qc245⟩ := isOf hZ e240 pr7
      obtain ⟨_, _, ⟨T244, L244, k244, n244⟩, -, X244, ⟨Lc244, hQ244, l244, y244, z244⟩, st244⟩ := X240.virtualBack hx (y := yN0) (z := yN0) hown (mvT hZ (own_k hw 87 rfl)) (mvT hZ (own_k hw 88 rfl)) (notFace_of_selects (args := #[]) (mvT hZ (own_k hw 90 rfl))) (mvT hZ (own_k hw 90 rfl)) (mvT hZ (own_k hw 89 rfl)) (by decide) (backOf (W := 1) (own_ca l Z a0 hw [] x zc tx (2 : Int32) fmt kt (6 : Int32) [(.int 115), (.int 116), (.int 114), (.int 105), (.int 99), (.int 116)] (114 : Int32) (114 : Int32) h0 n0 Z0 pr1 pr2 pr3 pr4 pr5 pr7 pr8 pr9 pr10 (show ¬ (2 : Int32) < 0 ∧ (2 : Int32) < (6 : Int32) from (by decide)) rfl (show nar .char (((114 : Int32) &&& (255 : Int32)).toUInt32.toUInt16.toUInt32.toInt32) = (114 : Int32) from (by decide)) (show nar .char (114 : Int32) = (114 : Int32) from (by decide))) hZ (own_k hw 91 rfl) (own_k hw 31 rfl) (by decide) (by decide)) qa245 qc245 (g := (mkF m 50 #[.val (.ref cs), .val (.int 6), .val (.ref x)] [(.int 2), (.ref x), (.int x2)])) rfl hml.symm (Steps.refl _) (argsL := [(.int 2)]) (rest := [(.int x2)]) (lenOf own_pd10 rfl) rfl (own_w0 rfl rfl) (hb hby d11_50) (fun _ _ => ⟨rfl, e240, (by decide : 0 + 0 ≤ 0), (by decide : 0 + 0 ≤ 0)⟩)
      dsimp only [Pt.U, Pt.locs, Pt.cells, Pt.slots] at X244 l244 y244 z244 st244 hQ244
      subst l244 y244 z244
      obtain ⟨rfl, N244, e244⟩ := hQ244
      have N246 := Fr.app N242 N244
      refine own_tr (T' := T244) (g' := (mkF m 53 #[.val (.ref cs), .val (.int 6), .val (.ref x)] [(.int 114), (.int x2)])) st244 ?_
      by_cases hc247 : x2 = (114 : Int32)
      ·
        refine own_st (T' := T244) (g' := (mkF m 63 #[.val (.ref cs), .val (.int 6), .val (.ref x)] [(.int 3), (.ref cs)])) (fun _ kt => XS.icmpNo X244.here hx rfl (hb hby d11_53) rfl (XT.ii_ne_f hc247) (XS.iloadN X244.here hx rfl (hb hby d11_56) rfl (XS.iconst X244.here hx rfl (hb hby d11_57) (XS.icmpNo X244.here hx rfl (hb hby d11_58) rfl (XT.ii_lt_f (by decide)) (XS.aloadN X244.here hx rfl (hb hby d11_61) rfl rfl (XS.iconst X244.here hx rfl (hb hby d11_62) kt)))))) ?_
        refine own_st (T' := T244) (g' := (mkF m 64 #[.val (.ref cs), .val (.int 6), .val (.ref x)] [(.int x3)])) (own_cal X244 hx hZ e244 pr6 ⟨by decide, by decide⟩ rfl (g := (mkF m 63 #[.val (.ref cs), .val (.int 6), .val (.ref x)] [(.int 3), (.ref cs)])) rfl rfl (hb hby d11_63)) ?_
        refine own_st (T' := T244) (g' := (mkF m 66 #[.val (.ref cs), .val (.int 6), .val (.ref x)] [(.int 3), (.ref x), (.int x3)])) (fun _ kt => XS.aloadN X244.here hx rfl (hb hby d11_64) rfl rfl (XS.iconst X244.here hx rfl (hb hby d11_65) kt)) ?_
        obtain ⟨cq249, kq249, qa249, qb249, qc249⟩ := isOf hZ e244 pr7
        obtain ⟨_, _, ⟨T248, L248, k248, n248⟩, -, X248, ⟨Lc248, hQ248, l248, y248, z248⟩, st248⟩ := X244.virtualBack hx (y := yN0) (z := yN0) hown (mvT hZ (own_k hw 87 rfl)) (mvT hZ (own_k hw 88 rfl)) (notFace_of_selects (args := #[]) (mvT hZ (own_k hw 90 rfl))) (mvT hZ (own_k hw 90 rfl)) (mvT hZ (own_k hw 89 rfl)) (by decide) (backOf (W := 1) (own_ca l Z a0 hw [] x zc tx (3 : Int32) fmt kt (6 : Int32) [(.int 115), (.int 116), (.int 114), (.int 105), (.int 99), (.int 116)] (105 : Int32) (105 : Int32) h0 n0 Z0 pr1 pr2 pr3 pr4 pr5 pr7 pr8 pr9 pr10 (show ¬ (3 : Int32) < 0 ∧ (3 : Int32) < (6 : Int32) from (by decide)) rfl (show nar .char (((105 : Int32) &&& (255 : Int32)).toUInt32.toUInt16.toUInt32.toInt32) = (105 : Int32) from (by decide)) (show nar .char (105 : Int32) = (105 : Int32) from (by decide))) hZ (own_k hw 91 rfl) (own_k hw 31 rfl) (by decide) (by decide)) qa249 qc249 (g := (mkF m 66 #[.val (.ref cs), .val (.int 6), .val (.ref x)] [(.int 3), (.ref x), (.int x3)])) rfl hml.symm (Steps.refl _) (argsL := [(.int 3)]) (rest := [(.int x3)]) (lenOf own_pd10 rfl) rfl (own_w0 rfl rfl) (hb hby d11_66) (fun _ _ => ⟨rfl, e244, (by decide : 0 + 0 ≤ 0), (by decide : 0 + 0 ≤ 0)⟩)
        dsimp only [Pt.U, Pt.locs, Pt.cells, Pt.slots] at X248 l248 y248 z248 st248 hQ248
        subst l248 y248 z248
        obtain ⟨rfl, N248, e248⟩ := hQ248
        have N250 := Fr.app N246 N248
        refine own_tr (T' := T248) (g' := (mkF m 69 #[.val (.ref cs), .val (.int 6), .val (.ref x)] [(.int 105), (.int x3)])) st248 ?_
        by_cases hc251 : x3 = (105 : Int32)
        ·
          refine own_st (T' := T248) (g' := (mkF m 79 #[.val (.ref cs), .val (.int 6), .val (.ref x)] [(.int 4), (.ref cs)])) (fun _ kt => XS.icmpNo X248.here hx rfl (hb hby d11_69) rfl (XT.ii_ne_f hc251) (XS.iloadN X248.here hx rfl (hb hby d11_72) rfl (XS.iconst X248.here hx rfl (hb hby d11_73) (XS.icmpNo X248.here hx rfl (hb hby d11_74) rfl (XT.ii_lt_f (by decide)) (XS.aloadN X248.here hx rfl (hb hby d11_77) rfl rfl (XS.iconst X248.here hx rfl (hb hby d11_78) kt)))))) ?_
          refine own_st (T' := T248) (g' := (mkF m 80 #[.val (.ref cs), .val (.int 6), .val (.ref x)] [(.int x4)])) (own_cal X248 hx hZ e248 pr6 ⟨by decide, by decide⟩ rfl (g := (mkF m 79 #[.val (.ref cs), .val (.int 6), .val (.ref x)] [(.int 4), (.ref cs)])) rfl rfl (hb hby d11_79)) ?_
          refine own_st (T' := T248) (g' := (mkF m 82 #[.val (.ref cs), .val (.int 6), .val (.ref x)] [(.int 4), (.ref x), (.int x4)])) (fun _ kt => XS.aloadN X248.here hx rfl (hb hby d11_80) rfl rfl (XS.iconst X248.here hx rfl (hb hby d11_81) kt)) ?_
          obtain ⟨cq253, kq253, qa253, qb253, qc253⟩ := isOf hZ e248 pr7
          obtain ⟨_, _, ⟨T252, L252, k252, n252⟩, -, X252, ⟨Lc252, hQ252, l252, y252, z252⟩, st252⟩ := X248.virtualBack hx (y := yN0) (z := yN0) hown (mvT hZ (own_k hw 87 rfl)) (mvT hZ (own_k hw 88 rfl)) (notFace_of_selects (args := #[]) (mvT hZ (own_k hw 90 rfl))) (mvT hZ (own_k hw 90 rfl)) (mvT hZ (own_k hw 89 rfl)) (by decide) (backOf (W := 1) (own_ca l Z a0 hw [] x zc tx (4 : Int32) fmt kt (6 : Int32) [(.int 115), (.int 116), (.int 114), (.int 105), (.int 99), (.int 116)] (99 : Int32) (99 : Int32) h0 n0 Z0 pr1 pr2 pr3 pr4 pr5 pr7 pr8 pr9 pr10 (show ¬ (4 : Int32) < 0 ∧ (4 : Int32) < (6 : Int32) from (by decide)) rfl (show nar .char (((99 : Int32) &&& (255 : Int32)).toUInt32.toUInt16.toUInt32.toInt32) = (99 : Int32) from (by decide)) (show nar .char (99 : Int32) = (99 : Int32) from (by decide))) hZ (own_k hw 91 rfl) (own_k hw 31 rfl) (by decide) (by decide)) qa253 qc253 (g := (mkF m 82 #[.val (.ref cs), .val (.int 6), .val (.ref x)] [(.int 4), (.ref x), (.int x4)])) rfl hml.symm (Steps.refl _) (argsL := [(.int 4)]) (rest := [(.int x4)]) (lenOf own_pd10 rfl) rfl (own_w0 rfl rfl) (hb hby d11_82) (fun _ _ => ⟨rfl, e248, (by decide : 0 + 0 ≤ 0), (by decide : 0 + 0 ≤ 0)⟩)
          dsimp only [Pt.U, Pt.locs, Pt.cells, Pt.slots] at X252 l252 y252 z252 st252 hQ252
          subst l252 y252 z252
          obtain ⟨rfl, N252, e252⟩ := hQ252
          have N254 := Fr.app N250 N252
          refine own_tr (T' := T252) (g' := (mkF m 85 #[.val (.ref cs), .val (.int 6), .val (.ref x)] [(.int 99), (.int x4)])) st252 ?_
          by_cases hc255 : x4 = (99 : Int32)
          ·
            refine own_st (T' := T252) (g' := (mkF m 96 #[.val (.ref cs), .val (.int 6), .val (.ref x)] [(.int 5), (.ref cs)])) (fun _ kt => XS.icmpNo X252.here hx rfl (hb hby d11_85) rfl (XT.ii_ne_f hc255) (XS.iloadN X252.here hx rfl (hb hby d11_88) rfl (XS.bipush X252.here hx rfl (hb hby d11_89) (XS.icmpNo X252.here hx rfl (hb hby d11_91) rfl (XT.ii_lt_f (by decide)) (XS.aloadN X252.here hx rfl (hb hby d11_94) rfl rfl (XS.iconst X252.here hx rfl (hb hby d11_95) kt)))))) ?_
            refine own_st (T' := T252) (g' := (mkF m 97 #[.val (.ref cs), .val (.int 6), .val (.ref x)] [(.int x5)])) (own_cal X252 hx hZ e252 pr6 ⟨by decide, by decide⟩ rfl (g := (mkF m 96 #[.val (.ref cs), .val (.int 6), .val (.ref x)] [(.int 5), (.ref cs)])) rfl rfl (hb hby d11_96)) ?_
            refine own_st (T' := T252) (g' := (mkF m 99 #[.val (.ref cs), .val (.int 6), .val (.ref x)] [(.int 5), (.ref x), (.int x5)])) (fun _ kt => XS.aloadN X252.here hx rfl (hb hby d11_97) rfl rfl (XS.iconst X252.here hx rfl (hb hby d11_98) kt)) ?_
            obtain ⟨cq257, kq257, qa257, qb257, qc257⟩ := isOf hZ e252 pr7
            obtain ⟨_, _, ⟨T256, L256, k256, n256⟩, -, X256, ⟨Lc256, hQ256, l256, y256, z256⟩, st256⟩ := X252.virtualBack hx (y := yN0) (z := yN0) hown (mvT hZ (own_k hw 87 rfl)) (mvT hZ (own_k hw 88 rfl)) (notFace_of_selects (args := #[]) (mvT hZ (own_k hw 90 rfl))) (mvT hZ (own_k hw 90 rfl)) (mvT hZ (own_k hw 89 rfl)) (by decide) (backOf (W := 1) (own_ca l Z a0 hw [] x zc tx (5 : Int32) fmt kt (6 : Int32) [(.int 115), (.int 116), (.int 114), (.int 105), (.int 99), (.int 116)] (116 : Int32) (116 : Int32) h0 n0 Z0 pr1 pr2 pr3 pr4 pr5 pr7 pr8 pr9 pr10 (show ¬ (5 : Int32) < 0 ∧ (5 : Int32) < (6 : Int32) from (by decide)) rfl (show nar .char (((116 : Int32) &&& (255 : Int32)).toUInt32.toUInt16.toUInt32.toInt32) = (116 : Int32) from (by decide)) (show nar .char (116 : Int32) = (116 : Int32) from (by decide))) hZ (own_k hw 91 rfl) (own_k hw 31 rfl) (by decide) (by decide)) qa257 qc257 (g := (mkF m 99 #[.val (.ref cs), .val (.int 6), .val (.ref x)] [(.int 5), (.ref x), (.int x5)])) rfl hml.symm (Steps.refl _) (argsL := [(.int 5)]) (rest := [(.int x5)]) (lenOf own_pd10 rfl) rfl (own_w0 rfl rfl) (hb hby d11_99) (fun _ _ => ⟨rfl, e252, (by decide : 0 + 0 ≤ 0), (by decide : 0 + 0 ≤ 0)⟩)
            dsimp only [Pt.U, Pt.locs, Pt.cells, Pt.slots] at X256 l256 y256 z256 st256 hQ256
            subst l256 y256 z256
            obtain ⟨rfl, N256, e256⟩ := hQ256
            have N258 := Fr.app N254 N256
            refine own_tr (T' := T256) (g' := (mkF m 102 #[.val (.ref cs), .val (.int 6), .val (.ref x)] [(.int 116), (.int x5)])) st256 ?_
            by_cases hc259 : x5 = (116 : Int32)
            ·
              refine own_st (T' := T256) (g' := (mkF m 129 #[.val (.ref cs), .val (.int 6), .val (.ref x)] [(.int 1)])) (fun _ kt => XS.icmpNo X256.here hx rfl (hb hby d11_102) rfl (XT.ii_ne_f hc259) (XS.iloadN X256.here hx rfl (hb hby d11_105) rfl (XS.bipush X256.here hx rfl (hb hby d11_106) (XS.icmpYes X256.here hx rfl (pc0 := 108) (pc' := 124) rfl (hb hby d11_108) rfl (XT.ii_lt_t (by decide)) (by decide) (by decide) (XS.iconst X256.here hx rfl (hb hby d11_124) (XS.goto X256.here hx rfl (pc0 := 125) (pc' := 129) rfl (hb hby d11_125) (by decide) (by decide) kt)))))) ?_
              obtain ⟨fs, hr, hrun, hended, hW, hsame⟩ := X256.leave (v := some (.int 1)) (fun h => by rw [Bd.returns] at h; cases h)
              refine own_end (retN X256 hx (t := .boolean) Bd.returns (by simp) (hb hby d11_129) hr) ⟨_, hrun, hended, _, _, rfl, ?_, ⟨_, rfl⟩, hW, hsame.mono (by decide) (by decide)⟩
              show own_eq6Q Z _ _ _ _ _ _ _ _ _ _ _ _ _ _ _ h0 n0 _ T256.heap _
              rw [e256]
              exact ⟨(congrArg (fun z => some (Value.int z)) (own_mt6 ⟨hc239, hc243, hc247, hc251, hc255, hc259⟩)), N258, rfl⟩
            ·
              refine own_st (T' := T256) (g' := (mkF m 129 #[.val (.ref cs), .val (.int 6), .val (.ref x)] [(.int 0)])) (fun _ kt => XS.icmpYes X256.here hx rfl (pc0 := 102) (pc' := 128) rfl (hb hby d11_102) rfl (XT.ii_ne_t hc259) (by decide) (by decide) (XS.iconst X256.here hx rfl (hb hby d11_128) kt)) ?_
              obtain ⟨fs, hr, hrun, hended, hW, hsame⟩ := X256.leave (v := some (.int 0)) (fun h => by rw [Bd.returns] at h; cases h)
              refine own_end (retN X256 hx (t := .boolean) Bd.returns (by simp) (hb hby d11_129) hr) ⟨_, hrun, hended, _, _, rfl, ?_, ⟨_, rfl⟩, hW, hsame.mono (by decide) (by decide)⟩
              show own_eq6Q Z _ _ _ _ _ _ _ _ _ _ _ _ _ _ _ h0 n0 _ T256.heap _
              rw [e256]
              exact ⟨(congrArg (fun z => some (Value.int z)) (own_mf6 (fun q => hc259 q.2.2.2.2.2))), N258, rfl⟩
          ·
            refine own_st (T' := T252) (g' := (mkF m 129 #[.val (.ref cs), .val (.int 6), .val (.ref x)] [(.int 0)])) (fun _ kt => XS.icmpYes X252.here hx rfl (pc0 := 85) (pc' := 128) rfl (hb hby d11_85) rfl (XT.ii_ne_t hc255) (by decide) (by decide) (XS.iconst X252.here hx rfl (hb hby d11_128) kt)) ?_
            obtain ⟨fs, hr, hrun, hended, hW, hsame⟩ := X252.leave (v := some (.int 0)) (fun h => by rw [Bd.returns] at h; cases h)
            refine own_end (retN X252 hx (t := .boolean) Bd.returns (by simp) (hb hby d11_129) hr) ⟨_, hrun, hended, _, _, rfl, ?_, ⟨_, rfl⟩, hW, hsame.mono (by decide) (by decide)⟩
            show own_eq6Q Z _ _ _ _ _ _ _ _ _ _ _ _ _ _ _ h0 n0 _ T252.heap _
            rw [e252]
            exact ⟨(congrArg (fun z => some (Value.int z)) (own_mf6 (fun q => hc255 q.2.2.2.2.1))), N254, rfl⟩
        ·
          refine own_st (T' := T248) (g' := (mkF m 129 #[.val (.ref cs), .val (.int 6), .val (.ref x)] [(.int 0)])) (fun _ kt => XS.icmpYes X248.here hx rfl (pc0 := 69) (pc' := 128) rfl (hb hby d11_69) rfl (XT.ii_ne_t hc251) (by decide) (by decide) (XS.iconst X248.here hx rfl (hb hby d11_128) kt)) ?_
          obtain ⟨fs, hr, hrun, hended, hW, hsame⟩ := X248.leave (v := some (.int 0)) (fun h => by rw [Bd.returns] at h; cases h)
          refine own_end (retN X248 hx (t := .boolean) Bd.returns (by simp) (hb hby d11_129) hr) ⟨_, hrun, hended, _, _, rfl, ?_, ⟨_, rfl⟩, hW, hsame.mono (by decide) (by decide)⟩
          show own_eq6Q Z _ _ _ _ _ _ _ _ _ _ _ _ _ _ _ h0 n0 _ T248.heap _
          rw [e248]
          exact ⟨(congrArg (fun z => some (Value.int z)) (own_mf6 (fun q => hc251 q.2.2.2.1))), N250, rfl⟩
      ·
        refine own_st (T' := T244) (g' := (mkF m 129 #[.val (.ref cs), .val (.int 6), .val (.ref x)] [(.int 0)])) (fun _ kt => XS.icmpYes X244.here hx rfl (pc0 := 53) (pc' := 128) rfl (hb hby d11_53) rfl (XT.ii_ne_t hc247) (by decide) (by decide) (XS.iconst X244.here hx rfl (hb hby d11_128) kt)) ?_
        obtain ⟨fs, hr, hrun, hended, hW, hsame⟩ := X244.leave (v := some (.int 0)) (fun h => by rw [Bd.returns] at h; cases h)
        refine own_end (retN X244 hx (t := .boolean) Bd.returns (by simp) (hb hby d11_129) hr) ⟨_, hrun, hended, _, _, rfl, ?_, ⟨_, rfl⟩, hW, hsame.mono (by decide) (by decide)⟩
        show own_eq6Q Z _ _ _ _ _ _ _ _ _ _ _ _ _ _ _ h0 n0 _ T244.heap _
        rw [e244]
        exact ⟨(congrArg (fun z => some (Value.int z)) (own_mf6 (fun q => hc247 q.2.2.1))), N246, rfl⟩
    ·
      refine own_st (T' := T240) (g' := (mkF m 129 #[.val (.ref cs), .val (.int 6), .val (.ref x)] [(.int 0)])) (fun _ kt => XS.icmpYes X240.here hx rfl (pc0 := 37) (pc' := 128) rfl (hb hby d11_37) rfl (XT.ii_ne_t hc243) (by decide) (by decide) (XS.iconst X240.here hx rfl (hb hby d11_128) kt)) ?_
      obtain ⟨fs, hr, hrun, hended, hW, hsame⟩ := X240.leave (v := some (.int 0)) (fun h => by rw [Bd.returns] at h; cases h)
      refine own_end (retN X240 hx (t := .boolean) Bd.returns (by simp) (hb hby d11_129) hr) ⟨_, hrun, hended, _, _, rfl, ?_, ⟨_, rfl⟩, hW, hsame.mono (by decide) (by decide)⟩
      show own_eq6Q Z _ _ _ _ _ _ _ _ _ _ _ _ _ _ _ h0 n0 _ T240.heap _
      rw [e240]
      exact ⟨(congrArg (fun z => some (Value.int z)) (own_mf6 (fun q => hc243 q.2.1))), N242, rfl⟩
  ·
    refine own_st (T' := T236) (g' := (mkF m 129 #[.val (.ref cs), .val (.int 6), .val (.ref x)] [(.int 0)])) (fun _ kt => XS.icmpYes X236.here hx rfl (pc0 := 21) (pc' := 128) rfl (hb hby d11_21) rfl (XT.ii_ne_t hc239) (by decide) (by decide) (XS.iconst X236.here hx rfl (hb hby d11_128) kt)) ?_
    obtain ⟨fs, hr, hrun, hended, hW, hsame⟩ := X236.leave (v := some (.int 0)) (fun h => by rw [Bd.returns] at h; cases h)
    refine own_end (retN X236 hx (t := .boolean) Bd.returns (by simp) (hb hby d11_129) hr) ⟨_, hrun, hended, _, _, rfl, ?_, ⟨_, rfl⟩, hW, hsame.mono (by decide) (by decide)⟩
    show own_eq6Q Z _ _ _ _ _ _ _ _ _ _ _ _ _ _ _ h0 n0 _ T236.heap _
    rw [e236]
    exact ⟨(congrArg (fun z => some (Value.int z)) (own_mf6 (fun q => hc239 q.1))), N238, rfl⟩
theorem d11_111 : decode method_3_code 111 = .ok (.aload_n 0, 1) := by decide +kernel
theorem d11_112 : decode method_3_code 112 = .ok (.bipush 6, 2) := by decide +kernel
theorem d11_114 : decode method_3_code 114 = .ok (.caload, 1) := by decide +kernel
theorem d11_115 : decode method_3_code 115 = .ok (.aload_n 2, 1) := by decide +kernel
theorem d11_116 : decode method_3_code 116 = .ok (.bipush 6, 2) := by decide +kernel
theorem d11_118 : decode method_3_code 118 = .ok (.invokevirtual 42, 3) := by decide +kernel
theorem d11_121 : decode method_3_code 121 = .ok (.if_icmp .ne 7, 3) := by decide +kernel
def own_eq7Q (Z : State) (cs : Addr) (kc : ClassId) (x : Addr) (zc : Int32) (fmt : Value) (tx : Addr) (kt : ClassId) (x0 : Int32) (x1 : Int32) (x2 : Int32) (x3 : Int32) (x4 : Int32) (x5 : Int32) (x6 : Int32) (x7 : Int32) (h0 : Heap) (n0 : Nat) (v : Option Value) (h : Heap) (L : List Loc) : Prop := v = some (.int (own_m7 x0 x1 x2 x3 x4 x5 x6)) ∧ Fr n0 L ∧ h = h0
abbrev own_eq7R : Room := { frames := 4, cells := 0, slots := 0, locals := 54 }
theorem own_eq7 (l : Launch) (Z : State) (a0 : Array Value) (hw : ∀ d ∈ tables_1, d.before a0 Z = true) (ws : List Jvm.Cond) (cs : Addr) (kc : ClassId) (x : Addr) (zc : Int32) (fmt : Value) (tx : Addr) (kt : ClassId) (x0 : Int32) (x1 : Int32) (x2 : Int32) (x3 : Int32) (x4 : Int32) (x5 : Int32) (x6 : Int32) (x7 : Int32) (h0 : Heap) (n0 : Nat) (Z0 : n0 ≤ h0.size) (pr1 : Old Z n0 h0) (pr2 : Sta Z Z.heap "java/lang/String" "COMPACT_STRINGS" "Z" (.int zc)) (pr3 : ¬ zc = 0) (pr4 : Sta Z Z.heap "jdk/internal/util/Preconditions" "SIOOBE_FORMATTER" "Ljava/util/function/BiFunction;" fmt) (pr5 : fmt.isRef = true) (pr6 : Arv Z h0 cs kc .char (8 : Int32) [(.int x0), (.int x1), (.int x2), (.int x3), (.int x4), (.int x5), (.int x6), (.int x7)] (.int 0)) (pr7 : Exa Z h0 x "java/lang/String") (pr8 : Fld Z h0 x "java/lang/String" "coder" "B" (.int 0)) (pr9 : Fld Z h0 x "java/lang/String" "value" "[B" (.ref tx)) (pr10 : Arv Z h0 tx kt .byte (7 : Int32) [(.int 108), (.int 101), (.int 110), (.int 105), (.int 101), (.int 110), (.int 116)] (.int 0)) :
    own_M l yN2 method_3_code 3 (some .boolean) ws own_eq7R #[(.ref cs), (.int 7), (.ref x)] Z h0 (own_eq7Q Z cs kc x zc fmt tx kt x0 x1 x2 x3 x4 x5 x6 x7 h0 n0) := by
  refine own_go (plainFor_of_name own_pn5) (fun m => own_ef9 m cs (7 : Int32) x ) ?_
  intro p e s m below meth c s₁ Bd hx hby hml hZ hh hown hnm X0 e0
  have N0 := Fr.nil n0
  refine own_st (T' := s₁) (g' := (mkF m 2 #[.val (.ref cs), .val (.int 7), .val (.ref x)] [(.ref x), (.int 7)])) (fun _ kt => XS.iloadN X0.here hx rfl (hb hby d11_0) rfl (XS.aloadN X0.here hx rfl (hb hby d11_1) rfl rfl kt)) ?_
  obtain ⟨cq261, kq261, qa261, qb261, qc261⟩ := isOf hZ e0 pr7
  obtain ⟨_, _, ⟨T260, L260, k260, n260⟩, -, X260, ⟨Lc260, hQ260, l260, y260, z260⟩, st260⟩ := X0.virtualBack hx (y := yN6) (z := yN6) hown (mvT hZ (own_k hw 71 rfl)) (mvT hZ (own_k hw 72 rfl)) (notFace_of_selects (args := #[]) (mvT hZ (own_k hw 74 rfl))) (mvT hZ (own_k hw 74 rfl)) (mvT hZ (own_k hw 73 rfl)) (by decide) (backOf (W := 1) (own_len l Z a0 hw [] x zc tx kt (7 : Int32) [(.int 108), (.int 101), (.int 110), (.int 105), (.int 101), (.int 110), (.int 116)] (.int 0) h0 n0 Z0 pr1 pr2 pr3 pr7 pr8 pr9 pr10) hZ (own_k hw 75 rfl) (own_k hw 31 rfl) (by decide) (by decide)) qa261 qc261 (g := (mkF m 2 #[.val (.ref cs), .val (.int 7), .val (.ref x)] [(.ref x), (.int 7)])) rfl hml.symm (Steps.refl _) (argsL := []) (rest := [(.int 7)]) (lenOf own_pd9 rfl) rfl (own_w0 rfl rfl) (hb hby d11_2) (fun _ _ => ⟨rfl, e0, (by decide : 0 + 0 ≤ 0), (by decide : 0 + 0 ≤ 0)⟩)
  dsimp only [Pt.U, Pt.locs, Pt.cells, Pt.slots] at X260 l260 y260 z260 st260 hQ260
  subst l260 y260 z260
  obtain ⟨rfl, N260, e260⟩ := hQ260
  have N262 := Fr.app N0 N260
  refine own_tr (T' := T260) (g' := (mkF m 5 #[.val (.ref cs), .val (.int 7), .val (.ref x)] [(.int 7), (.int 7)])) st260 ?_
  refine own_st (T' := T260) (g' := (mkF m 15 #[.val (.ref cs), .val (.int 7), .val (.ref x)] [(.int 0), (.ref cs)])) (fun _ kt => XS.icmpNo X260.here hx rfl (hb hby d11_5) rfl (XT.ii_ne_f (by decide)) (XS.iloadN X260.here hx rfl (hb hby d11_8) rfl (XS.iconst X260.here hx rfl (hb hby d11_9) (XS.icmpNo X260.here hx rfl (hb hby d11_10) rfl (XT.ii_lt_f (by decide)) (XS.aloadN X260.here hx rfl (hb hby d11_13) rfl rfl (XS.iconst X260.here hx rfl (hb hby d11_14) kt)))))) ?_
  refine own_st (T' := T260) (g' := (mkF m 16 #[.val (.ref cs), .val (.int 7), .val (.ref x)] [(.int x0)])) (own_cal X260 hx hZ e260 pr6 ⟨by decide, by decide⟩ rfl (g := (mkF m 15 #[.val (.ref cs), .val (.int 7), .val (.ref x)] [(.int 0), (.ref cs)])) rfl rfl (hb hby d11_15)) ?_
  refine own_st (T' := T260) (g' := (mkF m 18 #[.val (.ref cs), .val (.int 7), .val (.ref x)] [(.int 0), (.ref x), (.int x0)])) (fun _ kt => XS.aloadN X260.here hx rfl (hb hby d11_16) rfl rfl (XS.iconst X260.here hx rfl (hb hby d11_17) kt)) ?_
  obtain ⟨cq264, kq264, qa264, qb264, qc264⟩ := isOf hZ e260 pr7
  obtain ⟨_, _, ⟨T263, L263, k263, n263⟩, -, X263, ⟨Lc263, hQ263, l263, y263, z263⟩, st263⟩ := X260.virtualBack hx (y := yN0) (z := yN0) hown (mvT hZ (own_k hw 87 rfl)) (mvT hZ (own_k hw 88 rfl)) (notFace_of_selects (args := #[]) (mvT hZ (own_k hw 90 rfl))) (mvT hZ (own_k hw 90 rfl)) (mvT hZ (own_k hw 89 rfl)) (by decide) (backOf (W := 1) (own_ca l Z a0 hw [] x zc tx (0 : Int32) fmt kt (7 : Int32) [(.int 108), (.int 101), (.int 110), (.int 105), (.int 101), (.int 110), (.int 116)] (108 : Int32) (108 : Int32) h0 n0 Z0 pr1 pr2 pr3 pr4 pr5 pr7 pr8 pr9 pr10 (show ¬ (0 : Int32) < 0 ∧ (0 : Int32) < (7 : Int32) from (by decide)) rfl (show nar .char (((108 : Int32) &&& (255 : Int32)).toUInt32.toUInt16.toUInt32.toInt32) = (108 : Int32) from (by decide)) (show nar .char (108 : Int32) = (108 : Int32) from (by decide))) hZ (own_k hw 91 rfl) (own_k hw 31 rfl) (by decide) (by decide)) qa264 qc264 (g := (mkF m 18 #[.val (.ref cs), .val (.int 7), .val (.ref x)] [(.int 0), (.ref x), (.int x0)])) rfl hml.symm (Steps.refl _) (argsL := [(.int 0)]) (rest := [(.int x0)]) (lenOf own_pd10 rfl) rfl (own_w0 rfl rfl) (hb hby d11_18) (fun _ _ => ⟨rfl, e260, (by decide : 0 + 0 ≤ 0), (by decide : 0 + 0 ≤ 0)⟩)
  dsimp only [Pt.U, Pt.locs, Pt.cells, Pt.slots] at X263 l263 y263 z263 st263 hQ263
  subst l263 y263 z263
  obtain ⟨rfl, N263, e263⟩ := hQ263
  have N265 := Fr.app N262 N263
  refine own_tr (T' := T263) (g' := (mkF m 21 #[.val (.ref cs), .val (.int 7), .val (.ref x)] [(.int 108), (.int x0)])) st263 ?_
  by_cases hc266 : x0 = (108 : Int32)
  ·
    refine own_st (T' := T263) (g' := (mkF m 31 #[.val (.ref cs), .val (.int 7), .val (.ref x)] [(.int 1), (.ref cs)])) (fun _ kt => XS.icmpNo X263.here hx rfl (hb hby d11_21) rfl (XT.ii_ne_f hc266) (XS.iloadN X263.here hx rfl (hb hby d11_24) rfl (XS.iconst X263.here hx rfl (hb hby d11_25) (XS.icmpNo X263.here hx rfl (hb hby d11_26) rfl (XT.ii_lt_f (by decide)) (XS.aloadN X263.here hx rfl (hb hby d11_29) rfl rfl (XS.iconst X263.here hx rfl (hb hby d11_30) kt)))))) ?_
    refine own_st (T' := T263) (g' := (mkF m 32 #[.val (.ref cs), .val (.int 7), .val (.ref x)] [(.int x1)])) (own_cal X263 hx hZ e263 pr6 ⟨by decide, by decide⟩ rfl (g := (mkF m 31 #[.val (.ref cs), .val (.int 7), .val (.ref x)] [(.int 1), (.ref cs)])) rfl rfl (hb hby d11_31)) ?_
    refine own_st (T' := T263) (g' := (mkF m 34 #[.val (.ref cs), .val (.int 7), .val (.ref x)] [(.int 1), (.ref x), (.int x1)])) (fun _ kt => XS.aloadN X263.here hx rfl (hb hby d11_32) rfl rfl (XS.iconst X263.here hx rfl (hb hby d11_33) kt)) ?_
    obtain ⟨cq268, kq268, qa268, qb268, qc268⟩ := isOf hZ e263 pr7
    obtain ⟨_, _, ⟨T267, L267, k267, n267⟩, -, X267, ⟨Lc267, hQ267, l267, y267, z267⟩, st267⟩ := X263.virtualBack hx (y := yN0) (z := yN0) hown (mvT hZ (own_k hw 87 rfl)) (mvT hZ (own_k hw 88 rfl)) (notFace_of_selects (args := #[]) (mvT hZ (own_k hw 90 rfl))) (mvT hZ (own_k hw 90 rfl)) (mvT hZ (own_k hw 89 rfl)) (by decide) (backOf (W := 1) (own_ca l Z a0 hw [] x zc tx (1 : Int32) fmt kt (7 : Int32) [(.int 108), (.int 101), (.int 110), (.int 105), (.int 101), (.int 110), (.int 116)] (101 : Int32) (101 : Int32) h0 n0 Z0 pr1 pr2 pr3 pr4 pr5 pr7 pr8 pr9 pr10 (show ¬ (1 : Int32) < 0 ∧ (1 : Int32) < (7 : Int32) from (by decide)) rfl (show nar .char (((101 : Int32) &&& (255 : Int32)).toUInt32.toUInt16.toUInt32.toInt32) = (101 : Int32) from (by decide)) (show nar .char (101 : Int32) = (101 : Int32) from (by decide))) hZ (own_k hw 91 rfl) (own_k hw 31 rfl) (by decide) (by decide)) qa268 qc268 (g := (mkF m 34 #[.val (.ref cs), .val (.int 7), .val (.ref x)] [(.int 1), (.ref x), (.int x1)])) rfl hml.symm (Steps.refl _) (argsL := [(.int 1)]) (rest := [(.int x1)]) (lenOf own_pd10 rfl) rfl (own_w0 rfl rfl) (hb hby d11_34) (fun _ _ => ⟨rfl, e263, (by decide : 0 + 0 ≤ 0), (by decide : 0 + 0 ≤ 0)⟩)
    dsimp only [Pt.U, Pt.locs, Pt.cells, Pt.slots] at X267 l267 y267 z267 st267 hQ267
    subst l267 y267 z267
    obtain ⟨rfl, N267, e267⟩ := hQ267
    have N269 := Fr.app N265 N267
    refine own_tr (T' := T267) (g' := (mkF m 37 #[.val (.ref cs), .val (.int 7), .val (.ref x)] [(.int 101), (.int x1)])) st267 ?_
    by_cases hc270 : x1 = (101 : Int32)
    ·
      refine own_st (T' := T267) (g' := (mkF m 47 #[.val (.ref cs), .val (.int 7), .val (.ref x)] [(.int 2), (.ref cs)])) (fun _ kt => XS.icmpNo X267.here hx rfl (hb hby d11_37) rfl (XT.ii_ne_f hc270) (XS.iloadN X267.here hx rfl (hb hby d11_40) rfl (XS.iconst X267.here hx rfl (hb hby d11_41) (XS.icmpNo X267.here hx rfl (hb hby d11_42) rfl (XT.ii_lt_f (by decide)) (XS.aloadN X267.here hx rfl (hb hby d11_45) rfl rfl (XS.iconst X267.here hx rfl (hb hby d11_46) kt)))))) ?_
      refine own_st (T' := T267) (g' := (mkF m 48 #[.val (.ref cs), .val (.int 7), .val (.ref x)] [(.int x2)])) (own_cal X267 hx hZ e267 pr6 ⟨by decide, by decide⟩ rfl (g := (mkF m 47 #[.val (.ref cs), .val (.int 7), .val (.ref x)] [(.int 2), (.ref cs)])) rfl rfl (hb hby d11_47)) ?_
      refine own_st (T' := T267) (g' := (mkF m 50 #[.val (.ref cs), .val (.int 7), .val (.ref x)] [(.int 2), (.ref x), (.int x2)])) (fun _ kt => XS.aloadN X267.here hx rfl (hb hby d11_48) rfl rfl (XS.iconst X267.here hx rfl (hb hby d11_49) kt)) ?_
      obtain ⟨cq272, kq272, qa272, qb272, qc272⟩ := isOf hZ e267 pr7
      obtain ⟨_, _, ⟨T271, L271, k271, n271⟩, -, X271, ⟨Lc271, hQ271, l271, y271, z271⟩, st271⟩ := X267.virtualBack hx (y := yN0) (z := yN0) hown (mvT hZ (own_k hw 87 rfl)) (mvT hZ (own_k hw 88 rfl)) (notFace_of_selects (args := #[]) (mvT hZ (own_k hw 90 rfl))) (mvT hZ (own_k hw 90 rfl)) (mvT hZ (own_k hw 89 rfl)) (by decide) (backOf (W := 1) (own_ca l Z a0 hw [] x zc tx (2 : Int32) fmt kt (7 : Int32) [(.int 108), (.int 101), (.int 110), (.int 105), (.int 101), (.int 110), (.int 116)] (110 : Int32) (110 : Int32) h0 n0 Z0 pr1 pr2 pr3 pr4 pr5 pr7 pr8 pr9 pr10 (show ¬ (2 : Int32) < 0 ∧ (2 : Int32) < (7 : Int32) from (by decide)) rfl (show nar .char (((110 : Int32) &&& (255 : Int32)).toUInt32.toUInt16.toUInt32.toInt32) = (110 : Int32) from (by decide)) (show nar .char (110 : Int32) = (110 : Int32) from (by decide))) hZ (own_k hw 91 rfl) (own_k hw 31 rfl) (by decide) (by decide)) qa272 qc272 (g := (mkF m 50 #[.val (.ref cs), .val (.int 7), .val (.ref x)] [(.int 2), (.ref x), (.int x2)])) rfl hml.symm (Steps.refl _) (argsL := [(.int 2)]) (rest := [(.int x2)]) (lenOf own_pd10 rfl) rfl (own_w0 rfl rfl) (hb hby d11_50) (fun _ _ => ⟨rfl, e267, (by decide : 0 + 0 ≤ 0), (by decide : 0 + 0 ≤ 0)⟩)
      dsimp only [Pt.U, Pt.locs, Pt.cells, Pt.slots] at X271 l271 y271 z271 st271 hQ271
      subst l271 y271 z271
      obtain ⟨rfl, N271, e271⟩ := hQ271
      have N273 := Fr.app N269 N271
      refine own_tr (T' := T271) (g' := (mkF m 53 #[.val (.ref cs), .val (.int 7), .val (.ref x)] [(.int 110), (.int x2)])) st271 ?_
      by_cases hc274 : x2 = (110 : Int32)
      ·
        refine own_st (T' := T271) (g' := (mkF m 63 #[.val (.ref cs), .val (.int 7), .val (.ref x)] [(.int 3), (.ref cs)])) (fun _ kt => XS.icmpNo X271.here hx rfl (hb hby d11_53) rfl (XT.ii_ne_f hc274) (XS.iloadN X271.here hx rfl (hb hby d11_56) rfl (XS.iconst X271.here hx rfl (hb hby d11_57) (XS.icmpNo X271.here hx rfl (hb hby d11_58) rfl (XT.ii_lt_f (by decide)) (XS.aloadN X271.here hx rfl (hb hby d11_61) rfl rfl (XS.iconst X271.here hx rfl (hb hby d11_62) kt)))))) ?_
        refine own_st (T' := T271) (g' := (mkF m 64 #[.val (.ref cs), .val (.int 7), .val (.ref x)] [(.int x3)])) (own_cal X271 hx hZ e271 pr6 ⟨by decide, by decide⟩ rfl (g := (mkF m 63 #[.val (.ref cs), .val (.int 7), .val (.ref x)] [(.int 3), (.ref cs)])) rfl rfl (hb hby d11_63)) ?_
        refine own_st (T' := T271) (g' := (mkF m 66 #[.val (.ref cs), .val (.int 7), .val (.ref x)] [(.int 3), (.ref x), (.int x3)])) (fun _ kt => XS.aloadN X271.here hx rfl (hb hby d11_64) rfl rfl (XS.iconst X271.here hx rfl (hb hby d11_65) kt)) ?_
        obtain ⟨cq276, kq276, qa276, qb276, qc276⟩ := isOf hZ e271 pr7
        obtain ⟨_, _, ⟨T275, L275, k275, n275⟩, -, X275, ⟨Lc275, hQ275, l275, y275, z275⟩, st275⟩ := X271.virtualBack hx (y := yN0) (z := yN0) hown (mvT hZ (own_k hw 87 rfl)) (mvT hZ (own_k hw 88 rfl)) (notFace_of_selects (args := #[]) (mvT hZ (own_k hw 90 rfl))) (mvT hZ (own_k hw 90 rfl)) (mvT hZ (own_k hw 89 rfl)) (by decide) (backOf (W := 1) (own_ca l Z a0 hw [] x zc tx (3 : Int32) fmt kt (7 : Int32) [(.int 108), (.int 101), (.int 110), (.int 105), (.int 101), (.int 110), (.int 116)] (105 : Int32) (105 : Int32) h0 n0 Z0 pr1 pr2 pr3 pr4 pr5 pr7 pr8 pr9 pr10 (show ¬ (3 : Int32) < 0 ∧ (3 : Int32) < (7 : Int32) from (by decide)) rfl (show nar .char (((105 : Int32) &&& (255 : Int32)).toUInt32.toUInt16.toUInt32.toInt32) = (105 : Int32) from (by decide)) (show nar .char (105 : Int32) = (105 : Int32) from (by decide))) hZ (own_k hw 91 rfl) (own_k hw 31 rfl) (by decide) (by decide)) qa276 qc276 (g := (mkF m 66 #[.val (.ref cs), .val (.int 7), .val (.ref x)] [(.int 3), (.ref x), (.int x3)])) rfl hml.symm (Steps.refl _) (argsL := [(.int 3)]) (rest := [(.int x3)]) (lenOf own_pd10 rfl) rfl (own_w0 rfl rfl) (hb hby d11_66) (fun _ _ => ⟨rfl, e271, (by decide : 0 + 0 ≤ 0), (by decide : 0 + 0 ≤ 0)⟩)
        dsimp only [Pt.U, Pt.locs, Pt.cells, Pt.slots] at X275 l275 y275 z275 st275 hQ275
        subst l275 y275 z275
        obtain ⟨rfl, N275, e275⟩ := hQ275
        have N277 := Fr.app N273 N275
        refine own_tr (T' := T275) (g' := (mkF m 69 #[.val (.ref cs), .val (.int 7), .val (.ref x)] [(.int 105), (.int x3)])) st275 ?_
        by_cases hc278 : x3 = (105 : Int32)
        ·
          refine own_st (T' := T275) (g' := (mkF m 79 #[.val (.ref cs), .val (.int 7), .val (.ref x)] [(.int 4), (.ref cs)])) (fun _ kt => XS.icmpNo X275.here hx rfl (hb hby d11_69) rfl (XT.ii_ne_f hc278) (XS.iloadN X275.here hx rfl (hb hby d11_72) rfl (XS.iconst X275.here hx rfl (hb hby d11_73) (XS.icmpNo X275.here hx rfl (hb hby d11_74) rfl (XT.ii_lt_f (by decide)) (XS.aloadN X275.here hx rfl (hb hby d11_77) rfl rfl (XS.iconst X275.here hx rfl (hb hby d11_78) kt)))))) ?_
          refine own_st (T' := T275) (g' := (mkF m 80 #[.val (.ref cs), .val (.int 7), .val (.ref x)] [(.int x4)])) (own_cal X275 hx hZ e275 pr6 ⟨by decide, by decide⟩ rfl (g := (mkF m 79 #[.val (.ref cs), .val (.int 7), .val (.ref x)] [(.int 4), (.ref cs)])) rfl rfl (hb hby d11_79)) ?_
          refine own_st (T' := T275) (g' := (mkF m 82 #[.val (.ref cs), .val (.int 7), .val (.ref x)] [(.int 4), (.ref x), (.int x4)])) (fun _ kt => XS.aloadN X275.here hx rfl (hb hby d11_80) rfl rfl (XS.iconst X275.here hx rfl (hb hby d11_81) kt)) ?_
          obtain ⟨cq280, kq280, qa280, qb280, qc280⟩ := isOf hZ e275 pr7
          obtain ⟨_, _, ⟨T279, L279, k279, n279⟩, -, X279, ⟨Lc279, hQ279, l279, y279, z279⟩, st279⟩ := X275.virtualBack hx (y := yN0) (z := yN0) hown (mvT hZ (own_k hw 87 rfl)) (mvT hZ (own_k hw 88 rfl)) (notFace_of_selects (args := #[]) (mvT hZ (own_k hw 90 rfl))) (mvT hZ (own_k hw 90 rfl)) (mvT hZ (own_k hw 89 rfl)) (by decide) (backOf (W := 1) (own_ca l Z a0 hw [] x zc tx (4 : Int32) fmt kt (7 : Int32) [(.int 108), (.int 101), (.int 110), (.int 105), (.int 101), (.int 110), (.int 116)] (101 : Int32) (101 : Int32) h0 n0 Z0 pr1 pr2 pr3 pr4 pr5 pr7 pr8 pr9 pr10 (show ¬ (4 : Int32) < 0 ∧ (4 : Int32) < (7 : Int32) from (by decide)) rfl (show nar .char (((101 : Int32) &&& (255 : Int32)).toUInt32.toUInt16.toUInt32.toInt32) = (101 : Int32) from (by decide)) (show nar .char (101 : Int32) = (101 : Int32) from (by decide))) hZ (own_k hw 91 rfl) (own_k hw 31 rfl) (by decide) (by decide)) qa280 qc280 (g := (mkF m 82 #[.val (.ref cs), .val (.int 7), .val (.ref x)] [(.int 4), (.ref x), (.int x4)])) rfl hml.symm (Steps.refl _) (argsL := [(.int 4)]) (rest := [(.int x4)]) (lenOf own_pd10 rfl) rfl (own_w0 rfl rfl) (hb hby d11_82) (fun _ _ => ⟨rfl, e275, (by decide : 0 + 0 ≤ 0), (by decide : 0 + 0 ≤ 0)⟩)
          dsimp only [Pt.U, Pt.locs, Pt.cells, Pt.slots] at X279 l279 y279 z279 st279 hQ279
          subst l279 y279 z279
          obtain ⟨rfl, N279, e279⟩ := hQ279
          have N281 := Fr.app N277 N279
          refine own_tr (T' := T279) (g' := (mkF m 85 #[.val (.ref cs), .val (.int 7), .val (.ref x)] [(.int 101), (.int x4)])) st279 ?_
          by_cases hc282 : x4 = (101 : Int32)
          ·
            refine own_st (T' := T279) (g' := (mkF m 96 #[.val (.ref cs), .val (.int 7), .val (.ref x)] [(.int 5), (.ref cs)])) (fun _ kt => XS.icmpNo X279.here hx rfl (hb hby d11_85) rfl (XT.ii_ne_f hc282) (XS.iloadN X279.here hx rfl (hb hby d11_88) rfl (XS.bipush X279.here hx rfl (hb hby d11_89) (XS.icmpNo X279.here hx rfl (hb hby d11_91) rfl (XT.ii_lt_f (by decide)) (XS.aloadN X279.here hx rfl (hb hby d11_94) rfl rfl (XS.iconst X279.here hx rfl (hb hby d11_95) kt)))))) ?_
            refine own_st (T' := T279) (g' := (mkF m 97 #[.val (.ref cs), .val (.int 7), .val (.ref x)] [(.int x5)])) (own_cal X279 hx hZ e279 pr6 ⟨by decide, by decide⟩ rfl (g := (mkF m 96 #[.val (.ref cs), .val (.int 7), .val (.ref x)] [(.int 5), (.ref cs)])) rfl rfl (hb hby d11_96)) ?_
            refine own_st (T' := T279) (g' := (mkF m 99 #[.val (.ref cs), .val (.int 7), .val (.ref x)] [(.int 5), (.ref x), (.int x5)])) (fun _ kt => XS.aloadN X279.here hx rfl (hb hby d11_97) rfl rfl (XS.iconst X279.here hx rfl (hb hby d11_98) kt)) ?_
            obtain ⟨cq284, kq284, qa284, qb284, qc284⟩ := isOf hZ e279 pr7
            obtain ⟨_, _, ⟨T283, L283, k283, n283⟩, -, X283, ⟨Lc283, hQ283, l283, y283, z283⟩, st283⟩ := X279.virtualBack hx (y := yN0) (z := yN0) hown (mvT hZ (own_k hw 87 rfl)) (mvT hZ (own_k hw 88 rfl)) (notFace_of_selects (args := #[]) (mvT hZ (own_k hw 90 rfl))) (mvT hZ (own_k hw 90 rfl)) (mvT hZ (own_k hw 89 rfl)) (by decide) (backOf (W := 1) (own_ca l Z a0 hw [] x zc tx (5 : Int32) fmt kt (7 : Int32) [(.int 108), (.int 101), (.int 110), (.int 105), (.int 101), (.int 110), (.int 116)] (110 : Int32) (110 : Int32) h0 n0 Z0 pr1 pr2 pr3 pr4 pr5 pr7 pr8 pr9 pr10 (show ¬ (5 : Int32) < 0 ∧ (5 : Int32) < (7 : Int32) from (by decide)) rfl (show nar .char (((110 : Int32) &&& (255 : Int32)).toUInt32.toUInt16.toUInt32.toInt32) = (110 : Int32) from (by decide)) (show nar .char (110 : Int32) = (110 : Int32) from (by decide))) hZ (own_k hw 91 rfl) (own_k hw 31 rfl) (by decide) (by decide)) qa284 qc284 (g := (mkF m 99 #[.val (.ref cs), .val (.int 7), .val (.ref x)] [(.int 5), (.ref x), (.int x5)])) rfl hml.symm (Steps.refl _) (argsL := [(.int 5)]) (rest := [(.int x5)]) (lenOf own_pd10 rfl) rfl (own_w0 rfl rfl) (hb hby d11_99) (fun _ _ => ⟨rfl, e279, (by decide : 0 + 0 ≤ 0), (by decide : 0 + 0 ≤ 0)⟩)
            dsimp only [Pt.U, Pt.locs, Pt.cells, Pt.slots] at X283 l283 y283 z283 st283 hQ283
            subst l283 y283 z283
            obtain ⟨rfl, N283, e283⟩ := hQ283
            have N285 := Fr.app N281 N283
            refine own_tr (T' := T283) (g' := (mkF m 102 #[.val (.ref cs), .val (.int 7), .val (.ref x)] [(.int 110), (.int x5)])) st283 ?_
            by_cases hc286 : x5 = (110 : Int32)
            ·
              refine own_st (T' := T283) (g' := (mkF m 114 #[.val (.ref cs), .val (.int 7), .val (.ref x)] [(.int 6), (.ref cs)])) (fun _ kt => XS.icmpNo X283.here hx rfl (hb hby d11_102) rfl (XT.ii_ne_f hc286) (XS.iloadN X283.here hx rfl (hb hby d11_105) rfl (XS.bipush X283.here hx rfl (hb hby d11_106) (XS.icmpNo X283.here hx rfl (hb hby d11_108) rfl (XT.ii_lt_f (by decide)) (XS.aloadN X283.here hx rfl (hb hby d11_111) rfl rfl (XS.bipush X283.here hx rfl (hb hby d11_112) kt)))))) ?_
              refine own_st (T' := T283) (g' := (mkF m 115 #[.val (.ref cs), .val (.int 7), .val (.ref x)] [(.int x6)])) (own_cal X283 hx hZ e283 pr6 ⟨by decide, by decide⟩ rfl (g := (mkF m 114 #[.val (.ref cs), .val (.int 7), .val (.ref x)] [(.int 6), (.ref cs)])) rfl rfl (hb hby d11_114)) ?_
              refine own_st (T' := T283) (g' := (mkF m 118 #[.val (.ref cs), .val (.int 7), .val (.ref x)] [(.int 6), (.ref x), (.int x6)])) (fun _ kt => XS.aloadN X283.here hx rfl (hb hby d11_115) rfl rfl (XS.bipush X283.here hx rfl (hb hby d11_116) kt)) ?_
              obtain ⟨cq288, kq288, qa288, qb288, qc288⟩ := isOf hZ e283 pr7
              obtain ⟨_, _, ⟨T287, L287, k287, n287⟩, -, X287, ⟨Lc287, hQ287, l287, y287, z287⟩, st287⟩ := X283.virtualBack hx (y := yN0) (z := yN0) hown (mvT hZ (own_k hw 87 rfl)) (mvT hZ (own_k hw 88 rfl)) (notFace_of_selects (args := #[]) (mvT hZ (own_k hw 90 rfl))) (mvT hZ (own_k hw 90 rfl)) (mvT hZ (own_k hw 89 rfl)) (by decide) (backOf (W := 1) (own_ca l Z a0 hw [] x zc tx (6 : Int32) fmt kt (7 : Int32) [(.int 108), (.int 101), (.int 110), (.int 105), (.int 101), (.int 110), (.int 116)] (116 : Int32) (116 : Int32) h0 n0 Z0 pr1 pr2 pr3 pr4 pr5 pr7 pr8 pr9 pr10 (show ¬ (6 : Int32) < 0 ∧ (6 : Int32) < (7 : Int32) from (by decide)) rfl (show nar .char (((116 : Int32) &&& (255 : Int32)).toUInt32.toUInt16.toUInt32.toInt32) = (116 : Int32) from (by decide)) (show nar .char (116 : Int32) = (116 : Int32) from (by decide))) hZ (own_k hw 91 rfl) (own_k hw 31 rfl) (by decide) (by decide)) qa288 qc288 (g := (mkF m 118 #[.val (.ref cs), .val (.int 7), .val (.ref x)] [(.int 6), (.ref x), (.int x6)])) rfl hml.symm (Steps.refl _) (argsL := [(.int 6)]) (rest := [(.int x6)]) (lenOf own_pd10 rfl) rfl (own_w0 rfl rfl) (hb hby d11_118) (fun _ _ => ⟨rfl, e283, (by decide : 0 + 0 ≤ 0), (by decide : 0 + 0 ≤ 0)⟩)
              dsimp only [Pt.U, Pt.locs, Pt.cells, Pt.slots] at X287 l287 y287 z287 st287 hQ287
              subst l287 y287 z287
              obtain ⟨rfl, N287, e287⟩ := hQ287
              have N289 := Fr.app N285 N287
              refine own_tr (T' := T287) (g' := (mkF m 121 #[.val (.ref cs), .val (.int 7), .val (.ref x)] [(.int 116), (.int x6)])) st287 ?_
              by_cases hc290 : x6 = (116 : Int32)
              ·
                refine own_st (T' := T287) (g' := (mkF m 129 #[.val (.ref cs), .val (.int 7), .val (.ref x)] [(.int 1)])) (fun _ kt => XS.icmpNo X287.here hx rfl (hb hby d11_121) rfl (XT.ii_ne_f hc290) (XS.iconst X287.here hx rfl (hb hby d11_124) (XS.goto X287.here hx rfl (pc0 := 125) (pc' := 129) rfl (hb hby d11_125) (by decide) (by decide) kt))) ?_
                obtain ⟨fs, hr, hrun, hended, hW, hsame⟩ := X287.leave (v := some (.int 1)) (fun h => by rw [Bd.returns] at h; cases h)
                refine own_end (retN X287 hx (t := .boolean) Bd.returns (by simp) (hb hby d11_129) hr) ⟨_, hrun, hended, _, _, rfl, ?_, ⟨_, rfl⟩, hW, hsame.mono (by decide) (by decide)⟩
                show own_eq7Q Z _ _ _ _ _ _ _ _ _ _ _ _ _ _ _ h0 n0 _ T287.heap _
                rw [e287]
                exact ⟨(congrArg (fun z => some (Value.int z)) (own_mt7 ⟨hc266, hc270, hc274, hc278, hc282, hc286, hc290⟩)), N289, rfl⟩
              ·
                refine own_st (T' := T287) (g' := (mkF m 129 #[.val (.ref cs), .val (.int 7), .val (.ref x)] [(.int 0)])) (fun _ kt => XS.icmpYes X287.here hx rfl (pc0 := 121) (pc' := 128) rfl (hb hby d11_121) rfl (XT.ii_ne_t hc290) (by decide) (by decide) (XS.iconst X287.here hx rfl (hb hby d11_128) kt)) ?_
                obtain ⟨fs, hr, hrun, hended, hW, hsame⟩ := X287.leave (v := some (.int 0)) (fun h => by rw [Bd.returns] at h; cases h)
                refine own_end (retN X287 hx (t := .boolean) Bd.returns (by simp) (hb hby d11_129) hr) ⟨_, hrun, hended, _, _, rfl, ?_, ⟨_, rfl⟩, hW, hsame.mono (by decide) (by decide)⟩
                show own_eq7Q Z _ _ _ _ _ _ _ _ _ _ _ _ _ _ _ h0 n0 _ T287.heap _
                rw [e287]
                exact ⟨(congrArg (fun z => some (Value.int z)) (own_mf7 (fun q => hc290 q.2.2.2.2.2.2))), N289, rfl⟩
            ·
              refine own_st (T' := T283) (g' := (mkF m 129 #[.val (.ref cs), .val (.int 7), .val (.ref x)] [(.int 0)])) (fun _ kt => XS.icmpYes X283.here hx rfl (pc0 := 102) (pc' := 128) rfl (hb hby d11_102) rfl (XT.ii_ne_t hc286) (by decide) (by decide) (XS.iconst X283.here hx rfl (hb hby d11_128) kt)) ?_
              obtain ⟨fs, hr, hrun, hended, hW, hsame⟩ := X283.leave (v := some (.int 0)) (fun h => by rw [Bd.returns] at h; cases h)
              refine own_end (retN X283 hx (t := .boolean) Bd.returns (by simp) (hb hby d11_129) hr) ⟨_, hrun, hended, _, _, rfl, ?_, ⟨_, rfl⟩, hW, hsame.mono (by decide) (by decide)⟩
              show own_eq7Q Z _ _ _ _ _ _ _ _ _ _ _ _ _ _ _ h0 n0 _ T283.heap _
              rw [e283]
              exact ⟨(congrArg (fun z => some (Value.int z)) (own_mf7 (fun q => hc286 q.2.2.2.2.2.1))), N285, rfl⟩
          ·
            refine own_st (T' := T279) (g' := (mkF m 129 #[.val (.ref cs), .val (.int 7), .val (.ref x)] [(.int 0)])) (fun _ kt => XS.icmpYes X279.here hx rfl (pc0 := 85) (pc' := 128) rfl (hb hby d11_85) rfl (XT.ii_ne_t hc282) (by decide) (by decide) (XS.iconst X279.here hx rfl (hb hby d11_128) kt)) ?_
            obtain ⟨fs, hr, hrun, hended, hW, hsame⟩ := X279.leave (v := some (.int 0)) (fun h => by rw [Bd.returns] at h; cases h)
            refine own_end (retN X279 hx (t := .boolean) Bd.returns (by simp) (hb hby d11_129) hr) ⟨_, hrun, hended, _, _, rfl, ?_, ⟨_, rfl⟩, hW, hsame.mono (by decide) (by decide)⟩
            show own_eq7Q Z _ _ _ _ _ _ _ _ _ _ _ _ _ _ _ h0 n0 _ T279.heap _
            rw [e279]
            exact ⟨(congrArg (fun z => some (Value.int z)) (own_mf7 (fun q => hc282 q.2.2.2.2.1))), N281, rfl⟩
        ·
          refine own_st (T' := T275) (g' := (mkF m 129 #[.val (.ref cs), .val (.int 7), .val (.ref x)] [(.int 0)])) (fun _ kt => XS.icmpYes X275.here hx rfl (pc0 := 69) (pc' := 128) rfl (hb hby d11_69) rfl (XT.ii_ne_t hc278) (by decide) (by decide) (XS.iconst X275.here hx rfl (hb hby d11_128) kt)) ?_
          obtain ⟨fs, hr, hrun, hended, hW, hsame⟩ := X275.leave (v := some (.int 0)) (fun h => by rw [Bd.returns] at h; cases h)
          refine own_end (retN X275 hx (t := .boolean) Bd.returns (by simp) (hb hby d11_129) hr) ⟨_, hrun, hended, _, _, rfl, ?_, ⟨_, rfl⟩, hW, hsame.mono (by decide) (by decide)⟩
          show own_eq7Q Z _ _ _ _ _ _ _ _ _ _ _ _ _ _ _ h0 n0 _ T275.heap _
          rw [e275]
          exact ⟨(congrArg (fun z => some (Value.int z)) (own_mf7 (fun q => hc278 q.2.2.2.1))), N277, rfl⟩
      ·
        refine own_st (T' := T271) (g' := (mkF m 129 #[.val (.ref cs), .val (.int 7), .val (.ref x)] [(.int 0)])) (fun _ kt => XS.icmpYes X271.here hx rfl (pc0 := 53) (pc' := 128) rfl (hb hby d11_53) rfl (XT.ii_ne_t hc274) (by decide) (by decide) (XS.iconst X271.here hx rfl (hb hby d11_128) kt)) ?_
        obtain ⟨fs, hr, hrun, hended, hW, hsame⟩ := X271.leave (v := some (.int 0)) (fun h => by rw [Bd.returns] at h; cases h)
        refine own_end (retN X271 hx (t := .boolean) Bd.returns (by simp) (hb hby d11_129) hr) ⟨_, hrun, hended, _, _, rfl, ?_, ⟨_, rfl⟩, hW, hsame.mono (by decide) (by decide)⟩
        show own_eq7Q Z _ _ _ _ _ _ _ _ _ _ _ _ _ _ _ h0 n0 _ T271.heap _
        rw [e271]
        exact ⟨(congrArg (fun z => some (Value.int z)) (own_mf7 (fun q => hc274 q.2.2.1))), N273, rfl⟩
    ·
      refine own_st (T' := T267) (g' := (mkF m 129 #[.val (.ref cs), .val (.int 7), .val (.ref x)] [(.int 0)])) (fun _ kt => XS.icmpYes X267.here hx rfl (pc0 := 37) (pc' := 128) rfl (hb hby d11_37) rfl (XT.ii_ne_t hc270) (by decide) (by decide) (XS.iconst X267.here hx rfl (hb hby d11_128) kt)) ?_
      obtain ⟨fs, hr, hrun, hended, hW, hsame⟩ := X267.leave (v := some (.int 0)) (fun h => by rw [Bd.returns] at h; cases h)
      refine own_end (retN X267 hx (t := .boolean) Bd.returns (by simp) (hb hby d11_129) hr) ⟨_, hrun, hended, _, _, rfl, ?_, ⟨_, rfl⟩, hW, hsame.mono (by decide) (by decide)⟩
      show own_eq7Q Z _ _ _ _ _ _ _ _ _ _ _ _ _ _ _ h0 n0 _ T267.heap _
      rw [e267]
      exact ⟨(congrArg (fun z => some (Value.int z)) (own_mf7 (fun q => hc270 q.2.1))), N269, rfl⟩
  ·
    refine own_st (T' := T263) (g' := (mkF m 129 #[.val (.ref cs), .val (.int 7), .val (.ref x)] [(.int 0)])) (fun _ kt => XS.icmpYes X263.here hx rfl (pc0 := 21) (pc' := 128) rfl (hb hby d11_21) rfl (XT.ii_ne_t hc266) (by decide) (by decide) (XS.iconst X263.here hx rfl (hb hby d11_128) kt)) ?_
    obtain ⟨fs, hr, hrun, hended, hW, hsame⟩ := X263.leave (v := some (.int 0)) (fun h => by rw [Bd.returns] at h; cases h)
    refine own_end (retN X263 hx (t := .boolean) Bd.returns (by simp) (hb hby d11_129) hr) ⟨_, hrun, hended, _, _, rfl, ?_, ⟨_, rfl⟩, hW, hsame.mono (by decide) (by decide)⟩
    show own_eq7Q Z _ _ _ _ _ _ _ _ _ _ _ _ _ _ _ h0 n0 _ T263.heap _
    rw [e263]
    exact ⟨(congrArg (fun z => some (Value.int z)) (own_mf7 (fun q => hc266 q.1))), N265, rfl⟩
theorem d6_0 : decode jdk_42_method_149_code 0 = .ok (.aload_n 0, 1) := by decide +kernel
theorem d6_1 : decode jdk_42_method_149_code 1 = .ok (.invokespecial 1, 3) := by decide +kernel
theorem d6_4 : decode jdk_42_method_149_code 4 = .ok (.iload_n 3, 1) := by decide +kernel
theorem d6_5 : decode jdk_42_method_149_code 5 = .ok (.ifCond .ne 22, 3) := by decide +kernel
theorem d6_8 : decode jdk_42_method_149_code 8 = .ok (.aload_n 0, 1) := by decide +kernel
theorem d6_9 : decode jdk_42_method_149_code 9 = .ok (.ldc 7, 2) := by decide +kernel
theorem d6_11 : decode jdk_42_method_149_code 11 = .ok (.getfield 9, 3) := by decide +kernel
theorem d6_14 : decode jdk_42_method_149_code 14 = .ok (.putfield 9, 3) := by decide +kernel
theorem d6_17 : decode jdk_42_method_149_code 17 = .ok (.aload_n 0, 1) := by decide +kernel
theorem d6_18 : decode jdk_42_method_149_code 18 = .ok (.ldc 7, 2) := by decide +kernel
theorem d6_20 : decode jdk_42_method_149_code 20 = .ok (.getfield 15, 3) := by decide +kernel
theorem d6_23 : decode jdk_42_method_149_code 23 = .ok (.putfield 15, 3) := by decide +kernel
theorem d6_26 : decode jdk_42_method_149_code 26 = .ok (.return_, 1) := by decide +kernel
theorem own_ef10 (m : MethodId) (x0 : Addr) (x1 : Addr) (x2 : Int32) (x3 : Int32) : entryFrame m #[(.ref x0), (.ref x1), (.int x2), (.int x3), .null] 6 = mkF m 0 #[.val (.ref x0), .val (.ref x1), .val (.int x2), .val (.int x3), .val .null, .unset] [] := by first | (simp [entryFrame, mkF, argsToLocals, Value.category]; done) | rfl
def own_e4Q (Z : State) (x0 : Addr) (b0 : Addr) (h0 : Heap) (n0 : Nat) (v : Option Value) (h : Heap) (L : List Loc) : Prop := ∃ (t : Addr), ∃ (kb : ClassId), v = none ∧ Fr n0 L ∧ Keep h0 h [x0] ∧ (Exa Z h x0 "java/lang/String") ∧ (Fld Z h x0 "java/lang/String" "coder" "B" (.int 0)) ∧ (Fld Z h x0 "java/lang/String" "value" "[B" (.ref t)) ∧ (Arv Z h t kb .byte (0 : Int32) [] (.int 0))
abbrev own_e4R : Room := { frames := 1, cells := 4, slots := 8, locals := 20 }
theorem own_e4 (l : Launch) (Z : State) (a0 : Array Value) (hw : ∀ d ∈ tables_1, d.before a0 Z = true) (ws : List Jvm.Cond) (x0 : Addr) (b0 : Addr) (h0 : Heap) (n0 : Nat) (Z0 : n0 ≤ h0.size) (pr1 : Exa Z h0 x0 "java/lang/String") (pr2 : n0 ≤ x0) (pr3 : Fld Z h0 x0 "java/lang/String" "value" "[B" .null) (pr4 : Fld Z h0 x0 "java/lang/String" "coder" "B" (.int 0)) :
    own_MH own_EL l (⟨"java/lang/String", "<init>", "([CIILjava/lang/Void;)V"⟩ : MethodName) jdk_42_method_149_code 6 none ws own_e4R #[(.ref x0), (.ref b0), (.int 0), (.int 0), .null] Z h0 (own_e4Q Z x0 b0 h0 n0) := by
  refine own_goH (plainFor_of_name own_pn2) (fun m => own_ef10 m x0 b0 (0 : Int32) (0 : Int32) ) ?_
  intro p e s m below meth c s₁ Bd hx hby hml hZ hh hown hnm X0 e0 hS CR0
  have N0 := Fr.nil n0
  have K0 : Keep h0 h0 [x0] := Keep.refl h0 _
  have hk : h0.size ≤ h0.size := Nat.le_refl _
  refine own_st (T' := s₁) (g' := (mkF m 1 #[.val (.ref x0), .val (.ref b0), .val (.int 0), .val (.int 0), .val .null, .unset] [(.ref x0)])) (fun _ kt => XS.aloadN X0.here hx rfl (hb hby d6_0) rfl rfl kt) ?_
  obtain ⟨T291, X291, e291, st291⟩ := initO X0 hx hZ hown (own_k hw 46 rfl) (own_k hw 47 rfl) (own_k hw 48 rfl) e0 (g := (mkF m 1 #[.val (.ref x0), .val (.ref b0), .val (.int 0), .val (.int 0), .val .null, .unset] [(.ref x0)])) rfl hml.symm rfl (hb hby d6_1) (by decide) (W := 0) (own_w0 rfl rfl) (by decide)
  refine own_st (T' := T291) (g' := (mkF m 4 #[.val (.ref x0), .val (.ref b0), .val (.int 0), .val (.int 0), .val .null, .unset] [])) st291 ?_
  refine own_st (T' := T291) (g' := (mkF m 9 #[.val (.ref x0), .val (.ref b0), .val (.int 0), .val (.int 0), .val .null, .unset] [(.ref x0)])) (fun _ kt => XS.iloadN X291.here hx rfl (hb hby d6_4) rfl (XS.ifNo X291.here hx rfl (hb hby d6_5) rfl (XT.i0_ne_f (by decide)) (XS.aloadN X291.here hx rfl (hb hby d6_8) rfl rfl kt))) ?_
  obtain ⟨b292, T292, h292, k292, d292, kd292, X292, e292, E292, hS292, hk292, hZ292, hown292, gE292, gC292, gV292, gA292, la292, lb292, hC292, -, hsf292, st292⟩ := ldcCH X291 hx hZ hown (own_k hw 108 rfl) (own_wS hw) e291 hS hk (own_EW hw) (show ("java/lang/String", 7) ∈ own_EL by simp [own_EL]) CR0.1 (vs := []) (z := (0 : Int32)) ⟨by decide +kernel, by first | rfl | decide +kernel⟩ (by decide) rfl (g := (mkF m 9 #[.val (.ref x0), .val (.ref b0), .val (.int 0), .val (.int 0), .val .null, .unset] [(.ref x0)])) rfl (hb hby d6_9) (n := 0) (by decide +kernel) (by decide) (by decide) (by decide)
  have CR293 : CHr Z own_EL s.vm h0 T292.vm h292 := CHr.trans CR0 hC292
  have Z294 : n0 ≤ h292.size := Nat.le_trans Z0 E292.1
  have hk294 := Nat.le_trans hk E292.1
  have K294 : Keep h0 h292 [x0] := (Keep.ext K0 E292)
  have F295 : Exa Z h292 x0 "java/lang/String" := (Exa.ext E292 pr1)
  have F296 : Fld Z h292 x0 "java/lang/String" "value" "[B" .null := (Fld.ext E292 pr3)
  have S297 : Safe Z own_EL T292.vm h292 x0 := (own_safeStr (State.Warmed39.alike hZ292) F295 F296)
  have ne298 := hsf292 x0 S297
  refine own_st (T' := T292) (g' := (mkF m 11 #[.val (.ref x0), .val (.ref b0), .val (.int 0), .val (.int 0), .val .null, .unset] [(.ref b292), (.ref x0)])) st292 ?_
  obtain ⟨T299, X299, e299, st299⟩ := getF X292 hx hZ292 hown292 (host := "") (Or.inl (own_k hw 63 rfl)) Via.refl e292 gV292 (g := (mkF m 11 #[.val (.ref x0), .val (.ref b0), .val (.int 0), .val (.int 0), .val .null, .unset] [(.ref b292), (.ref x0)])) rfl rfl (hb hby d6_11)
  refine own_st (T' := T299) (g' := (mkF m 14 #[.val (.ref x0), .val (.ref b0), .val (.int 0), .val (.int 0), .val .null, .unset] [(.ref d292), (.ref x0)])) st299 ?_
  obtain ⟨T300, h300, X300, e300, W300, st300⟩ := putF X299 hx hZ292 hown292 (host := "") (Or.inl (own_k hw 63 rfl)) Via.refl e299 F296 F295 (Or.inr ⟨(own_k hw 64 rfl), rfl, hnm⟩) (own_k hw 38 rfl) (ty := (.array .byte)) (by decide) rfl rfl (g := (mkF m 14 #[.val (.ref x0), .val (.ref b0), .val (.int 0), .val (.int 0), .val .null, .unset] [(.ref d292), (.ref x0)])) rfl rfl (hb hby d6_14)
  have N300 := Fr.snoc X300 N0 pr2
  have CR301 : CHr Z own_EL s.vm h0 T292.vm h300 := CHr.trans CR293 (CHr.wr W300 S297 CR293.1)
  have Z302 : n0 ≤ h300.size := Nat.le_trans Z294 (Nat.le_of_eq (Wr.size W300).symm)
  have hk302 := Nat.le_trans hk292 (Nat.le_of_eq (Wr.size W300).symm)
  have K302 : Keep h0 h300 [x0] := (Keep.wr K294 W300 (Or.inl (List.mem_of_getElem? (i := 0) rfl)))
  have F303 : Fld Z h300 x0 "java/lang/String" "value" "[B" (.ref d292) := Fld.same W300 F296
  refine own_st (T' := T300) (g' := (mkF m 17 #[.val (.ref x0), .val (.ref b0), .val (.int 0), .val (.int 0), .val .null, .unset] [])) st300 ?_
  refine own_st (T' := T300) (g' := (mkF m 18 #[.val (.ref x0), .val (.ref b0), .val (.int 0), .val (.int 0), .val .null, .unset] [(.ref x0)])) (fun _ kt => XS.aloadN X300.here hx rfl (hb hby d6_17) rfl rfl kt) ?_
  obtain ⟨b304, T304, h304, k304, d304, kd304, X304, e304, E304, hS304, hk304, hZ304, hown304, gE304, gC304, gV304, gA304, la304, lb304, hC304, -, hsf304, st304⟩ := ldcCH X300 hx hZ292 hown292 (own_k hw 108 rfl) (own_wS hw) e300 hS292 hk302 (own_EW hw) (show ("java/lang/String", 7) ∈ own_EL by simp [own_EL]) CR301.1 (vs := []) (z := (0 : Int32)) ⟨by decide +kernel, by first | rfl | decide +kernel⟩ (by decide) rfl (g := (mkF m 18 #[.val (.ref x0), .val (.ref b0), .val (.int 0), .val (.int 0), .val .null, .unset] [(.ref x0)])) rfl (hb hby d6_18) (n := 0) (by decide +kernel) (by decide) (by decide) (by decide)
  have CR305 : CHr Z own_EL s.vm h0 T304.vm h304 := CHr.trans CR301 hC304
  have Z306 : n0 ≤ h304.size := Nat.le_trans Z302 E304.1
  have hk306 := Nat.le_trans hk302 E304.1
  have K306 : Keep h0 h304 [x0] := (Keep.ext K302 E304)
  have F307 : Exa Z h300 x0 "java/lang/String" := (Exa.wr W300 F295)
  have F308 : Safe Z own_EL T304.vm h304 x0 := (CHr.safe hC304 F307.lt (Safe.wr W300 S297 CR293.1 S297))
  have ne309 := hsf304 x0 F308
  have F310 : Exa Z h304 b292 "java/lang/String" := (Exa.ext E304 (Exa.wr W300 gE292))
  have F311 : Fld Z h304 b292 "java/lang/String" "value" "[B" (.ref d292) := (Fld.ext E304 (Fld.other W300 gV292 (Or.inl (Ne.symm ne298.1))))
  have F312 : Arv Z h304 d292 kd292 .byte (0 : Int32) [] (.int 0) := ((Arv.other gA292 W300 (Ne.symm ne298.2)).ext E304)
  refine own_st (T' := T304) (g' := (mkF m 20 #[.val (.ref x0), .val (.ref b0), .val (.int 0), .val (.int 0), .val .null, .unset] [(.ref b304), (.ref x0)])) st304 ?_
  obtain ⟨T313, X313, e313, st313⟩ := getF X304 hx hZ304 hown304 (host := "") (Or.inl (own_k hw 61 rfl)) Via.refl e304 gC304 (g := (mkF m 20 #[.val (.ref x0), .val (.ref b0), .val (.int 0), .val (.int 0), .val .null, .unset] [(.ref b304), (.ref x0)])) rfl rfl (hb hby d6_20)
  refine own_st (T' := T313) (g' := (mkF m 23 #[.val (.ref x0), .val (.ref b0), .val (.int 0), .val (.int 0), .val .null, .unset] [(.int 0), (.ref x0)])) st313 ?_
  have F314 : Fld Z h304 x0 "java/lang/String" "coder" "B" (.int 0) := (Fld.ext E304 (Fld.other W300 (Fld.ext E292 pr4) (Or.inr (slot_ne (Or.inr (own_k hw 62 rfl)) (Or.inr (own_k hw 64 rfl)) (by decide) (t := .byte) (t' := (.array .byte)) (by decide) (by decide)))))
  have F315 : Exa Z h304 x0 "java/lang/String" := (Exa.ext E304 (Exa.wr W300 F295))
  obtain ⟨T316, h316, X316, e316, W316, st316⟩ := putF X313 hx hZ304 hown304 (host := "") (Or.inl (own_k hw 61 rfl)) Via.refl e313 F314 F315 (Or.inr ⟨(own_k hw 62 rfl), rfl, hnm⟩) (own_k hw 38 rfl) (ty := .byte) (by decide) rfl rfl (g := (mkF m 23 #[.val (.ref x0), .val (.ref b0), .val (.int 0), .val (.int 0), .val .null, .unset] [(.int 0), (.ref x0)])) rfl rfl (hb hby d6_23)
  have N316 := Fr.snoc X316 N300 pr2
  have CR317 : CHr Z own_EL s.vm h0 T304.vm h316 := CHr.trans CR305 (CHr.wr W316 F308 CR305.1)
  have Z318 : n0 ≤ h316.size := Nat.le_trans Z306 (Nat.le_of_eq (Wr.size W316).symm)
  have hk318 := Nat.le_trans hk304 (Nat.le_of_eq (Wr.size W316).symm)
  have K318 : Keep h0 h316 [x0] := (Keep.wr K306 W316 (Or.inl (List.mem_of_getElem? (i := 0) rfl)))
  have F319 : Fld Z h316 x0 "java/lang/String" "coder" "B" (.int 0) := Fld.same W316 F314
  refine own_st (T' := T316) (g' := (mkF m 26 #[.val (.ref x0), .val (.ref b0), .val (.int 0), .val (.int 0), .val .null, .unset] [])) st316 ?_
  obtain ⟨fs, hr, hrun, hended, hE⟩ := Stand.leaveW X316 hS304 (by rw [e316]; exact hk318) (v := none) (fun _ => rfl)
  refine own_end (X316.returnOut hx Bd.returns (hb hby d6_26) hr) ⟨_, hrun, hended, _, _, rfl, ?_, (by rw [hh]; show CHr Z own_EL s.vm h0 T316.vm T316.heap; rw [e316]; exact CHr.trans CR317 (CHv.at X316 hZ304 (own_EW hw) CR317.1)), ⟨hE.1, hE.2.1, hE.2.2.1, hE.2.2.2.mono (by decide) (by decide)⟩⟩
  have F320 : Fld Z h316 x0 "java/lang/String" "value" "[B" (.ref d292) := (Fld.other W316 (Fld.ext E304 F303) (Or.inr (slot_ne (Or.inr (own_k hw 64 rfl)) (Or.inr (own_k hw 62 rfl)) (by decide) (t := (.array .byte)) (t' := .byte) (by decide) (by decide))))
  have F321 : Arv Z h316 d292 kd292 .byte (0 : Int32) [] (.int 0) := (Arv.other F312 W316 (Ne.symm ne298.2))
  have F322 : Exa Z h316 x0 "java/lang/String" := (Exa.wr W316 F315)
  show own_e4Q Z _ _ h0 n0 _ T316.heap _
  rw [e316]
  exact ⟨d292, kd292, rfl, N316, K318, F322, F319, F320, F321⟩
theorem d5_0 : decode jdk_42_method_3_code 0 = .ok (.aload_n 0, 1) := by decide +kernel
theorem d5_1 : decode jdk_42_method_3_code 1 = .ok (.aload_n 1, 1) := by decide +kernel
theorem d5_2 : decode jdk_42_method_3_code 2 = .ok (.iconst 0, 1) := by decide +kernel
theorem d5_3 : decode jdk_42_method_3_code 3 = .ok (.aload_n 1, 1) := by decide +kernel
theorem d5_4 : decode jdk_42_method_3_code 4 = .ok (.arraylength, 1) := by decide +kernel
theorem d5_5 : decode jdk_42_method_3_code 5 = .ok (.aconst_null, 1) := by decide +kernel
theorem d5_6 : decode jdk_42_method_3_code 6 = .ok (.invokespecial 27, 3) := by decide +kernel
theorem own_pd11 : parseMethodDescriptor "([CIILjava/lang/Void;)V" = some ⟨[(.array .char), .int, .int, (.object "java/lang/Void")], none⟩ := by decide +kernel
theorem d5_9 : decode jdk_42_method_3_code 9 = .ok (.return_, 1) := by decide +kernel
theorem own_ef11 (m : MethodId) (x0 : Addr) (x1 : Addr) : entryFrame m #[(.ref x0), (.ref x1)] 2 = mkF m 0 #[.val (.ref x0), .val (.ref x1)] [] := by first | (simp [entryFrame, mkF, argsToLocals, Value.category]; done) | rfl
def own_e1Q (Z : State) (x0 : Addr) (b0 : Addr) (kc : ClassId) (vl : List Value) (dd : Value) (h0 : Heap) (n0 : Nat) (v : Option Value) (h : Heap) (L : List Loc) : Prop := ∃ (t : Addr), ∃ (kb : ClassId), v = none ∧ Fr n0 L ∧ Keep h0 h [x0] ∧ (Exa Z h x0 "java/lang/String") ∧ (Fld Z h x0 "java/lang/String" "coder" "B" (.int 0)) ∧ (Fld Z h x0 "java/lang/String" "value" "[B" (.ref t)) ∧ (Arv Z h t kb .byte (0 : Int32) [] (.int 0))
abbrev own_e1R : Room := { frames := 2, cells := 4, slots := 8, locals := 60 }
theorem own_e1 (l : Launch) (Z : State) (a0 : Array Value) (hw : ∀ d ∈ tables_1, d.before a0 Z = true) (ws : List Jvm.Cond) (x0 : Addr) (b0 : Addr) (kc : ClassId) (vl : List Value) (dd : Value) (h0 : Heap) (n0 : Nat) (Z0 : n0 ≤ h0.size) (pr1 : Exa Z h0 x0 "java/lang/String") (pr2 : n0 ≤ x0) (pr3 : Fld Z h0 x0 "java/lang/String" "value" "[B" .null) (pr4 : Fld Z h0 x0 "java/lang/String" "coder" "B" (.int 0)) (pr5 : Arv Z h0 b0 kc .char (0 : Int32) vl dd) :
    own_MH own_EL l yN5 jdk_42_method_3_code 2 none ws own_e1R #[(.ref x0), (.ref b0)] Z h0 (own_e1Q Z x0 b0 kc vl dd h0 n0) := by
  refine own_goH (plainFor_of_name own_pn2) (fun m => own_ef11 m x0 b0 ) ?_
  intro p e s m below meth c s₁ Bd hx hby hml hZ hh hown hnm X0 e0 hS CR0
  have N0 := Fr.nil n0
  have K0 : Keep h0 h0 [x0] := Keep.refl h0 _
  have hk : h0.size ≤ h0.size := Nat.le_refl _
  refine own_st (T' := s₁) (g' := (mkF m 4 #[.val (.ref x0), .val (.ref b0)] [(.ref b0), (.int 0), (.ref b0), (.ref x0)])) (fun _ kt => XS.aloadN X0.here hx rfl (hb hby d5_0) rfl rfl (XS.aloadN X0.here hx rfl (hb hby d5_1) rfl rfl (XS.iconst X0.here hx rfl (hb hby d5_2) (XS.aloadN X0.here hx rfl (hb hby d5_3) rfl rfl kt)))) ?_
  refine own_st (T' := s₁) (g' := (mkF m 5 #[.val (.ref x0), .val (.ref b0)] [(.int 0), (.int 0), (.ref b0), (.ref x0)])) (own_alen X0 hx hZ e0 pr5 (g := (mkF m 4 #[.val (.ref x0), .val (.ref b0)] [(.ref b0), (.int 0), (.ref b0), (.ref x0)])) rfl rfl (hb hby d5_4)) ?_
  refine own_st (T' := s₁) (g' := (mkF m 6 #[.val (.ref x0), .val (.ref b0)] [.null, (.int 0), (.int 0), (.ref b0), (.ref x0)])) (fun _ kt => XS.aconstNull X0.here hx rfl (hb hby d5_5) kt) ?_
  obtain ⟨_, _, ⟨T323, L323, k323, n323⟩, -, X323, hS323, hG323, ⟨Lc323, hQ323, l323, y323, z323, hC323⟩, st323⟩ := X0.specialBackS hx (y := (⟨"java/lang/String", "<init>", "([CIILjava/lang/Void;)V"⟩ : MethodName)) rfl hown (mvT hZ (own_k hw 42 rfl)) (mvT hZ (own_k hw 43 rfl)) (mvT hZ (own_k hw 45 rfl)) (by decide) (backOfSH (W := 0) (own_e4 l Z a0 hw [] x0 b0 h0 n0 Z0 pr1 pr2 pr3 pr4) hZ (own_k hw 45 rfl) (own_k hw 31 rfl) (by decide) (by decide) (own_EW hw) CR0.1) (g := (mkF m 6 #[.val (.ref x0), .val (.ref b0)] [.null, (.int 0), (.int 0), (.ref b0), (.ref x0)])) rfl hml.symm (Steps.refl _) (a := x0) (argsL := [(.ref b0), (.int 0), (.int 0), .null]) (rest := []) (lenOf own_pd11 rfl) rfl (own_w0 rfl rfl) (hb hby d5_6) (fun _ _ => ⟨rfl, e0, (by decide : 0 + 4 ≤ 4), (by decide : 0 + 8 ≤ 8)⟩)
  dsimp only [Pt.U, Pt.locs, Pt.cells, Pt.slots] at X323 l323 y323 z323 st323 hQ323 hS323 hG323 hC323
  subst l323 y323 z323
  obtain ⟨t_323, kb_323, rfl, N323, K323_, P324, P325, P326, P327⟩ := hQ323
  have N328 := Fr.app N0 N323
  obtain ⟨X329, hS329, hZ329, hown329⟩ := rebS hS (by rw [e0]; exact hk) X323 hS323 hG323 hZ hown
  have CR330 : CHr Z own_EL s.vm h0 T323.vm T323.heap := CHr.trans CR0 hC323
  have Z331 : n0 ≤ T323.heap.size := Nat.le_trans Z0 K323_.1
  have hk331 := Nat.le_trans hk K323_.1
  have K331 : Keep h0 T323.heap [x0] := (Keep.trans K0 K323_ (allS (Or.inl (List.mem_of_getElem? (i := 0) rfl)) all0))
  have hk329 : T323.heap.size ≤ T323.heap.size := Nat.le_refl _
  refine own_tr (T' := T323) (g' := (mkF m 9 #[.val (.ref x0), .val (.ref b0)] [])) st323 ?_
  obtain ⟨fs, hr, hrun, hended, hE⟩ := Stand.leaveW X329 hS329 hk329 (v := none) (fun _ => rfl)
  refine own_end (X329.returnOut hx Bd.returns (hb hby d5_9) hr) ⟨_, hrun, hended, _, _, rfl, ?_, (by rw [hh]; show CHr Z own_EL s.vm h0 T323.vm T323.heap; exact CHr.trans CR330 (CHv.at X329 hZ329 (own_EW hw) CR330.1)), ⟨hE.1, hE.2.1, hE.2.2.1, hE.2.2.2.mono (by decide) (by decide)⟩⟩
  show own_e1Q Z _ _ _ _ _ h0 n0 _ T323.heap _
  show own_e1Q Z _ _ _ _ _ h0 n0 _ T323.heap _
  exact ⟨t_323, kb_323, rfl, N328, K331, P324, P325, P326, P327⟩
theorem d4_0 : decode method_4_code 0 = .ok (.iload_n 1, 1) := by decide +kernel
theorem d4_1 : decode method_4_code 1 = .ok (.ifCond .ne 14, 3) := by decide +kernel
theorem d4_4 : decode method_4_code 4 = .ok (.new 37, 3) := by decide +kernel
theorem d4_7 : decode method_4_code 7 = .ok (.dup, 1) := by decide +kernel
theorem d4_8 : decode method_4_code 8 = .ok (.iconst 0, 1) := by decide +kernel
theorem d4_9 : decode method_4_code 9 = .ok (.newarray .char, 2) := by decide +kernel
theorem d4_11 : decode method_4_code 11 = .ok (.invokespecial 46, 3) := by decide +kernel
theorem own_pd12 : parseMethodDescriptor "([C)V" = some ⟨[(.array .char)], none⟩ := by decide +kernel
theorem d4_14 : decode method_4_code 14 = .ok (.areturn, 1) := by decide +kernel
def own_s0Q (Z : State) (cs : Addr) (kc : ClassId) (zc : Int32) (x0 : Int32) (x1 : Int32) (x2 : Int32) (x3 : Int32) (x4 : Int32) (x5 : Int32) (x6 : Int32) (x7 : Int32) (h0 : Heap) (n0 : Nat) (v : Option Value) (h : Heap) (L : List Loc) : Prop := ∃ (y : Addr), ∃ (t : Addr), ∃ (ky : ClassId), v = some (.ref y) ∧ Fr n0 L ∧ Keep h0 h [] ∧ (Exa Z h y "java/lang/String") ∧ (Fld Z h y "java/lang/String" "coder" "B" (.int 0)) ∧ (Fld Z h y "java/lang/String" "value" "[B" (.ref t)) ∧ (Arv Z h t ky .byte (0 : Int32) [] (.int 0)) ∧ (h0.size ≤ y)
abbrev own_s0R : Room := { frames := 5, cells := 6, slots := 32, locals := 160 }
theorem own_s0 (l : Launch) (Z : State) (a0 : Array Value) (hw : ∀ d ∈ tables_1, d.before a0 Z = true) (ws : List Jvm.Cond) (cs : Addr) (kc : ClassId) (zc : Int32) (x0 : Int32) (x1 : Int32) (x2 : Int32) (x3 : Int32) (x4 : Int32) (x5 : Int32) (x6 : Int32) (x7 : Int32) (h0 : Heap) (n0 : Nat) (Z0 : n0 ≤ h0.size) (pr1 : Old Z n0 h0) (pr2 : Sta Z Z.heap "java/lang/String" "COMPACT_STRINGS" "Z" (.int zc)) (pr3 : ¬ zc = 0) (pr4 : Arv Z h0 cs kc .char (8 : Int32) [(.int x0), (.int x1), (.int x2), (.int x3), (.int x4), (.int x5), (.int x6), (.int x7)] (.int 0)) (pr5 : own_cc x0) (pr6 : own_cc x1) (pr7 : own_cc x2) (pr8 : own_cc x3) (pr9 : own_cc x4) (pr10 : own_cc x5) (pr11 : own_cc x6) (pr12 : own_cc x7) :
    own_MH own_EL l yN4 method_4_code 2 (some (.object "java/lang/String")) ws own_s0R #[(.ref cs), (.int 0)] Z h0 (own_s0Q Z cs kc zc x0 x1 x2 x3 x4 x5 x6 x7 h0 n0) := by
  refine own_goH (plainFor_of_name own_pn5) (fun m => own_ef4 m cs (0 : Int32) ) ?_
  intro p e s m below meth c s₁ Bd hx hby hml hZ hh hown hnm X0 e0 hS CR0
  have N0 := Fr.nil n0
  have K0 : Keep h0 h0 [] := Keep.refl h0 _
  have hk : h0.size ≤ h0.size := Nat.le_refl _
  refine own_st (T' := s₁) (g' := (mkF m 4 #[.val (.ref cs), .val (.int 0)] [])) (fun _ kt => XS.iloadN X0.here hx rfl (hb hby d4_0) rfl (XS.ifNo X0.here hx rfl (hb hby d4_1) rfl (XT.i0_ne_f (by decide)) kt)) ?_
  obtain ⟨T332, h332, X332, e332, E332, A332, D332, -, st332⟩ := newO X0 hx hZ hown (own_k hw 37 rfl) (own_k hw 38 rfl) (own_k hw 31 rfl) e0 (g := (mkF m 4 #[.val (.ref cs), .val (.int 0)] [])) rfl (hb hby d4_4) (by decide) (by decide)
  obtain ⟨b332, g332⟩ : ∃ z, z = h0.size := ⟨_, rfl⟩
  rw [← g332] at A332 D332 st332
  have ne333 : cs ≠ b332 := by rw [g332]; exact Nat.ne_of_lt pr4.lt
  have CR334 : CHr Z own_EL s.vm h0 s.vm h332 := CHr.trans CR0 (CHr.ext E332 CR0.1)
  have Z335 : n0 ≤ h332.size := Nat.le_trans Z0 E332.1
  have hk335 := Nat.le_trans hk E332.1
  have K335 : Keep h0 h332 [] := (Keep.ext K0 E332)
  have ge_b332 : n0 ≤ b332 := Nat.le_trans Z0 (Nat.le_of_eq g332.symm)
  have S336 : Safe Z own_EL s.vm h332 b332 := (Safe.ext E332 CR0.1 (Safe.new (Nat.le_of_eq g332.symm)))
  have F337 : Fld Z h332 b332 "java/lang/String" "coder" "B" (.int 0) := D332 (Or.inr (own_k hw 62 rfl)) (ty := .byte) (by decide)
  have F338 : Fld Z h332 b332 "java/lang/String" "value" "[B" .null := D332 (Or.inr (own_k hw 64 rfl)) (ty := (.array .byte)) (by decide)
  refine own_st (T' := T332) (g' := (mkF m 7 #[.val (.ref cs), .val (.int 0)] [(.ref b332)])) st332 ?_
  refine own_st (T' := T332) (g' := (mkF m 9 #[.val (.ref cs), .val (.int 0)] [(.int 0), (.ref b332), (.ref b332)])) (fun _ kt => XS.dup X332.here hx rfl (hb hby d4_7) rfl rfl (XS.iconst X332.here hx rfl (hb hby d4_8) kt)) ?_
  obtain ⟨T339, h339, k339, X339, e339, E339, A339, st339⟩ := newP X332 hx hZ (aty := .char) (own_k hw 0 rfl) e332 (g := (mkF m 9 #[.val (.ref cs), .val (.int 0)] [(.int 0), (.ref b332), (.ref b332)])) rfl (hb hby d4_9) rfl (by decide) (cap := 0) (by decide) (by decide) (by decide) (by decide)
  obtain ⟨b339, g339⟩ : ∃ z, z = h332.size := ⟨_, rfl⟩
  rw [← g339] at A339 st339
  have F340 : Arv Z h332 cs kc .char (8 : Int32) [(.int x0), (.int x1), (.int x2), (.int x3), (.int x4), (.int x5), (.int x6), (.int x7)] (.int 0) := (pr4.ext E332)
  have ne341 : cs ≠ b339 := by rw [g339]; exact Nat.ne_of_lt F340.lt
  have ne342 : b332 ≠ b339 := by rw [g339]; exact Nat.ne_of_lt A332.lt
  have CR343 : CHr Z own_EL s.vm h0 s.vm h339 := CHr.trans CR334 (CHr.ext E339 CR334.1)
  have Z344 : n0 ≤ h339.size := Nat.le_trans Z335 E339.1
  have hk344 := Nat.le_trans hk335 E339.1
  have K344 : Keep h0 h339 [] := (Keep.ext K335 E339)
  have ge_b339 : n0 ≤ b339 := Nat.le_trans Z335 (Nat.le_of_eq g339.symm)
  have S345 : Safe Z own_EL s.vm h339 b339 := (Safe.ext E339 CR334.1 (Safe.new (Nat.le_of_eq g339.symm)))
  have F346 : Arv Z h339 b339 k339 .char (0 : Int32) [] (.int 0) := (Arv.new A339 (by decide)).pad (pad_rep [] (.int 0) 0)
  refine own_st (T' := T339) (g' := (mkF m 11 #[.val (.ref cs), .val (.int 0)] [(.ref b339), (.ref b332), (.ref b332)])) st339 ?_
  have F347 : Exa Z h339 b332 "java/lang/String" := (Exa.ext E339 A332)
  have F348 : Fld Z h339 b332 "java/lang/String" "value" "[B" .null := (Fld.ext E339 F338)
  have F349 : Fld Z h339 b332 "java/lang/String" "coder" "B" (.int 0) := (Fld.ext E339 F337)
  obtain ⟨_, _, ⟨T350, L350, k350, n350⟩, -, X350, hS350, hG350, ⟨Lc350, hQ350, l350, y350, z350, hC350⟩, st350⟩ := X339.specialBackS hx (y := yN5) rfl hown (mvT hZ (own_k hw 39 rfl)) (mvT hZ (own_k hw 40 rfl)) (mvT hZ (own_k hw 41 rfl)) (by decide) (backOfSH (W := 1) (own_e1 l Z a0 hw [] b332 b339 k339 [] (.int 0) h339 n0 Z344 F347 ge_b332 F348 F349 F346) hZ (own_k hw 41 rfl) (own_k hw 31 rfl) (by decide) (by decide) (own_EW hw) CR343.1) (g := (mkF m 11 #[.val (.ref cs), .val (.int 0)] [(.ref b339), (.ref b332), (.ref b332)])) rfl hml.symm (Steps.refl _) (a := b332) (argsL := [(.ref b339)]) (rest := [(.ref b332)]) (lenOf own_pd12 rfl) rfl (own_w0 rfl rfl) (hb hby d4_11) (fun _ _ => ⟨rfl, e339, (by decide : 2 + 4 ≤ 6), (by decide : 4 + 8 ≤ 32)⟩)
  dsimp only [Pt.U, Pt.locs, Pt.cells, Pt.slots] at X350 l350 y350 z350 st350 hQ350 hS350 hG350 hC350
  subst l350 y350 z350
  obtain ⟨t_350, kb_350, rfl, N350, K350_, P351, P352, P353, P354⟩ := hQ350
  have N355 := Fr.app N0 N350
  obtain ⟨X356, hS356, hZ356, hown356⟩ := rebS hS (by rw [e339]; exact hk344) X350 hS350 hG350 hZ hown
  have CR357 : CHr Z own_EL s.vm h0 T350.vm T350.heap := CHr.trans CR343 hC350
  have Z358 : n0 ≤ T350.heap.size := Nat.le_trans Z344 K350_.1
  have hk358 := Nat.le_trans hk344 K350_.1
  have K358 : Keep h0 T350.heap [] := (Keep.trans K344 K350_ (allS (Or.inr (Nat.le_trans K0.1 (Nat.le_of_eq g332.symm))) all0))
  have hk356 : T350.heap.size ≤ T350.heap.size := Nat.le_refl _
  refine own_tr (T' := T350) (g' := (mkF m 14 #[.val (.ref cs), .val (.int 0)] [(.ref b332)])) st350 ?_
  obtain ⟨fs, hr, hrun, hended, hE⟩ := Stand.leaveW X356 hS356 hk356 (v := some (.ref b332)) (fun h => by rw [Bd.returns] at h; cases h)
  refine own_end (own_retA X356 hx Bd.returns rfl rfl rfl (hb hby d4_14) hr) ⟨_, hrun, hended, _, _, rfl, ?_, (by rw [hh]; show CHr Z own_EL s.vm h0 T350.vm T350.heap; exact CHr.trans CR357 (CHv.at X356 hZ356 (own_EW hw) CR357.1)), ⟨hE.1, hE.2.1, hE.2.2.1, hE.2.2.2.mono (by decide) (by decide)⟩⟩
  show own_s0Q Z _ _ _ _ _ _ _ _ _ _ _ h0 n0 _ T350.heap _
  show own_s0Q Z _ _ _ _ _ _ _ _ _ _ _ h0 n0 _ T350.heap _
  exact ⟨b332, t_350, kb_350, rfl, N355, K358, P351, P352, P353, P354, (Nat.le_trans K0.1 (Nat.le_of_eq g332.symm))⟩
theorem d4_15 : decode method_4_code 15 = .ok (.iload_n 1, 1) := by decide +kernel
theorem d4_16 : decode method_4_code 16 = .ok (.iconst 1, 1) := by decide +kernel
theorem d4_17 : decode method_4_code 17 = .ok (.if_icmp .ne 20, 3) := by decide +kernel
theorem d4_20 : decode method_4_code 20 = .ok (.new 37, 3) := by decide +kernel
theorem d4_23 : decode method_4_code 23 = .ok (.dup, 1) := by decide +kernel
theorem d4_24 : decode method_4_code 24 = .ok (.iconst 1, 1) := by decide +kernel
theorem d4_25 : decode method_4_code 25 = .ok (.newarray .char, 2) := by decide +kernel
theorem d4_27 : decode method_4_code 27 = .ok (.dup, 1) := by decide +kernel
theorem d4_28 : decode method_4_code 28 = .ok (.iconst 0, 1) := by decide +kernel
theorem d4_29 : decode method_4_code 29 = .ok (.aload_n 0, 1) := by decide +kernel
theorem d4_30 : decode method_4_code 30 = .ok (.iconst 0, 1) := by decide +kernel
theorem d4_31 : decode method_4_code 31 = .ok (.caload, 1) := by decide +kernel
theorem d4_32 : decode method_4_code 32 = .ok (.castore, 1) := by decide +kernel
theorem d4_33 : decode method_4_code 33 = .ok (.invokespecial 46, 3) := by decide +kernel
theorem d4_36 : decode method_4_code 36 = .ok (.areturn, 1) := by decide +kernel
def own_s1Q (Z : State) (cs : Addr) (kc : ClassId) (zc : Int32) (x0 : Int32) (x1 : Int32) (x2 : Int32) (x3 : Int32) (x4 : Int32) (x5 : Int32) (x6 : Int32) (x7 : Int32) (h0 : Heap) (n0 : Nat) (v : Option Value) (h : Heap) (L : List Loc) : Prop := ∃ (y : Addr), ∃ (t : Addr), ∃ (ky : ClassId), v = some (.ref y) ∧ Fr n0 L ∧ Keep h0 h [] ∧ (Exa Z h y "java/lang/String") ∧ (Fld Z h y "java/lang/String" "coder" "B" (.int 0)) ∧ (Fld Z h y "java/lang/String" "value" "[B" (.ref t)) ∧ (Arv Z h t ky .byte (1 : Int32) [(.int x0.toInt8.toInt32)] (.int 0)) ∧ (h0.size ≤ y)
abbrev own_s1R : Room := { frames := 5, cells := 6, slots := 32, locals := 160 }
theorem own_s1 (l : Launch) (Z : State) (a0 : Array Value) (hw : ∀ d ∈ tables_1, d.before a0 Z = true) (ws : List Jvm.Cond) (cs : Addr) (kc : ClassId) (zc : Int32) (x0 : Int32) (x1 : Int32) (x2 : Int32) (x3 : Int32) (x4 : Int32) (x5 : Int32) (x6 : Int32) (x7 : Int32) (h0 : Heap) (n0 : Nat) (Z0 : n0 ≤ h0.size) (pr1 : Old Z n0 h0) (pr2 : Sta Z Z.heap "java/lang/String" "COMPACT_STRINGS" "Z" (.int zc)) (pr3 : ¬ zc = 0) (pr4 : Arv Z h0 cs kc .char (8 : Int32) [(.int x0), (.int x1), (.int x2), (.int x3), (.int x4), (.int x5), (.int x6), (.int x7)] (.int 0)) (pr5 : own_cc x0) (pr6 : own_cc x1) (pr7 : own_cc x2) (pr8 : own_cc x3) (pr9 : own_cc x4) (pr10 : own_cc x5) (pr11 : own_cc x6) (pr12 : own_cc x7) :
    own_MH own_EL l yN4 method_4_code 2 (some (.object "java/lang/String")) ws own_s1R #[(.ref cs), (.int 1)] Z h0 (own_s1Q Z cs kc zc x0 x1 x2 x3 x4 x5 x6 x7 h0 n0) := by
  refine own_goH (plainFor_of_name own_pn5) (fun m => own_ef4 m cs (1 : Int32) ) ?_
  intro p e s m below meth c s₁ Bd hx hby hml hZ hh hown hnm X0 e0 hS CR0
  have N0 := Fr.nil n0
  have K0 : Keep h0 h0 [] := Keep.refl h0 _
  have hk : h0.size ≤ h0.size := Nat.le_refl _
  refine own_st (T' := s₁) (g' := (mkF m 20 #[.val (.ref cs), .val (.int 1)] [])) (fun _ kt => XS.iloadN X0.here hx rfl (hb hby d4_0) rfl (XS.ifYes X0.here hx rfl (pc0 := 1) (pc' := 15) rfl (hb hby d4_1) rfl (XT.i0_ne_t (by decide)) (by decide) (by decide) (XS.iloadN X0.here hx rfl (hb hby d4_15) rfl (XS.iconst X0.here hx rfl (hb hby d4_16) (XS.icmpNo X0.here hx rfl (hb hby d4_17) rfl (XT.ii_ne_f (by decide)) kt))))) ?_
  obtain ⟨T359, h359, X359, e359, E359, A359, D359, -, st359⟩ := newO X0 hx hZ hown (own_k hw 37 rfl) (own_k hw 38 rfl) (own_k hw 31 rfl) e0 (g := (mkF m 20 #[.val (.ref cs), .val (.int 1)] [])) rfl (hb hby d4_20) (by decide) (by decide)
  obtain ⟨b359, g359⟩ : ∃ z, z = h0.size := ⟨_, rfl⟩
  rw [← g359] at A359 D359 st359
  have ne360 : cs ≠ b359 := by rw [g359]; exact Nat.ne_of_lt pr4.lt
  have CR361 : CHr Z own_EL s.vm h0 s.vm h359 := CHr.trans CR0 (CHr.ext E359 CR0.1)
  have Z362 : n0 ≤ h359.size := Nat.le_trans Z0 E359.1
  have hk362 := Nat.le_trans hk E359.1
  have K362 : Keep h0 h359 [] := (Keep.ext K0 E359)
  have ge_b359 : n0 ≤ b359 := Nat.le_trans Z0 (Nat.le_of_eq g359.symm)
  have S363 : Safe Z own_EL s.vm h359 b359 := (Safe.ext E359 CR0.1 (Safe.new (Nat.le_of_eq g359.symm)))
  have F364 : Fld Z h359 b359 "java/lang/String" "coder" "B" (.int 0) := D359 (Or.inr (own_k hw 62 rfl)) (ty := .byte) (by decide)
  have F365 : Fld Z h359 b359 "java/lang/String" "value" "[B" .null := D359 (Or.inr (own_k hw 64 rfl)) (ty := (.array .byte)) (by decide)
  refine own_st (T' := T359) (g' := (mkF m 23 #[.val (.ref cs), .val (.int 1)] [(.ref b359)])) st359 ?_
  refine own_st (T' := T359) (g' := (mkF m 25 #[.val (.ref cs), .val (.int 1)] [(.int 1), (.ref b359), (.ref b359)])) (fun _ kt => XS.dup X359.here hx rfl (hb hby d4_23) rfl rfl (XS.iconst X359.here hx rfl (hb hby d4_24) kt)) ?_
  obtain ⟨T366, h366, k366, X366, e366, E366, A366, st366⟩ := newP X359 hx hZ (aty := .char) (own_k hw 0 rfl) e359 (g := (mkF m 25 #[.val (.ref cs), .val (.int 1)] [(.int 1), (.ref b359), (.ref b359)])) rfl (hb hby d4_25) rfl (by decide) (cap := 1) (by decide) (by decide) (by decide) (by decide)
  obtain ⟨b366, g366⟩ : ∃ z, z = h359.size := ⟨_, rfl⟩
  rw [← g366] at A366 st366
  have F367 : Arv Z h359 cs kc .char (8 : Int32) [(.int x0), (.int x1), (.int x2), (.int x3), (.int x4), (.int x5), (.int x6), (.int x7)] (.int 0) := (pr4.ext E359)
  have ne368 : cs ≠ b366 := by rw [g366]; exact Nat.ne_of_lt F367.lt
  have ne369 : b359 ≠ b366 := by rw [g366]; exact Nat.ne_of_lt A359.lt
  have CR370 : CHr Z own_EL s.vm h0 s.vm h366 := CHr.trans CR361 (CHr.ext E366 CR361.1)
  have Z371 : n0 ≤ h366.size := Nat.le_trans Z362 E366.1
  have hk371 := Nat.le_trans hk362 E366.1
  have K371 : Keep h0 h366 [] := (Keep.ext K362 E366)
  have ge_b366 : n0 ≤ b366 := Nat.le_trans Z362 (Nat.le_of_eq g366.symm)
  have S372 : Safe Z own_EL s.vm h366 b366 := (Safe.ext E366 CR361.1 (Safe.new (Nat.le_of_eq g366.symm)))
  have F373 : Arv Z h366 b366 k366 .char (1 : Int32) [(.int 0)] (.int 0) := (Arv.new A366 (by decide)).pad (pad_rep [] (.int 0) 1)
  refine own_st (T' := T366) (g' := (mkF m 27 #[.val (.ref cs), .val (.int 1)] [(.ref b366), (.ref b359), (.ref b359)])) st366 ?_
  refine own_st (T' := T366) (g' := (mkF m 31 #[.val (.ref cs), .val (.int 1)] [(.int 0), (.ref cs), (.int 0), (.ref b366), (.ref b366), (.ref b359), (.ref b359)])) (fun _ kt => XS.dup X366.here hx rfl (hb hby d4_27) rfl rfl (XS.iconst X366.here hx rfl (hb hby d4_28) (XS.aloadN X366.here hx rfl (hb hby d4_29) rfl rfl (XS.iconst X366.here hx rfl (hb hby d4_30) kt)))) ?_
  have F374 : Arv Z h366 cs kc .char (8 : Int32) [(.int x0), (.int x1), (.int x2), (.int x3), (.int x4), (.int x5), (.int x6), (.int x7)] (.int 0) := (F367.ext E366)
  refine own_st (T' := T366) (g' := (mkF m 32 #[.val (.ref cs), .val (.int 1)] [(.int x0), (.int 0), (.ref b366), (.ref b366), (.ref b359), (.ref b359)])) (own_cal X366 hx hZ e366 F374 ⟨by decide, by decide⟩ rfl (g := (mkF m 31 #[.val (.ref cs), .val (.int 1)] [(.int 0), (.ref cs), (.int 0), (.ref b366), (.ref b366), (.ref b359), (.ref b359)])) rfl rfl (hb hby d4_31)) ?_
  obtain ⟨T375, h375, X375, e375, W375, V375, st375⟩ := own_cst X366 hx hZ e366 F373 ⟨by decide, by decide⟩ (i := 0) rfl (by simp) (y := x0) pr5.2.2 (g := (mkF m 32 #[.val (.ref cs), .val (.int 1)] [(.int x0), (.int 0), (.ref b366), (.ref b366), (.ref b359), (.ref b359)])) rfl rfl (hb hby d4_32)
  have N375 := Fr.snoc X375 N0 ge_b366
  have CR376 : CHr Z own_EL s.vm h0 s.vm h375 := CHr.trans CR370 (CHr.wr W375 S372 CR370.1)
  have Z377 : n0 ≤ h375.size := Nat.le_trans Z371 (Nat.le_of_eq (Wr.size W375).symm)
  have hk377 := Nat.le_trans hk371 (Nat.le_of_eq (Wr.size W375).symm)
  have K377 : Keep h0 h375 [] := (Keep.wr K371 W375 (Or.inr (Nat.le_trans K362.1 (Nat.le_of_eq g366.symm))))
  have F378 : Arv Z h375 b366 k366 .char (1 : Int32) [(.int x0)] (.int 0) := V375
  refine own_st (T' := T375) (g' := (mkF m 33 #[.val (.ref cs), .val (.int 1)] [(.ref b366), (.ref b359), (.ref b359)])) st375 ?_
  have F379 : Exa Z h375 b359 "java/lang/String" := (Exa.wr W375 (Exa.ext E366 A359))
  have F380 : Fld Z h375 b359 "java/lang/String" "value" "[B" .null := (Fld.other W375 (Fld.ext E366 F365) (Or.inl ne369))
  have F381 : Fld Z h375 b359 "java/lang/String" "coder" "B" (.int 0) := (Fld.other W375 (Fld.ext E366 F364) (Or.inl ne369))
  have F382 : Old Z n0 h375 := (Old.wr (Old.ext (Old.ext pr1 E359) E366) W375 ge_b366)
  obtain ⟨_, _, ⟨T383, L383, k383, n383⟩, -, X383, ⟨Lc383, hQ383, l383, y383, z383⟩, st383⟩ := X375.specialBack hx (y := yN5) rfl hown (mvT hZ (own_k hw 39 rfl)) (mvT hZ (own_k hw 40 rfl)) (mvT hZ (own_k hw 41 rfl)) (by decide) (StrChars.Road.backV (W := 1) hZ (own_hws hw) (kI := 4) (own_k hw 38 rfl) (cs := ([x0] : List Int32)) (bs := (([x0] : List Int32)).map (fun c => c.toInt8.toInt32)) (n := 1) ge_b359 Z377 F379 F380 F381 F378 (Sta.ext F382.2 pr2) pr3 rfl rfl (by decide) (by decide) (by intro c hc; simp only [List.mem_cons, List.not_mem_nil, or_false] at hc; rcases hc with rfl <;> first | exact ⟨pr5.1, pr5.2.1⟩) rfl (by decide) (by decide)) (g := (mkF m 33 #[.val (.ref cs), .val (.int 1)] [(.ref b366), (.ref b359), (.ref b359)])) rfl hml.symm (Steps.refl _) (a := b359) (argsL := [(.ref b366)]) (rest := [(.ref b359)]) (lenOf own_pd12 rfl) rfl (own_w0 rfl rfl) (hb hby d4_33) (fun _ _ => ⟨rfl, e375, (by decide : 2 + 1 ≤ 6), (by decide : 5 + 1 ≤ 32)⟩)
  dsimp only [Pt.U, Pt.locs, Pt.cells, Pt.slots] at X383 l383 y383 z383 st383 hQ383
  subst l383 y383 z383
  obtain ⟨rfl, N383, K383_, gE383, gC383, t383, kb383, gt383, hz383, ht383, gV383, gA383⟩ := hQ383
  have N384 := Fr.app N375 N383
  have F385 : Safe Z own_EL s.vm h375 b359 := (Safe.wr W375 S372 CR370.1 (Safe.ext E366 CR361.1 S363))
  have CR386 : CHr Z own_EL s.vm h0 s.vm T383.heap := CHr.trans CR376 (CHr.keep K383_ (sfS F385 sf0) CR376.1)
  have Z387 : n0 ≤ T383.heap.size := Nat.le_trans Z377 K383_.1
  have hk387 := Nat.le_trans hk377 K383_.1
  have K387 : Keep h0 T383.heap [] := (Keep.trans K377 K383_ (allS (Or.inr (Nat.le_trans K0.1 (Nat.le_of_eq g359.symm))) all0))
  have F388 : Arv Z h375 cs kc .char (8 : Int32) [(.int x0), (.int x1), (.int x2), (.int x3), (.int x4), (.int x5), (.int x6), (.int x7)] (.int 0) := (Arv.other F374 W375 ne368)
  have ne389 : cs ≠ t383 := Nat.ne_of_lt (Nat.lt_of_lt_of_le F388.lt hz383)
  have ne390 : b359 ≠ t383 := Nat.ne_of_lt (Nat.lt_of_lt_of_le F379.lt hz383)
  have ne391 : b366 ≠ t383 := Nat.ne_of_lt (Nat.lt_of_lt_of_le F378.lt hz383)
  refine own_tr (T' := T383) (g' := (mkF m 36 #[.val (.ref cs), .val (.int 1)] [(.ref b359)])) st383 ?_
  obtain ⟨fs, hr, hrun, hended, hE⟩ := Stand.leaveW X383 hS hk387 (v := some (.ref b359)) (fun h => by rw [Bd.returns] at h; cases h)
  refine own_end (own_retA X383 hx Bd.returns rfl rfl rfl (hb hby d4_36) hr) ⟨_, hrun, hended, _, _, rfl, ?_, (by rw [hh]; show CHr Z own_EL s.vm h0 T383.vm T383.heap; exact CHr.trans CR386 (CHv.at X383 hZ (own_EW hw) CR386.1)), ⟨hE.1, hE.2.1, hE.2.2.1, hE.2.2.2.mono (by decide) (by decide)⟩⟩
  show own_s1Q Z _ _ _ _ _ _ _ _ _ _ _ h0 n0 _ T383.heap _
  show own_s1Q Z _ _ _ _ _ _ _ _ _ _ _ h0 n0 _ T383.heap _
  exact ⟨b359, t383, kb383, rfl, N384, K387, gE383, gC383, gV383, gA383, (Nat.le_trans K0.1 (Nat.le_of_eq g359.symm))⟩
theorem d4_37 : decode method_4_code 37 = .ok (.iload_n 1, 1) := by decide +kernel
theorem d4_38 : decode method_4_code 38 = .ok (.iconst 2, 1) := by decide +kernel
theorem d4_39 : decode method_4_code 39 = .ok (.if_icmp .ne 26, 3) := by decide +kernel
theorem d4_42 : decode method_4_code 42 = .ok (.new 37, 3) := by decide +kernel
theorem d4_45 : decode method_4_code 45 = .ok (.dup, 1) := by decide +kernel
theorem d4_46 : decode method_4_code 46 = .ok (.iconst 2, 1) := by decide +kernel
theorem d4_47 : decode method_4_code 47 = .ok (.newarray .char, 2) := by decide +kernel
theorem d4_49 : decode method_4_code 49 = .ok (.dup, 1) := by decide +kernel
theorem d4_50 : decode method_4_code 50 = .ok (.iconst 0, 1) := by decide +kernel
theorem d4_51 : decode method_4_code 51 = .ok (.aload_n 0, 1) := by decide +kernel
theorem d4_52 : decode method_4_code 52 = .ok (.iconst 0, 1) := by decide +kernel
theorem d4_53 : decode method_4_code 53 = .ok (.caload, 1) := by decide +kernel
theorem d4_54 : decode method_4_code 54 = .ok (.castore, 1) := by decide +kernel
theorem d4_55 : decode method_4_code 55 = .ok (.dup, 1) := by decide +kernel
theorem d4_56 : decode method_4_code 56 = .ok (.iconst 1, 1) := by decide +kernel
theorem d4_57 : decode method_4_code 57 = .ok (.aload_n 0, 1) := by decide +kernel
theorem d4_58 : decode method_4_code 58 = .ok (.iconst 1, 1) := by decide +kernel
theorem d4_59 : decode method_4_code 59 = .ok (.caload, 1) := by decide +kernel
theorem d4_60 : decode method_4_code 60 = .ok (.castore, 1) := by decide +kernel
theorem d4_61 : decode method_4_code 61 = .ok (.invokespecial 46, 3) := by decide +kernel
theorem d4_64 : decode method_4_code 64 = .ok (.areturn, 1) := by decide +kernel
def own_s2Q (Z : State) (cs : Addr) (kc : ClassId) (zc : Int32) (x0 : Int32) (x1 : Int32) (x2 : Int32) (x3 : Int32) (x4 : Int32) (x5 : Int32) (x6 : Int32) (x7 : Int32) (h0 : Heap) (n0 : Nat) (v : Option Value) (h : Heap) (L : List Loc) : Prop := ∃ (y : Addr), ∃ (t : Addr), ∃ (ky : ClassId), v = some (.ref y) ∧ Fr n0 L ∧ Keep h0 h [] ∧ (Exa Z h y "java/lang/String") ∧ (Fld Z h y "java/lang/String" "coder" "B" (.int 0)) ∧ (Fld Z h y "java/lang/String" "value" "[B" (.ref t)) ∧ (Arv Z h t ky .byte (2 : Int32) [(.int x0.toInt8.toInt32), (.int x1.toInt8.toInt32)] (.int 0)) ∧ (h0.size ≤ y)
abbrev own_s2R : Room := { frames := 5, cells := 6, slots := 32, locals := 160 }
theorem own_s2 (l : Launch) (Z : State) (a0 : Array Value) (hw : ∀ d ∈ tables_1, d.before a0 Z = true) (ws : List Jvm.Cond) (cs : Addr) (kc : ClassId) (zc : Int32) (x0 : Int32) (x1 : Int32) (x2 : Int32) (x3 : Int32) (x4 : Int32) (x5 : Int32) (x6 : Int32) (x7 : Int32) (h0 : Heap) (n0 : Nat) (Z0 : n0 ≤ h0.size) (pr1 : Old Z n0 h0) (pr2 : Sta Z Z.heap "java/lang/String" "COMPACT_STRINGS" "Z" (.int zc)) (pr3 : ¬ zc = 0) (pr4 : Arv Z h0 cs kc .char (8 : Int32) [(.int x0), (.int x1), (.int x2), (.int x3), (.int x4), (.int x5), (.int x6), (.int x7)] (.int 0)) (pr5 : own_cc x0) (pr6 : own_cc x1) (pr7 : own_cc x2) (pr8 : own_cc x3) (pr9 : own_cc x4) (pr10 : own_cc x5) (pr11 : own_cc x6) (pr12 : own_cc x7) :
    own_MH own_EL l yN4 method_4_code 2 (some (.object "java/lang/String")) ws own_s2R #[(.ref cs), (.int 2)] Z h0 (own_s2Q Z cs kc zc x0 x1 x2 x3 x4 x5 x6 x7 h0 n0) := by
  refine own_goH (plainFor_of_name own_pn5) (fun m => own_ef4 m cs (2 : Int32) ) ?_
  intro p e s m below meth c s₁ Bd hx hby hml hZ hh hown hnm X0 e0 hS CR0
  have N0 := Fr.nil n0
  have K0 : Keep h0 h0 [] := Keep.refl h0 _
  have hk : h0.size ≤ h0.size := Nat.le_refl _
  refine own_st (T' := s₁) (g' := (mkF m 42 #[.val (.ref cs), .val (.int 2)] [])) (fun _ kt => XS.iloadN X0.here hx rfl (hb hby d4_0) rfl (XS.ifYes X0.here hx rfl (pc0 := 1) (pc' := 15) rfl (hb hby d4_1) rfl (XT.i0_ne_t (by decide)) (by decide) (by decide) (XS.iloadN X0.here hx rfl (hb hby d4_15) rfl (XS.iconst X0.here hx rfl (hb hby d4_16) (XS.icmpYes X0.here hx rfl (pc0 := 17) (pc' := 37) rfl (hb hby d4_17) rfl (XT.ii_ne_t (by decide)) (by decide) (by decide) (XS.iloadN X0.here hx rfl (hb hby d4_37) rfl (XS.iconst X0.here hx rfl (hb hby d4_38) (XS.icmpNo X0.here hx rfl (hb hby d4_39) rfl (XT.ii_ne_f (by decide)) kt)))))))) ?_
  obtain ⟨T392, h392, X392, e392, E392, A392, D392, -, st392⟩ := newO X0 hx hZ hown (own_k hw 37 rfl) (own_k hw 38 rfl) (own_k hw 31 rfl) e0 (g := (mkF m 42 #[.val (.ref cs), .val (.int 2)] [])) rfl (hb hby d4_42) (by decide) (by decide)
  obtain ⟨b392, g392⟩ : ∃ z, z = h0.size := ⟨_, rfl⟩
  rw [← g392] at A392 D392 st392
  have ne393 : cs ≠ b392 := by rw [g392]; exact Nat.ne_of_lt pr4.lt
  have CR394 : CHr Z own_EL s.vm h0 s.vm h392 := CHr.trans CR0 (CHr.ext E392 CR0.1)
  have Z395 : n0 ≤ h392.size := Nat.le_trans Z0 E392.1
  have hk395 := Nat.le_trans hk E392.1
  have K395 : Keep h0 h392 [] := (Keep.ext K0 E392)
  have ge_b392 : n0 ≤ b392 := Nat.le_trans Z0 (Nat.le_of_eq g392.symm)
  have S396 : Safe Z own_EL s.vm h392 b392 := (Safe.ext E392 CR0.1 (Safe.new (Nat.le_of_eq g392.symm)))
  have F397 : Fld Z h392 b392 "java/lang/String" "coder" "B" (.int 0) := D392 (Or.inr (own_k hw 62 rfl)) (ty := .byte) (by decide)
  have F398 : Fld Z h392 b392 "java/lang/String" "value" "[B" .null := D392 (Or.inr (own_k hw 64 rfl)) (ty := (.array .byte)) (by decide)
  refine own_st (T' := T392) (g' := (mkF m 45 #[.val (.ref cs), .val (.int 2)] [(.ref b392)])) st392 ?_
  refine own_st (T' := T392) (g' := (mkF m 47 #[.val (.ref cs), .val (.int 2)] [(.int 2), (.ref b392), (.ref b392)])) (fun _ kt => XS.dup X392.here hx rfl (hb hby d4_45) rfl rfl (XS.iconst X392.here hx rfl (hb hby d4_46) kt)) ?_
  obtain ⟨T399, h399, k399, X399, e399, E399, A399, st399⟩ := newP X392 hx hZ (aty := .char) (own_k hw 0 rfl) e392 (g := (mkF m 47 #[.val (.ref cs), .val (.int 2)] [(.int 2), (.ref b392), (.ref b392)])) rfl (hb hby d4_47) rfl (by decide) (cap := 2) (by decide) (by decide) (by decide) (by decide)
  obtain ⟨b399, g399⟩ : ∃ z, z = h392.size := ⟨_, rfl⟩
  rw [← g399] at A399 st399
  have F400 : Arv Z h392 cs kc .char (8 : Int32) [(.int x0), (.int x1), (.int x2), (.int x3), (.int x4), (.int x5), (.int x6), (.int x7)] (.int 0) := (pr4.ext E392)
  have ne401 : cs ≠ b399 := by rw [g399]; exact Nat.ne_of_lt F400.lt
  have ne402 : b392 ≠ b399 := by rw [g399]; exact Nat.ne_of_lt A392.lt
  have CR403 : CHr Z own_EL s.vm h0 s.vm h399 := CHr.trans CR394 (CHr.ext E399 CR394.1)
  have Z404 : n0 ≤ h399.size := Nat.le_trans Z395 E399.1
  have hk404 := Nat.le_trans hk395 E399.1
  have K404 : Keep h0 h399 [] := (Keep.ext K395 E399)
  have ge_b399 : n0 ≤ b399 := Nat.le_trans Z395 (Nat.le_of_eq g399.symm)
  have S405 : Safe Z own_EL s.vm h399 b399 := (Safe.ext E399 CR394.1 (Safe.new (Nat.le_of_eq g399.symm)))
  have F406 : Arv Z h399 b399 k399 .char (2 : Int32) [(.int 0), (.int 0)] (.int 0) := (Arv.new A399 (by decide)).pad (pad_rep [] (.int 0) 2)
  refine own_st (T' := T399) (g' := (mkF m 49 #[.val (.ref cs), .val (.int 2)] [(.ref b399), (.ref b392), (.ref b392)])) st399 ?_
  refine own_st (T' := T399) (g' := (mkF m 53 #[.val (.ref cs), .val (.int 2)] [(.int 0), (.ref cs), (.int 0), (.ref b399), (.ref b399), (.ref b392), (.ref b392)])) (fun _ kt => XS.dup X399.here hx rfl (hb hby d4_49) rfl rfl (XS.iconst X399.here hx rfl (hb hby d4_50) (XS.aloadN X399.here hx rfl (hb hby d4_51) rfl rfl (XS.iconst X399.here hx rfl (hb hby d4_52) kt)))) ?_
  have F407 : Arv Z h399 cs kc .char (8 : Int32) [(.int x0), (.int x1), (.int x2), (.int x3), (.int x4), (.int x5), (.int x6), (.int x7)] (.int 0) := (F400.ext E399)
  refine own_st (T' := T399) (g' := (mkF m 54 #[.val (.ref cs), .val (.int 2)] [(.int x0), (.int 0), (.ref b399), (.ref b399), (.ref b392), (.ref b392)])) (own_cal X399 hx hZ e399 F407 ⟨by decide, by decide⟩ rfl (g := (mkF m 53 #[.val (.ref cs), .val (.int 2)] [(.int 0), (.ref cs), (.int 0), (.ref b399), (.ref b399), (.ref b392), (.ref b392)])) rfl rfl (hb hby d4_53)) ?_
  obtain ⟨T408, h408, X408, e408, W408, V408, st408⟩ := own_cst X399 hx hZ e399 F406 ⟨by decide, by decide⟩ (i := 0) rfl (by simp) (y := x0) pr5.2.2 (g := (mkF m 54 #[.val (.ref cs), .val (.int 2)] [(.int x0), (.int 0), (.ref b399), (.ref b399), (.ref b392), (.ref b392)])) rfl rfl (hb hby d4_54)
  have N408 := Fr.snoc X408 N0 ge_b399
  have CR409 : CHr Z own_EL s.vm h0 s.vm h408 := CHr.trans CR403 (CHr.wr W408 S405 CR403.1)
  have Z410 : n0 ≤ h408.size := Nat.le_trans Z404 (Nat.le_of_eq (Wr.size W408).symm)
  have hk410 := Nat.le_trans hk404 (Nat.le_of_eq (Wr.size W408).symm)
  have K410 : Keep h0 h408 [] := (Keep.wr K404 W408 (Or.inr (Nat.le_trans K395.1 (Nat.le_of_eq g399.symm))))
  have F411 : Arv Z h408 b399 k399 .char (2 : Int32) [(.int x0), (.int 0)] (.int 0) := V408
  refine own_st (T' := T408) (g' := (mkF m 55 #[.val (.ref cs), .val (.int 2)] [(.ref b399), (.ref b392), (.ref b392)])) st408 ?_
  refine own_st (T' := T408) (g' := (mkF m 59 #[.val (.ref cs), .val (.int 2)] [(.int 1), (.ref cs), (.int 1), (.ref b399), (.ref b399), (.ref b392), (.ref b392)])) (fun _ kt => XS.dup X408.here hx rfl (hb hby d4_55) rfl rfl (XS.iconst X408.here hx rfl (hb hby d4_56) (XS.aloadN X408.here hx rfl (hb hby d4_57) rfl rfl (XS.iconst X408.here hx rfl (hb hby d4_58) kt)))) ?_
  have F412 : Arv Z h408 cs kc .char (8 : Int32) [(.int x0), (.int x1), (.int x2), (.int x3), (.int x4), (.int x5), (.int x6), (.int x7)] (.int 0) := (Arv.other F407 W408 ne401)
  refine own_st (T' := T408) (g' := (mkF m 60 #[.val (.ref cs), .val (.int 2)] [(.int x1), (.int 1), (.ref b399), (.ref b399), (.ref b392), (.ref b392)])) (own_cal X408 hx hZ e408 F412 ⟨by decide, by decide⟩ rfl (g := (mkF m 59 #[.val (.ref cs), .val (.int 2)] [(.int 1), (.ref cs), (.int 1), (.ref b399), (.ref b399), (.ref b392), (.ref b392)])) rfl rfl (hb hby d4_59)) ?_
  obtain ⟨T413, h413, X413, e413, W413, V413, st413⟩ := own_cst X408 hx hZ e408 F411 ⟨by decide, by decide⟩ (i := 1) rfl (by simp) (y := x1) pr6.2.2 (g := (mkF m 60 #[.val (.ref cs), .val (.int 2)] [(.int x1), (.int 1), (.ref b399), (.ref b399), (.ref b392), (.ref b392)])) rfl rfl (hb hby d4_60)
  have N413 := Fr.snoc X413 N408 ge_b399
  have F414 : Safe Z own_EL s.vm h408 b399 := (Safe.wr W408 S405 CR403.1 S405)
  have CR415 : CHr Z own_EL s.vm h0 s.vm h413 := CHr.trans CR409 (CHr.wr W413 F414 CR409.1)
  have Z416 : n0 ≤ h413.size := Nat.le_trans Z410 (Nat.le_of_eq (Wr.size W413).symm)
  have hk416 := Nat.le_trans hk410 (Nat.le_of_eq (Wr.size W413).symm)
  have K416 : Keep h0 h413 [] := (Keep.wr K410 W413 (Or.inr (Nat.le_trans K395.1 (Nat.le_of_eq g399.symm))))
  have F417 : Arv Z h413 b399 k399 .char (2 : Int32) [(.int x0), (.int x1)] (.int 0) := V413
  refine own_st (T' := T413) (g' := (mkF m 61 #[.val (.ref cs), .val (.int 2)] [(.ref b399), (.ref b392), (.ref b392)])) st413 ?_
  have F418 : Exa Z h413 b392 "java/lang/String" := (Exa.wr W413 (Exa.wr W408 (Exa.ext E399 A392)))
  have F419 : Fld Z h413 b392 "java/lang/String" "value" "[B" .null := (Fld.other W413 (Fld.other W408 (Fld.ext E399 F398) (Or.inl ne402)) (Or.inl ne402))
  have F420 : Fld Z h413 b392 "java/lang/String" "coder" "B" (.int 0) := (Fld.other W413 (Fld.other W408 (Fld.ext E399 F397) (Or.inl ne402)) (Or.inl ne402))
  have F421 : Old Z n0 h413 := (Old.wr (Old.wr (Old.ext (Old.ext pr1 E392) E399) W408 ge_b399) W413 ge_b399)
  obtain ⟨_, _, ⟨T422, L422, k422, n422⟩, -, X422, ⟨Lc422, hQ422, l422, y422, z422⟩, st422⟩ := X413.specialBack hx (y := yN5) rfl hown (mvT hZ (own_k hw 39 rfl)) (mvT hZ (own_k hw 40 rfl)) (mvT hZ (own_k hw 41 rfl)) (by decide) (StrChars.Road.backV (W := 1) hZ (own_hws hw) (kI := 4) (own_k hw 38 rfl) (cs := ([x0, x1] : List Int32)) (bs := (([x0, x1] : List Int32)).map (fun c => c.toInt8.toInt32)) (n := 2) ge_b392 Z416 F418 F419 F420 F417 (Sta.ext F421.2 pr2) pr3 rfl rfl (by decide) (by decide) (by intro c hc; simp only [List.mem_cons, List.not_mem_nil, or_false] at hc; rcases hc with rfl | rfl <;> first | exact ⟨pr5.1, pr5.2.1⟩ | exact ⟨pr6.1, pr6.2.1⟩) rfl (by decide) (by decide)) (g := (mkF m 61 #[.val (.ref cs), .val (.int 2)] [(.ref b399), (.ref b392), (.ref b392)])) rfl hml.symm (Steps.refl _) (a := b392) (argsL := [(.ref b399)]) (rest := [(.ref b392)]) (lenOf own_pd12 rfl) rfl (own_w0 rfl rfl) (hb hby d4_61) (fun _ _ => ⟨rfl, e413, (by decide : 2 + 1 ≤ 6), (by decide : 6 + 2 ≤ 32)⟩)
  dsimp only [Pt.U, Pt.locs, Pt.cells, Pt.slots] at X422 l422 y422 z422 st422 hQ422
  subst l422 y422 z422
  obtain ⟨rfl, N422, K422_, gE422, gC422, t422, kb422, gt422, hz422, ht422, gV422, gA422⟩ := hQ422
  have N423 := Fr.app N413 N422
  have F424 : Safe Z own_EL s.vm h413 b392 := (Safe.wr W413 F414 CR409.1 (Safe.wr W408 S405 CR403.1 (Safe.ext E399 CR394.1 S396)))
  have CR425 : CHr Z own_EL s.vm h0 s.vm T422.heap := CHr.trans CR415 (CHr.keep K422_ (sfS F424 sf0) CR415.1)
  have Z426 : n0 ≤ T422.heap.size := Nat.le_trans Z416 K422_.1
  have hk426 := Nat.le_trans hk416 K422_.1
  have K426 : Keep h0 T422.heap [] := (Keep.trans K416 K422_ (allS (Or.inr (Nat.le_trans K0.1 (Nat.le_of_eq g392.symm))) all0))
  have F427 : Arv Z h413 cs kc .char (8 : Int32) [(.int x0), (.int x1), (.int x2), (.int x3), (.int x4), (.int x5), (.int x6), (.int x7)] (.int 0) := (Arv.other F412 W413 ne401)
  have ne428 : cs ≠ t422 := Nat.ne_of_lt (Nat.lt_of_lt_of_le F427.lt hz422)
  have ne429 : b392 ≠ t422 := Nat.ne_of_lt (Nat.lt_of_lt_of_le F418.lt hz422)
  have ne430 : b399 ≠ t422 := Nat.ne_of_lt (Nat.lt_of_lt_of_le F417.lt hz422)
  refine own_tr (T' := T422) (g' := (mkF m 64 #[.val (.ref cs), .val (.int 2)] [(.ref b392)])) st422 ?_
  obtain ⟨fs, hr, hrun, hended, hE⟩ := Stand.leaveW X422 hS hk426 (v := some (.ref b392)) (fun h => by rw [Bd.returns] at h; cases h)
  refine own_end (own_retA X422 hx Bd.returns rfl rfl rfl (hb hby d4_64) hr) ⟨_, hrun, hended, _, _, rfl, ?_, (by rw [hh]; show CHr Z own_EL s.vm h0 T422.vm T422.heap; exact CHr.trans CR425 (CHv.at X422 hZ (own_EW hw) CR425.1)), ⟨hE.1, hE.2.1, hE.2.2.1, hE.2.2.2.mono (by decide) (by decide)⟩⟩
  show own_s2Q Z _ _ _ _ _ _ _ _ _ _ _ h0 n0 _ T422.heap _
  show own_s2Q Z _ _ _ _ _ _ _ _ _ _ _ h0 n0 _ T422.heap _
  exact ⟨b392, t422, kb422, rfl, N423, K426, gE422, gC422, gV422, gA422, (Nat.le_trans K0.1 (Nat.le_of_eq g392.symm))⟩
theorem d4_65 : decode method_4_code 65 = .ok (.iload_n 1, 1) := by decide +kernel
theorem d4_66 : decode method_4_code 66 = .ok (.iconst 3, 1) := by decide +kernel
theorem d4_67 : decode method_4_code 67 = .ok (.if_icmp .ne 32, 3) := by decide +kernel
theorem d4_70 : decode method_4_code 70 = .ok (.new 37, 3) := by decide +kernel
theorem d4_73 : decode method_4_code 73 = .ok (.dup, 1) := by decide +kernel
theorem d4_74 : decode method_4_code 74 = .ok (.iconst 3, 1) := by decide +kernel
theorem d4_75 : decode method_4_code 75 = .ok (.newarray .char, 2) := by decide +kernel
theorem d4_77 : decode method_4_code 77 = .ok (.dup, 1) := by decide +kernel
theorem d4_78 : decode method_4_code 78 = .ok (.iconst 0, 1) := by decide +kernel
theorem d4_79 : decode method_4_code 79 = .ok (.aload_n 0, 1) := by decide +kernel
theorem d4_80 : decode method_4_code 80 = .ok (.iconst 0, 1) := by decide +kernel
theorem d4_81 : decode method_4_code 81 = .ok (.caload, 1) := by decide +kernel
theorem d4_82 : decode method_4_code 82 = .ok (.castore, 1) := by decide +kernel
theorem d4_83 : decode method_4_code 83 = .ok (.dup, 1) := by decide +kernel
theorem d4_84 : decode method_4_code 84 = .ok (.iconst 1, 1) := by decide +kernel
theorem d4_85 : decode method_4_code 85 = .ok (.aload_n 0, 1) := by decide +kernel
theorem d4_86 : decode method_4_code 86 = .ok (.iconst 1, 1) := by decide +kernel
theorem d4_87 : decode method_4_code 87 = .ok (.caload, 1) := by decide +kernel
theorem d4_88 : decode method_4_code 88 = .ok (.castore, 1) := by decide +kernel
theorem d4_89 : decode method_4_code 89 = .ok (.dup, 1) := by decide +kernel
theorem d4_90 : decode method_4_code 90 = .ok (.iconst 2, 1) := by decide +kernel
theorem d4_91 : decode method_4_code 91 = .ok (.aload_n 0, 1) := by decide +kernel
theorem d4_92 : decode method_4_code 92 = .ok (.iconst 2, 1) := by decide +kernel
theorem d4_93 : decode method_4_code 93 = .ok (.caload, 1) := by decide +kernel
theorem d4_94 : decode method_4_code 94 = .ok (.castore, 1) := by decide +kernel
theorem d4_95 : decode method_4_code 95 = .ok (.invokespecial 46, 3) := by decide +kernel
theorem d4_98 : decode method_4_code 98 = .ok (.areturn, 1) := by decide +kernel
def own_s3Q (Z : State) (cs : Addr) (kc : ClassId) (zc : Int32) (x0 : Int32) (x1 : Int32) (x2 : Int32) (x3 : Int32) (x4 : Int32) (x5 : Int32) (x6 : Int32) (x7 : Int32) (h0 : Heap) (n0 : Nat) (v : Option Value) (h : Heap) (L : List Loc) : Prop := ∃ (y : Addr), ∃ (t : Addr), ∃ (ky : ClassId), v = some (.ref y) ∧ Fr n0 L ∧ Keep h0 h [] ∧ (Exa Z h y "java/lang/String") ∧ (Fld Z h y "java/lang/String" "coder" "B" (.int 0)) ∧ (Fld Z h y "java/lang/String" "value" "[B" (.ref t)) ∧ (Arv Z h t ky .byte (3 : Int32) [(.int x0.toInt8.toInt32), (.int x1.toInt8.toInt32), (.int x2.toInt8.toInt32)] (.int 0)) ∧ (h0.size ≤ y)
abbrev own_s3R : Room := { frames := 5, cells := 6, slots := 32, locals := 160 }
theorem own_s3 (l : Launch) (Z : State) (a0 : Array Value) (hw : ∀ d ∈ tables_1, d.before a0 Z = true) (ws : List Jvm.Cond) (cs : Addr) (kc : ClassId) (zc : Int32) (x0 : Int32) (x1 : Int32) (x2 : Int32) (x3 : Int32) (x4 : Int32) (x5 : Int32) (x6 : Int32) (x7 : Int32) (h0 : Heap) (n0 : Nat) (Z0 : n0 ≤ h0.size) (pr1 : Old Z n0 h0) (pr2 : Sta Z Z.heap "java/lang/String" "COMPACT_STRINGS" "Z" (.int zc)) (pr3 : ¬ zc = 0) (pr4 : Arv Z h0 cs kc .char (8 : Int32) [(.int x0), (.int x1), (.int x2), (.int x3), (.int x4), (.int x5), (.int x6), (.int x7)] (.int 0)) (pr5 : own_cc x0) (pr6 : own_cc x1) (pr7 : own_cc x2) (pr8 : own_cc x3) (pr9 : own_cc x4) (pr10 : own_cc x5) (pr11 : own_cc x6) (pr12 : own_cc x7) :
    own_MH own_EL l yN4 method_4_code 2 (some (.object "java/lang/String")) ws own_s3R #[(.ref cs), (.int 3)] Z h0 (own_s3Q Z cs kc zc x0 x1 x2 x3 x4 x5 x6 x7 h0 n0) := by
  refine own_goH (plainFor_of_name own_pn5) (fun m => own_ef4 m cs (3 : Int32) ) ?_
  intro p e s m below meth c s₁ Bd hx hby hml hZ hh hown hnm X0 e0 hS CR0
  have N0 := Fr.nil n0
  have K0 : Keep h0 h0 [] := Keep.refl h0 _
  have hk : h0.size ≤ h0.size := Nat.le_refl _
  refine own_st (T' := s₁) (g' := (mkF m 70 #[.val (.ref cs), .val (.int 3)] [])) (fun _ kt => XS.iloadN X0.here hx rfl (hb hby d4_0) rfl (XS.ifYes X0.here hx rfl (pc0 := 1) (pc' := 15) rfl (hb hby d4_1) rfl (XT.i0_ne_t (by decide)) (by decide) (by decide) (XS.iloadN X0.here hx rfl (hb hby d4_15) rfl (XS.iconst X0.here hx rfl (hb hby d4_16) (XS.icmpYes X0.here hx rfl (pc0 := 17) (pc' := 37) rfl (hb hby d4_17) rfl (XT.ii_ne_t (by decide)) (by decide) (by decide) (XS.iloadN X0.here hx rfl (hb hby d4_37) rfl (XS.iconst X0.here hx rfl (hb hby d4_38) (XS.icmpYes X0.here hx rfl (pc0 := 39) (pc' := 65) rfl (hb hby d4_39) rfl (XT.ii_ne_t (by decide)) (by decide) (by decide) (XS.iloadN X0.here hx rfl (hb hby d4_65) rfl (XS.iconst X0.here hx rfl (hb hby d4_66) (XS.icmpNo X0.here hx rfl (hb hby d4_67) rfl (XT.ii_ne_f (by decide)) kt))))))))))) ?_
  obtain ⟨T431, h431, X431, e431, E431, A431, D431, -, st431⟩ := newO X0 hx hZ hown (own_k hw 37 rfl) (own_k hw 38 rfl) (own_k hw 31 rfl) e0 (g := (mkF m 70 #[.val (.ref cs), .val (.int 3)] [])) rfl (hb hby d4_70) (by decide) (by decide)
  obtain ⟨b431, g431⟩ : ∃ z, z = h0.size := ⟨_, rfl⟩
  rw [← g431] at A431 D431 st431
  have ne432 : cs ≠ b431 := by rw [g431]; exact Nat.ne_of_lt pr4.lt
  have CR433 : CHr Z own_EL s.vm h0 s.vm h431 := CHr.trans CR0 (CHr.ext E431 CR0.1)
  have Z434 : n0 ≤ h431.size := Nat.le_trans Z0 E431.1
  have hk434 := Nat.le_trans hk E431.1
  have K434 : Keep h0 h431 [] := (Keep.ext K0 E431)
  have ge_b431 : n0 ≤ b431 := Nat.le_trans Z0 (Nat.le_of_eq g431.symm)
  have S435 : Safe Z own_EL s.vm h431 b431 := (Safe.ext E431 CR0.1 (Safe.new (Nat.le_of_eq g431.symm)))
  have F436 : Fld Z h431 b431 "java/lang/String" "coder" "B" (.int 0) := D431 (Or.inr (own_k hw 62 rfl)) (ty := .byte) (by decide)
  have F437 : Fld Z h431 b431 "java/lang/String" "value" "[B" .null := D431 (Or.inr (own_k hw 64 rfl)) (ty := (.array .byte)) (by decide)
  refine own_st (T' := T431) (g' := (mkF m 73 #[.val (.ref cs), .val (.int 3)] [(.ref b431)])) st431 ?_
  refine own_st (T' := T431) (g' := (mkF m 75 #[.val (.ref cs), .val (.int 3)] [(.int 3), (.ref b431), (.ref b431)])) (fun _ kt => XS.dup X431.here hx rfl (hb hby d4_73) rfl rfl (XS.iconst X431.here hx rfl (hb hby d4_74) kt)) ?_
  obtain ⟨T438, h438, k438, X438, e438, E438, A438, st438⟩ := newP X431 hx hZ (aty := .char) (own_k hw 0 rfl) e431 (g := (mkF m 75 #[.val (.ref cs), .val (.int 3)] [(.int 3), (.ref b431), (.ref b431)])) rfl (hb hby d4_75) rfl (by decide) (cap := 3) (by decide) (by decide) (by decide) (by decide)
  obtain ⟨b438, g438⟩ : ∃ z, z = h431.size := ⟨_, rfl⟩
  rw [← g438] at A438 st438
  have F439 : Arv Z h431 cs kc .char (8 : Int32) [(.int x0), (.int x1), (.int x2), (.int x3), (.int x4), (.int x5), (.int x6), (.int x7)] (.int 0) := (pr4.ext E431)
  have ne440 : cs ≠ b438 := by rw [g438]; exact Nat.ne_of_lt F439.lt
  have ne441 : b431 ≠ b438 := by rw [g438]; exact Nat.ne_of_lt A431.lt
  have CR442 : CHr Z own_EL s.vm h0 s.vm h438 := CHr.trans CR433 (CHr.ext E438 CR433.1)
  have Z443 : n0 ≤ h438.size := Nat.le_trans Z434 E438.1
  have hk443 := Nat.le_trans hk434 E438.1
  have K443 : Keep h0 h438 [] := (Keep.ext K434 E438)
  have ge_b438 : n0 ≤ b438 := Nat.le_trans Z434 (Nat.le_of_eq g438.symm)
  have S444 : Safe Z own_EL s.vm h438 b438 := (Safe.ext E438 CR433.1 (Safe.new (Nat.le_of_eq g438.symm)))
  have F445 : Arv Z h438 b438 k438 .char (3 : Int32) [(.int 0), (.int 0), (.int 0)] (.int 0) := (Arv.new A438 (by decide)).pad (pad_rep [] (.int 0) 3)
  refine own_st (T' := T438) (g' := (mkF m 77 #[.val (.ref cs), .val (.int 3)] [(.ref b438), (.ref b431), (.ref b431)])) st438 ?_
  refine own_st (T' := T438) (g' := (mkF m 81 #[.val (.ref cs), .val (.int 3)] [(.int 0), (.ref cs), (.int 0), (.ref b438), (.ref b438), (.ref b431), (.ref b431)])) (fun _ kt => XS.dup X438.here hx rfl (hb hby d4_77) rfl rfl (XS.iconst X438.here hx rfl (hb hby d4_78) (XS.aloadN X438.here hx rfl (hb hby d4_79) rfl rfl (XS.iconst X438.here hx rfl (hb hby d4_80) kt)))) ?_
  have F446 : Arv Z h438 cs kc .char (8 : Int32) [(.int x0), (.int x1), (.int x2), (.int x3), (.int x4), (.int x5), (.int x6), (.int x7)] (.int 0) := (F439.ext E438)
  refine own_st (T' := T438) (g' := (mkF m 82 #[.val (.ref cs), .val (.int 3)] [(.int x0), (.int 0), (.ref b438), (.ref b438), (.ref b431), (.ref b431)])) (own_cal X438 hx hZ e438 F446 ⟨by decide, by decide⟩ rfl (g := (mkF m 81 #[.val (.ref cs), .val (.int 3)] [(.int 0), (.ref cs), (.int 0), (.ref b438), (.ref b438), (.ref b431), (.ref b431)])) rfl rfl (hb hby d4_81)) ?_
  obtain ⟨T447, h447, X447, e447, W447, V447, st447⟩ := own_cst X438 hx hZ e438 F445 ⟨by decide, by decide⟩ (i := 0) rfl (by simp) (y := x0) pr5.2.2 (g := (mkF m 82 #[.val (.ref cs), .val (.int 3)] [(.int x0), (.int 0), (.ref b438), (.ref b438), (.ref b431), (.ref b431)])) rfl rfl (hb hby d4_82)
  have N447 := Fr.snoc X447 N0 ge_b438
  have CR448 : CHr Z own_EL s.vm h0 s.vm h447 := CHr.trans CR442 (CHr.wr W447 S444 CR442.1)
  have Z449 : n0 ≤ h447.size := Nat.le_trans Z443 (Nat.le_of_eq (Wr.size W447).symm)
  have hk449 := Nat.le_trans hk443 (Nat.le_of_eq (Wr.size W447).symm)
  have K449 : Keep h0 h447 [] := (Keep.wr K443 W447 (Or.inr (Nat.le_trans K434.1 (Nat.le_of_eq g438.symm))))
  have F450 : Arv Z h447 b438 k438 .char (3 : Int32) [(.int x0), (.int 0), (.int 0)] (.int 0) := V447
  refine own_st (T' := T447) (g' := (mkF m 83 #[.val (.ref cs), .val (.int 3)] [(.ref b438), (.ref b431), (.ref b431)])) st447 ?_
  refine own_st (T' := T447) (g' := (mkF m 87 #[.val (.ref cs), .val (.int 3)] [(.int 1), (.ref cs), (.int 1), (.ref b438), (.ref b438), (.ref b431), (.ref b431)])) (fun _ kt => XS.dup X447.here hx rfl (hb hby d4_83) rfl rfl (XS.iconst X447.here hx rfl (hb hby d4_84) (XS.aloadN X447.here hx rfl (hb hby d4_85) rfl rfl (XS.iconst X447.here hx rfl (hb hby d4_86) kt)))) ?_
  have F451 : Arv Z h447 cs kc .char (8 : Int32) [(.int x0), (.int x1), (.int x2), (.int x3), (.int x4), (.int x5), (.int x6), (.int x7)] (.int 0) := (Arv.other F446 W447 ne440)
  refine own_st (T' := T447) (g' := (mkF m 88 #[.val (.ref cs), .val (.int 3)] [(.int x1), (.int 1), (.ref b438), (.ref b438), (.ref b431), (.ref b431)])) (own_cal X447 hx hZ e447 F451 ⟨by decide, by decide⟩ rfl (g := (mkF m 87 #[.val (.ref cs), .val (.int 3)] [(.int 1), (.ref cs), (.int 1), (.ref b438), (.ref b438), (.ref b431), (.ref b431)])) rfl rfl (hb hby d4_87)) ?_
  obtain ⟨T452, h452, X452, e452, W452, V452, st452⟩ := own_cst X447 hx hZ e447 F450 ⟨by decide, by decide⟩ (i := 1) rfl (by simp) (y := x1) pr6.2.2 (g := (mkF m 88 #[.val (.ref cs), .val (.int 3)] [(.int x1), (.int 1), (.ref b438), (.ref b438), (.ref b431), (.ref b431)])) rfl rfl (hb hby d4_88)
  have N452 := Fr.snoc X452 N447 ge_b438
  have F453 : Safe Z own_EL s.vm h447 b438 := (Safe.wr W447 S444 CR442.1 S444)
  have CR454 : CHr Z own_EL s.vm h0 s.vm h452 := CHr.trans CR448 (CHr.wr W452 F453 CR448.1)
  have Z455 : n0 ≤ h452.size := Nat.le_trans Z449 (Nat.le_of_eq (Wr.size W452).symm)
  have hk455 := Nat.le_trans hk449 (Nat.le_of_eq (Wr.size W452).symm)
  have K455 : Keep h0 h452 [] := (Keep.wr K449 W452 (Or.inr (Nat.le_trans K434.1 (Nat.le_of_eq g438.symm))))
  have F456 : Arv Z h452 b438 k438 .char (3 : Int32) [(.int x0), (.int x1), (.int 0)] (.int 0) := V452
  refine own_st (T' := T452) (g' := (mkF m 89 #[.val (.ref cs), .val (.int 3)] [(.ref b438), (.ref b431), (.ref b431)])) st452 ?_
  refine own_st (T' := T452) (g' := (mkF m 93 #[.val (.ref cs), .val (.int 3)] [(.int 2), (.ref cs), (.int 2), (.ref b438), (.ref b438), (.ref b431), (.ref b431)])) (fun _ kt => XS.dup X452.here hx rfl (hb hby d4_89) rfl rfl (XS.iconst X452.here hx rfl (hb hby d4_90) (XS.aloadN X452.here hx rfl (hb hby d4_91) rfl rfl (XS.iconst X452.here hx rfl (hb hby d4_92) kt)))) ?_
  have F457 : Arv Z h452 cs kc .char (8 : Int32) [(.int x0), (.int x1), (.int x2), (.int x3), (.int x4), (.int x5), (.int x6), (.int x7)] (.int 0) := (Arv.other F451 W452 ne440)
  refine own_st (T' := T452) (g' := (mkF m 94 #[.val (.ref cs), .val (.int 3)] [(.int x2), (.int 2), (.ref b438), (.ref b438), (.ref b431), (.ref b431)])) (own_cal X452 hx hZ e452 F457 ⟨by decide, by decide⟩ rfl (g := (mkF m 93 #[.val (.ref cs), .val (.int 3)] [(.int 2), (.ref cs), (.int 2), (.ref b438), (.ref b438), (.ref b431), (.ref b431)])) rfl rfl (hb hby d4_93)) ?_
  obtain ⟨T458, h458, X458, e458, W458, V458, st458⟩ := own_cst X452 hx hZ e452 F456 ⟨by decide, by decide⟩ (i := 2) rfl (by simp) (y := x2) pr7.2.2 (g := (mkF m 94 #[.val (.ref cs), .val (.int 3)] [(.int x2), (.int 2), (.ref b438), (.ref b438), (.ref b431), (.ref b431)])) rfl rfl (hb hby d4_94)
  have N458 := Fr.snoc X458 N452 ge_b438
  have F459 : Safe Z own_EL s.vm h452 b438 := (Safe.wr W452 F453 CR448.1 F453)
  have CR460 : CHr Z own_EL s.vm h0 s.vm h458 := CHr.trans CR454 (CHr.wr W458 F459 CR454.1)
  have Z461 : n0 ≤ h458.size := Nat.le_trans Z455 (Nat.le_of_eq (Wr.size W458).symm)
  have hk461 := Nat.le_trans hk455 (Nat.le_of_eq (Wr.size W458).symm)
  have K461 : Keep h0 h458 [] := (Keep.wr K455 W458 (Or.inr (Nat.le_trans K434.1 (Nat.le_of_eq g438.symm))))
  have F462 : Arv Z h458 b438 k438 .char (3 : Int32) [(.int x0), (.int x1), (.int x2)] (.int 0) := V458
  refine own_st (T' := T458) (g' := (mkF m 95 #[.val (.ref cs), .val (.int 3)] [(.ref b438), (.ref b431), (.ref b431)])) st458 ?_
  have F463 : Exa Z h458 b431 "java/lang/String" := (Exa.wr W458 (Exa.wr W452 (Exa.wr W447 (Exa.ext E438 A431))))
  have F464 : Fld Z h458 b431 "java/lang/String" "value" "[B" .null := (Fld.other W458 (Fld.other W452 (Fld.other W447 (Fld.ext E438 F437) (Or.inl ne441)) (Or.inl ne441)) (Or.inl ne441))
  have F465 : Fld Z h458 b431 "java/lang/String" "coder" "B" (.int 0) := (Fld.other W458 (Fld.other W452 (Fld.other W447 (Fld.ext E438 F436) (Or.inl ne441)) (Or.inl ne441)) (Or.inl ne441))
  have F466 : Old Z n0 h458 := (Old.wr (Old.wr (Old.wr (Old.ext (Old.ext pr1 E431) E438) W447 ge_b438) W452 ge_b438) W458 ge_b438)
  obtain ⟨_, _, ⟨T467, L467, k467, n467⟩, -, X467, ⟨Lc467, hQ467, l467, y467, z467⟩, st467⟩ := X458.specialBack hx (y := yN5) rfl hown (mvT hZ (own_k hw 39 rfl)) (mvT hZ (own_k hw 40 rfl)) (mvT hZ (own_k hw 41 rfl)) (by decide) (StrChars.Road.backV (W := 1) hZ (own_hws hw) (kI := 4) (own_k hw 38 rfl) (cs := ([x0, x1, x2] : List Int32)) (bs := (([x0, x1, x2] : List Int32)).map (fun c => c.toInt8.toInt32)) (n := 3) ge_b431 Z461 F463 F464 F465 F462 (Sta.ext F466.2 pr2) pr3 rfl rfl (by decide) (by decide) (by intro c hc; simp only [List.mem_cons, List.not_mem_nil, or_false] at hc; rcases hc with rfl | rfl | rfl <;> first | exact ⟨pr5.1, pr5.2.1⟩ | exact ⟨pr6.1, pr6.2.1⟩ | exact ⟨pr7.1, pr7.2.1⟩) rfl (by decide) (by decide)) (g := (mkF m 95 #[.val (.ref cs), .val (.int 3)] [(.ref b438), (.ref b431), (.ref b431)])) rfl hml.symm (Steps.refl _) (a := b431) (argsL := [(.ref b438)]) (rest := [(.ref b431)]) (lenOf own_pd12 rfl) rfl (own_w0 rfl rfl) (hb hby d4_95) (fun _ _ => ⟨rfl, e458, (by decide : 2 + 1 ≤ 6), (by decide : 7 + 3 ≤ 32)⟩)
  dsimp only [Pt.U, Pt.locs, Pt.cells, Pt.slots] at X467 l467 y467 z467 st467 hQ467
  subst l467 y467 z467
  obtain ⟨rfl, N467, K467_, gE467, gC467, t467, kb467, gt467, hz467, ht467, gV467, gA467⟩ := hQ467
  have N468 := Fr.app N458 N467
  have F469 : Safe Z own_EL s.vm h458 b431 := (Safe.wr W458 F459 CR454.1 (Safe.wr W452 F453 CR448.1 (Safe.wr W447 S444 CR442.1 (Safe.ext E438 CR433.1 S435))))
  have CR470 : CHr Z own_EL s.vm h0 s.vm T467.heap := CHr.trans CR460 (CHr.keep K467_ (sfS F469 sf0) CR460.1)
  have Z471 : n0 ≤ T467.heap.size := Nat.le_trans Z461 K467_.1
  have hk471 := Nat.le_trans hk461 K467_.1
  have K471 : Keep h0 T467.heap [] := (Keep.trans K461 K467_ (allS (Or.inr (Nat.le_trans K0.1 (Nat.le_of_eq g431.symm))) all0))
  have F472 : Arv Z h458 cs kc .char (8 : Int32) [(.int x0), (.int x1), (.int x2), (.int x3), (.int x4), (.int x5), (.int x6), (.int x7)] (.int 0) := (Arv.other F457 W458 ne440)
  have ne473 : cs ≠ t467 := Nat.ne_of_lt (Nat.lt_of_lt_of_le F472.lt hz467)
  have ne474 : b431 ≠ t467 := Nat.ne_of_lt (Nat.lt_of_lt_of_le F463.lt hz467)
  have ne475 : b438 ≠ t467 := Nat.ne_of_lt (Nat.lt_of_lt_of_le F462.lt hz467)
  refine own_tr (T' := T467) (g' := (mkF m 98 #[.val (.ref cs), .val (.int 3)] [(.ref b431)])) st467 ?_
  obtain ⟨fs, hr, hrun, hended, hE⟩ := Stand.leaveW X467 hS hk471 (v := some (.ref b431)) (fun h => by rw [Bd.returns] at h; cases h)
  refine own_end (own_retA X467 hx Bd.returns rfl rfl rfl (hb hby d4_98) hr) ⟨_, hrun, hended, _, _, rfl, ?_, (by rw [hh]; show CHr Z own_EL s.vm h0 T467.vm T467.heap; exact CHr.trans CR470 (CHv.at X467 hZ (own_EW hw) CR470.1)), ⟨hE.1, hE.2.1, hE.2.2.1, hE.2.2.2.mono (by decide) (by decide)⟩⟩
  show own_s3Q Z _ _ _ _ _ _ _ _ _ _ _ h0 n0 _ T467.heap _
  show own_s3Q Z _ _ _ _ _ _ _ _ _ _ _ h0 n0 _ T467.heap _
  exact ⟨b431, t467, kb467, rfl, N468, K471, gE467, gC467, gV467, gA467, (Nat.le_trans K0.1 (Nat.le_of_eq g431.symm))⟩
theorem d4_99 : decode method_4_code 99 = .ok (.iload_n 1, 1) := by decide +kernel
theorem d4_100 : decode method_4_code 100 = .ok (.iconst 4, 1) := by decide +kernel
theorem d4_101 : decode method_4_code 101 = .ok (.if_icmp .ne 38, 3) := by decide +kernel
theorem d4_104 : decode method_4_code 104 = .ok (.new 37, 3) := by decide +kernel
theorem d4_107 : decode method_4_code 107 = .ok (.dup, 1) := by decide +kernel
theorem d4_108 : decode method_4_code 108 = .ok (.iconst 4, 1) := by decide +kernel
theorem d4_109 : decode method_4_code 109 = .ok (.newarray .char, 2) := by decide +kernel
theorem d4_111 : decode method_4_code 111 = .ok (.dup, 1) := by decide +kernel
theorem d4_112 : decode method_4_code 112 = .ok (.iconst 0, 1) := by decide +kernel
theorem d4_113 : decode method_4_code 113 = .ok (.aload_n 0, 1) := by decide +kernel
theorem d4_114 : decode method_4_code 114 = .ok (.iconst 0, 1) := by decide +kernel
theorem d4_115 : decode method_4_code 115 = .ok (.caload, 1) := by decide +kernel
theorem d4_116 : decode method_4_code 116 = .ok (.castore, 1) := by decide +kernel
theorem d4_117 : decode method_4_code 117 = .ok (.dup, 1) := by decide +kernel
theorem d4_118 : decode method_4_code 118 = .ok (.iconst 1, 1) := by decide +kernel
theorem d4_119 : decode method_4_code 119 = .ok (.aload_n 0, 1) := by decide +kernel
theorem d4_120 : decode method_4_code 120 = .ok (.iconst 1, 1) := by decide +kernel
theorem d4_121 : decode method_4_code 121 = .ok (.caload, 1) := by decide +kernel
theorem d4_122 : decode method_4_code 122 = .ok (.castore, 1) := by decide +kernel
theorem d4_123 : decode method_4_code 123 = .ok (.dup, 1) := by decide +kernel
theorem d4_124 : decode method_4_code 124 = .ok (.iconst 2, 1) := by decide +kernel
theorem d4_125 : decode method_4_code 125 = .ok (.aload_n 0, 1) := by decide +kernel
theorem d4_126 : decode method_4_code 126 = .ok (.iconst 2, 1) := by decide +kernel
theorem d4_127 : decode method_4_code 127 = .ok (.caload, 1) := by decide +kernel
theorem d4_128 : decode method_4_code 128 = .ok (.castore, 1) := by decide +kernel
theorem d4_129 : decode method_4_code 129 = .ok (.dup, 1) := by decide +kernel
theorem d4_130 : decode method_4_code 130 = .ok (.iconst 3, 1) := by decide +kernel
theorem d4_131 : decode method_4_code 131 = .ok (.aload_n 0, 1) := by decide +kernel
theorem d4_132 : decode method_4_code 132 = .ok (.iconst 3, 1) := by decide +kernel
theorem d4_133 : decode method_4_code 133 = .ok (.caload, 1) := by decide +kernel
theorem d4_134 : decode method_4_code 134 = .ok (.castore, 1) := by decide +kernel
theorem d4_135 : decode method_4_code 135 = .ok (.invokespecial 46, 3) := by decide +kernel
theorem d4_138 : decode method_4_code 138 = .ok (.areturn, 1) := by decide +kernel
def own_s4Q (Z : State) (cs : Addr) (kc : ClassId) (zc : Int32) (x0 : Int32) (x1 : Int32) (x2 : Int32) (x3 : Int32) (x4 : Int32) (x5 : Int32) (x6 : Int32) (x7 : Int32) (h0 : Heap) (n0 : Nat) (v : Option Value) (h : Heap) (L : List Loc) : Prop := ∃ (y : Addr), ∃ (t : Addr), ∃ (ky : ClassId), v = some (.ref y) ∧ Fr n0 L ∧ Keep h0 h [] ∧ (Exa Z h y "java/lang/String") ∧ (Fld Z h y "java/lang/String" "coder" "B" (.int 0)) ∧ (Fld Z h y "java/lang/String" "value" "[B" (.ref t)) ∧ (Arv Z h t ky .byte (4 : Int32) [(.int x0.toInt8.toInt32), (.int x1.toInt8.toInt32), (.int x2.toInt8.toInt32), (.int x3.toInt8.toInt32)] (.int 0)) ∧ (h0.size ≤ y)
abbrev own_s4R : Room := { frames := 5, cells := 6, slots := 32, locals := 160 }
theorem own_s4 (l : Launch) (Z : State) (a0 : Array Value) (hw : ∀ d ∈ tables_1, d.before a0 Z = true) (ws : List Jvm.Cond) (cs : Addr) (kc : ClassId) (zc : Int32) (x0 : Int32) (x1 : Int32) (x2 : Int32) (x3 : Int32) (x4 : Int32) (x5 : Int32) (x6 : Int32) (x7 : Int32) (h0 : Heap) (n0 : Nat) (Z0 : n0 ≤ h0.size) (pr1 : Old Z n0 h0) (pr2 : Sta Z Z.heap "java/lang/String" "COMPACT_STRINGS" "Z" (.int zc)) (pr3 : ¬ zc = 0) (pr4 : Arv Z h0 cs kc .char (8 : Int32) [(.int x0), (.int x1), (.int x2), (.int x3), (.int x4), (.int x5), (.int x6), (.int x7)] (.int 0)) (pr5 : own_cc x0) (pr6 : own_cc x1) (pr7 : own_cc x2) (pr8 : own_cc x3) (pr9 : own_cc x4) (pr10 : own_cc x5) (pr11 : own_cc x6) (pr12 : own_cc x7) :
    own_MH own_EL l yN4 method_4_code 2 (some (.object "java/lang/String")) ws own_s4R #[(.ref cs), (.int 4)] Z h0 (own_s4Q Z cs kc zc x0 x1 x2 x3 x4 x5 x6 x7 h0 n0) := by
  refine own_goH (plainFor_of_name own_pn5) (fun m => own_ef4 m cs (4 : Int32) ) ?_
  intro p e s m below meth c s₁ Bd hx hby hml hZ hh hown hnm X0 e0 hS CR0
  have N0 := Fr.nil n0
  have K0 : Keep h0 h0 [] := Keep.refl h0 _
  have hk : h0.size ≤ h0.size := Nat.le_refl _
  refine own_st (T' := s₁) (g' := (mkF m 100 #[.val (.ref cs), .val (.int 4)] [(.int 4)])) (fun _ kt => XS.iloadN X0.here hx rfl (hb hby d4_0) rfl (XS.ifYes X0.here hx rfl (pc0 := 1) (pc' := 15) rfl (hb hby d4_1) rfl (XT.i0_ne_t (by decide)) (by decide) (by decide) (XS.iloadN X0.here hx rfl (hb hby d4_15) rfl (XS.iconst X0.here hx rfl (hb hby d4_16) (XS.icmpYes X0.here hx rfl (pc0 := 17) (pc' := 37) rfl (hb hby d4_17) rfl (XT.ii_ne_t (by decide)) (by decide) (by decide) (XS.iloadN X0.here hx rfl (hb hby d4_37) rfl (XS.iconst X0.here hx rfl (hb hby d4_38) (XS.icmpYes X0.here hx rfl (pc0 := 39) (pc' := 65) rfl (hb hby d4_39) rfl (XT.ii_ne_t (by decide)) (by decide) (by decide) (XS.iloadN X0.here hx rfl (hb hby d4_65) rfl (XS.iconst X0.here hx rfl (hb hby d4_66) (XS.icmpYes X0.here hx rfl (pc0 := 67) (pc' := 99) rfl (hb hby d4_67) rfl (XT.ii_ne_t (by decide)) (by decide) (by decide) (XS.iloadN X0.here hx rfl (hb hby d4_99) rfl kt)))))))))))) ?_
  refine own_st (T' := s₁) (g' := (mkF m 104 #[.val (.ref cs), .val (.int 4)] [])) (fun _ kt => XS.iconst X0.here hx rfl (hb hby d4_100) (XS.icmpNo X0.here hx rfl (hb hby d4_101) rfl (XT.ii_ne_f (by decide)) kt)) ?_
  obtain ⟨T476, h476, X476, e476, E476, A476, D476, -, st476⟩ := newO X0 hx hZ hown (own_k hw 37 rfl) (own_k hw 38 rfl) (own_k hw 31 rfl) e0 (g := (mkF m 104 #[.val (.ref cs), .val (.int 4)] [])) rfl (hb hby d4_104) (by decide) (by decide)
  obtain ⟨b476, g476⟩ : ∃ z, z = h0.size := ⟨_, rfl⟩
  rw [← g476] at A476 D476 st476
  have ne477 : cs ≠ b476 := by rw [g476]; exact Nat.ne_of_lt pr4.lt
  have CR478 : CHr Z own_EL s.vm h0 s.vm h476 := CHr.trans CR0 (CHr.ext E476 CR0.1)
  have Z479 : n0 ≤ h476.size := Nat.le_trans Z0 E476.1
  have hk479 := Nat.le_trans hk E476.1
  have K479 : Keep h0 h476 [] := (Keep.ext K0 E476)
  have ge_b476 : n0 ≤ b476 := Nat.le_trans Z0 (Nat.le_of_eq g476.symm)
  have S480 : Safe Z own_EL s.vm h476 b476 := (Safe.ext E476 CR0.1 (Safe.new (Nat.le_of_eq g476.symm)))
  have F481 : Fld Z h476 b476 "java/lang/String" "coder" "B" (.int 0) := D476 (Or.inr (own_k hw 62 rfl)) (ty := .byte) (by decide)
  have F482 : Fld Z h476 b476 "java/lang/String" "value" "[B" .null := D476 (Or.inr (own_k hw 64 rfl)) (ty := (.array .byte)) (by decide)
  refine own_st (T' := T476) (g' := (mkF m 107 #[.val (.ref cs), .val (.int 4)] [(.ref b476)])) st476 ?_
  refine own_st (T' := T476) (g' := (mkF m 109 #[.val (.ref cs), .val (.int 4)] [(.int 4), (.ref b476), (.ref b476)])) (fun _ kt => XS.dup X476.here hx rfl (hb hby d4_107) rfl rfl (XS.iconst X476.here hx rfl (hb hby d4_108) kt)) ?_
  obtain ⟨T483, h483, k483, X483, e483, E483, A483, st483⟩ := newP X476 hx hZ (aty := .char) (own_k hw 0 rfl) e476 (g := (mkF m 109 #[.val (.ref cs), .val (.int 4)] [(.int 4), (.ref b476), (.ref b476)])) rfl (hb hby d4_109) rfl (by decide) (cap := 4) (by decide) (by decide) (by decide) (by decide)
  obtain ⟨b483, g483⟩ : ∃ z, z = h476.size := ⟨_, rfl⟩
  rw [← g483] at A483 st483
  have F484 : Arv Z h476 cs kc .char (8 : Int32) [(.int x0), (.int x1), (.int x2), (.int x3), (.int x4), (.int x5), (.int x6), (.int x7)] (.int 0) := (pr4.ext E476)
  have ne485 : cs ≠ b483 := by rw [g483]; exact Nat.ne_of_lt F484.lt
  have ne486 : b476 ≠ b483 := by rw [g483]; exact Nat.ne_of_lt A476.lt
  have CR487 : CHr Z own_EL s.vm h0 s.vm h483 := CHr.trans CR478 (CHr.ext E483 CR478.1)
  have Z488 : n0 ≤ h483.size := Nat.le_trans Z479 E483.1
  have hk488 := Nat.le_trans hk479 E483.1
  have K488 : Keep h0 h483 [] := (Keep.ext K479 E483)
  have ge_b483 : n0 ≤ b483 := Nat.le_trans Z479 (Nat.le_of_eq g483.symm)
  have S489 : Safe Z own_EL s.vm h483 b483 := (Safe.ext E483 CR478.1 (Safe.new (Nat.le_of_eq g483.symm)))
  have F490 : Arv Z h483 b483 k483 .char (4 : Int32) [(.int 0), (.int 0), (.int 0), (.int 0)] (.int 0) := (Arv.new A483 (by decide)).pad (pad_rep [] (.int 0) 4)
  refine own_st (T' := T483) (g' := (mkF m 111 #[.val (.ref cs), .val (.int 4)] [(.ref b483), (.ref b476), (.ref b476)])) st483 ?_
  refine own_st (T' := T483) (g' := (mkF m 115 #[.val (.ref cs), .val (.int 4)] [(.int 0), (.ref cs), (.int 0), (.ref b483), (.ref b483), (.ref b476), (.ref b476)])) (fun _ kt => XS.dup X483.here hx rfl (hb hby d4_111) rfl rfl (XS.iconst X483.here hx rfl (hb hby d4_112) (XS.aloadN X483.here hx rfl (hb hby d4_113) rfl rfl (XS.iconst X483.here hx rfl (hb hby d4_114) kt)))) ?_
  have F491 : Arv Z h483 cs kc .char (8 : Int32) [(.int x0), (.int x1), (.int x2), (.int x3), (.int x4), (.int x5), (.int x6), (.int x7)] (.int 0) := (F484.ext E483)
  refine own_st (T' := T483) (g' := (mkF m 116 #[.val (.ref cs), .val (.int 4)] [(.int x0), (.int 0), (.ref b483), (.ref b483), (.ref b476), (.ref b476)])) (own_cal X483 hx hZ e483 F491 ⟨by decide, by decide⟩ rfl (g := (mkF m 115 #[.val (.ref cs), .val (.int 4)] [(.int 0), (.ref cs), (.int 0), (.ref b483), (.ref b483), (.ref b476), (.ref b476)])) rfl rfl (hb hby d4_115)) ?_
  obtain ⟨T492, h492, X492, e492, W492, V492, st492⟩ := own_cst X483 hx hZ e483 F490 ⟨by decide, by decide⟩ (i := 0) rfl (by simp) (y := x0) pr5.2.2 (g := (mkF m 116 #[.val (.ref cs), .val (.int 4)] [(.int x0), (.int 0), (.ref b483), (.ref b483), (.ref b476), (.ref b476)])) rfl rfl (hb hby d4_116)
  have N492 := Fr.snoc X492 N0 ge_b483
  have CR493 : CHr Z own_EL s.vm h0 s.vm h492 := CHr.trans CR487 (CHr.wr W492 S489 CR487.1)
  have Z494 : n0 ≤ h492.size := Nat.le_trans Z488 (Nat.le_of_eq (Wr.size W492).symm)
  have hk494 := Nat.le_trans hk488 (Nat.le_of_eq (Wr.size W492).symm)
  have K494 : Keep h0 h492 [] := (Keep.wr K488 W492 (Or.inr (Nat.le_trans K479.1 (Nat.le_of_eq g483.symm))))
  have F495 : Arv Z h492 b483 k483 .char (4 : Int32) [(.int x0), (.int 0), (.int 0), (.int 0)] (.int 0) := V492
  refine own_st (T' := T492) (g' := (mkF m 117 #[.val (.ref cs), .val (.int 4)] [(.ref b483), (.ref b476), (.ref b476)])) st492 ?_
  refine own_st (T' := T492) (g' := (mkF m 121 #[.val (.ref cs), .val (.int 4)] [(.int 1), (.ref cs), (.int 1), (.ref b483), (.ref b483), (.ref b476), (.ref b476)])) (fun _ kt => XS.dup X492.here hx rfl (hb hby d4_117) rfl rfl (XS.iconst X492.here hx rfl (hb hby d4_118) (XS.aloadN X492.here hx rfl (hb hby d4_119) rfl rfl (XS.iconst X492.here hx rfl (hb hby d4_120) kt)))) ?_
  have F496 : Arv Z h492 cs kc .char (8 : Int32) [(.int x0), (.int x1), (.int x2), (.int x3), (.int x4), (.int x5), (.int x6), (.int x7)] (.int 0) := (Arv.other F491 W492 ne485)
  refine own_st (T' := T492) (g' := (mkF m 122 #[.val (.ref cs), .val (.int 4)] [(.int x1), (.int 1), (.ref b483), (.ref b483), (.ref b476), (.ref b476)])) (own_cal X492 hx hZ e492 F496 ⟨by decide, by decide⟩ rfl (g := (mkF m 121 #[.val (.ref cs), .val (.int 4)] [(.int 1), (.ref cs), (.int 1), (.ref b483), (.ref b483), (.ref b476), (.ref b476)])) rfl rfl (hb hby d4_121)) ?_
  obtain ⟨T497, h497, X497, e497, W497, V497, st497⟩ := own_cst X492 hx hZ e492 F495 ⟨by decide, by decide⟩ (i := 1) rfl (by simp) (y := x1) pr6.2.2 (g := (mkF m 122 #[.val (.ref cs), .val (.int 4)] [(.int x1), (.int 1), (.ref b483), (.ref b483), (.ref b476), (.ref b476)])) rfl rfl (hb hby d4_122)
  have N497 := Fr.snoc X497 N492 ge_b483
  have F498 : Safe Z own_EL s.vm h492 b483 := (Safe.wr W492 S489 CR487.1 S489)
  have CR499 : CHr Z own_EL s.vm h0 s.vm h497 := CHr.trans CR493 (CHr.wr W497 F498 CR493.1)
  have Z500 : n0 ≤ h497.size := Nat.le_trans Z494 (Nat.le_of_eq (Wr.size W497).symm)
  have hk500 := Nat.le_trans hk494 (Nat.le_of_eq (Wr.size W497).symm)
  have K500 : Keep h0 h497 [] := (Keep.wr K494 W497 (Or.inr (Nat.le_trans K479.1 (Nat.le_of_eq g483.symm))))
  have F501 : Arv Z h497 b483 k483 .char (4 : Int32) [(.int x0), (.int x1), (.int 0), (.int 0)] (.int 0) := V497
  refine own_st (T' := T497) (g' := (mkF m 123 #[.val (.ref cs), .val (.int 4)] [(.ref b483), (.ref b476), (.ref b476)])) st497 ?_
  refine own_st (T' := T497) (g' := (mkF m 127 #[.val (.ref cs), .val (.int 4)] [(.int 2), (.ref cs), (.int 2), (.ref b483), (.ref b483), (.ref b476), (.ref b476)])) (fun _ kt => XS.dup X497.here hx rfl (hb hby d4_123) rfl rfl (XS.iconst X497.here hx rfl (hb hby d4_124) (XS.aloadN X497.here hx rfl (hb hby d4_125) rfl rfl (XS.iconst X497.here hx rfl (hb hby d4_126) kt)))) ?_
  have F502 : Arv Z h497 cs kc .char (8 : Int32) [(.int x0), (.int x1), (.int x2), (.int x3), (.int x4), (.int x5), (.int x6), (.int x7)] (.int 0) := (Arv.other F496 W497 ne485)
  refine own_st (T' := T497) (g' := (mkF m 128 #[.val (.ref cs), .val (.int 4)] [(.int x2), (.int 2), (.ref b483), (.ref b483), (.ref b476), (.ref b476)])) (own_cal X497 hx hZ e497 F502 ⟨by decide, by decide⟩ rfl (g := (mkF m 127 #[.val (.ref cs), .val (.int 4)] [(.int 2), (.ref cs), (.int 2), (.ref b483), (.ref b483), (.ref b476), (.ref b476)])) rfl rfl (hb hby d4_127)) ?_
  obtain ⟨T503, h503, X503, e503, W503, V503, st503⟩ := own_cst X497 hx hZ e497 F501 ⟨by decide, by decide⟩ (i := 2) rfl (by simp) (y := x2) pr7.2.2 (g := (mkF m 128 #[.val (.ref cs), .val (.int 4)] [(.int x2), (.int 2), (.ref b483), (.ref b483), (.ref b476), (.ref b476)])) rfl rfl (hb hby d4_128)
  have N503 := Fr.snoc X503 N497 ge_b483
  have F504 : Safe Z own_EL s.vm h497 b483 := (Safe.wr W497 F498 CR493.1 F498)
  have CR505 : CHr Z own_EL s.vm h0 s.vm h503 := CHr.trans CR499 (CHr.wr W503 F504 CR499.1)
  have Z506 : n0 ≤ h503.size := Nat.le_trans Z500 (Nat.le_of_eq (Wr.size W503).symm)
  have hk506 := Nat.le_trans hk500 (Nat.le_of_eq (Wr.size W503).symm)
  have K506 : Keep h0 h503 [] := (Keep.wr K500 W503 (Or.inr (Nat.le_trans K479.1 (Nat.le_of_eq g483.symm))))
  have F507 : Arv Z h503 b483 k483 .char (4 : Int32) [(.int x0), (.int x1), (.int x2), (.int 0)] (.int 0) := V503
  refine own_st (T' := T503) (g' := (mkF m 129 #[.val (.ref cs), .val (.int 4)] [(.ref b483), (.ref b476), (.ref b476)])) st503 ?_
  refine own_st (T' := T503) (g' := (mkF m 133 #[.val (.ref cs), .val (.int 4)] [(.int 3), (.ref cs), (.int 3), (.ref b483), (.ref b483), (.ref b476), (.ref b476)])) (fun _ kt => XS.dup X503.here hx rfl (hb hby d4_129) rfl rfl (XS.iconst X503.here hx rfl (hb hby d4_130) (XS.aloadN X503.here hx rfl (hb hby d4_131) rfl rfl (XS.iconst X503.here hx rfl (hb hby d4_132) kt)))) ?_
  have F508 : Arv Z h503 cs kc .char (8 : Int32) [(.int x0), (.int x1), (.int x2), (.int x3), (.int x4), (.int x5), (.int x6), (.int x7)] (.int 0) := (Arv.other F502 W503 ne485)
  refine own_st (T' := T503) (g' := (mkF m 134 #[.val (.ref cs), .val (.int 4)] [(.int x3), (.int 3), (.ref b483), (.ref b483), (.ref b476), (.ref b476)])) (own_cal X503 hx hZ e503 F508 ⟨by decide, by decide⟩ rfl (g := (mkF m 133 #[.val (.ref cs), .val (.int 4)] [(.int 3), (.ref cs), (.int 3), (.ref b483), (.ref b483), (.ref b476), (.ref b476)])) rfl rfl (hb hby d4_133)) ?_
  obtain ⟨T509, h509, X509, e509, W509, V509, st509⟩ := own_cst X503 hx hZ e503 F507 ⟨by decide, by decide⟩ (i := 3) rfl (by simp) (y := x3) pr8.2.2 (g := (mkF m 134 #[.val (.ref cs), .val (.int 4)] [(.int x3), (.int 3), (.ref b483), (.ref b483), (.ref b476), (.ref b476)])) rfl rfl (hb hby d4_134)
  have N509 := Fr.snoc X509 N503 ge_b483
  have F510 : Safe Z own_EL s.vm h503 b483 := (Safe.wr W503 F504 CR499.1 F504)
  have CR511 : CHr Z own_EL s.vm h0 s.vm h509 := CHr.trans CR505 (CHr.wr W509 F510 CR505.1)
  have Z512 : n0 ≤ h509.size := Nat.le_trans Z506 (Nat.le_of_eq (Wr.size W509).symm)
  have hk512 := Nat.le_trans hk506 (Nat.le_of_eq (Wr.size W509).symm)
  have K512 : Keep h0 h509 [] := (Keep.wr K506 W509 (Or.inr (Nat.le_trans K479.1 (Nat.le_of_eq g483.symm))))
  have F513 : Arv Z h509 b483 k483 .char (4 : Int32) [(.int x0), (.int x1), (.int x2), (.int x3)] (.int 0) := V509
  refine own_st (T' := T509) (g' := (mkF m 135 #[.val (.ref cs), .val (.int 4)] [(.ref b483), (.ref b476), (.ref b476)])) st509 ?_
  have F514 : Exa Z h509 b476 "java/lang/String" := (Exa.wr W509 (Exa.wr W503 (Exa.wr W497 (Exa.wr W492 (Exa.ext E483 A476)))))
  have F515 : Fld Z h509 b476 "java/lang/String" "value" "[B" .null := (Fld.other W509 (Fld.other W503 (Fld.other W497 (Fld.other W492 (Fld.ext E483 F482) (Or.inl ne486)) (Or.inl ne486)) (Or.inl ne486)) (Or.inl ne486))
  have F516 : Fld Z h509 b476 "java/lang/String" "coder" "B" (.int 0) := (Fld.other W509 (Fld.other W503 (Fld.other W497 (Fld.other W492 (Fld.ext E483 F481) (Or.inl ne486)) (Or.inl ne486)) (Or.inl ne486)) (Or.inl ne486))
  have F517 : Old Z n0 h509 := (Old.wr (Old.wr (Old.wr (Old.wr (Old.ext (Old.ext pr1 E476) E483) W492 ge_b483) W497 ge_b483) W503 ge_b483) W509 ge_b483)
  obtain ⟨_, _, ⟨T518, L518, k518, n518⟩, -, X518, ⟨Lc518, hQ518, l518, y518, z518⟩, st518⟩ := X509.specialBack hx (y := yN5) rfl hown (mvT hZ (own_k hw 39 rfl)) (mvT hZ (own_k hw 40 rfl)) (mvT hZ (own_k hw 41 rfl)) (by decide) (StrChars.Road.backV (W := 1) hZ (own_hws hw) (kI := 4) (own_k hw 38 rfl) (cs := ([x0, x1, x2, x3] : List Int32)) (bs := (([x0, x1, x2, x3] : List Int32)).map (fun c => c.toInt8.toInt32)) (n := 4) ge_b476 Z512 F514 F515 F516 F513 (Sta.ext F517.2 pr2) pr3 rfl rfl (by decide) (by decide) (by intro c hc; simp only [List.mem_cons, List.not_mem_nil, or_false] at hc; rcases hc with rfl | rfl | rfl | rfl <;> first | exact ⟨pr5.1, pr5.2.1⟩ | exact ⟨pr6.1, pr6.2.1⟩ | exact ⟨pr7.1, pr7.2.1⟩ | exact ⟨pr8.1, pr8.2.1⟩) rfl (by decide) (by decide)) (g := (mkF m 135 #[.val (.ref cs), .val (.int 4)] [(.ref b483), (.ref b476), (.ref b476)])) rfl hml.symm (Steps.refl _) (a := b476) (argsL := [(.ref b483)]) (rest := [(.ref b476)]) (lenOf own_pd12 rfl) rfl (own_w0 rfl rfl) (hb hby d4_135) (fun _ _ => ⟨rfl, e509, (by decide : 2 + 1 ≤ 6), (by decide : 8 + 4 ≤ 32)⟩)
  dsimp only [Pt.U, Pt.locs, Pt.cells, Pt.slots] at X518 l518 y518 z518 st518 hQ518
  subst l518 y518 z518
  obtain ⟨rfl, N518, K518_, gE518, gC518, t518, kb518, gt518, hz518, ht518, gV518, gA518⟩ := hQ518
  have N519 := Fr.app N509 N518
  have F520 : Safe Z own_EL s.vm h509 b476 := (Safe.wr W509 F510 CR505.1 (Safe.wr W503 F504 CR499.1 (Safe.wr W497 F498 CR493.1 (Safe.wr W492 S489 CR487.1 (Safe.ext E483 CR478.1 S480)))))
  have CR521 : CHr Z own_EL s.vm h0 s.vm T518.heap := CHr.trans CR511 (CHr.keep K518_ (sfS F520 sf0) CR511.1)
  have Z522 : n0 ≤ T518.heap.size := Nat.le_trans Z512 K518_.1
  have hk522 := Nat.le_trans hk512 K518_.1
  have K522 : Keep h0 T518.heap [] := (Keep.trans K512 K518_ (allS (Or.inr (Nat.le_trans K0.1 (Nat.le_of_eq g476.symm))) all0))
  have F523 : Arv Z h509 cs kc .char (8 : Int32) [(.int x0), (.int x1), (.int x2), (.int x3), (.int x4), (.int x5), (.int x6), (.int x7)] (.int 0) := (Arv.other F508 W509 ne485)
  have ne524 : cs ≠ t518 := Nat.ne_of_lt (Nat.lt_of_lt_of_le F523.lt hz518)
  have ne525 : b476 ≠ t518 := Nat.ne_of_lt (Nat.lt_of_lt_of_le F514.lt hz518)
  have ne526 : b483 ≠ t518 := Nat.ne_of_lt (Nat.lt_of_lt_of_le F513.lt hz518)
  refine own_tr (T' := T518) (g' := (mkF m 138 #[.val (.ref cs), .val (.int 4)] [(.ref b476)])) st518 ?_
  obtain ⟨fs, hr, hrun, hended, hE⟩ := Stand.leaveW X518 hS hk522 (v := some (.ref b476)) (fun h => by rw [Bd.returns] at h; cases h)
  refine own_end (own_retA X518 hx Bd.returns rfl rfl rfl (hb hby d4_138) hr) ⟨_, hrun, hended, _, _, rfl, ?_, (by rw [hh]; show CHr Z own_EL s.vm h0 T518.vm T518.heap; exact CHr.trans CR521 (CHv.at X518 hZ (own_EW hw) CR521.1)), ⟨hE.1, hE.2.1, hE.2.2.1, hE.2.2.2.mono (by decide) (by decide)⟩⟩
  show own_s4Q Z _ _ _ _ _ _ _ _ _ _ _ h0 n0 _ T518.heap _
  show own_s4Q Z _ _ _ _ _ _ _ _ _ _ _ h0 n0 _ T518.heap _
  exact ⟨b476, t518, kb518, rfl, N519, K522, gE518, gC518, gV518, gA518, (Nat.le_trans K0.1 (Nat.le_of_eq g476.symm))⟩
theorem d4_139 : decode method_4_code 139 = .ok (.iload_n 1, 1) := by decide +kernel
theorem d4_140 : decode method_4_code 140 = .ok (.iconst 5, 1) := by decide +kernel
theorem d4_141 : decode method_4_code 141 = .ok (.if_icmp .ne 44, 3) := by decide +kernel
theorem d4_144 : decode method_4_code 144 = .ok (.new 37, 3) := by decide +kernel
theorem d4_147 : decode method_4_code 147 = .ok (.dup, 1) := by decide +kernel
theorem d4_148 : decode method_4_code 148 = .ok (.iconst 5, 1) := by decide +kernel
theorem d4_149 : decode method_4_code 149 = .ok (.newarray .char, 2) := by decide +kernel
theorem d4_151 : decode method_4_code 151 = .ok (.dup, 1) := by decide +kernel
theorem d4_152 : decode method_4_code 152 = .ok (.iconst 0, 1) := by decide +kernel
theorem d4_153 : decode method_4_code 153 = .ok (.aload_n 0, 1) := by decide +kernel
theorem d4_154 : decode method_4_code 154 = .ok (.iconst 0, 1) := by decide +kernel
theorem d4_155 : decode method_4_code 155 = .ok (.caload, 1) := by decide +kernel
theorem d4_156 : decode method_4_code 156 = .ok (.castore, 1) := by decide +kernel
theorem d4_157 : decode method_4_code 157 = .ok (.dup, 1) := by decide +kernel
theorem d4_158 : decode method_4_code 158 = .ok (.iconst 1, 1) := by decide +kernel
theorem d4_159 : decode method_4_code 159 = .ok (.aload_n 0, 1) := by decide +kernel
theorem d4_160 : decode method_4_code 160 = .ok (.iconst 1, 1) := by decide +kernel
theorem d4_161 : decode method_4_code 161 = .ok (.caload, 1) := by decide +kernel
theorem d4_162 : decode method_4_code 162 = .ok (.castore, 1) := by decide +kernel
theorem d4_163 : decode method_4_code 163 = .ok (.dup, 1) := by decide +kernel
theorem d4_164 : decode method_4_code 164 = .ok (.iconst 2, 1) := by decide +kernel
theorem d4_165 : decode method_4_code 165 = .ok (.aload_n 0, 1) := by decide +kernel
theorem d4_166 : decode method_4_code 166 = .ok (.iconst 2, 1) := by decide +kernel
theorem d4_167 : decode method_4_code 167 = .ok (.caload, 1) := by decide +kernel
theorem d4_168 : decode method_4_code 168 = .ok (.castore, 1) := by decide +kernel
theorem d4_169 : decode method_4_code 169 = .ok (.dup, 1) := by decide +kernel
theorem d4_170 : decode method_4_code 170 = .ok (.iconst 3, 1) := by decide +kernel
theorem d4_171 : decode method_4_code 171 = .ok (.aload_n 0, 1) := by decide +kernel
theorem d4_172 : decode method_4_code 172 = .ok (.iconst 3, 1) := by decide +kernel
theorem d4_173 : decode method_4_code 173 = .ok (.caload, 1) := by decide +kernel
theorem d4_174 : decode method_4_code 174 = .ok (.castore, 1) := by decide +kernel
theorem d4_175 : decode method_4_code 175 = .ok (.dup, 1) := by decide +kernel
theorem d4_176 : decode method_4_code 176 = .ok (.iconst 4, 1) := by decide +kernel
theorem d4_177 : decode method_4_code 177 = .ok (.aload_n 0, 1) := by decide +kernel
theorem d4_178 : decode method_4_code 178 = .ok (.iconst 4, 1) := by decide +kernel
theorem d4_179 : decode method_4_code 179 = .ok (.caload, 1) := by decide +kernel
theorem d4_180 : decode method_4_code 180 = .ok (.castore, 1) := by decide +kernel
theorem d4_181 : decode method_4_code 181 = .ok (.invokespecial 46, 3) := by decide +kernel
theorem d4_184 : decode method_4_code 184 = .ok (.areturn, 1) := by decide +kernel
def own_s5Q (Z : State) (cs : Addr) (kc : ClassId) (zc : Int32) (x0 : Int32) (x1 : Int32) (x2 : Int32) (x3 : Int32) (x4 : Int32) (x5 : Int32) (x6 : Int32) (x7 : Int32) (h0 : Heap) (n0 : Nat) (v : Option Value) (h : Heap) (L : List Loc) : Prop := ∃ (y : Addr), ∃ (t : Addr), ∃ (ky : ClassId), v = some (.ref y) ∧ Fr n0 L ∧ Keep h0 h [] ∧ (Exa Z h y "java/lang/String") ∧ (Fld Z h y "java/lang/String" "coder" "B" (.int 0)) ∧ (Fld Z h y "java/lang/String" "value" "[B" (.ref t)) ∧ (Arv Z h t ky .byte (5 : Int32) [(.int x0.toInt8.toInt32), (.int x1.toInt8.toInt32), (.int x2.toInt8.toInt32), (.int x3.toInt8.toInt32), (.int x4.toInt8.toInt32)] (.int 0)) ∧ (h0.size ≤ y)
abbrev own_s5R : Room := { frames := 5, cells := 6, slots := 32, locals := 160 }
theorem own_s5 (l : Launch) (Z : State) (a0 : Array Value) (hw : ∀ d ∈ tables_1, d.before a0 Z = true) (ws : List Jvm.Cond) (cs : Addr) (kc : ClassId) (zc : Int32) (x0 : Int32) (x1 : Int32) (x2 : Int32) (x3 : Int32) (x4 : Int32) (x5 : Int32) (x6 : Int32) (x7 : Int32) (h0 : Heap) (n0 : Nat) (Z0 : n0 ≤ h0.size) (pr1 : Old Z n0 h0) (pr2 : Sta Z Z.heap "java/lang/String" "COMPACT_STRINGS" "Z" (.int zc)) (pr3 : ¬ zc = 0) (pr4 : Arv Z h0 cs kc .char (8 : Int32) [(.int x0), (.int x1), (.int x2), (.int x3), (.int x4), (.int x5), (.int x6), (.int x7)] (.int 0)) (pr5 : own_cc x0) (pr6 : own_cc x1) (pr7 : own_cc x2) (pr8 : own_cc x3) (pr9 : own_cc x4) (pr10 : own_cc x5) (pr11 : own_cc x6) (pr12 : own_cc x7) :
    own_MH own_EL l yN4 method_4_code 2 (some (.object "java/lang/String")) ws own_s5R #[(.ref cs), (.int 5)] Z h0 (own_s5Q Z cs kc zc x0 x1 x2 x3 x4 x5 x6 x7 h0 n0) := by
  refine own_goH (plainFor_of_name own_pn5) (fun m => own_ef4 m cs (5 : Int32) ) ?_
  intro p e s m below meth c s₁ Bd hx hby hml hZ hh hown hnm X0 e0 hS CR0
  have N0 := Fr.nil n0
  have K0 : Keep h0 h0 [] := Keep.refl h0 _
  have hk : h0.size ≤ h0.size := Nat.le_refl _
  refine own_st (T' := s₁) (g' := (mkF m 100 #[.val (.ref cs), .val (.int 5)] [(.int 5)])) (fun _ kt => XS.iloadN X0.here hx rfl (hb hby d4_0) rfl (XS.ifYes X0.here hx rfl (pc0 := 1) (pc' := 15) rfl (hb hby d4_1) rfl (XT.i0_ne_t (by decide)) (by decide) (by decide) (XS.iloadN X0.here hx rfl (hb hby d4_15) rfl (XS.iconst X0.here hx rfl (hb hby d4_16) (XS.icmpYes X0.here hx rfl (pc0 := 17) (pc' := 37) rfl (hb hby d4_17) rfl (XT.ii_ne_t (by decide)) (by decide) (by decide) (XS.iloadN X0.here hx rfl (hb hby d4_37) rfl (XS.iconst X0.here hx rfl (hb hby d4_38) (XS.icmpYes X0.here hx rfl (pc0 := 39) (pc' := 65) rfl (hb hby d4_39) rfl (XT.ii_ne_t (by decide)) (by decide) (by decide) (XS.iloadN X0.here hx rfl (hb hby d4_65) rfl (XS.iconst X0.here hx rfl (hb hby d4_66) (XS.icmpYes X0.here hx rfl (pc0 := 67) (pc' := 99) rfl (hb hby d4_67) rfl (XT.ii_ne_t (by decide)) (by decide) (by decide) (XS.iloadN X0.here hx rfl (hb hby d4_99) rfl kt)))))))))))) ?_
  refine own_st (T' := s₁) (g' := (mkF m 144 #[.val (.ref cs), .val (.int 5)] [])) (fun _ kt => XS.iconst X0.here hx rfl (hb hby d4_100) (XS.icmpYes X0.here hx rfl (pc0 := 101) (pc' := 139) rfl (hb hby d4_101) rfl (XT.ii_ne_t (by decide)) (by decide) (by decide) (XS.iloadN X0.here hx rfl (hb hby d4_139) rfl (XS.iconst X0.here hx rfl (hb hby d4_140) (XS.icmpNo X0.here hx rfl (hb hby d4_141) rfl (XT.ii_ne_f (by decide)) kt))))) ?_
  obtain ⟨T527, h527, X527, e527, E527, A527, D527, -, st527⟩ := newO X0 hx hZ hown (own_k hw 37 rfl) (own_k hw 38 rfl) (own_k hw 31 rfl) e0 (g := (mkF m 144 #[.val (.ref cs), .val (.int 5)] [])) rfl (hb hby d4_144) (by decide) (by decide)
  obtain ⟨b527, g527⟩ : ∃ z, z = h0.size := ⟨_, rfl⟩
  rw [← g527] at A527 D527 st527
  have ne528 : cs ≠ b527 := by rw [g527]; exact Nat.ne_of_lt pr4.lt
  have CR529 : CHr Z own_EL s.vm h0 s.vm h527 := CHr.trans CR0 (CHr.ext E527 CR0.1)
  have Z530 : n0 ≤ h527.size := Nat.le_trans Z0 E527.1
  have hk530 := Nat.le_trans hk E527.1
  have K530 : Keep h0 h527 [] := (Keep.ext K0 E527)
  have ge_b527 : n0 ≤ b527 := Nat.le_trans Z0 (Nat.le_of_eq g527.symm)
  have S531 : Safe Z own_EL s.vm h527 b527 := (Safe.ext E527 CR0.1 (Safe.new (Nat.le_of_eq g527.symm)))
  have F532 : Fld Z h527 b527 "java/lang/String" "coder" "B" (.int 0) := D527 (Or.inr (own_k hw 62 rfl)) (ty := .byte) (by decide)
  have F533 : Fld Z h527 b527 "java/lang/String" "value" "[B" .null := D527 (Or.inr (own_k hw 64 rfl)) (ty := (.array .byte)) (by decide)
  refine own_st (T' := T527) (g' := (mkF m 147 #[.val (.ref cs), .val (.int 5)] [(.ref b527)])) st527 ?_
  refine own_st (T' := T527) (g' := (mkF m 149 #[.val (.ref cs), .val (.int 5)] [(.int 5), (.ref b527), (.ref b527)])) (fun _ kt => XS.dup X527.here hx rfl (hb hby d4_147) rfl rfl (XS.iconst X527.here hx rfl (hb hby d4_148) kt)) ?_
  obtain ⟨T534, h534, k534, X534, e534, E534, A534, st534⟩ := newP X527 hx hZ (aty := .char) (own_k hw 0 rfl) e527 (g := (mkF m 149 #[.val (.ref cs), .val (.int 5)] [(.int 5), (.ref b527), (.ref b527)])) rfl (hb hby d4_149) rfl (by decide) (cap := 5) (by decide) (by decide) (by decide) (by decide)
  obtain ⟨b534, g534⟩ : ∃ z, z = h527.size := ⟨_, rfl⟩
  rw [← g534] at A534 st534
  have F535 : Arv Z h527 cs kc .char (8 : Int32) [(.int x0), (.int x1), (.int x2), (.int x3), (.int x4), (.int x5), (.int x6), (.int x7)] (.int 0) := (pr4.ext E527)
  have ne536 : cs ≠ b534 := by rw [g534]; exact Nat.ne_of_lt F535.lt
  have ne537 : b527 ≠ b534 := by rw [g534]; exact Nat.ne_of_lt A527.lt
  have CR538 : CHr Z own_EL s.vm h0 s.vm h534 := CHr.trans CR529 (CHr.ext E534 CR529.1)
  have Z539 : n0 ≤ h534.size := Nat.le_trans Z530 E534.1
  have hk539 := Nat.le_trans hk530 E534.1
  have K539 : Keep h0 h534 [] := (Keep.ext K530 E534)
  have ge_b534 : n0 ≤ b534 := Nat.le_trans Z530 (Nat.le_of_eq g534.symm)
  have S540 : Safe Z own_EL s.vm h534 b534 := (Safe.ext E534 CR529.1 (Safe.new (Nat.le_of_eq g534.symm)))
  have F541 : Arv Z h534 b534 k534 .char (5 : Int32) [(.int 0), (.int 0), (.int 0), (.int 0), (.int 0)] (.int 0) := (Arv.new A534 (by decide)).pad (pad_rep [] (.int 0) 5)
  refine own_st (T' := T534) (g' := (mkF m 151 #[.val (.ref cs), .val (.int 5)] [(.ref b534), (.ref b527), (.ref b527)])) st534 ?_
  refine own_st (T' := T534) (g' := (mkF m 155 #[.val (.ref cs), .val (.int 5)] [(.int 0), (.ref cs), (.int 0), (.ref b534), (.ref b534), (.ref b527), (.ref b527)])) (fun _ kt => XS.dup X534.here hx rfl (hb hby d4_151) rfl rfl (XS.iconst X534.here hx rfl (hb hby d4_152) (XS.aloadN X534.here hx rfl (hb hby d4_153) rfl rfl (XS.iconst X534.here hx rfl (hb hby d4_154) kt)))) ?_
  have F542 : Arv Z h534 cs kc .char (8 : Int32) [(.int x0), (.int x1), (.int x2), (.int x3), (.int x4), (.int x5), (.int x6), (.int x7)] (.int 0) := (F535.ext E534)
  refine own_st (T' := T534) (g' := (mkF m 156 #[.val (.ref cs), .val (.int 5)] [(.int x0), (.int 0), (.ref b534), (.ref b534), (.ref b527), (.ref b527)])) (own_cal X534 hx hZ e534 F542 ⟨by decide, by decide⟩ rfl (g := (mkF m 155 #[.val (.ref cs), .val (.int 5)] [(.int 0), (.ref cs), (.int 0), (.ref b534), (.ref b534), (.ref b527), (.ref b527)])) rfl rfl (hb hby d4_155)) ?_
  obtain ⟨T543, h543, X543, e543, W543, V543, st543⟩ := own_cst X534 hx hZ e534 F541 ⟨by decide, by decide⟩ (i := 0) rfl (by simp) (y := x0) pr5.2.2 (g := (mkF m 156 #[.val (.ref cs), .val (.int 5)] [(.int x0), (.int 0), (.ref b534), (.ref b534), (.ref b527), (.ref b527)])) rfl rfl (hb hby d4_156)
  have N543 := Fr.snoc X543 N0 ge_b534
  have CR544 : CHr Z own_EL s.vm h0 s.vm h543 := CHr.trans CR538 (CHr.wr W543 S540 CR538.1)
  have Z545 : n0 ≤ h543.size := Nat.le_trans Z539 (Nat.le_of_eq (Wr.size W543).symm)
  have hk545 := Nat.le_trans hk539 (Nat.le_of_eq (Wr.size W543).symm)
  have K545 : Keep h0 h543 [] := (Keep.wr K539 W543 (Or.inr (Nat.le_trans K530.1 (Nat.le_of_eq g534.symm))))
  have F546 : Arv Z h543 b534 k534 .char (5 : Int32) [(.int x0), (.int 0), (.int 0), (.int 0), (.int 0)] (.int 0) := V543
  refine own_st (T' := T543) (g' := (mkF m 157 #[.val (.ref cs), .val (.int 5)] [(.ref b534), (.ref b527), (.ref b527)])) st543 ?_
  refine own_st (T' := T543) (g' := (mkF m 161 #[.val (.ref cs), .val (.int 5)] [(.int 1), (.ref cs), (.int 1), (.ref b534), (.ref b534), (.ref b527), (.ref b527)])) (fun _ kt => XS.dup X543.here hx rfl (hb hby d4_157) rfl rfl (XS.iconst X543.here hx rfl (hb hby d4_158) (XS.aloadN X543.here hx rfl (hb hby d4_159) rfl rfl (XS.iconst X543.here hx rfl (hb hby d4_160) kt)))) ?_
  have F547 : Arv Z h543 cs kc .char (8 : Int32) [(.int x0), (.int x1), (.int x2), (.int x3), (.int x4), (.int x5), (.int x6), (.int x7)] (.int 0) := (Arv.other F542 W543 ne536)
  refine own_st (T' := T543) (g' := (mkF m 162 #[.val (.ref cs), .val (.int 5)] [(.int x1), (.int 1), (.ref b534), (.ref b534), (.ref b527), (.ref b527)])) (own_cal X543 hx hZ e543 F547 ⟨by decide, by decide⟩ rfl (g := (mkF m 161 #[.val (.ref cs), .val (.int 5)] [(.int 1), (.ref cs), (.int 1), (.ref b534), (.ref b534), (.ref b527), (.ref b527)])) rfl rfl (hb hby d4_161)) ?_
  obtain ⟨T548, h548, X548, e548, W548, V548, st548⟩ := own_cst X543 hx hZ e543 F546 ⟨by decide, by decide⟩ (i := 1) rfl (by simp) (y := x1) pr6.2.2 (g := (mkF m 162 #[.val (.ref cs), .val (.int 5)] [(.int x1), (.int 1), (.ref b534), (.ref b534), (.ref b527), (.ref b527)])) rfl rfl (hb hby d4_162)
  have N548 := Fr.snoc X548 N543 ge_b534
  have F549 : Safe Z own_EL s.vm h543 b534 := (Safe.wr W543 S540 CR538.1 S540)
  have CR550 : CHr Z own_EL s.vm h0 s.vm h548 := CHr.trans CR544 (CHr.wr W548 F549 CR544.1)
  have Z551 : n0 ≤ h548.size := Nat.le_trans Z545 (Nat.le_of_eq (Wr.size W548).symm)
  have hk551 := Nat.le_trans hk545 (Nat.le_of_eq (Wr.size W548).symm)
  have K551 : Keep h0 h548 [] := (Keep.wr K545 W548 (Or.inr (Nat.le_trans K530.1 (Nat.le_of_eq g534.symm))))
  have F552 : Arv Z h548 b534 k534 .char (5 : Int32) [(.int x0), (.int x1), (.int 0), (.int 0), (.int 0)] (.int 0) := V548
  refine own_st (T' := T548) (g' := (mkF m 163 #[.val (.ref cs), .val (.int 5)] [(.ref b534), (.ref b527), (.ref b527)])) st548 ?_
  refine own_st (T' := T548) (g' := (mkF m 167 #[.val (.ref cs), .val (.int 5)] [(.int 2), (.ref cs), (.int 2), (.ref b534), (.ref b534), (.ref b527), (.ref b527)])) (fun _ kt => XS.dup X548.here hx rfl (hb hby d4_163) rfl rfl (XS.iconst X548.here hx rfl (hb hby d4_164) (XS.aloadN X548.here hx rfl (hb hby d4_165) rfl rfl (XS.iconst X548.here hx rfl (hb hby d4_166) kt)))) ?_
  have F553 : Arv Z h548 cs kc .char (8 : Int32) [(.int x0), (.int x1), (.int x2), (.int x3), (.int x4), (.int x5), (.int x6), (.int x7)] (.int 0) := (Arv.other F547 W548 ne536)
  refine own_st (T' := T548) (g' := (mkF m 168 #[.val (.ref cs), .val (.int 5)] [(.int x2), (.int 2), (.ref b534), (.ref b534), (.ref b527), (.ref b527)])) (own_cal X548 hx hZ e548 F553 ⟨by decide, by decide⟩ rfl (g := (mkF m 167 #[.val (.ref cs), .val (.int 5)] [(.int 2), (.ref cs), (.int 2), (.ref b534), (.ref b534), (.ref b527), (.ref b527)])) rfl rfl (hb hby d4_167)) ?_
  obtain ⟨T554, h554, X554, e554, W554, V554, st554⟩ := own_cst X548 hx hZ e548 F552 ⟨by decide, by decide⟩ (i := 2) rfl (by simp) (y := x2) pr7.2.2 (g := (mkF m 168 #[.val (.ref cs), .val (.int 5)] [(.int x2), (.int 2), (.ref b534), (.ref b534), (.ref b527), (.ref b527)])) rfl rfl (hb hby d4_168)
  have N554 := Fr.snoc X554 N548 ge_b534
  have F555 : Safe Z own_EL s.vm h548 b534 := (Safe.wr W548 F549 CR544.1 F549)
  have CR556 : CHr Z own_EL s.vm h0 s.vm h554 := CHr.trans CR550 (CHr.wr W554 F555 CR550.1)
  have Z557 : n0 ≤ h554.size := Nat.le_trans Z551 (Nat.le_of_eq (Wr.size W554).symm)
  have hk557 := Nat.le_trans hk551 (Nat.le_of_eq (Wr.size W554).symm)
  have K557 : Keep h0 h554 [] := (Keep.wr K551 W554 (Or.inr (Nat.le_trans K530.1 (Nat.le_of_eq g534.symm))))
  have F558 : Arv Z h554 b534 k534 .char (5 : Int32) [(.int x0), (.int x1), (.int x2), (.int 0), (.int 0)] (.int 0) := V554
  refine own_st (T' := T554) (g' := (mkF m 169 #[.val (.ref cs), .val (.int 5)] [(.ref b534), (.ref b527), (.ref b527)])) st554 ?_
  refine own_st (T' := T554) (g' := (mkF m 173 #[.val (.ref cs), .val (.int 5)] [(.int 3), (.ref cs), (.int 3), (.ref b534), (.ref b534), (.ref b527), (.ref b527)])) (fun _ kt => XS.dup X554.here hx rfl (hb hby d4_169) rfl rfl (XS.iconst X554.here hx rfl (hb hby d4_170) (XS.aloadN X554.here hx rfl (hb hby d4_171) rfl rfl (XS.iconst X554.here hx rfl (hb hby d4_172) kt)))) ?_
  have F559 : Arv Z h554 cs kc .char (8 : Int32) [(.int x0), (.int x1), (.int x2), (.int x3), (.int x4), (.int x5), (.int x6), (.int x7)] (.int 0) := (Arv.other F553 W554 ne536)
  refine own_st (T' := T554) (g' := (mkF m 174 #[.val (.ref cs), .val (.int 5)] [(.int x3), (.int 3), (.ref b534), (.ref b534), (.ref b527), (.ref b527)])) (own_cal X554 hx hZ e554 F559 ⟨by decide, by decide⟩ rfl (g := (mkF m 173 #[.val (.ref cs), .val (.int 5)] [(.int 3), (.ref cs), (.int 3), (.ref b534), (.ref b534), (.ref b527), (.ref b527)])) rfl rfl (hb hby d4_173)) ?_
  obtain ⟨T560, h560, X560, e560, W560, V560, st560⟩ := own_cst X554 hx hZ e554 F558 ⟨by decide, by decide⟩ (i := 3) rfl (by simp) (y := x3) pr8.2.2 (g := (mkF m 174 #[.val (.ref cs), .val (.int 5)] [(.int x3), (.int 3), (.ref b534), (.ref b534), (.ref b527), (.ref b527)])) rfl rfl (hb hby d4_174)
  have N560 := Fr.snoc X560 N554 ge_b534
  have F561 : Safe Z own_EL s.vm h554 b534 := (Safe.wr W554 F555 CR550.1 F555)
  have CR562 : CHr Z own_EL s.vm h0 s.vm h560 := CHr.trans CR556 (CHr.wr W560 F561 CR556.1)
  have Z563 : n0 ≤ h560.size := Nat.le_trans Z557 (Nat.le_of_eq (Wr.size W560).symm)
  have hk563 := Nat.le_trans hk557 (Nat.le_of_eq (Wr.size W560).symm)
  have K563 : Keep h0 h560 [] := (Keep.wr K557 W560 (Or.inr (Nat.le_trans K530.1 (Nat.le_of_eq g534.symm))))
  have F564 : Arv Z h560 b534 k534 .char (5 : Int32) [(.int x0), (.int x1), (.int x2), (.int x3), (.int 0)] (.int 0) := V560
  refine own_st (T' := T560) (g' := (mkF m 175 #[.val (.ref cs), .val (.int 5)] [(.ref b534), (.ref b527), (.ref b527)])) st560 ?_
  refine own_st (T' := T560) (g' := (mkF m 179 #[.val (.ref cs), .val (.int 5)] [(.int 4), (.ref cs), (.int 4), (.ref b534), (.ref b534), (.ref b527), (.ref b527)])) (fun _ kt => XS.dup X560.here hx rfl (hb hby d4_175) rfl rfl (XS.iconst X560.here hx rfl (hb hby d4_176) (XS.aloadN X560.here hx rfl (hb hby d4_177) rfl rfl (XS.iconst X560.here hx rfl (hb hby d4_178) kt)))) ?_
  have F565 : Arv Z h560 cs kc .char (8 : Int32) [(.int x0), (.int x1), (.int x2), (.int x3), (.int x4), (.int x5), (.int x6), (.int x7)] (.int 0) := (Arv.other F559 W560 ne536)
  refine own_st (T' := T560) (g' := (mkF m 180 #[.val (.ref cs), .val (.int 5)] [(.int x4), (.int 4), (.ref b534), (.ref b534), (.ref b527), (.ref b527)])) (own_cal X560 hx hZ e560 F565 ⟨by decide, by decide⟩ rfl (g := (mkF m 179 #[.val (.ref cs), .val (.int 5)] [(.int 4), (.ref cs), (.int 4), (.ref b534), (.ref b534), (.ref b527), (.ref b527)])) rfl rfl (hb hby d4_179)) ?_
  obtain ⟨T566, h566, X566, e566, W566, V566, st566⟩ := own_cst X560 hx hZ e560 F564 ⟨by decide, by decide⟩ (i := 4) rfl (by simp) (y := x4) pr9.2.2 (g := (mkF m 180 #[.val (.ref cs), .val (.int 5)] [(.int x4), (.int 4), (.ref b534), (.ref b534), (.ref b527), (.ref b527)])) rfl rfl (hb hby d4_180)
  have N566 := Fr.snoc X566 N560 ge_b534
  have F567 : Safe Z own_EL s.vm h560 b534 := (Safe.wr W560 F561 CR556.1 F561)
  have CR568 : CHr Z own_EL s.vm h0 s.vm h566 := CHr.trans CR562 (CHr.wr W566 F567 CR562.1)
  have Z569 : n0 ≤ h566.size := Nat.le_trans Z563 (Nat.le_of_eq (Wr.size W566).symm)
  have hk569 := Nat.le_trans hk563 (Nat.le_of_eq (Wr.size W566).symm)
  have K569 : Keep h0 h566 [] := (Keep.wr K563 W566 (Or.inr (Nat.le_trans K530.1 (Nat.le_of_eq g534.symm))))
  have F570 : Arv Z h566 b534 k534 .char (5 : Int32) [(.int x0), (.int x1), (.int x2), (.int x3), (.int x4)] (.int 0) := V566
  refine own_st (T' := T566) (g' := (mkF m 181 #[.val (.ref cs), .val (.int 5)] [(.ref b534), (.ref b527), (.ref b527)])) st566 ?_
  have F571 : Exa Z h566 b527 "java/lang/String" := (Exa.wr W566 (Exa.wr W560 (Exa.wr W554 (Exa.wr W548 (Exa.wr W543 (Exa.ext E534 A527))))))
  have F572 : Fld Z h566 b527 "java/lang/String" "value" "[B" .null := (Fld.other W566 (Fld.other W560 (Fld.other W554 (Fld.other W548 (Fld.other W543 (Fld.ext E534 F533) (Or.inl ne537)) (Or.inl ne537)) (Or.inl ne537)) (Or.inl ne537)) (Or.inl ne537))
  have F573 : Fld Z h566 b527 "java/lang/String" "coder" "B" (.int 0) := (Fld.other W566 (Fld.other W560 (Fld.other W554 (Fld.other W548 (Fld.other W543 (Fld.ext E534 F532) (Or.inl ne537)) (Or.inl ne537)) (Or.inl ne537)) (Or.inl ne537)) (Or.inl ne537))
  have F574 : Old Z n0 h566 := (Old.wr (Old.wr (Old.wr (Old.wr (Old.wr (Old.ext (Old.ext pr1 E527) E534) W543 ge_b534) W548 ge_b534) W554 ge_b534) W560 ge_b534) W566 ge_b534)
  obtain ⟨_, _, ⟨T575, L575, k575, n575⟩, -, X575, ⟨Lc575, hQ575, l575, y575, z575⟩, st575⟩ := X566.specialBack hx (y := yN5) rfl hown (mvT hZ (own_k hw 39 rfl)) (mvT hZ (own_k hw 40 rfl)) (mvT hZ (own_k hw 41 rfl)) (by decide) (StrChars.Road.backV (W := 1) hZ (own_hws hw) (kI := 4) (own_k hw 38 rfl) (cs := ([x0, x1, x2, x3, x4] : List Int32)) (bs := (([x0, x1, x2, x3, x4] : List Int32)).map (fun c => c.toInt8.toInt32)) (n := 5) ge_b527 Z569 F571 F572 F573 F570 (Sta.ext F574.2 pr2) pr3 rfl rfl (by decide) (by decide) (by intro c hc; simp only [List.mem_cons, List.not_mem_nil, or_false] at hc; rcases hc with rfl | rfl | rfl | rfl | rfl <;> first | exact ⟨pr5.1, pr5.2.1⟩ | exact ⟨pr6.1, pr6.2.1⟩ | exact ⟨pr7.1, pr7.2.1⟩ | exact ⟨pr8.1, pr8.2.1⟩ | exact ⟨pr9.1, pr9.2.1⟩) rfl (by decide) (by decide)) (g := (mkF m 181 #[.val (.ref cs), .val (.int 5)] [(.ref b534), (.ref b527), (.ref b527)])) rfl hml.symm (Steps.refl _) (a := b527) (argsL := [(.ref b534)]) (rest := [(.ref b527)]) (lenOf own_pd12 rfl) rfl (own_w0 rfl rfl) (hb hby d4_181) (fun _ _ => ⟨rfl, e566, (by decide : 2 + 1 ≤ 6), (by decide : 9 + 5 ≤ 32)⟩)
  dsimp only [Pt.U, Pt.locs, Pt.cells, Pt.slots] at X575 l575 y575 z575 st575 hQ575
  subst l575 y575 z575
  obtain ⟨rfl, N575, K575_, gE575, gC575, t575, kb575, gt575, hz575, ht575, gV575, gA575⟩ := hQ575
  have N576 := Fr.app N566 N575
  have F577 : Safe Z own_EL s.vm h566 b527 := (Safe.wr W566 F567 CR562.1 (Safe.wr W560 F561 CR556.1 (Safe.wr W554 F555 CR550.1 (Safe.wr W548 F549 CR544.1 (Safe.wr W543 S540 CR538.1 (Safe.ext E534 CR529.1 S531))))))
  have CR578 : CHr Z own_EL s.vm h0 s.vm T575.heap := CHr.trans CR568 (CHr.keep K575_ (sfS F577 sf0) CR568.1)
  have Z579 : n0 ≤ T575.heap.size := Nat.le_trans Z569 K575_.1
  have hk579 := Nat.le_trans hk569 K575_.1
  have K579 : Keep h0 T575.heap [] := (Keep.trans K569 K575_ (allS (Or.inr (Nat.le_trans K0.1 (Nat.le_of_eq g527.symm))) all0))
  have F580 : Arv Z h566 cs kc .char (8 : Int32) [(.int x0), (.int x1), (.int x2), (.int x3), (.int x4), (.int x5), (.int x6), (.int x7)] (.int 0) := (Arv.other F565 W566 ne536)
  have ne581 : cs ≠ t575 := Nat.ne_of_lt (Nat.lt_of_lt_of_le F580.lt hz575)
  have ne582 : b527 ≠ t575 := Nat.ne_of_lt (Nat.lt_of_lt_of_le F571.lt hz575)
  have ne583 : b534 ≠ t575 := Nat.ne_of_lt (Nat.lt_of_lt_of_le F570.lt hz575)
  refine own_tr (T' := T575) (g' := (mkF m 184 #[.val (.ref cs), .val (.int 5)] [(.ref b527)])) st575 ?_
  obtain ⟨fs, hr, hrun, hended, hE⟩ := Stand.leaveW X575 hS hk579 (v := some (.ref b527)) (fun h => by rw [Bd.returns] at h; cases h)
  refine own_end (own_retA X575 hx Bd.returns rfl rfl rfl (hb hby d4_184) hr) ⟨_, hrun, hended, _, _, rfl, ?_, (by rw [hh]; show CHr Z own_EL s.vm h0 T575.vm T575.heap; exact CHr.trans CR578 (CHv.at X575 hZ (own_EW hw) CR578.1)), ⟨hE.1, hE.2.1, hE.2.2.1, hE.2.2.2.mono (by decide) (by decide)⟩⟩
  show own_s5Q Z _ _ _ _ _ _ _ _ _ _ _ h0 n0 _ T575.heap _
  show own_s5Q Z _ _ _ _ _ _ _ _ _ _ _ h0 n0 _ T575.heap _
  exact ⟨b527, t575, kb575, rfl, N576, K579, gE575, gC575, gV575, gA575, (Nat.le_trans K0.1 (Nat.le_of_eq g527.symm))⟩
theorem d4_185 : decode method_4_code 185 = .ok (.iload_n 1, 1) := by decide +kernel
theorem d4_186 : decode method_4_code 186 = .ok (.bipush 6, 2) := by decide +kernel
theorem d4_188 : decode method_4_code 188 = .ok (.if_icmp .ne 51, 3) := by decide +kernel
theorem d4_191 : decode method_4_code 191 = .ok (.new 37, 3) := by decide +kernel
theorem d4_194 : decode method_4_code 194 = .ok (.dup, 1) := by decide +kernel
theorem d4_195 : decode method_4_code 195 = .ok (.bipush 6, 2) := by decide +kernel
theorem d4_197 : decode method_4_code 197 = .ok (.newarray .char, 2) := by decide +kernel
theorem d4_199 : decode method_4_code 199 = .ok (.dup, 1) := by decide +kernel
theorem d4_200 : decode method_4_code 200 = .ok (.iconst 0, 1) := by decide +kernel
theorem d4_201 : decode method_4_code 201 = .ok (.aload_n 0, 1) := by decide +kernel
theorem d4_202 : decode method_4_code 202 = .ok (.iconst 0, 1) := by decide +kernel
theorem d4_203 : decode method_4_code 203 = .ok (.caload, 1) := by decide +kernel
theorem d4_204 : decode method_4_code 204 = .ok (.castore, 1) := by decide +kernel
theorem d4_205 : decode method_4_code 205 = .ok (.dup, 1) := by decide +kernel
theorem d4_206 : decode method_4_code 206 = .ok (.iconst 1, 1) := by decide +kernel
theorem d4_207 : decode method_4_code 207 = .ok (.aload_n 0, 1) := by decide +kernel
theorem d4_208 : decode method_4_code 208 = .ok (.iconst 1, 1) := by decide +kernel
theorem d4_209 : decode method_4_code 209 = .ok (.caload, 1) := by decide +kernel
theorem d4_210 : decode method_4_code 210 = .ok (.castore, 1) := by decide +kernel
theorem d4_211 : decode method_4_code 211 = .ok (.dup, 1) := by decide +kernel
theorem d4_212 : decode method_4_code 212 = .ok (.iconst 2, 1) := by decide +kernel
theorem d4_213 : decode method_4_code 213 = .ok (.aload_n 0, 1) := by decide +kernel
theorem d4_214 : decode method_4_code 214 = .ok (.iconst 2, 1) := by decide +kernel
theorem d4_215 : decode method_4_code 215 = .ok (.caload, 1) := by decide +kernel
theorem d4_216 : decode method_4_code 216 = .ok (.castore, 1) := by decide +kernel
theorem d4_217 : decode method_4_code 217 = .ok (.dup, 1) := by decide +kernel
theorem d4_218 : decode method_4_code 218 = .ok (.iconst 3, 1) := by decide +kernel
theorem d4_219 : decode method_4_code 219 = .ok (.aload_n 0, 1) := by decide +kernel
theorem d4_220 : decode method_4_code 220 = .ok (.iconst 3, 1) := by decide +kernel
theorem d4_221 : decode method_4_code 221 = .ok (.caload, 1) := by decide +kernel
theorem d4_222 : decode method_4_code 222 = .ok (.castore, 1) := by decide +kernel
theorem d4_223 : decode method_4_code 223 = .ok (.dup, 1) := by decide +kernel
theorem d4_224 : decode method_4_code 224 = .ok (.iconst 4, 1) := by decide +kernel
theorem d4_225 : decode method_4_code 225 = .ok (.aload_n 0, 1) := by decide +kernel
theorem d4_226 : decode method_4_code 226 = .ok (.iconst 4, 1) := by decide +kernel
theorem d4_227 : decode method_4_code 227 = .ok (.caload, 1) := by decide +kernel
theorem d4_228 : decode method_4_code 228 = .ok (.castore, 1) := by decide +kernel
theorem d4_229 : decode method_4_code 229 = .ok (.dup, 1) := by decide +kernel
theorem d4_230 : decode method_4_code 230 = .ok (.iconst 5, 1) := by decide +kernel
theorem d4_231 : decode method_4_code 231 = .ok (.aload_n 0, 1) := by decide +kernel
theorem d4_232 : decode method_4_code 232 = .ok (.iconst 5, 1) := by decide +kernel
theorem d4_233 : decode method_4_code 233 = .ok (.caload, 1) := by decide +kernel
theorem d4_234 : decode method_4_code 234 = .ok (.castore, 1) := by decide +kernel
theorem d4_235 : decode method_4_code 235 = .ok (.invokespecial 46, 3) := by decide +kernel
theorem d4_238 : decode method_4_code 238 = .ok (.areturn, 1) := by decide +kernel
def own_s6Q (Z : State) (cs : Addr) (kc : ClassId) (zc : Int32) (x0 : Int32) (x1 : Int32) (x2 : Int32) (x3 : Int32) (x4 : Int32) (x5 : Int32) (x6 : Int32) (x7 : Int32) (h0 : Heap) (n0 : Nat) (v : Option Value) (h : Heap) (L : List Loc) : Prop := ∃ (y : Addr), ∃ (t : Addr), ∃ (ky : ClassId), v = some (.ref y) ∧ Fr n0 L ∧ Keep h0 h [] ∧ (Exa Z h y "java/lang/String") ∧ (Fld Z h y "java/lang/String" "coder" "B" (.int 0)) ∧ (Fld Z h y "java/lang/String" "value" "[B" (.ref t)) ∧ (Arv Z h t ky .byte (6 : Int32) [(.int x0.toInt8.toInt32), (.int x1.toInt8.toInt32), (.int x2.toInt8.toInt32), (.int x3.toInt8.toInt32), (.int x4.toInt8.toInt32), (.int x5.toInt8.toInt32)] (.int 0)) ∧ (h0.size ≤ y)
abbrev own_s6R : Room := { frames := 5, cells := 6, slots := 32, locals := 160 }
theorem own_s6 (l : Launch) (Z : State) (a0 : Array Value) (hw : ∀ d ∈ tables_1, d.before a0 Z = true) (ws : List Jvm.Cond) (cs : Addr) (kc : ClassId) (zc : Int32) (x0 : Int32) (x1 : Int32) (x2 : Int32) (x3 : Int32) (x4 : Int32) (x5 : Int32) (x6 : Int32) (x7 : Int32) (h0 : Heap) (n0 : Nat) (Z0 : n0 ≤ h0.size) (pr1 : Old Z n0 h0) (pr2 : Sta Z Z.heap "java/lang/String" "COMPACT_STRINGS" "Z" (.int zc)) (pr3 : ¬ zc = 0) (pr4 : Arv Z h0 cs kc .char (8 : Int32) [(.int x0), (.int x1), (.int x2), (.int x3), (.int x4), (.int x5), (.int x6), (.int x7)] (.int 0)) (pr5 : own_cc x0) (pr6 : own_cc x1) (pr7 : own_cc x2) (pr8 : own_cc x3) (pr9 : own_cc x4) (pr10 : own_cc x5) (pr11 : own_cc x6) (pr12 : own_cc x7) :
    own_MH own_EL l yN4 method_4_code 2 (some (.object "java/lang/String")) ws own_s6R #[(.ref cs), (.int 6)] Z h0 (own_s6Q Z cs kc zc x0 x1 x2 x3 x4 x5 x6 x7 h0 n0) := by
  refine own_goH (plainFor_of_name own_pn5) (fun m => own_ef4 m cs (6 : Int32) ) ?_
  intro p e s m below meth c s₁ Bd hx hby hml hZ hh hown hnm X0 e0 hS CR0
  have N0 := Fr.nil n0
  have K0 : Keep h0 h0 [] := Keep.refl h0 _
  have hk : h0.size ≤ h0.size := Nat.le_refl _
  refine own_st (T' := s₁) (g' := (mkF m 100 #[.val (.ref cs), .val (.int 6)] [(.int 6)])) (fun _ kt => XS.iloadN X0.here hx rfl (hb hby d4_0) rfl (XS.ifYes X0.here hx rfl (pc0 := 1) (pc' := 15) rfl (hb hby d4_1) rfl (XT.i0_ne_t (by decide)) (by decide) (by decide) (XS.iloadN X0.here hx rfl (hb hby d4_15) rfl (XS.iconst X0.here hx rfl (hb hby d4_16) (XS.icmpYes X0.here hx rfl (pc0 := 17) (pc' := 37) rfl (hb hby d4_17) rfl (XT.ii_ne_t (by decide)) (by decide) (by decide) (XS.iloadN X0.here hx rfl (hb hby d4_37) rfl (XS.iconst X0.here hx rfl (hb hby d4_38) (XS.icmpYes X0.here hx rfl (pc0 := 39) (pc' := 65) rfl (hb hby d4_39) rfl (XT.ii_ne_t (by decide)) (by decide) (by decide) (XS.iloadN X0.here hx rfl (hb hby d4_65) rfl (XS.iconst X0.here hx rfl (hb hby d4_66) (XS.icmpYes X0.here hx rfl (pc0 := 67) (pc' := 99) rfl (hb hby d4_67) rfl (XT.ii_ne_t (by decide)) (by decide) (by decide) (XS.iloadN X0.here hx rfl (hb hby d4_99) rfl kt)))))))))))) ?_
  refine own_st (T' := s₁) (g' := (mkF m 191 #[.val (.ref cs), .val (.int 6)] [])) (fun _ kt => XS.iconst X0.here hx rfl (hb hby d4_100) (XS.icmpYes X0.here hx rfl (pc0 := 101) (pc' := 139) rfl (hb hby d4_101) rfl (XT.ii_ne_t (by decide)) (by decide) (by decide) (XS.iloadN X0.here hx rfl (hb hby d4_139) rfl (XS.iconst X0.here hx rfl (hb hby d4_140) (XS.icmpYes X0.here hx rfl (pc0 := 141) (pc' := 185) rfl (hb hby d4_141) rfl (XT.ii_ne_t (by decide)) (by decide) (by decide) (XS.iloadN X0.here hx rfl (hb hby d4_185) rfl (XS.bipush X0.here hx rfl (hb hby d4_186) (XS.icmpNo X0.here hx rfl (hb hby d4_188) rfl (XT.ii_ne_f (by decide)) kt)))))))) ?_
  obtain ⟨T584, h584, X584, e584, E584, A584, D584, -, st584⟩ := newO X0 hx hZ hown (own_k hw 37 rfl) (own_k hw 38 rfl) (own_k hw 31 rfl) e0 (g := (mkF m 191 #[.val (.ref cs), .val (.int 6)] [])) rfl (hb hby d4_191) (by decide) (by decide)
  obtain ⟨b584, g584⟩ : ∃ z, z = h0.size := ⟨_, rfl⟩
  rw [← g584] at A584 D584 st584
  have ne585 : cs ≠ b584 := by rw [g584]; exact Nat.ne_of_lt pr4.lt
  have CR586 : CHr Z own_EL s.vm h0 s.vm h584 := CHr.trans CR0 (CHr.ext E584 CR0.1)
  have Z587 : n0 ≤ h584.size := Nat.le_trans Z0 E584.1
  have hk587 := Nat.le_trans hk E584.1
  have K587 : Keep h0 h584 [] := (Keep.ext K0 E584)
  have ge_b584 : n0 ≤ b584 := Nat.le_trans Z0 (Nat.le_of_eq g584.symm)
  have S588 : Safe Z own_EL s.vm h584 b584 := (Safe.ext E584 CR0.1 (Safe.new (Nat.le_of_eq g584.symm)))
  have F589 : Fld Z h584 b584 "java/lang/String" "coder" "B" (.int 0) := D584 (Or.inr (own_k hw 62 rfl)) (ty := .byte) (by decide)
  have F590 : Fld Z h584 b584 "java/lang/String" "value" "[B" .null := D584 (Or.inr (own_k hw 64 rfl)) (ty := (.array .byte)) (by decide)
  refine own_st (T' := T584) (g' := (mkF m 194 #[.val (.ref cs), .val (.int 6)] [(.ref b584)])) st584 ?_
  refine own_st (T' := T584) (g' := (mkF m 197 #[.val (.ref cs), .val (.int 6)] [(.int 6), (.ref b584), (.ref b584)])) (fun _ kt => XS.dup X584.here hx rfl (hb hby d4_194) rfl rfl (XS.bipush X584.here hx rfl (hb hby d4_195) kt)) ?_
  obtain ⟨T591, h591, k591, X591, e591, E591, A591, st591⟩ := newP X584 hx hZ (aty := .char) (own_k hw 0 rfl) e584 (g := (mkF m 197 #[.val (.ref cs), .val (.int 6)] [(.int 6), (.ref b584), (.ref b584)])) rfl (hb hby d4_197) rfl (by decide) (cap := 6) (by decide) (by decide) (by decide) (by decide)
  obtain ⟨b591, g591⟩ : ∃ z, z = h584.size := ⟨_, rfl⟩
  rw [← g591] at A591 st591
  have F592 : Arv Z h584 cs kc .char (8 : Int32) [(.int x0), (.int x1), (.int x2), (.int x3), (.int x4), (.int x5), (.int x6), (.int x7)] (.int 0) := (pr4.ext E584)
  have ne593 : cs ≠ b591 := by rw [g591]; exact Nat.ne_of_lt F592.lt
  have ne594 : b584 ≠ b591 := by rw [g591]; exact Nat.ne_of_lt A584.lt
  have CR595 : CHr Z own_EL s.vm h0 s.vm h591 := CHr.trans CR586 (CHr.ext E591 CR586.1)
  have Z596 : n0 ≤ h591.size := Nat.le_trans Z587 E591.1
  have hk596 := Nat.le_trans hk587 E591.1
  have K596 : Keep h0 h591 [] := (Keep.ext K587 E591)
  have ge_b591 : n0 ≤ b591 := Nat.le_trans Z587 (Nat.le_of_eq g591.symm)
  have S597 : Safe Z own_EL s.vm h591 b591 := (Safe.ext E591 CR586.1 (Safe.new (Nat.le_of_eq g591.symm)))
  have F598 : Arv Z h591 b591 k591 .char (6 : Int32) [(.int 0), (.int 0), (.int 0), (.int 0), (.int 0), (.int 0)] (.int 0) := (Arv.new A591 (by decide)).pad (pad_rep [] (.int 0) 6)
  refine own_st (T' := T591) (g' := (mkF m 199 #[.val (.ref cs), .val (.int 6)] [(.ref b591), (.ref b584), (.ref b584)])) st591 ?_
  refine own_st (T' := T591) (g' := (mkF m 203 #[.val (.ref cs), .val (.int 6)] [(.int 0), (.ref cs), (.int 0), (.ref b591), (.ref b591), (.ref b584), (.ref b584)])) (fun _ kt => XS.dup X591.here hx rfl (hb hby d4_199) rfl rfl (XS.iconst X591.here hx rfl (hb hby d4_200) (XS.aloadN X591.here hx rfl (hb hby d4_201) rfl rfl (XS.iconst X591.here hx rfl (hb hby d4_202) kt)))) ?_
  have F599 : Arv Z h591 cs kc .char (8 : Int32) [(.int x0), (.int x1), (.int x2), (.int x3), (.int x4), (.int x5), (.int x6), (.int x7)] (.int 0) := (F592.ext E591)
  refine own_st (T' := T591) (g' := (mkF m 204 #[.val (.ref cs), .val (.int 6)] [(.int x0), (.int 0), (.ref b591), (.ref b591), (.ref b584), (.ref b584)])) (own_cal X591 hx hZ e591 F599 ⟨by decide, by decide⟩ rfl (g := (mkF m 203 #[.val (.ref cs), .val (.int 6)] [(.int 0), (.ref cs), (.int 0), (.ref b591), (.ref b591), (.ref b584), (.ref b584)])) rfl rfl (hb hby d4_203)) ?_
  obtain ⟨T600, h600, X600, e600, W600, V600, st600⟩ := own_cst X591 hx hZ e591 F598 ⟨by decide, by decide⟩ (i := 0) rfl (by simp) (y := x0) pr5.2.2 (g := (mkF m 204 #[.val (.ref cs), .val (.int 6)] [(.int x0), (.int 0), (.ref b591), (.ref b591), (.ref b584), (.ref b584)])) rfl rfl (hb hby d4_204)
  have N600 := Fr.snoc X600 N0 ge_b591
  have CR601 : CHr Z own_EL s.vm h0 s.vm h600 := CHr.trans CR595 (CHr.wr W600 S597 CR595.1)
  have Z602 : n0 ≤ h600.size := Nat.le_trans Z596 (Nat.le_of_eq (Wr.size W600).symm)
  have hk602 := Nat.le_trans hk596 (Nat.le_of_eq (Wr.size W600).symm)
  have K602 : Keep h0 h600 [] := (Keep.wr K596 W600 (Or.inr (Nat.le_trans K587.1 (Nat.le_of_eq g591.symm))))
  have F603 : Arv Z h600 b591 k591 .char (6 : Int32) [(.int x0), (.int 0), (.int 0), (.int 0), (.int 0), (.int 0)] (.int 0) := V600
  refine own_st (T' := T600) (g' := (mkF m 205 #[.val (.ref cs), .val (.int 6)] [(.ref b591), (.ref b584), (.ref b584)])) st600 ?_
  refine own_st (T' := T600) (g' := (mkF m 209 #[.val (.ref cs), .val (.int 6)] [(.int 1), (.ref cs), (.int 1), (.ref b591), (.ref b591), (.ref b584), (.ref b584)])) (fun _ kt => XS.dup X600.here hx rfl (hb hby d4_205) rfl rfl (XS.iconst X600.here hx rfl (hb hby d4_206) (XS.aloadN X600.here hx rfl (hb hby d4_207) rfl rfl (XS.iconst X600.here hx rfl (hb hby d4_208) kt)))) ?_
  have F604 : Arv Z h600 cs kc .char (8 : Int32) [(.int x0), (.int x1), (.int x2), (.int x3), (.int x4), (.int x5), (.int x6), (.int x7)] (.int 0) := (Arv.other F599 W600 ne593)
  refine own_st (T' := T600) (g' := (mkF m 210 #[.val (.ref cs), .val (.int 6)] [(.int x1), (.int 1), (.ref b591), (.ref b591), (.ref b584), (.ref b584)])) (own_cal X600 hx hZ e600 F604 ⟨by decide, by decide⟩ rfl (g := (mkF m 209 #[.val (.ref cs), .val (.int 6)] [(.int 1), (.ref cs), (.int 1), (.ref b591), (.ref b591), (.ref b584), (.ref b584)])) rfl rfl (hb hby d4_209)) ?_
  obtain ⟨T605, h605, X605, e605, W605, V605, st605⟩ := own_cst X600 hx hZ e600 F603 ⟨by decide, by decide⟩ (i := 1) rfl (by simp) (y := x1) pr6.2.2 (g := (mkF m 210 #[.val (.ref cs), .val (.int 6)] [(.int x1), (.int 1), (.ref b591), (.ref b591), (.ref b584), (.ref b584)])) rfl rfl (hb hby d4_210)
  have N605 := Fr.snoc X605 N600 ge_b591
  have F606 : Safe Z own_EL s.vm h600 b591 := (Safe.wr W600 S597 CR595.1 S597)
  have CR607 : CHr Z own_EL s.vm h0 s.vm h605 := CHr.trans CR601 (CHr.wr W605 F606 CR601.1)
  have Z608 : n0 ≤ h605.size := Nat.le_trans Z602 (Nat.le_of_eq (Wr.size W605).symm)
  have hk608 := Nat.le_trans hk602 (Nat.le_of_eq (Wr.size W605).symm)
  have K608 : Keep h0 h605 [] := (Keep.wr K602 W605 (Or.inr (Nat.le_trans K587.1 (Nat.le_of_eq g591.symm))))
  have F609 : Arv Z h605 b591 k591 .char (6 : Int32) [(.int x0), (.int x1), (.int 0), (.int 0), (.int 0), (.int 0)] (.int 0) := V605
  refine own_st (T' := T605) (g' := (mkF m 211 #[.val (.ref cs), .val (.int 6)] [(.ref b591), (.ref b584), (.ref b584)])) st605 ?_
  refine own_st (T' := T605) (g' := (mkF m 215 #[.val (.ref cs), .val (.int 6)] [(.int 2), (.ref cs), (.int 2), (.ref b591), (.ref b591), (.ref b584), (.ref b584)])) (fun _ kt => XS.dup X605.here hx rfl (hb hby d4_211) rfl rfl (XS.iconst X605.here hx rfl (hb hby d4_212) (XS.aloadN X605.here hx rfl (hb hby d4_213) rfl rfl (XS.iconst X605.here hx rfl (hb hby d4_214) kt)))) ?_
  have F610 : Arv Z h605 cs kc .char (8 : Int32) [(.int x0), (.int x1), (.int x2), (.int x3), (.int x4), (.int x5), (.int x6), (.int x7)] (.int 0) := (Arv.other F604 W605 ne593)
  refine own_st (T' := T605) (g' := (mkF m 216 #[.val (.ref cs), .val (.int 6)] [(.int x2), (.int 2), (.ref b591), (.ref b591), (.ref b584), (.ref b584)])) (own_cal X605 hx hZ e605 F610 ⟨by decide, by decide⟩ rfl (g := (mkF m 215 #[.val (.ref cs), .val (.int 6)] [(.int 2), (.ref cs), (.int 2), (.ref b591), (.ref b591), (.ref b584), (.ref b584)])) rfl rfl (hb hby d4_215)) ?_
  obtain ⟨T611, h611, X611, e611, W611, V611, st611⟩ := own_cst X605 hx hZ e605 F609 ⟨by decide, by decide⟩ (i := 2) rfl (by simp) (y := x2) pr7.2.2 (g := (mkF m 216 #[.val (.ref cs), .val (.int 6)] [(.int x2), (.int 2), (.ref b591), (.ref b591), (.ref b584), (.ref b584)])) rfl rfl (hb hby d4_216)
  have N611 := Fr.snoc X611 N605 ge_b591
  have F612 : Safe Z own_EL s.vm h605 b591 := (Safe.wr W605 F606 CR601.1 F606)
  have CR613 : CHr Z own_EL s.vm h0 s.vm h611 := CHr.trans CR607 (CHr.wr W611 F612 CR607.1)
  have Z614 : n0 ≤ h611.size := Nat.le_trans Z608 (Nat.le_of_eq (Wr.size W611).symm)
  have hk614 := Nat.le_trans hk608 (Nat.le_of_eq (Wr.size W611).symm)
  have K614 : Keep h0 h611 [] := (Keep.wr K608 W611 (Or.inr (Nat.le_trans K587.1 (Nat.le_of_eq g591.symm))))
  have F615 : Arv Z h611 b591 k591 .char (6 : Int32) [(.int x0), (.int x1), (.int x2), (.int 0), (.int 0), (.int 0)] (.int 0) := V611
  refine own_st (T' := T611) (g' := (mkF m 217 #[.val (.ref cs), .val (.int 6)] [(.ref b591), (.ref b584), (.ref b584)])) st611 ?_
  refine own_st (T' := T611) (g' := (mkF m 221 #[.val (.ref cs), .val (.int 6)] [(.int 3), (.ref cs), (.int 3), (.ref b591), (.ref b591), (.ref b584), (.ref b584)])) (fun _ kt => XS.dup X611.here hx rfl (hb hby d4_217) rfl rfl (XS.iconst X611.here hx rfl (hb hby d4_218) (XS.aloadN X611.here hx rfl (hb hby d4_219) rfl rfl (XS.iconst X611.here hx rfl (hb hby d4_220) kt)))) ?_
  have F616 : Arv Z h611 cs kc .char (8 : Int32) [(.int x0), (.int x1), (.int x2), (.int x3), (.int x4), (.int x5), (.int x6), (.int x7)] (.int 0) := (Arv.other F610 W611 ne593)
  refine own_st (T' := T611) (g' := (mkF m 222 #[.val (.ref cs), .val (.int 6)] [(.int x3), (.int 3), (.ref b591), (.ref b591), (.ref b584), (.ref b584)])) (own_cal X611 hx hZ e611 F616 ⟨by decide, by decide⟩ rfl (g := (mkF m 221 #[.val (.ref cs), .val (.int 6)] [(.int 3), (.ref cs), (.int 3), (.ref b591), (.ref b591), (.ref b584), (.ref b584)])) rfl rfl (hb hby d4_221)) ?_
  obtain ⟨T617, h617, X617, e617, W617, V617, st617⟩ := own_cst X611 hx hZ e611 F615 ⟨by decide, by decide⟩ (i := 3) rfl (by simp) (y := x3) pr8.2.2 (g := (mkF m 222 #[.val (.ref cs), .val (.int 6)] [(.int x3), (.int 3), (.ref b591), (.ref b591), (.ref b584), (.ref b584)])) rfl rfl (hb hby d4_222)
  have N617 := Fr.snoc X617 N611 ge_b591
  have F618 : Safe Z own_EL s.vm h611 b591 := (Safe.wr W611 F612 CR607.1 F612)
  have CR619 : CHr Z own_EL s.vm h0 s.vm h617 := CHr.trans CR613 (CHr.wr W617 F618 CR613.1)
  have Z620 : n0 ≤ h617.size := Nat.le_trans Z614 (Nat.le_of_eq (Wr.size W617).symm)
  have hk620 := Nat.le_trans hk614 (Nat.le_of_eq (Wr.size W617).symm)
  have K620 : Keep h0 h617 [] := (Keep.wr K614 W617 (Or.inr (Nat.le_trans K587.1 (Nat.le_of_eq g591.symm))))
  have F621 : Arv Z h617 b591 k591 .char (6 : Int32) [(.int x0), (.int x1), (.int x2), (.int x3), (.int 0), (.int 0)] (.int 0) := V617
  refine own_st (T' := T617) (g' := (mkF m 223 #[.val (.ref cs), .val (.int 6)] [(.ref b591), (.ref b584), (.ref b584)])) st617 ?_
  refine own_st (T' := T617) (g' := (mkF m 227 #[.val (.ref cs), .val (.int 6)] [(.int 4), (.ref cs), (.int 4), (.ref b591), (.ref b591), (.ref b584), (.ref b584)])) (fun _ kt => XS.dup X617.here hx rfl (hb hby d4_223) rfl rfl (XS.iconst X617.here hx rfl (hb hby d4_224) (XS.aloadN X617.here hx rfl (hb hby d4_225) rfl rfl (XS.iconst X617.here hx rfl (hb hby d4_226) kt)))) ?_
  have F622 : Arv Z h617 cs kc .char (8 : Int32) [(.int x0), (.int x1), (.int x2), (.int x3), (.int x4), (.int x5), (.int x6), (.int x7)] (.int 0) := (Arv.other F616 W617 ne593)
  refine own_st (T' := T617) (g' := (mkF m 228 #[.val (.ref cs), .val (.int 6)] [(.int x4), (.int 4), (.ref b591), (.ref b591), (.ref b584), (.ref b584)])) (own_cal X617 hx hZ e617 F622 ⟨by decide, by decide⟩ rfl (g := (mkF m 227 #[.val (.ref cs), .val (.int 6)] [(.int 4), (.ref cs), (.int 4), (.ref b591), (.ref b591), (.ref b584), (.ref b584)])) rfl rfl (hb hby d4_227)) ?_
  obtain ⟨T623, h623, X623, e623, W623, V623, st623⟩ := own_cst X617 hx hZ e617 F621 ⟨by decide, by decide⟩ (i := 4) rfl (by simp) (y := x4) pr9.2.2 (g := (mkF m 228 #[.val (.ref cs), .val (.int 6)] [(.int x4), (.int 4), (.ref b591), (.ref b591), (.ref b584), (.ref b584)])) rfl rfl (hb hby d4_228)
  have N623 := Fr.snoc X623 N617 ge_b591
  have F624 : Safe Z own_EL s.vm h617 b591 := (Safe.wr W617 F618 CR613.1 F618)
  have CR625 : CHr Z own_EL s.vm h0 s.vm h623 := CHr.trans CR619 (CHr.wr W623 F624 CR619.1)
  have Z626 : n0 ≤ h623.size := Nat.le_trans Z620 (Nat.le_of_eq (Wr.size W623).symm)
  have hk626 := Nat.le_trans hk620 (Nat.le_of_eq (Wr.size W623).symm)
  have K626 : Keep h0 h623 [] := (Keep.wr K620 W623 (Or.inr (Nat.le_trans K587.1 (Nat.le_of_eq g591.symm))))
  have F627 : Arv Z h623 b591 k591 .char (6 : Int32) [(.int x0), (.int x1), (.int x2), (.int x3), (.int x4), (.int 0)] (.int 0) := V623
  refine own_st (T' := T623) (g' := (mkF m 229 #[.val (.ref cs), .val (.int 6)] [(.ref b591), (.ref b584), (.ref b584)])) st623 ?_
  refine own_st (T' := T623) (g' := (mkF m 233 #[.val (.ref cs), .val (.int 6)] [(.int 5), (.ref cs), (.int 5), (.ref b591), (.ref b591), (.ref b584), (.ref b584)])) (fun _ kt => XS.dup X623.here hx rfl (hb hby d4_229) rfl rfl (XS.iconst X623.here hx rfl (hb hby d4_230) (XS.aloadN X623.here hx rfl (hb hby d4_231) rfl rfl (XS.iconst X623.here hx rfl (hb hby d4_232) kt)))) ?_
  have F628 : Arv Z h623 cs kc .char (8 : Int32) [(.int x0), (.int x1), (.int x2), (.int x3), (.int x4), (.int x5), (.int x6), (.int x7)] (.int 0) := (Arv.other F622 W623 ne593)
  refine own_st (T' := T623) (g' := (mkF m 234 #[.val (.ref cs), .val (.int 6)] [(.int x5), (.int 5), (.ref b591), (.ref b591), (.ref b584), (.ref b584)])) (own_cal X623 hx hZ e623 F628 ⟨by decide, by decide⟩ rfl (g := (mkF m 233 #[.val (.ref cs), .val (.int 6)] [(.int 5), (.ref cs), (.int 5), (.ref b591), (.ref b591), (.ref b584), (.ref b584)])) rfl rfl (hb hby d4_233)) ?_
  obtain ⟨T629, h629, X629, e629, W629, V629, st629⟩ := own_cst X623 hx hZ e623 F627 ⟨by decide, by decide⟩ (i := 5) rfl (by simp) (y := x5) pr10.2.2 (g := (mkF m 234 #[.val (.ref cs), .val (.int 6)] [(.int x5), (.int 5), (.ref b591), (.ref b591), (.ref b584), (.ref b584)])) rfl rfl (hb hby d4_234)
  have N629 := Fr.snoc X629 N623 ge_b591
  have F630 : Safe Z own_EL s.vm h623 b591 := (Safe.wr W623 F624 CR619.1 F624)
  have CR631 : CHr Z own_EL s.vm h0 s.vm h629 := CHr.trans CR625 (CHr.wr W629 F630 CR625.1)
  have Z632 : n0 ≤ h629.size := Nat.le_trans Z626 (Nat.le_of_eq (Wr.size W629).symm)
  have hk632 := Nat.le_trans hk626 (Nat.le_of_eq (Wr.size W629).symm)
  have K632 : Keep h0 h629 [] := (Keep.wr K626 W629 (Or.inr (Nat.le_trans K587.1 (Nat.le_of_eq g591.symm))))
  have F633 : Arv Z h629 b591 k591 .char (6 : Int32) [(.int x0), (.int x1), (.int x2), (.int x3), (.int x4), (.int x5)] (.int 0) := V629
  refine own_st (T' := T629) (g' := (mkF m 235 #[.val (.ref cs), .val (.int 6)] [(.ref b591), (.ref b584), (.ref b584)])) st629 ?_
  have F634 : Exa Z h629 b584 "java/lang/String" := (Exa.wr W629 (Exa.wr W623 (Exa.wr W617 (Exa.wr W611 (Exa.wr W605 (Exa.wr W600 (Exa.ext E591 A584)))))))
  have F635 : Fld Z h629 b584 "java/lang/String" "value" "[B" .null := (Fld.other W629 (Fld.other W623 (Fld.other W617 (Fld.other W611 (Fld.other W605 (Fld.other W600 (Fld.ext E591 F590) (Or.inl ne594)) (Or.inl ne594)) (Or.inl ne594)) (Or.inl ne594)) (Or.inl ne594)) (Or.inl ne594))
  have F636 : Fld Z h629 b584 "java/lang/String" "coder" "B" (.int 0) := (Fld.other W629 (Fld.other W623 (Fld.other W617 (Fld.other W611 (Fld.other W605 (Fld.other W600 (Fld.ext E591 F589) (Or.inl ne594)) (Or.inl ne594)) (Or.inl ne594)) (Or.inl ne594)) (Or.inl ne594)) (Or.inl ne594))
  have F637 : Old Z n0 h629 := (Old.wr (Old.wr (Old.wr (Old.wr (Old.wr (Old.wr (Old.ext (Old.ext pr1 E584) E591) W600 ge_b591) W605 ge_b591) W611 ge_b591) W617 ge_b591) W623 ge_b591) W629 ge_b591)
  obtain ⟨_, _, ⟨T638, L638, k638, n638⟩, -, X638, ⟨Lc638, hQ638, l638, y638, z638⟩, st638⟩ := X629.specialBack hx (y := yN5) rfl hown (mvT hZ (own_k hw 39 rfl)) (mvT hZ (own_k hw 40 rfl)) (mvT hZ (own_k hw 41 rfl)) (by decide) (StrChars.Road.backV (W := 1) hZ (own_hws hw) (kI := 4) (own_k hw 38 rfl) (cs := ([x0, x1, x2, x3, x4, x5] : List Int32)) (bs := (([x0, x1, x2, x3, x4, x5] : List Int32)).map (fun c => c.toInt8.toInt32)) (n := 6) ge_b584 Z632 F634 F635 F636 F633 (Sta.ext F637.2 pr2) pr3 rfl rfl (by decide) (by decide) (by intro c hc; simp only [List.mem_cons, List.not_mem_nil, or_false] at hc; rcases hc with rfl | rfl | rfl | rfl | rfl | rfl <;> first | exact ⟨pr5.1, pr5.2.1⟩ | exact ⟨pr6.1, pr6.2.1⟩ | exact ⟨pr7.1, pr7.2.1⟩ | exact ⟨pr8.1, pr8.2.1⟩ | exact ⟨pr9.1, pr9.2.1⟩ | exact ⟨pr10.1, pr10.2.1⟩) rfl (by decide) (by decide)) (g := (mkF m 235 #[.val (.ref cs), .val (.int 6)] [(.ref b591), (.ref b584), (.ref b584)])) rfl hml.symm (Steps.refl _) (a := b584) (argsL := [(.ref b591)]) (rest := [(.ref b584)]) (lenOf own_pd12 rfl) rfl (own_w0 rfl rfl) (hb hby d4_235) (fun _ _ => ⟨rfl, e629, (by decide : 2 + 1 ≤ 6), (by decide : 10 + 6 ≤ 32)⟩)
  dsimp only [Pt.U, Pt.locs, Pt.cells, Pt.slots] at X638 l638 y638 z638 st638 hQ638
  subst l638 y638 z638
  obtain ⟨rfl, N638, K638_, gE638, gC638, t638, kb638, gt638, hz638, ht638, gV638, gA638⟩ := hQ638
  have N639 := Fr.app N629 N638
  have F640 : Safe Z own_EL s.vm h629 b584 := (Safe.wr W629 F630 CR625.1 (Safe.wr W623 F624 CR619.1 (Safe.wr W617 F618 CR613.1 (Safe.wr W611 F612 CR607.1 (Safe.wr W605 F606 CR601.1 (Safe.wr W600 S597 CR595.1 (Safe.ext E591 CR586.1 S588)))))))
  have CR641 : CHr Z own_EL s.vm h0 s.vm T638.heap := CHr.trans CR631 (CHr.keep K638_ (sfS F640 sf0) CR631.1)
  have Z642 : n0 ≤ T638.heap.size := Nat.le_trans Z632 K638_.1
  have hk642 := Nat.le_trans hk632 K638_.1
  have K642 : Keep h0 T638.heap [] := (Keep.trans K632 K638_ (allS (Or.inr (Nat.le_trans K0.1 (Nat.le_of_eq g584.symm))) all0))
  have F643 : Arv Z h629 cs kc .char (8 : Int32) [(.int x0), (.int x1), (.int x2), (.int x3), (.int x4), (.int x5), (.int x6), (.int x7)] (.int 0) := (Arv.other F628 W629 ne593)
  have ne644 : cs ≠ t638 := Nat.ne_of_lt (Nat.lt_of_lt_of_le F643.lt hz638)
  have ne645 : b584 ≠ t638 := Nat.ne_of_lt (Nat.lt_of_lt_of_le F634.lt hz638)
  have ne646 : b591 ≠ t638 := Nat.ne_of_lt (Nat.lt_of_lt_of_le F633.lt hz638)
  refine own_tr (T' := T638) (g' := (mkF m 238 #[.val (.ref cs), .val (.int 6)] [(.ref b584)])) st638 ?_
  obtain ⟨fs, hr, hrun, hended, hE⟩ := Stand.leaveW X638 hS hk642 (v := some (.ref b584)) (fun h => by rw [Bd.returns] at h; cases h)
  refine own_end (own_retA X638 hx Bd.returns rfl rfl rfl (hb hby d4_238) hr) ⟨_, hrun, hended, _, _, rfl, ?_, (by rw [hh]; show CHr Z own_EL s.vm h0 T638.vm T638.heap; exact CHr.trans CR641 (CHv.at X638 hZ (own_EW hw) CR641.1)), ⟨hE.1, hE.2.1, hE.2.2.1, hE.2.2.2.mono (by decide) (by decide)⟩⟩
  show own_s6Q Z _ _ _ _ _ _ _ _ _ _ _ h0 n0 _ T638.heap _
  show own_s6Q Z _ _ _ _ _ _ _ _ _ _ _ h0 n0 _ T638.heap _
  exact ⟨b584, t638, kb638, rfl, N639, K642, gE638, gC638, gV638, gA638, (Nat.le_trans K0.1 (Nat.le_of_eq g584.symm))⟩
theorem d4_239 : decode method_4_code 239 = .ok (.new 37, 3) := by decide +kernel
theorem d4_242 : decode method_4_code 242 = .ok (.dup, 1) := by decide +kernel
theorem d4_243 : decode method_4_code 243 = .ok (.bipush 7, 2) := by decide +kernel
theorem d4_245 : decode method_4_code 245 = .ok (.newarray .char, 2) := by decide +kernel
theorem d4_247 : decode method_4_code 247 = .ok (.dup, 1) := by decide +kernel
theorem d4_248 : decode method_4_code 248 = .ok (.iconst 0, 1) := by decide +kernel
theorem d4_249 : decode method_4_code 249 = .ok (.aload_n 0, 1) := by decide +kernel
theorem d4_250 : decode method_4_code 250 = .ok (.iconst 0, 1) := by decide +kernel
theorem d4_251 : decode method_4_code 251 = .ok (.caload, 1) := by decide +kernel
theorem d4_252 : decode method_4_code 252 = .ok (.castore, 1) := by decide +kernel
theorem d4_253 : decode method_4_code 253 = .ok (.dup, 1) := by decide +kernel
theorem d4_254 : decode method_4_code 254 = .ok (.iconst 1, 1) := by decide +kernel
theorem d4_255 : decode method_4_code 255 = .ok (.aload_n 0, 1) := by decide +kernel
theorem d4_256 : decode method_4_code 256 = .ok (.iconst 1, 1) := by decide +kernel
theorem d4_257 : decode method_4_code 257 = .ok (.caload, 1) := by decide +kernel
theorem d4_258 : decode method_4_code 258 = .ok (.castore, 1) := by decide +kernel
theorem d4_259 : decode method_4_code 259 = .ok (.dup, 1) := by decide +kernel
theorem d4_260 : decode method_4_code 260 = .ok (.iconst 2, 1) := by decide +kernel
theorem d4_261 : decode method_4_code 261 = .ok (.aload_n 0, 1) := by decide +kernel
theorem d4_262 : decode method_4_code 262 = .ok (.iconst 2, 1) := by decide +kernel
theorem d4_263 : decode method_4_code 263 = .ok (.caload, 1) := by decide +kernel
theorem d4_264 : decode method_4_code 264 = .ok (.castore, 1) := by decide +kernel
theorem d4_265 : decode method_4_code 265 = .ok (.dup, 1) := by decide +kernel
theorem d4_266 : decode method_4_code 266 = .ok (.iconst 3, 1) := by decide +kernel
theorem d4_267 : decode method_4_code 267 = .ok (.aload_n 0, 1) := by decide +kernel
theorem d4_268 : decode method_4_code 268 = .ok (.iconst 3, 1) := by decide +kernel
theorem d4_269 : decode method_4_code 269 = .ok (.caload, 1) := by decide +kernel
theorem d4_270 : decode method_4_code 270 = .ok (.castore, 1) := by decide +kernel
theorem d4_271 : decode method_4_code 271 = .ok (.dup, 1) := by decide +kernel
theorem d4_272 : decode method_4_code 272 = .ok (.iconst 4, 1) := by decide +kernel
theorem d4_273 : decode method_4_code 273 = .ok (.aload_n 0, 1) := by decide +kernel
theorem d4_274 : decode method_4_code 274 = .ok (.iconst 4, 1) := by decide +kernel
theorem d4_275 : decode method_4_code 275 = .ok (.caload, 1) := by decide +kernel
theorem d4_276 : decode method_4_code 276 = .ok (.castore, 1) := by decide +kernel
theorem d4_277 : decode method_4_code 277 = .ok (.dup, 1) := by decide +kernel
theorem d4_278 : decode method_4_code 278 = .ok (.iconst 5, 1) := by decide +kernel
theorem d4_279 : decode method_4_code 279 = .ok (.aload_n 0, 1) := by decide +kernel
theorem d4_280 : decode method_4_code 280 = .ok (.iconst 5, 1) := by decide +kernel
theorem d4_281 : decode method_4_code 281 = .ok (.caload, 1) := by decide +kernel
theorem d4_282 : decode method_4_code 282 = .ok (.castore, 1) := by decide +kernel
theorem d4_283 : decode method_4_code 283 = .ok (.dup, 1) := by decide +kernel
theorem d4_284 : decode method_4_code 284 = .ok (.bipush 6, 2) := by decide +kernel
theorem d4_286 : decode method_4_code 286 = .ok (.aload_n 0, 1) := by decide +kernel
theorem d4_287 : decode method_4_code 287 = .ok (.bipush 6, 2) := by decide +kernel
theorem d4_289 : decode method_4_code 289 = .ok (.caload, 1) := by decide +kernel
theorem d4_290 : decode method_4_code 290 = .ok (.castore, 1) := by decide +kernel
theorem d4_291 : decode method_4_code 291 = .ok (.invokespecial 46, 3) := by decide +kernel
theorem d4_294 : decode method_4_code 294 = .ok (.areturn, 1) := by decide +kernel
def own_s7Q (Z : State) (cs : Addr) (kc : ClassId) (zc : Int32) (x0 : Int32) (x1 : Int32) (x2 : Int32) (x3 : Int32) (x4 : Int32) (x5 : Int32) (x6 : Int32) (x7 : Int32) (h0 : Heap) (n0 : Nat) (v : Option Value) (h : Heap) (L : List Loc) : Prop := ∃ (y : Addr), ∃ (t : Addr), ∃ (ky : ClassId), v = some (.ref y) ∧ Fr n0 L ∧ Keep h0 h [] ∧ (Exa Z h y "java/lang/String") ∧ (Fld Z h y "java/lang/String" "coder" "B" (.int 0)) ∧ (Fld Z h y "java/lang/String" "value" "[B" (.ref t)) ∧ (Arv Z h t ky .byte (7 : Int32) [(.int x0.toInt8.toInt32), (.int x1.toInt8.toInt32), (.int x2.toInt8.toInt32), (.int x3.toInt8.toInt32), (.int x4.toInt8.toInt32), (.int x5.toInt8.toInt32), (.int x6.toInt8.toInt32)] (.int 0)) ∧ (h0.size ≤ y)
abbrev own_s7R : Room := { frames := 5, cells := 6, slots := 32, locals := 160 }
theorem own_s7 (l : Launch) (Z : State) (a0 : Array Value) (hw : ∀ d ∈ tables_1, d.before a0 Z = true) (ws : List Jvm.Cond) (cs : Addr) (kc : ClassId) (zc : Int32) (x0 : Int32) (x1 : Int32) (x2 : Int32) (x3 : Int32) (x4 : Int32) (x5 : Int32) (x6 : Int32) (x7 : Int32) (h0 : Heap) (n0 : Nat) (Z0 : n0 ≤ h0.size) (pr1 : Old Z n0 h0) (pr2 : Sta Z Z.heap "java/lang/String" "COMPACT_STRINGS" "Z" (.int zc)) (pr3 : ¬ zc = 0) (pr4 : Arv Z h0 cs kc .char (8 : Int32) [(.int x0), (.int x1), (.int x2), (.int x3), (.int x4), (.int x5), (.int x6), (.int x7)] (.int 0)) (pr5 : own_cc x0) (pr6 : own_cc x1) (pr7 : own_cc x2) (pr8 : own_cc x3) (pr9 : own_cc x4) (pr10 : own_cc x5) (pr11 : own_cc x6) (pr12 : own_cc x7) :
    own_MH own_EL l yN4 method_4_code 2 (some (.object "java/lang/String")) ws own_s7R #[(.ref cs), (.int 7)] Z h0 (own_s7Q Z cs kc zc x0 x1 x2 x3 x4 x5 x6 x7 h0 n0) := by
  refine own_goH (plainFor_of_name own_pn5) (fun m => own_ef4 m cs (7 : Int32) ) ?_
  intro p e s m below meth c s₁ Bd hx hby hml hZ hh hown hnm X0 e0 hS CR0
  have N0 := Fr.nil n0
  have K0 : Keep h0 h0 [] := Keep.refl h0 _
  have hk : h0.size ≤ h0.size := Nat.le_refl _
  refine own_st (T' := s₁) (g' := (mkF m 100 #[.val (.ref cs), .val (.int 7)] [(.int 7)])) (fun _ kt => XS.iloadN X0.here hx rfl (hb hby d4_0) rfl (XS.ifYes X0.here hx rfl (pc0 := 1) (pc' := 15) rfl (hb hby d4_1) rfl (XT.i0_ne_t (by decide)) (by decide) (by decide) (XS.iloadN X0.here hx rfl (hb hby d4_15) rfl (XS.iconst X0.here hx rfl (hb hby d4_16) (XS.icmpYes X0.here hx rfl (pc0 := 17) (pc' := 37) rfl (hb hby d4_17) rfl (XT.ii_ne_t (by decide)) (by decide) (by decide) (XS.iloadN X0.here hx rfl (hb hby d4_37) rfl (XS.iconst X0.here hx rfl (hb hby d4_38) (XS.icmpYes X0.here hx rfl (pc0 := 39) (pc' := 65) rfl (hb hby d4_39) rfl (XT.ii_ne_t (by decide)) (by decide) (by decide) (XS.iloadN X0.here hx rfl (hb hby d4_65) rfl (XS.iconst X0.here hx rfl (hb hby d4_66) (XS.icmpYes X0.here hx rfl (pc0 := 67) (pc' := 99) rfl (hb hby d4_67) rfl (XT.ii_ne_t (by decide)) (by decide) (by decide) (XS.iloadN X0.here hx rfl (hb hby d4_99) rfl kt)))))))))))) ?_
  refine own_st (T' := s₁) (g' := (mkF m 239 #[.val (.ref cs), .val (.int 7)] [])) (fun _ kt => XS.iconst X0.here hx rfl (hb hby d4_100) (XS.icmpYes X0.here hx rfl (pc0 := 101) (pc' := 139) rfl (hb hby d4_101) rfl (XT.ii_ne_t (by decide)) (by decide) (by decide) (XS.iloadN X0.here hx rfl (hb hby d4_139) rfl (XS.iconst X0.here hx rfl (hb hby d4_140) (XS.icmpYes X0.here hx rfl (pc0 := 141) (pc' := 185) rfl (hb hby d4_141) rfl (XT.ii_ne_t (by decide)) (by decide) (by decide) (XS.iloadN X0.here hx rfl (hb hby d4_185) rfl (XS.bipush X0.here hx rfl (hb hby d4_186) (XS.icmpYes X0.here hx rfl (pc0 := 188) (pc' := 239) rfl (hb hby d4_188) rfl (XT.ii_ne_t (by decide)) (by decide) (by decide) kt)))))))) ?_
  obtain ⟨T647, h647, X647, e647, E647, A647, D647, -, st647⟩ := newO X0 hx hZ hown (own_k hw 37 rfl) (own_k hw 38 rfl) (own_k hw 31 rfl) e0 (g := (mkF m 239 #[.val (.ref cs), .val (.int 7)] [])) rfl (hb hby d4_239) (by decide) (by decide)
  obtain ⟨b647, g647⟩ : ∃ z, z = h0.size := ⟨_, rfl⟩
  rw [← g647] at A647 D647 st647
  have ne648 : cs ≠ b647 := by rw [g647]; exact Nat.ne_of_lt pr4.lt
  have CR649 : CHr Z own_EL s.vm h0 s.vm h647 := CHr.trans CR0 (CHr.ext E647 CR0.1)
  have Z650 : n0 ≤ h647.size := Nat.le_trans Z0 E647.1
  have hk650 := Nat.le_trans hk E647.1
  have K650 : Keep h0 h647 [] := (Keep.ext K0 E647)
  have ge_b647 : n0 ≤ b647 := Nat.le_trans Z0 (Nat.le_of_eq g647.symm)
  have S651 : Safe Z own_EL s.vm h647 b647 := (Safe.ext E647 CR0.1 (Safe.new (Nat.le_of_eq g647.symm)))
  have F652 : Fld Z h647 b647 "java/lang/String" "coder" "B" (.int 0) := D647 (Or.inr (own_k hw 62 rfl)) (ty := .byte) (by decide)
  have F653 : Fld Z h647 b647 "java/lang/String" "value" "[B" .null := D647 (Or.inr (own_k hw 64 rfl)) (ty := (.array .byte)) (by decide)
  refine own_st (T' := T647) (g' := (mkF m 242 #[.val (.ref cs), .val (.int 7)] [(.ref b647)])) st647 ?_
  refine own_st (T' := T647) (g' := (mkF m 245 #[.val (.ref cs), .val (.int 7)] [(.int 7), (.ref b647), (.ref b647)])) (fun _ kt => XS.dup X647.here hx rfl (hb hby d4_242) rfl rfl (XS.bipush X647.here hx rfl (hb hby d4_243) kt)) ?_
  obtain ⟨T654, h654, k654, X654, e654, E654, A654, st654⟩ := newP X647 hx hZ (aty := .char) (own_k hw 0 rfl) e647 (g := (mkF m 245 #[.val (.ref cs), .val (.int 7)] [(.int 7), (.ref b647), (.ref b647)])) rfl (hb hby d4_245) rfl (by decide) (cap := 7) (by decide) (by decide) (by decide) (by decide)
  obtain ⟨b654, g654⟩ : ∃ z, z = h647.size := ⟨_, rfl⟩
  rw [← g654] at A654 st654
  have F655 : Arv Z h647 cs kc .char (8 : Int32) [(.int x0), (.int x1), (.int x2), (.int x3), (.int x4), (.int x5), (.int x6), (.int x7)] (.int 0) := (pr4.ext E647)
  have ne656 : cs ≠ b654 := by rw [g654]; exact Nat.ne_of_lt F655.lt
  have ne657 : b647 ≠ b654 := by rw [g654]; exact Nat.ne_of_lt A647.lt
  have CR658 : CHr Z own_EL s.vm h0 s.vm h654 := CHr.trans CR649 (CHr.ext E654 CR649.1)
  have Z659 : n0 ≤ h654.size := Nat.le_trans Z650 E654.1
  have hk659 := Nat.le_trans hk650 E654.1
  have K659 : Keep h0 h654 [] := (Keep.ext K650 E654)
  have ge_b654 : n0 ≤ b654 := Nat.le_trans Z650 (Nat.le_of_eq g654.symm)
  have S660 : Safe Z own_EL s.vm h654 b654 := (Safe.ext E654 CR649.1 (Safe.new (Nat.le_of_eq g654.symm)))
  have F661 : Arv Z h654 b654 k654 .char (7 : Int32) [(.int 0), (.int 0), (.int 0), (.int 0), (.int 0), (.int 0), (.int 0)] (.int 0) := (Arv.new A654 (by decide)).pad (pad_rep [] (.int 0) 7)
  refine own_st (T' := T654) (g' := (mkF m 247 #[.val (.ref cs), .val (.int 7)] [(.ref b654), (.ref b647), (.ref b647)])) st654 ?_
  refine own_st (T' := T654) (g' := (mkF m 251 #[.val (.ref cs), .val (.int 7)] [(.int 0), (.ref cs), (.int 0), (.ref b654), (.ref b654), (.ref b647), (.ref b647)])) (fun _ kt => XS.dup X654.here hx rfl (hb hby d4_247) rfl rfl (XS.iconst X654.here hx rfl (hb hby d4_248) (XS.aloadN X654.here hx rfl (hb hby d4_249) rfl rfl (XS.iconst X654.here hx rfl (hb hby d4_250) kt)))) ?_
  have F662 : Arv Z h654 cs kc .char (8 : Int32) [(.int x0), (.int x1), (.int x2), (.int x3), (.int x4), (.int x5), (.int x6), (.int x7)] (.int 0) := (F655.ext E654)
  refine own_st (T' := T654) (g' := (mkF m 252 #[.val (.ref cs), .val (.int 7)] [(.int x0), (.int 0), (.ref b654), (.ref b654), (.ref b647), (.ref b647)])) (own_cal X654 hx hZ e654 F662 ⟨by decide, by decide⟩ rfl (g := (mkF m 251 #[.val (.ref cs), .val (.int 7)] [(.int 0), (.ref cs), (.int 0), (.ref b654), (.ref b654), (.ref b647), (.ref b647)])) rfl rfl (hb hby d4_251)) ?_
  obtain ⟨T663, h663, X663, e663, W663, V663, st663⟩ := own_cst X654 hx hZ e654 F661 ⟨by decide, by decide⟩ (i := 0) rfl (by simp) (y := x0) pr5.2.2 (g := (mkF m 252 #[.val (.ref cs), .val (.int 7)] [(.int x0), (.int 0), (.ref b654), (.ref b654), (.ref b647), (.ref b647)])) rfl rfl (hb hby d4_252)
  have N663 := Fr.snoc X663 N0 ge_b654
  have CR664 : CHr Z own_EL s.vm h0 s.vm h663 := CHr.trans CR658 (CHr.wr W663 S660 CR658.1)
  have Z665 : n0 ≤ h663.size := Nat.le_trans Z659 (Nat.le_of_eq (Wr.size W663).symm)
  have hk665 := Nat.le_trans hk659 (Nat.le_of_eq (Wr.size W663).symm)
  have K665 : Keep h0 h663 [] := (Keep.wr K659 W663 (Or.inr (Nat.le_trans K650.1 (Nat.le_of_eq g654.symm))))
  have F666 : Arv Z h663 b654 k654 .char (7 : Int32) [(.int x0), (.int 0), (.int 0), (.int 0), (.int 0), (.int 0), (.int 0)] (.int 0) := V663
  refine own_st (T' := T663) (g' := (mkF m 253 #[.val (.ref cs), .val (.int 7)] [(.ref b654), (.ref b647), (.ref b647)])) st663 ?_
  refine own_st (T' := T663) (g' := (mkF m 257 #[.val (.ref cs), .val (.int 7)] [(.int 1), (.ref cs), (.int 1), (.ref b654), (.ref b654), (.ref b647), (.ref b647)])) (fun _ kt => XS.dup X663.here hx rfl (hb hby d4_253) rfl rfl (XS.iconst X663.here hx rfl (hb hby d4_254) (XS.aloadN X663.here hx rfl (hb hby d4_255) rfl rfl (XS.iconst X663.here hx rfl (hb hby d4_256) kt)))) ?_
  have F667 : Arv Z h663 cs kc .char (8 : Int32) [(.int x0), (.int x1), (.int x2), (.int x3), (.int x4), (.int x5), (.int x6), (.int x7)] (.int 0) := (Arv.other F662 W663 ne656)
  refine own_st (T' := T663) (g' := (mkF m 258 #[.val (.ref cs), .val (.int 7)] [(.int x1), (.int 1), (.ref b654), (.ref b654), (.ref b647), (.ref b647)])) (own_cal X663 hx hZ e663 F667 ⟨by decide, by decide⟩ rfl (g := (mkF m 257 #[.val (.ref cs), .val (.int 7)] [(.int 1), (.ref cs), (.int 1), (.ref b654), (.ref b654), (.ref b647), (.ref b647)])) rfl rfl (hb hby d4_257)) ?_
  obtain ⟨T668, h668, X668, e668, W668, V668, st668⟩ := own_cst X663 hx hZ e663 F666 ⟨by decide, by decide⟩ (i := 1) rfl (by simp) (y := x1) pr6.2.2 (g := (mkF m 258 #[.val (.ref cs), .val (.int 7)] [(.int x1), (.int 1), (.ref b654), (.ref b654), (.ref b647), (.ref b647)])) rfl rfl (hb hby d4_258)
  have N668 := Fr.snoc X668 N663 ge_b654
  have F669 : Safe Z own_EL s.vm h663 b654 := (Safe.wr W663 S660 CR658.1 S660)
  have CR670 : CHr Z own_EL s.vm h0 s.vm h668 := CHr.trans CR664 (CHr.wr W668 F669 CR664.1)
  have Z671 : n0 ≤ h668.size := Nat.le_trans Z665 (Nat.le_of_eq (Wr.size W668).symm)
  have hk671 := Nat.le_trans hk665 (Nat.le_of_eq (Wr.size W668).symm)
  have K671 : Keep h0 h668 [] := (Keep.wr K665 W668 (Or.inr (Nat.le_trans K650.1 (Nat.le_of_eq g654.symm))))
  have F672 : Arv Z h668 b654 k654 .char (7 : Int32) [(.int x0), (.int x1), (.int 0), (.int 0), (.int 0), (.int 0), (.int 0)] (.int 0) := V668
  refine own_st (T' := T668) (g' := (mkF m 259 #[.val (.ref cs), .val (.int 7)] [(.ref b654), (.ref b647), (.ref b647)])) st668 ?_
  refine own_st (T' := T668) (g' := (mkF m 263 #[.val (.ref cs), .val (.int 7)] [(.int 2), (.ref cs), (.int 2), (.ref b654), (.ref b654), (.ref b647), (.ref b647)])) (fun _ kt => XS.dup X668.here hx rfl (hb hby d4_259) rfl rfl (XS.iconst X668.here hx rfl (hb hby d4_260) (XS.aloadN X668.here hx rfl (hb hby d4_261) rfl rfl (XS.iconst X668.here hx rfl (hb hby d4_262) kt)))) ?_
  have F673 : Arv Z h668 cs kc .char (8 : Int32) [(.int x0), (.int x1), (.int x2), (.int x3), (.int x4), (.int x5), (.int x6), (.int x7)] (.int 0) := (Arv.other F667 W668 ne656)
  refine own_st (T' := T668) (g' := (mkF m 264 #[.val (.ref cs), .val (.int 7)] [(.int x2), (.int 2), (.ref b654), (.ref b654), (.ref b647), (.ref b647)])) (own_cal X668 hx hZ e668 F673 ⟨by decide, by decide⟩ rfl (g := (mkF m 263 #[.val (.ref cs), .val (.int 7)] [(.int 2), (.ref cs), (.int 2), (.ref b654), (.ref b654), (.ref b647), (.ref b647)])) rfl rfl (hb hby d4_263)) ?_
  obtain ⟨T674, h674, X674, e674, W674, V674, st674⟩ := own_cst X668 hx hZ e668 F672 ⟨by decide, by decide⟩ (i := 2) rfl (by simp) (y := x2) pr7.2.2 (g := (mkF m 264 #[.val (.ref cs), .val (.int 7)] [(.int x2), (.int 2), (.ref b654), (.ref b654), (.ref b647), (.ref b647)])) rfl rfl (hb hby d4_264)
  have N674 := Fr.snoc X674 N668 ge_b654
  have F675 : Safe Z own_EL s.vm h668 b654 := (Safe.wr W668 F669 CR664.1 F669)
  have CR676 : CHr Z own_EL s.vm h0 s.vm h674 := CHr.trans CR670 (CHr.wr W674 F675 CR670.1)
  have Z677 : n0 ≤ h674.size := Nat.le_trans Z671 (Nat.le_of_eq (Wr.size W674).symm)
  have hk677 := Nat.le_trans hk671 (Nat.le_of_eq (Wr.size W674).symm)
  have K677 : Keep h0 h674 [] := (Keep.wr K671 W674 (Or.inr (Nat.le_trans K650.1 (Nat.le_of_eq g654.symm))))
  have F678 : Arv Z h674 b654 k654 .char (7 : Int32) [(.int x0), (.int x1), (.int x2), (.int 0), (.int 0), (.int 0), (.int 0)] (.int 0) := V674
  refine own_st (T' := T674) (g' := (mkF m 265 #[.val (.ref cs), .val (.int 7)] [(.ref b654), (.ref b647), (.ref b647)])) st674 ?_
  refine own_st (T' := T674) (g' := (mkF m 269 #[.val (.ref cs), .val (.int 7)] [(.int 3), (.ref cs), (.int 3), (.ref b654), (.ref b654), (.ref b647), (.ref b647)])) (fun _ kt => XS.dup X674.here hx rfl (hb hby d4_265) rfl rfl (XS.iconst X674.here hx rfl (hb hby d4_266) (XS.aloadN X674.here hx rfl (hb hby d4_267) rfl rfl (XS.iconst X674.here hx rfl (hb hby d4_268) kt)))) ?_
  have F679 : Arv Z h674 cs kc .char (8 : Int32) [(.int x0), (.int x1), (.int x2), (.int x3), (.int x4), (.int x5), (.int x6), (.int x7)] (.int 0) := (Arv.other F673 W674 ne656)
  refine own_st (T' := T674) (g' := (mkF m 270 #[.val (.ref cs), .val (.int 7)] [(.int x3), (.int 3), (.ref b654), (.ref b654), (.ref b647), (.ref b647)])) (own_cal X674 hx hZ e674 F679 ⟨by decide, by decide⟩ rfl (g := (mkF m 269 #[.val (.ref cs), .val (.int 7)] [(.int 3), (.ref cs), (.int 3), (.ref b654), (.ref b654), (.ref b647), (.ref b647)])) rfl rfl (hb hby d4_269)) ?_
  obtain ⟨T680, h680, X680, e680, W680, V680, st680⟩ := own_cst X674 hx hZ e674 F678 ⟨by decide, by decide⟩ (i := 3) rfl (by simp) (y := x3) pr8.2.2 (g := (mkF m 270 #[.val (.ref cs), .val (.int 7)] [(.int x3), (.int 3), (.ref b654), (.ref b654), (.ref b647), (.ref b647)])) rfl rfl (hb hby d4_270)
  have N680 := Fr.snoc X680 N674 ge_b654
  have F681 : Safe Z own_EL s.vm h674 b654 := (Safe.wr W674 F675 CR670.1 F675)
  have CR682 : CHr Z own_EL s.vm h0 s.vm h680 := CHr.trans CR676 (CHr.wr W680 F681 CR676.1)
  have Z683 : n0 ≤ h680.size := Nat.le_trans Z677 (Nat.le_of_eq (Wr.size W680).symm)
  have hk683 := Nat.le_trans hk677 (Nat.le_of_eq (Wr.size W680).symm)
  have K683 : Keep h0 h680 [] := (Keep.wr K677 W680 (Or.inr (Nat.le_trans K650.1 (Nat.le_of_eq g654.symm))))
  have F684 : Arv Z h680 b654 k654 .char (7 : Int32) [(.int x0), (.int x1), (.int x2), (.int x3), (.int 0), (.int 0), (.int 0)] (.int 0) := V680
  refine own_st (T' := T680) (g' := (mkF m 271 #[.val (.ref cs), .val (.int 7)] [(.ref b654), (.ref b647), (.ref b647)])) st680 ?_
  refine own_st (T' := T680) (g' := (mkF m 275 #[.val (.ref cs), .val (.int 7)] [(.int 4), (.ref cs), (.int 4), (.ref b654), (.ref b654), (.ref b647), (.ref b647)])) (fun _ kt => XS.dup X680.here hx rfl (hb hby d4_271) rfl rfl (XS.iconst X680.here hx rfl (hb hby d4_272) (XS.aloadN X680.here hx rfl (hb hby d4_273) rfl rfl (XS.iconst X680.here hx rfl (hb hby d4_274) kt)))) ?_
  have F685 : Arv Z h680 cs kc .char (8 : Int32) [(.int x0), (.int x1), (.int x2), (.int x3), (.int x4), (.int x5), (.int x6), (.int x7)] (.int 0) := (Arv.other F679 W680 ne656)
  refine own_st (T' := T680) (g' := (mkF m 276 #[.val (.ref cs), .val (.int 7)] [(.int x4), (.int 4), (.ref b654), (.ref b654), (.ref b647), (.ref b647)])) (own_cal X680 hx hZ e680 F685 ⟨by decide, by decide⟩ rfl (g := (mkF m 275 #[.val (.ref cs), .val (.int 7)] [(.int 4), (.ref cs), (.int 4), (.ref b654), (.ref b654), (.ref b647), (.ref b647)])) rfl rfl (hb hby d4_275)) ?_
  obtain ⟨T686, h686, X686, e686, W686, V686, st686⟩ := own_cst X680 hx hZ e680 F684 ⟨by decide, by decide⟩ (i := 4) rfl (by simp) (y := x4) pr9.2.2 (g := (mkF m 276 #[.val (.ref cs), .val (.int 7)] [(.int x4), (.int 4), (.ref b654), (.ref b654), (.ref b647), (.ref b647)])) rfl rfl (hb hby d4_276)
  have N686 := Fr.snoc X686 N680 ge_b654
  have F687 : Safe Z own_EL s.vm h680 b654 := (Safe.wr W680 F681 CR676.1 F681)
  have CR688 : CHr Z own_EL s.vm h0 s.vm h686 := CHr.trans CR682 (CHr.wr W686 F687 CR682.1)
  have Z689 : n0 ≤ h686.size := Nat.le_trans Z683 (Nat.le_of_eq (Wr.size W686).symm)
  have hk689 := Nat.le_trans hk683 (Nat.le_of_eq (Wr.size W686).symm)
  have K689 : Keep h0 h686 [] := (Keep.wr K683 W686 (Or.inr (Nat.le_trans K650.1 (Nat.le_of_eq g654.symm))))
  have F690 : Arv Z h686 b654 k654 .char (7 : Int32) [(.int x0), (.int x1), (.int x2), (.int x3), (.int x4), (.int 0), (.int 0)] (.int 0) := V686
  refine own_st (T' := T686) (g' := (mkF m 277 #[.val (.ref cs), .val (.int 7)] [(.ref b654), (.ref b647), (.ref b647)])) st686 ?_
  refine own_st (T' := T686) (g' := (mkF m 281 #[.val (.ref cs), .val (.int 7)] [(.int 5), (.ref cs), (.int 5), (.ref b654), (.ref b654), (.ref b647), (.ref b647)])) (fun _ kt => XS.dup X686.here hx rfl (hb hby d4_277) rfl rfl (XS.iconst X686.here hx rfl (hb hby d4_278) (XS.aloadN X686.here hx rfl (hb hby d4_279) rfl rfl (XS.iconst X686.here hx rfl (hb hby d4_280) kt)))) ?_
  have F691 : Arv Z h686 cs kc .char (8 : Int32) [(.int x0), (.int x1), (.int x2), (.int x3), (.int x4), (.int x5), (.int x6), (.int x7)] (.int 0) := (Arv.other F685 W686 ne656)
  refine own_st (T' := T686) (g' := (mkF m 282 #[.val (.ref cs), .val (.int 7)] [(.int x5), (.int 5), (.ref b654), (.ref b654), (.ref b647), (.ref b647)])) (own_cal X686 hx hZ e686 F691 ⟨by decide, by decide⟩ rfl (g := (mkF m 281 #[.val (.ref cs), .val (.int 7)] [(.int 5), (.ref cs), (.int 5), (.ref b654), (.ref b654), (.ref b647), (.ref b647)])) rfl rfl (hb hby d4_281)) ?_
  obtain ⟨T692, h692, X692, e692, W692, V692, st692⟩ := own_cst X686 hx hZ e686 F690 ⟨by decide, by decide⟩ (i := 5) rfl (by simp) (y := x5) pr10.2.2 (g := (mkF m 282 #[.val (.ref cs), .val (.int 7)] [(.int x5), (.int 5), (.ref b654), (.ref b654), (.ref b647), (.ref b647)])) rfl rfl (hb hby d4_282)
  have N692 := Fr.snoc X692 N686 ge_b654
  have F693 : Safe Z own_EL s.vm h686 b654 := (Safe.wr W686 F687 CR682.1 F687)
  have CR694 : CHr Z own_EL s.vm h0 s.vm h692 := CHr.trans CR688 (CHr.wr W692 F693 CR688.1)
  have Z695 : n0 ≤ h692.size := Nat.le_trans Z689 (Nat.le_of_eq (Wr.size W692).symm)
  have hk695 := Nat.le_trans hk689 (Nat.le_of_eq (Wr.size W692).symm)
  have K695 : Keep h0 h692 [] := (Keep.wr K689 W692 (Or.inr (Nat.le_trans K650.1 (Nat.le_of_eq g654.symm))))
  have F696 : Arv Z h692 b654 k654 .char (7 : Int32) [(.int x0), (.int x1), (.int x2), (.int x3), (.int x4), (.int x5), (.int 0)] (.int 0) := V692
  refine own_st (T' := T692) (g' := (mkF m 283 #[.val (.ref cs), .val (.int 7)] [(.ref b654), (.ref b647), (.ref b647)])) st692 ?_
  refine own_st (T' := T692) (g' := (mkF m 289 #[.val (.ref cs), .val (.int 7)] [(.int 6), (.ref cs), (.int 6), (.ref b654), (.ref b654), (.ref b647), (.ref b647)])) (fun _ kt => XS.dup X692.here hx rfl (hb hby d4_283) rfl rfl (XS.bipush X692.here hx rfl (hb hby d4_284) (XS.aloadN X692.here hx rfl (hb hby d4_286) rfl rfl (XS.bipush X692.here hx rfl (hb hby d4_287) kt)))) ?_
  have F697 : Arv Z h692 cs kc .char (8 : Int32) [(.int x0), (.int x1), (.int x2), (.int x3), (.int x4), (.int x5), (.int x6), (.int x7)] (.int 0) := (Arv.other F691 W692 ne656)
  refine own_st (T' := T692) (g' := (mkF m 290 #[.val (.ref cs), .val (.int 7)] [(.int x6), (.int 6), (.ref b654), (.ref b654), (.ref b647), (.ref b647)])) (own_cal X692 hx hZ e692 F697 ⟨by decide, by decide⟩ rfl (g := (mkF m 289 #[.val (.ref cs), .val (.int 7)] [(.int 6), (.ref cs), (.int 6), (.ref b654), (.ref b654), (.ref b647), (.ref b647)])) rfl rfl (hb hby d4_289)) ?_
  obtain ⟨T698, h698, X698, e698, W698, V698, st698⟩ := own_cst X692 hx hZ e692 F696 ⟨by decide, by decide⟩ (i := 6) rfl (by simp) (y := x6) pr11.2.2 (g := (mkF m 290 #[.val (.ref cs), .val (.int 7)] [(.int x6), (.int 6), (.ref b654), (.ref b654), (.ref b647), (.ref b647)])) rfl rfl (hb hby d4_290)
  have N698 := Fr.snoc X698 N692 ge_b654
  have F699 : Safe Z own_EL s.vm h692 b654 := (Safe.wr W692 F693 CR688.1 F693)
  have CR700 : CHr Z own_EL s.vm h0 s.vm h698 := CHr.trans CR694 (CHr.wr W698 F699 CR694.1)
  have Z701 : n0 ≤ h698.size := Nat.le_trans Z695 (Nat.le_of_eq (Wr.size W698).symm)
  have hk701 := Nat.le_trans hk695 (Nat.le_of_eq (Wr.size W698).symm)
  have K701 : Keep h0 h698 [] := (Keep.wr K695 W698 (Or.inr (Nat.le_trans K650.1 (Nat.le_of_eq g654.symm))))
  have F702 : Arv Z h698 b654 k654 .char (7 : Int32) [(.int x0), (.int x1), (.int x2), (.int x3), (.int x4), (.int x5), (.int x6)] (.int 0) := V698
  refine own_st (T' := T698) (g' := (mkF m 291 #[.val (.ref cs), .val (.int 7)] [(.ref b654), (.ref b647), (.ref b647)])) st698 ?_
  have F703 : Exa Z h698 b647 "java/lang/String" := (Exa.wr W698 (Exa.wr W692 (Exa.wr W686 (Exa.wr W680 (Exa.wr W674 (Exa.wr W668 (Exa.wr W663 (Exa.ext E654 A647))))))))
  have F704 : Fld Z h698 b647 "java/lang/String" "value" "[B" .null := (Fld.other W698 (Fld.other W692 (Fld.other W686 (Fld.other W680 (Fld.other W674 (Fld.other W668 (Fld.other W663 (Fld.ext E654 F653) (Or.inl ne657)) (Or.inl ne657)) (Or.inl ne657)) (Or.inl ne657)) (Or.inl ne657)) (Or.inl ne657)) (Or.inl ne657))
  have F705 : Fld Z h698 b647 "java/lang/String" "coder" "B" (.int 0) := (Fld.other W698 (Fld.other W692 (Fld.other W686 (Fld.other W680 (Fld.other W674 (Fld.other W668 (Fld.other W663 (Fld.ext E654 F652) (Or.inl ne657)) (Or.inl ne657)) (Or.inl ne657)) (Or.inl ne657)) (Or.inl ne657)) (Or.inl ne657)) (Or.inl ne657))
  have F706 : Old Z n0 h698 := (Old.wr (Old.wr (Old.wr (Old.wr (Old.wr (Old.wr (Old.wr (Old.ext (Old.ext pr1 E647) E654) W663 ge_b654) W668 ge_b654) W674 ge_b654) W680 ge_b654) W686 ge_b654) W692 ge_b654) W698 ge_b654)
  obtain ⟨_, _, ⟨T707, L707, k707, n707⟩, -, X707, ⟨Lc707, hQ707, l707, y707, z707⟩, st707⟩ := X698.specialBack hx (y := yN5) rfl hown (mvT hZ (own_k hw 39 rfl)) (mvT hZ (own_k hw 40 rfl)) (mvT hZ (own_k hw 41 rfl)) (by decide) (StrChars.Road.backV (W := 1) hZ (own_hws hw) (kI := 4) (own_k hw 38 rfl) (cs := ([x0, x1, x2, x3, x4, x5, x6] : List Int32)) (bs := (([x0, x1, x2, x3, x4, x5, x6] : List Int32)).map (fun c => c.toInt8.toInt32)) (n := 7) ge_b647 Z701 F703 F704 F705 F702 (Sta.ext F706.2 pr2) pr3 rfl rfl (by decide) (by decide) (by intro c hc; simp only [List.mem_cons, List.not_mem_nil, or_false] at hc; rcases hc with rfl | rfl | rfl | rfl | rfl | rfl | rfl <;> first | exact ⟨pr5.1, pr5.2.1⟩ | exact ⟨pr6.1, pr6.2.1⟩ | exact ⟨pr7.1, pr7.2.1⟩ | exact ⟨pr8.1, pr8.2.1⟩ | exact ⟨pr9.1, pr9.2.1⟩ | exact ⟨pr10.1, pr10.2.1⟩ | exact ⟨pr11.1, pr11.2.1⟩) rfl (by decide) (by decide)) (g := (mkF m 291 #[.val (.ref cs), .val (.int 7)] [(.ref b654), (.ref b647), (.ref b647)])) rfl hml.symm (Steps.refl _) (a := b647) (argsL := [(.ref b654)]) (rest := [(.ref b647)]) (lenOf own_pd12 rfl) rfl (own_w0 rfl rfl) (hb hby d4_291) (fun _ _ => ⟨rfl, e698, (by decide : 2 + 1 ≤ 6), (by decide : 11 + 7 ≤ 32)⟩)
  dsimp only [Pt.U, Pt.locs, Pt.cells, Pt.slots] at X707 l707 y707 z707 st707 hQ707
  subst l707 y707 z707
  obtain ⟨rfl, N707, K707_, gE707, gC707, t707, kb707, gt707, hz707, ht707, gV707, gA707⟩ := hQ707
  have N708 := Fr.app N698 N707
  have F709 : Safe Z own_EL s.vm h698 b647 := (Safe.wr W698 F699 CR694.1 (Safe.wr W692 F693 CR688.1 (Safe.wr W686 F687 CR682.1 (Safe.wr W680 F681 CR676.1 (Safe.wr W674 F675 CR670.1 (Safe.wr W668 F669 CR664.1 (Safe.wr W663 S660 CR658.1 (Safe.ext E654 CR649.1 S651))))))))
  have CR710 : CHr Z own_EL s.vm h0 s.vm T707.heap := CHr.trans CR700 (CHr.keep K707_ (sfS F709 sf0) CR700.1)
  have Z711 : n0 ≤ T707.heap.size := Nat.le_trans Z701 K707_.1
  have hk711 := Nat.le_trans hk701 K707_.1
  have K711 : Keep h0 T707.heap [] := (Keep.trans K701 K707_ (allS (Or.inr (Nat.le_trans K0.1 (Nat.le_of_eq g647.symm))) all0))
  have F712 : Arv Z h698 cs kc .char (8 : Int32) [(.int x0), (.int x1), (.int x2), (.int x3), (.int x4), (.int x5), (.int x6), (.int x7)] (.int 0) := (Arv.other F697 W698 ne656)
  have ne713 : cs ≠ t707 := Nat.ne_of_lt (Nat.lt_of_lt_of_le F712.lt hz707)
  have ne714 : b647 ≠ t707 := Nat.ne_of_lt (Nat.lt_of_lt_of_le F703.lt hz707)
  have ne715 : b654 ≠ t707 := Nat.ne_of_lt (Nat.lt_of_lt_of_le F702.lt hz707)
  refine own_tr (T' := T707) (g' := (mkF m 294 #[.val (.ref cs), .val (.int 7)] [(.ref b647)])) st707 ?_
  obtain ⟨fs, hr, hrun, hended, hE⟩ := Stand.leaveW X707 hS hk711 (v := some (.ref b647)) (fun h => by rw [Bd.returns] at h; cases h)
  refine own_end (own_retA X707 hx Bd.returns rfl rfl rfl (hb hby d4_294) hr) ⟨_, hrun, hended, _, _, rfl, ?_, (by rw [hh]; show CHr Z own_EL s.vm h0 T707.vm T707.heap; exact CHr.trans CR710 (CHv.at X707 hZ (own_EW hw) CR710.1)), ⟨hE.1, hE.2.1, hE.2.2.1, hE.2.2.2.mono (by decide) (by decide)⟩⟩
  show own_s7Q Z _ _ _ _ _ _ _ _ _ _ _ h0 n0 _ T707.heap _
  show own_s7Q Z _ _ _ _ _ _ _ _ _ _ _ h0 n0 _ T707.heap _
  exact ⟨b647, t707, kb707, rfl, N708, K711, gE707, gC707, gV707, gA707, (Nat.le_trans K0.1 (Nat.le_of_eq g647.symm))⟩
theorem own_lm (x : Int64) : own_cc ((x &&& (255 : Int64)).toInt32).toUInt32.toUInt16.toUInt32.toInt32 := by
  have g := Jvm.Kit.i64_mask x (255 : Int64) (k := 8) (by decide) (by decide)
  have g2 : (x &&& (255 : Int64)).toInt32.toInt = x.toInt % 2 ^ 8 := by rw [Jvm.Kit.i32_of_i64 (by rw [g]; omega) (by rw [g]; omega), g]
  have e : (x &&& (255 : Int64)).toInt32 = (x &&& (255 : Int64)).toInt32 &&& (255 : Int32) := by
    rw [← Int32.toInt_inj, Jvm.Kit.i32_mask _ (255 : Int32) (k := 8) (by decide) (by decide), g2]; omega
  rw [e]; exact own_mkc _
theorem own_c99 : own_cc 99 := by unfold own_cc; decide
theorem own_c101 : own_cc 101 := by unfold own_cc; decide
theorem own_c105 : own_cc 105 := by unfold own_cc; decide
theorem own_c108 : own_cc 108 := by unfold own_cc; decide
theorem own_c110 : own_cc 110 := by unfold own_cc; decide
theorem own_c114 : own_cc 114 := by unfold own_cc; decide
theorem own_c115 : own_cc 115 := by unfold own_cc; decide
theorem own_c116 : own_cc 116 := by unfold own_cc; decide
theorem own_ql6 : own_q8 6 := by unfold own_q8; decide
theorem own_ql7 : own_q8 7 := by unfold own_q8; decide
theorem own_pd13 : parseMethodDescriptor "(Ljava/lang/String;)Lcom/example/lotd/lotd/ProcessingMode;" = some ⟨[(.object "java/lang/String")], some (.object "com/example/lotd/lotd/ProcessingMode")⟩ := by decide +kernel
theorem own_pd14 : parseMethodDescriptor "([CI)Ljava/lang/String;" = some ⟨[(.array .char), .int], some (.object "java/lang/String")⟩ := by decide +kernel
theorem own_pd15 : parseMethodDescriptor "([CILjava/lang/String;)Z" = some ⟨[(.array .char), .int, (.object "java/lang/String")], some .boolean⟩ := by decide +kernel
theorem own_ef12 (m : MethodId) (x0 : Int32) (x1 : Int32) (x2 : Int32) (x3 : Int32) (x4 : Int64) : entryFrame m #[(.int x0), (.int x1), (.int x2), (.int x3), (.long x4)] 11 = mkF m 0 #[.val (.int x0), .val (.int x1), .val (.int x2), .val (.int x3), .val (.long x4), .second, .unset, .unset, .unset, .unset, .unset] [] := by first | (simp [entryFrame, mkF, argsToLocals, Value.category]; done) | rfl
def own_lawQ (Z : State) (p1 : Int32) (p2 : Int32) (p3 : Int32) (p4 : Int32) (p5 : Int64) (fmt : Value) (va : Addr) (kv : ClassId) (sc : Addr) (le : Addr) (zc : Int32) (sv : Addr) (lv : Addr) (ts : Addr) (tl : Addr) (k1 : ClassId) (k2 : ClassId) (h0 : Heap) (n0 : Nat) (v : Option Value) (h : Heap) (L : List Loc) : Prop := v = some (.int 1) ∧ Fr n0 L
theorem own_law (l : Launch) (Z : State) (a0 : Array Value) (hw : ∀ d ∈ tables_1, d.before a0 Z = true) (ws : List Jvm.Cond) (p1 : Int32) (p2 : Int32) (p3 : Int32) (p4 : Int32) (p5 : Int64) (fmt : Value) (va : Addr) (kv : ClassId) (sc : Addr) (le : Addr) (zc : Int32) (sv : Addr) (lv : Addr) (ts : Addr) (tl : Addr) (k1 : ClassId) (k2 : ClassId) (h0 : Heap) (n0 : Nat) (Z0 : n0 ≤ h0.size) (pr1 : Old Z n0 h0) (pr2 : Sta Z Z.heap "com/example/lotd/lotd/ProcessingMode" "$VALUES" "[Lcom/example/lotd/lotd/ProcessingMode;" (.ref va)) (pr3 : Exa Z Z.heap va "[Lcom/example/lotd/lotd/ProcessingMode;") (pr4 : Arv Z Z.heap va kv (.object "com/example/lotd/lotd/ProcessingMode") (2 : Int32) [(.ref sc), (.ref le)] .null) (pr5 : Sta Z Z.heap "java/lang/String" "COMPACT_STRINGS" "Z" (.int zc)) (pr6 : ¬ zc = 0) (pr7 : Sta Z Z.heap "com/example/lotd/lotd/ProcessingMode" "STRICT" "Lcom/example/lotd/lotd/ProcessingMode;" (.ref sc)) (pr8 : Exa Z Z.heap sc "com/example/lotd/lotd/ProcessingMode") (pr9 : Exa Z Z.heap le "com/example/lotd/lotd/ProcessingMode") (pr10 : Fld Z Z.heap sc "com/example/lotd/lotd/ProcessingMode" "value" "Ljava/lang/String;" (.ref sv)) (pr11 : Fld Z Z.heap le "com/example/lotd/lotd/ProcessingMode" "value" "Ljava/lang/String;" (.ref lv)) (pr12 : Exa Z Z.heap sv "java/lang/String") (pr13 : Fld Z Z.heap sv "java/lang/String" "coder" "B" (.int 0)) (pr14 : Fld Z Z.heap sv "java/lang/String" "value" "[B" (.ref ts)) (pr15 : Arv Z Z.heap ts k1 .byte (6 : Int32) [(.int 115), (.int 116), (.int 114), (.int 105), (.int 99), (.int 116)] (.int 0)) (pr16 : Exa Z Z.heap lv "java/lang/String") (pr17 : Fld Z Z.heap lv "java/lang/String" "coder" "B" (.int 0)) (pr18 : Fld Z Z.heap lv "java/lang/String" "value" "[B" (.ref tl)) (pr19 : Arv Z Z.heap tl k2 .byte (7 : Int32) [(.int 108), (.int 101), (.int 110), (.int 105), (.int 101), (.int 110), (.int 116)] (.int 0)) (pr20 : Sta Z Z.heap "com/example/lotd/lotd/ProcessingMode" "LENIENT" "Lcom/example/lotd/lotd/ProcessingMode;" (.ref le)) (pr21 : Sta Z Z.heap "jdk/internal/util/Preconditions" "SIOOBE_FORMATTER" "Ljava/util/function/BiFunction;" fmt) (pr22 : fmt.isRef = true) :
    own_MH own_EL l x code maxLocals ret ws room_1 #[(.int p1), (.int p2), (.int p3), (.int p4), (.long p5)] Z h0 (own_lawQ Z p1 p2 p3 p4 p5 fmt va kv sc le zc sv lv ts tl k1 k2 h0 n0) := by
  refine own_goH (plainFor_of_name own_pn5) (fun m => own_ef12 m p1 p2 p3 p4 p5 ) ?_
  intro p e s m below meth c s₁ Bd hx hby hml hZ hh hown hnm X0 e0 hS CR0
  have N0 := Fr.nil n0
  have hk : h0.size ≤ h0.size := Nat.le_refl _
  refine own_st (T' := s₁) (g' := (mkF m 7 #[.val (.int p1), .val (.int p2), .val (.int p3), .val (.int p4), .val (.long p5), .second, .val (.int (p1 &&& (3 : Int32))), .unset, .unset, .unset, .unset] [(.int 8)])) (fun _ kt => XS.iloadN X0.here hx rfl (hb hby at_0) rfl (XS.iconst X0.here hx rfl (hb hby at_1) (XS.iand X0.here hx rfl (hb hby at_2) rfl (XS.istore X0.here hx rfl (hb hby at_3) rfl (l' := #[.val (.int p1), .val (.int p2), .val (.int p3), .val (.int p4), .val (.long p5), .second, .val (.int (p1 &&& (3 : Int32))), .unset, .unset, .unset, .unset]) rfl (XS.bipush X0.here hx rfl (hb hby at_5) kt))))) ?_
  obtain ⟨T716, h716, k716, X716, e716, E716, A716, st716⟩ := newP X0 hx hZ (aty := .char) (own_k hw 0 rfl) e0 (g := (mkF m 7 #[.val (.int p1), .val (.int p2), .val (.int p3), .val (.int p4), .val (.long p5), .second, .val (.int (p1 &&& (3 : Int32))), .unset, .unset, .unset, .unset] [(.int 8)])) rfl (hb hby at_7) rfl (by decide) (cap := 8) (by decide) (by decide) (by decide) (by decide)
  obtain ⟨b716, g716⟩ : ∃ z, z = h0.size := ⟨_, rfl⟩
  rw [← g716] at A716 st716
  have CR717 : CHr Z own_EL s.vm h0 s.vm h716 := CHr.trans CR0 (CHr.ext E716 CR0.1)
  have Z718 : n0 ≤ h716.size := Nat.le_trans Z0 E716.1
  have hk718 := Nat.le_trans hk E716.1
  have ge_b716 : n0 ≤ b716 := Nat.le_trans Z0 (Nat.le_of_eq g716.symm)
  have S719 : Safe Z own_EL s.vm h716 b716 := (Safe.ext E716 CR0.1 (Safe.new (Nat.le_of_eq g716.symm)))
  have F720 : Arv Z h716 b716 k716 .char (8 : Int32) [(.int 0), (.int 0), (.int 0), (.int 0), (.int 0), (.int 0), (.int 0), (.int 0)] (.int 0) := (Arv.new A716 (by decide)).pad (pad_rep [] (.int 0) 8)
  refine own_st (T' := T716) (g' := (mkF m 9 #[.val (.int p1), .val (.int p2), .val (.int p3), .val (.int p4), .val (.long p5), .second, .val (.int (p1 &&& (3 : Int32))), .unset, .unset, .unset, .unset] [(.ref b716)])) st716 ?_
  refine own_st (T' := T716) (g' := (mkF m 16 #[.val (.int p1), .val (.int p2), .val (.int p3), .val (.int p4), .val (.long p5), .second, .val (.int (p1 &&& (3 : Int32))), .val (.ref b716), .unset, .unset, .unset] [(.long p5), (.int 0), (.ref b716)])) (fun _ kt => XS.astore X716.here hx rfl (hb hby at_9) rfl rfl (l' := #[.val (.int p1), .val (.int p2), .val (.int p3), .val (.int p4), .val (.long p5), .second, .val (.int (p1 &&& (3 : Int32))), .val (.ref b716), .unset, .unset, .unset]) rfl (XS.aload X716.here hx rfl (hb hby at_11) rfl rfl (XS.iconst X716.here hx rfl (hb hby at_13) (XT.lload X716.here hx rfl (hb hby at_14) rfl kt)))) ?_
  refine own_st (T' := T716) (g' := (mkF m 19 #[.val (.int p1), .val (.int p2), .val (.int p3), .val (.int p4), .val (.long p5), .second, .val (.int (p1 &&& (3 : Int32))), .val (.ref b716), .unset, .unset, .unset] [(.long (255 : Int64)), (.long p5), (.int 0), (.ref b716)])) (Stand.ldc2Long X716 hx hown (mvT hZ (own_k hw 1 rfl)) (g := (mkF m 16 #[.val (.int p1), .val (.int p2), .val (.int p3), .val (.int p4), .val (.long p5), .second, .val (.int (p1 &&& (3 : Int32))), .val (.ref b716), .unset, .unset, .unset] [(.long p5), (.int 0), (.ref b716)])) rfl (hb hby at_16)) ?_
  refine own_st (T' := T716) (g' := (mkF m 22 #[.val (.int p1), .val (.int p2), .val (.int p3), .val (.int p4), .val (.long p5), .second, .val (.int (p1 &&& (3 : Int32))), .val (.ref b716), .unset, .unset, .unset] [(.int (((p5 &&& (255 : Int64)).toInt32).toUInt32.toUInt16.toUInt32.toInt32)), (.int 0), (.ref b716)])) (fun _ kt => XT.land X716.here hx rfl (hb hby at_19) rfl (XT.l2i X716.here hx rfl (hb hby at_20) rfl (XT.i2c X716.here hx rfl (hb hby at_21) rfl kt))) ?_
  obtain ⟨c0, hc0⟩ : ∃ z : Int32, z = (((p5 &&& (255 : Int64)).toInt32).toUInt32.toUInt16.toUInt32.toInt32) := ⟨_, rfl⟩
  rw [← hc0]
  have b_c0 : own_cc c0 := hc0 ▸ own_lm _
  obtain ⟨T721, h721, X721, e721, W721, V721, st721⟩ := own_cst X716 hx hZ e716 F720 ⟨by decide, by decide⟩ (i := 0) rfl (by simp) (y := c0) b_c0.2.2 (g := (mkF m 22 #[.val (.int p1), .val (.int p2), .val (.int p3), .val (.int p4), .val (.long p5), .second, .val (.int (p1 &&& (3 : Int32))), .val (.ref b716), .unset, .unset, .unset] [(.int c0), (.int 0), (.ref b716)])) rfl rfl (hb hby at_22)
  have N721 := Fr.snoc X721 N0 ge_b716
  have CR722 : CHr Z own_EL s.vm h0 s.vm h721 := CHr.trans CR717 (CHr.wr W721 S719 CR717.1)
  have Z723 : n0 ≤ h721.size := Nat.le_trans Z718 (Nat.le_of_eq (Wr.size W721).symm)
  have hk723 := Nat.le_trans hk718 (Nat.le_of_eq (Wr.size W721).symm)
  have F724 : Arv Z h721 b716 k716 .char (8 : Int32) [(.int c0), (.int 0), (.int 0), (.int 0), (.int 0), (.int 0), (.int 0), (.int 0)] (.int 0) := V721
  refine own_st (T' := T721) (g' := (mkF m 23 #[.val (.int p1), .val (.int p2), .val (.int p3), .val (.int p4), .val (.long p5), .second, .val (.int (p1 &&& (3 : Int32))), .val (.ref b716), .unset, .unset, .unset] [])) st721 ?_
  refine own_st (T' := T721) (g' := (mkF m 31 #[.val (.int p1), .val (.int p2), .val (.int p3), .val (.int p4), .val (.long p5), .second, .val (.int (p1 &&& (3 : Int32))), .val (.ref b716), .unset, .unset, .unset] [(.long (XT.ushrL p5 (8 : Int32))), (.int 1), (.ref b716)])) (fun _ kt => XS.aload X721.here hx rfl (hb hby at_23) rfl rfl (XS.iconst X721.here hx rfl (hb hby at_25) (XT.lload X721.here hx rfl (hb hby at_26) rfl (XS.bipush X721.here hx rfl (hb hby at_28) (XT.lushr X721.here hx rfl (hb hby at_30) rfl kt))))) ?_
  refine own_st (T' := T721) (g' := (mkF m 34 #[.val (.int p1), .val (.int p2), .val (.int p3), .val (.int p4), .val (.long p5), .second, .val (.int (p1 &&& (3 : Int32))), .val (.ref b716), .unset, .unset, .unset] [(.long (255 : Int64)), (.long (XT.ushrL p5 (8 : Int32))), (.int 1), (.ref b716)])) (Stand.ldc2Long X721 hx hown (mvT hZ (own_k hw 1 rfl)) (g := (mkF m 31 #[.val (.int p1), .val (.int p2), .val (.int p3), .val (.int p4), .val (.long p5), .second, .val (.int (p1 &&& (3 : Int32))), .val (.ref b716), .unset, .unset, .unset] [(.long (XT.ushrL p5 (8 : Int32))), (.int 1), (.ref b716)])) rfl (hb hby at_31)) ?_
  refine own_st (T' := T721) (g' := (mkF m 37 #[.val (.int p1), .val (.int p2), .val (.int p3), .val (.int p4), .val (.long p5), .second, .val (.int (p1 &&& (3 : Int32))), .val (.ref b716), .unset, .unset, .unset] [(.int ((((XT.ushrL p5 (8 : Int32)) &&& (255 : Int64)).toInt32).toUInt32.toUInt16.toUInt32.toInt32)), (.int 1), (.ref b716)])) (fun _ kt => XT.land X721.here hx rfl (hb hby at_34) rfl (XT.l2i X721.here hx rfl (hb hby at_35) rfl (XT.i2c X721.here hx rfl (hb hby at_36) rfl kt))) ?_
  obtain ⟨c1, hc1⟩ : ∃ z : Int32, z = ((((XT.ushrL p5 (8 : Int32)) &&& (255 : Int64)).toInt32).toUInt32.toUInt16.toUInt32.toInt32) := ⟨_, rfl⟩
  rw [← hc1]
  have b_c1 : own_cc c1 := hc1 ▸ own_lm _
  obtain ⟨T725, h725, X725, e725, W725, V725, st725⟩ := own_cst X721 hx hZ e721 F724 ⟨by decide, by decide⟩ (i := 1) rfl (by simp) (y := c1) b_c1.2.2 (g := (mkF m 37 #[.val (.int p1), .val (.int p2), .val (.int p3), .val (.int p4), .val (.long p5), .second, .val (.int (p1 &&& (3 : Int32))), .val (.ref b716), .unset, .unset, .unset] [(.int c1), (.int 1), (.ref b716)])) rfl rfl (hb hby at_37)
  have N725 := Fr.snoc X725 N721 ge_b716
  have F726 : Safe Z own_EL s.vm h721 b716 := (Safe.wr W721 S719 CR717.1 S719)
  have CR727 : CHr Z own_EL s.vm h0 s.vm h725 := CHr.trans CR722 (CHr.wr W725 F726 CR722.1)
  have Z728 : n0 ≤ h725.size := Nat.le_trans Z723 (Nat.le_of_eq (Wr.size W725).symm)
  have hk728 := Nat.le_trans hk723 (Nat.le_of_eq (Wr.size W725).symm)
  have F729 : Arv Z h725 b716 k716 .char (8 : Int32) [(.int c0), (.int c1), (.int 0), (.int 0), (.int 0), (.int 0), (.int 0), (.int 0)] (.int 0) := V725
  refine own_st (T' := T725) (g' := (mkF m 38 #[.val (.int p1), .val (.int p2), .val (.int p3), .val (.int p4), .val (.long p5), .second, .val (.int (p1 &&& (3 : Int32))), .val (.ref b716), .unset, .unset, .unset] [])) st725 ?_
  refine own_st (T' := T725) (g' := (mkF m 46 #[.val (.int p1), .val (.int p2), .val (.int p3), .val (.int p4), .val (.long p5), .second, .val (.int (p1 &&& (3 : Int32))), .val (.ref b716), .unset, .unset, .unset] [(.long (XT.ushrL p5 (16 : Int32))), (.int 2), (.ref b716)])) (fun _ kt => XS.aload X725.here hx rfl (hb hby at_38) rfl rfl (XS.iconst X725.here hx rfl (hb hby at_40) (XT.lload X725.here hx rfl (hb hby at_41) rfl (XS.bipush X725.here hx rfl (hb hby at_43) (XT.lushr X725.here hx rfl (hb hby at_45) rfl kt))))) ?_
  refine own_st (T' := T725) (g' := (mkF m 49 #[.val (.int p1), .val (.int p2), .val (.int p3), .val (.int p4), .val (.long p5), .second, .val (.int (p1 &&& (3 : Int32))), .val (.ref b716), .unset, .unset, .unset] [(.long (255 : Int64)), (.long (XT.ushrL p5 (16 : Int32))), (.int 2), (.ref b716)])) (Stand.ldc2Long X725 hx hown (mvT hZ (own_k hw 1 rfl)) (g := (mkF m 46 #[.val (.int p1), .val (.int p2), .val (.int p3), .val (.int p4), .val (.long p5), .second, .val (.int (p1 &&& (3 : Int32))), .val (.ref b716), .unset, .unset, .unset] [(.long (XT.ushrL p5 (16 : Int32))), (.int 2), (.ref b716)])) rfl (hb hby at_46)) ?_
  refine own_st (T' := T725) (g' := (mkF m 52 #[.val (.int p1), .val (.int p2), .val (.int p3), .val (.int p4), .val (.long p5), .second, .val (.int (p1 &&& (3 : Int32))), .val (.ref b716), .unset, .unset, .unset] [(.int ((((XT.ushrL p5 (16 : Int32)) &&& (255 : Int64)).toInt32).toUInt32.toUInt16.toUInt32.toInt32)), (.int 2), (.ref b716)])) (fun _ kt => XT.land X725.here hx rfl (hb hby at_49) rfl (XT.l2i X725.here hx rfl (hb hby at_50) rfl (XT.i2c X725.here hx rfl (hb hby at_51) rfl kt))) ?_
  obtain ⟨c2, hc2⟩ : ∃ z : Int32, z = ((((XT.ushrL p5 (16 : Int32)) &&& (255 : Int64)).toInt32).toUInt32.toUInt16.toUInt32.toInt32) := ⟨_, rfl⟩
  rw [← hc2]
  have b_c2 : own_cc c2 := hc2 ▸ own_lm _
  obtain ⟨T730, h730, X730, e730, W730, V730, st730⟩ := own_cst X725 hx hZ e725 F729 ⟨by decide, by decide⟩ (i := 2) rfl (by simp) (y := c2) b_c2.2.2 (g := (mkF m 52 #[.val (.int p1), .val (.int p2), .val (.int p3), .val (.int p4), .val (.long p5), .second, .val (.int (p1 &&& (3 : Int32))), .val (.ref b716), .unset, .unset, .unset] [(.int c2), (.int 2), (.ref b716)])) rfl rfl (hb hby at_52)
  have N730 := Fr.snoc X730 N725 ge_b716
  have F731 : Safe Z own_EL s.vm h725 b716 := (Safe.wr W725 F726 CR722.1 F726)
  have CR732 : CHr Z own_EL s.vm h0 s.vm h730 := CHr.trans CR727 (CHr.wr W730 F731 CR727.1)
  have Z733 : n0 ≤ h730.size := Nat.le_trans Z728 (Nat.le_of_eq (Wr.size W730).symm)
  have hk733 := Nat.le_trans hk728 (Nat.le_of_eq (Wr.size W730).symm)
  have F734 : Arv Z h730 b716 k716 .char (8 : Int32) [(.int c0), (.int c1), (.int c2), (.int 0), (.int 0), (.int 0), (.int 0), (.int 0)] (.int 0) := V730
  refine own_st (T' := T730) (g' := (mkF m 53 #[.val (.int p1), .val (.int p2), .val (.int p3), .val (.int p4), .val (.long p5), .second, .val (.int (p1 &&& (3 : Int32))), .val (.ref b716), .unset, .unset, .unset] [])) st730 ?_
  refine own_st (T' := T730) (g' := (mkF m 61 #[.val (.int p1), .val (.int p2), .val (.int p3), .val (.int p4), .val (.long p5), .second, .val (.int (p1 &&& (3 : Int32))), .val (.ref b716), .unset, .unset, .unset] [(.long (XT.ushrL p5 (24 : Int32))), (.int 3), (.ref b716)])) (fun _ kt => XS.aload X730.here hx rfl (hb hby at_53) rfl rfl (XS.iconst X730.here hx rfl (hb hby at_55) (XT.lload X730.here hx rfl (hb hby at_56) rfl (XS.bipush X730.here hx rfl (hb hby at_58) (XT.lushr X730.here hx rfl (hb hby at_60) rfl kt))))) ?_
  refine own_st (T' := T730) (g' := (mkF m 64 #[.val (.int p1), .val (.int p2), .val (.int p3), .val (.int p4), .val (.long p5), .second, .val (.int (p1 &&& (3 : Int32))), .val (.ref b716), .unset, .unset, .unset] [(.long (255 : Int64)), (.long (XT.ushrL p5 (24 : Int32))), (.int 3), (.ref b716)])) (Stand.ldc2Long X730 hx hown (mvT hZ (own_k hw 1 rfl)) (g := (mkF m 61 #[.val (.int p1), .val (.int p2), .val (.int p3), .val (.int p4), .val (.long p5), .second, .val (.int (p1 &&& (3 : Int32))), .val (.ref b716), .unset, .unset, .unset] [(.long (XT.ushrL p5 (24 : Int32))), (.int 3), (.ref b716)])) rfl (hb hby at_61)) ?_
  refine own_st (T' := T730) (g' := (mkF m 67 #[.val (.int p1), .val (.int p2), .val (.int p3), .val (.int p4), .val (.long p5), .second, .val (.int (p1 &&& (3 : Int32))), .val (.ref b716), .unset, .unset, .unset] [(.int ((((XT.ushrL p5 (24 : Int32)) &&& (255 : Int64)).toInt32).toUInt32.toUInt16.toUInt32.toInt32)), (.int 3), (.ref b716)])) (fun _ kt => XT.land X730.here hx rfl (hb hby at_64) rfl (XT.l2i X730.here hx rfl (hb hby at_65) rfl (XT.i2c X730.here hx rfl (hb hby at_66) rfl kt))) ?_
  obtain ⟨c3, hc3⟩ : ∃ z : Int32, z = ((((XT.ushrL p5 (24 : Int32)) &&& (255 : Int64)).toInt32).toUInt32.toUInt16.toUInt32.toInt32) := ⟨_, rfl⟩
  rw [← hc3]
  have b_c3 : own_cc c3 := hc3 ▸ own_lm _
  obtain ⟨T735, h735, X735, e735, W735, V735, st735⟩ := own_cst X730 hx hZ e730 F734 ⟨by decide, by decide⟩ (i := 3) rfl (by simp) (y := c3) b_c3.2.2 (g := (mkF m 67 #[.val (.int p1), .val (.int p2), .val (.int p3), .val (.int p4), .val (.long p5), .second, .val (.int (p1 &&& (3 : Int32))), .val (.ref b716), .unset, .unset, .unset] [(.int c3), (.int 3), (.ref b716)])) rfl rfl (hb hby at_67)
  have N735 := Fr.snoc X735 N730 ge_b716
  have F736 : Safe Z own_EL s.vm h730 b716 := (Safe.wr W730 F731 CR727.1 F731)
  have CR737 : CHr Z own_EL s.vm h0 s.vm h735 := CHr.trans CR732 (CHr.wr W735 F736 CR732.1)
  have Z738 : n0 ≤ h735.size := Nat.le_trans Z733 (Nat.le_of_eq (Wr.size W735).symm)
  have hk738 := Nat.le_trans hk733 (Nat.le_of_eq (Wr.size W735).symm)
  have F739 : Arv Z h735 b716 k716 .char (8 : Int32) [(.int c0), (.int c1), (.int c2), (.int c3), (.int 0), (.int 0), (.int 0), (.int 0)] (.int 0) := V735
  refine own_st (T' := T735) (g' := (mkF m 68 #[.val (.int p1), .val (.int p2), .val (.int p3), .val (.int p4), .val (.long p5), .second, .val (.int (p1 &&& (3 : Int32))), .val (.ref b716), .unset, .unset, .unset] [])) st735 ?_
  refine own_st (T' := T735) (g' := (mkF m 76 #[.val (.int p1), .val (.int p2), .val (.int p3), .val (.int p4), .val (.long p5), .second, .val (.int (p1 &&& (3 : Int32))), .val (.ref b716), .unset, .unset, .unset] [(.long (XT.ushrL p5 (32 : Int32))), (.int 4), (.ref b716)])) (fun _ kt => XS.aload X735.here hx rfl (hb hby at_68) rfl rfl (XS.iconst X735.here hx rfl (hb hby at_70) (XT.lload X735.here hx rfl (hb hby at_71) rfl (XS.bipush X735.here hx rfl (hb hby at_73) (XT.lushr X735.here hx rfl (hb hby at_75) rfl kt))))) ?_
  refine own_st (T' := T735) (g' := (mkF m 79 #[.val (.int p1), .val (.int p2), .val (.int p3), .val (.int p4), .val (.long p5), .second, .val (.int (p1 &&& (3 : Int32))), .val (.ref b716), .unset, .unset, .unset] [(.long (255 : Int64)), (.long (XT.ushrL p5 (32 : Int32))), (.int 4), (.ref b716)])) (Stand.ldc2Long X735 hx hown (mvT hZ (own_k hw 1 rfl)) (g := (mkF m 76 #[.val (.int p1), .val (.int p2), .val (.int p3), .val (.int p4), .val (.long p5), .second, .val (.int (p1 &&& (3 : Int32))), .val (.ref b716), .unset, .unset, .unset] [(.long (XT.ushrL p5 (32 : Int32))), (.int 4), (.ref b716)])) rfl (hb hby at_76)) ?_
  refine own_st (T' := T735) (g' := (mkF m 82 #[.val (.int p1), .val (.int p2), .val (.int p3), .val (.int p4), .val (.long p5), .second, .val (.int (p1 &&& (3 : Int32))), .val (.ref b716), .unset, .unset, .unset] [(.int ((((XT.ushrL p5 (32 : Int32)) &&& (255 : Int64)).toInt32).toUInt32.toUInt16.toUInt32.toInt32)), (.int 4), (.ref b716)])) (fun _ kt => XT.land X735.here hx rfl (hb hby at_79) rfl (XT.l2i X735.here hx rfl (hb hby at_80) rfl (XT.i2c X735.here hx rfl (hb hby at_81) rfl kt))) ?_
  obtain ⟨c4, hc4⟩ : ∃ z : Int32, z = ((((XT.ushrL p5 (32 : Int32)) &&& (255 : Int64)).toInt32).toUInt32.toUInt16.toUInt32.toInt32) := ⟨_, rfl⟩
  rw [← hc4]
  have b_c4 : own_cc c4 := hc4 ▸ own_lm _
  obtain ⟨T740, h740, X740, e740, W740, V740, st740⟩ := own_cst X735 hx hZ e735 F739 ⟨by decide, by decide⟩ (i := 4) rfl (by simp) (y := c4) b_c4.2.2 (g := (mkF m 82 #[.val (.int p1), .val (.int p2), .val (.int p3), .val (.int p4), .val (.long p5), .second, .val (.int (p1 &&& (3 : Int32))), .val (.ref b716), .unset, .unset, .unset] [(.int c4), (.int 4), (.ref b716)])) rfl rfl (hb hby at_82)
  have N740 := Fr.snoc X740 N735 ge_b716
  have F741 : Safe Z own_EL s.vm h735 b716 := (Safe.wr W735 F736 CR732.1 F736)
  have CR742 : CHr Z own_EL s.vm h0 s.vm h740 := CHr.trans CR737 (CHr.wr W740 F741 CR737.1)
  have Z743 : n0 ≤ h740.size := Nat.le_trans Z738 (Nat.le_of_eq (Wr.size W740).symm)
  have hk743 := Nat.le_trans hk738 (Nat.le_of_eq (Wr.size W740).symm)
  have F744 : Arv Z h740 b716 k716 .char (8 : Int32) [(.int c0), (.int c1), (.int c2), (.int c3), (.int c4), (.int 0), (.int 0), (.int 0)] (.int 0) := V740
  refine own_st (T' := T740) (g' := (mkF m 83 #[.val (.int p1), .val (.int p2), .val (.int p3), .val (.int p4), .val (.long p5), .second, .val (.int (p1 &&& (3 : Int32))), .val (.ref b716), .unset, .unset, .unset] [])) st740 ?_
  refine own_st (T' := T740) (g' := (mkF m 91 #[.val (.int p1), .val (.int p2), .val (.int p3), .val (.int p4), .val (.long p5), .second, .val (.int (p1 &&& (3 : Int32))), .val (.ref b716), .unset, .unset, .unset] [(.long (XT.ushrL p5 (40 : Int32))), (.int 5), (.ref b716)])) (fun _ kt => XS.aload X740.here hx rfl (hb hby at_83) rfl rfl (XS.iconst X740.here hx rfl (hb hby at_85) (XT.lload X740.here hx rfl (hb hby at_86) rfl (XS.bipush X740.here hx rfl (hb hby at_88) (XT.lushr X740.here hx rfl (hb hby at_90) rfl kt))))) ?_
  refine own_st (T' := T740) (g' := (mkF m 94 #[.val (.int p1), .val (.int p2), .val (.int p3), .val (.int p4), .val (.long p5), .second, .val (.int (p1 &&& (3 : Int32))), .val (.ref b716), .unset, .unset, .unset] [(.long (255 : Int64)), (.long (XT.ushrL p5 (40 : Int32))), (.int 5), (.ref b716)])) (Stand.ldc2Long X740 hx hown (mvT hZ (own_k hw 1 rfl)) (g := (mkF m 91 #[.val (.int p1), .val (.int p2), .val (.int p3), .val (.int p4), .val (.long p5), .second, .val (.int (p1 &&& (3 : Int32))), .val (.ref b716), .unset, .unset, .unset] [(.long (XT.ushrL p5 (40 : Int32))), (.int 5), (.ref b716)])) rfl (hb hby at_91)) ?_
  refine own_st (T' := T740) (g' := (mkF m 97 #[.val (.int p1), .val (.int p2), .val (.int p3), .val (.int p4), .val (.long p5), .second, .val (.int (p1 &&& (3 : Int32))), .val (.ref b716), .unset, .unset, .unset] [(.int ((((XT.ushrL p5 (40 : Int32)) &&& (255 : Int64)).toInt32).toUInt32.toUInt16.toUInt32.toInt32)), (.int 5), (.ref b716)])) (fun _ kt => XT.land X740.here hx rfl (hb hby at_94) rfl (XT.l2i X740.here hx rfl (hb hby at_95) rfl (XT.i2c X740.here hx rfl (hb hby at_96) rfl kt))) ?_
  obtain ⟨c5, hc5⟩ : ∃ z : Int32, z = ((((XT.ushrL p5 (40 : Int32)) &&& (255 : Int64)).toInt32).toUInt32.toUInt16.toUInt32.toInt32) := ⟨_, rfl⟩
  rw [← hc5]
  have b_c5 : own_cc c5 := hc5 ▸ own_lm _
  obtain ⟨T745, h745, X745, e745, W745, V745, st745⟩ := own_cst X740 hx hZ e740 F744 ⟨by decide, by decide⟩ (i := 5) rfl (by simp) (y := c5) b_c5.2.2 (g := (mkF m 97 #[.val (.int p1), .val (.int p2), .val (.int p3), .val (.int p4), .val (.long p5), .second, .val (.int (p1 &&& (3 : Int32))), .val (.ref b716), .unset, .unset, .unset] [(.int c5), (.int 5), (.ref b716)])) rfl rfl (hb hby at_97)
  have N745 := Fr.snoc X745 N740 ge_b716
  have F746 : Safe Z own_EL s.vm h740 b716 := (Safe.wr W740 F741 CR737.1 F741)
  have CR747 : CHr Z own_EL s.vm h0 s.vm h745 := CHr.trans CR742 (CHr.wr W745 F746 CR742.1)
  have Z748 : n0 ≤ h745.size := Nat.le_trans Z743 (Nat.le_of_eq (Wr.size W745).symm)
  have hk748 := Nat.le_trans hk743 (Nat.le_of_eq (Wr.size W745).symm)
  have F749 : Arv Z h745 b716 k716 .char (8 : Int32) [(.int c0), (.int c1), (.int c2), (.int c3), (.int c4), (.int c5), (.int 0), (.int 0)] (.int 0) := V745
  refine own_st (T' := T745) (g' := (mkF m 98 #[.val (.int p1), .val (.int p2), .val (.int p3), .val (.int p4), .val (.long p5), .second, .val (.int (p1 &&& (3 : Int32))), .val (.ref b716), .unset, .unset, .unset] [])) st745 ?_
  refine own_st (T' := T745) (g' := (mkF m 107 #[.val (.int p1), .val (.int p2), .val (.int p3), .val (.int p4), .val (.long p5), .second, .val (.int (p1 &&& (3 : Int32))), .val (.ref b716), .unset, .unset, .unset] [(.long (XT.ushrL p5 (48 : Int32))), (.int 6), (.ref b716)])) (fun _ kt => XS.aload X745.here hx rfl (hb hby at_98) rfl rfl (XS.bipush X745.here hx rfl (hb hby at_100) (XT.lload X745.here hx rfl (hb hby at_102) rfl (XS.bipush X745.here hx rfl (hb hby at_104) (XT.lushr X745.here hx rfl (hb hby at_106) rfl kt))))) ?_
  refine own_st (T' := T745) (g' := (mkF m 110 #[.val (.int p1), .val (.int p2), .val (.int p3), .val (.int p4), .val (.long p5), .second, .val (.int (p1 &&& (3 : Int32))), .val (.ref b716), .unset, .unset, .unset] [(.long (255 : Int64)), (.long (XT.ushrL p5 (48 : Int32))), (.int 6), (.ref b716)])) (Stand.ldc2Long X745 hx hown (mvT hZ (own_k hw 1 rfl)) (g := (mkF m 107 #[.val (.int p1), .val (.int p2), .val (.int p3), .val (.int p4), .val (.long p5), .second, .val (.int (p1 &&& (3 : Int32))), .val (.ref b716), .unset, .unset, .unset] [(.long (XT.ushrL p5 (48 : Int32))), (.int 6), (.ref b716)])) rfl (hb hby at_107)) ?_
  refine own_st (T' := T745) (g' := (mkF m 113 #[.val (.int p1), .val (.int p2), .val (.int p3), .val (.int p4), .val (.long p5), .second, .val (.int (p1 &&& (3 : Int32))), .val (.ref b716), .unset, .unset, .unset] [(.int ((((XT.ushrL p5 (48 : Int32)) &&& (255 : Int64)).toInt32).toUInt32.toUInt16.toUInt32.toInt32)), (.int 6), (.ref b716)])) (fun _ kt => XT.land X745.here hx rfl (hb hby at_110) rfl (XT.l2i X745.here hx rfl (hb hby at_111) rfl (XT.i2c X745.here hx rfl (hb hby at_112) rfl kt))) ?_
  obtain ⟨c6, hc6⟩ : ∃ z : Int32, z = ((((XT.ushrL p5 (48 : Int32)) &&& (255 : Int64)).toInt32).toUInt32.toUInt16.toUInt32.toInt32) := ⟨_, rfl⟩
  rw [← hc6]
  have b_c6 : own_cc c6 := hc6 ▸ own_lm _
  obtain ⟨T750, h750, X750, e750, W750, V750, st750⟩ := own_cst X745 hx hZ e745 F749 ⟨by decide, by decide⟩ (i := 6) rfl (by simp) (y := c6) b_c6.2.2 (g := (mkF m 113 #[.val (.int p1), .val (.int p2), .val (.int p3), .val (.int p4), .val (.long p5), .second, .val (.int (p1 &&& (3 : Int32))), .val (.ref b716), .unset, .unset, .unset] [(.int c6), (.int 6), (.ref b716)])) rfl rfl (hb hby at_113)
  have N750 := Fr.snoc X750 N745 ge_b716
  have F751 : Safe Z own_EL s.vm h745 b716 := (Safe.wr W745 F746 CR742.1 F746)
  have CR752 : CHr Z own_EL s.vm h0 s.vm h750 := CHr.trans CR747 (CHr.wr W750 F751 CR747.1)
  have Z753 : n0 ≤ h750.size := Nat.le_trans Z748 (Nat.le_of_eq (Wr.size W750).symm)
  have hk753 := Nat.le_trans hk748 (Nat.le_of_eq (Wr.size W750).symm)
  have F754 : Arv Z h750 b716 k716 .char (8 : Int32) [(.int c0), (.int c1), (.int c2), (.int c3), (.int c4), (.int c5), (.int c6), (.int 0)] (.int 0) := V750
  refine own_st (T' := T750) (g' := (mkF m 114 #[.val (.int p1), .val (.int p2), .val (.int p3), .val (.int p4), .val (.long p5), .second, .val (.int (p1 &&& (3 : Int32))), .val (.ref b716), .unset, .unset, .unset] [])) st750 ?_
  refine own_st (T' := T750) (g' := (mkF m 123 #[.val (.int p1), .val (.int p2), .val (.int p3), .val (.int p4), .val (.long p5), .second, .val (.int (p1 &&& (3 : Int32))), .val (.ref b716), .unset, .unset, .unset] [(.long (XT.ushrL p5 (56 : Int32))), (.int 7), (.ref b716)])) (fun _ kt => XS.aload X750.here hx rfl (hb hby at_114) rfl rfl (XS.bipush X750.here hx rfl (hb hby at_116) (XT.lload X750.here hx rfl (hb hby at_118) rfl (XS.bipush X750.here hx rfl (hb hby at_120) (XT.lushr X750.here hx rfl (hb hby at_122) rfl kt))))) ?_
  refine own_st (T' := T750) (g' := (mkF m 126 #[.val (.int p1), .val (.int p2), .val (.int p3), .val (.int p4), .val (.long p5), .second, .val (.int (p1 &&& (3 : Int32))), .val (.ref b716), .unset, .unset, .unset] [(.long (255 : Int64)), (.long (XT.ushrL p5 (56 : Int32))), (.int 7), (.ref b716)])) (Stand.ldc2Long X750 hx hown (mvT hZ (own_k hw 1 rfl)) (g := (mkF m 123 #[.val (.int p1), .val (.int p2), .val (.int p3), .val (.int p4), .val (.long p5), .second, .val (.int (p1 &&& (3 : Int32))), .val (.ref b716), .unset, .unset, .unset] [(.long (XT.ushrL p5 (56 : Int32))), (.int 7), (.ref b716)])) rfl (hb hby at_123)) ?_
  refine own_st (T' := T750) (g' := (mkF m 129 #[.val (.int p1), .val (.int p2), .val (.int p3), .val (.int p4), .val (.long p5), .second, .val (.int (p1 &&& (3 : Int32))), .val (.ref b716), .unset, .unset, .unset] [(.int ((((XT.ushrL p5 (56 : Int32)) &&& (255 : Int64)).toInt32).toUInt32.toUInt16.toUInt32.toInt32)), (.int 7), (.ref b716)])) (fun _ kt => XT.land X750.here hx rfl (hb hby at_126) rfl (XT.l2i X750.here hx rfl (hb hby at_127) rfl (XT.i2c X750.here hx rfl (hb hby at_128) rfl kt))) ?_
  obtain ⟨c7, hc7⟩ : ∃ z : Int32, z = ((((XT.ushrL p5 (56 : Int32)) &&& (255 : Int64)).toInt32).toUInt32.toUInt16.toUInt32.toInt32) := ⟨_, rfl⟩
  rw [← hc7]
  have b_c7 : own_cc c7 := hc7 ▸ own_lm _
  obtain ⟨T755, h755, X755, e755, W755, V755, st755⟩ := own_cst X750 hx hZ e750 F754 ⟨by decide, by decide⟩ (i := 7) rfl (by simp) (y := c7) b_c7.2.2 (g := (mkF m 129 #[.val (.int p1), .val (.int p2), .val (.int p3), .val (.int p4), .val (.long p5), .second, .val (.int (p1 &&& (3 : Int32))), .val (.ref b716), .unset, .unset, .unset] [(.int c7), (.int 7), (.ref b716)])) rfl rfl (hb hby at_129)
  have N755 := Fr.snoc X755 N750 ge_b716
  have F756 : Safe Z own_EL s.vm h750 b716 := (Safe.wr W750 F751 CR747.1 F751)
  have CR757 : CHr Z own_EL s.vm h0 s.vm h755 := CHr.trans CR752 (CHr.wr W755 F756 CR752.1)
  have Z758 : n0 ≤ h755.size := Nat.le_trans Z753 (Nat.le_of_eq (Wr.size W755).symm)
  have hk758 := Nat.le_trans hk753 (Nat.le_of_eq (Wr.size W755).symm)
  have F759 : Arv Z h755 b716 k716 .char (8 : Int32) [(.int c0), (.int c1), (.int c2), (.int c3), (.int c4), (.int c5), (.int c6), (.int c7)] (.int 0) := V755
  refine own_st (T' := T755) (g' := (mkF m 130 #[.val (.int p1), .val (.int p2), .val (.int p3), .val (.int p4), .val (.long p5), .second, .val (.int (p1 &&& (3 : Int32))), .val (.ref b716), .unset, .unset, .unset] [])) st755 ?_
  refine own_joinHV (α := Int32 × Int32 × Int32 × Int32 × Int32 × Int32 × Int32 × Int32 × Int32) X755 (cells' := 1) (slots' := 8) (gj := fun q => (mkF m 290 #[.val (.int p1), .val (.int p2), .val (.int p3), .val (.int p4), .val (.long p5), .second, .val (.int (p1 &&& (3 : Int32))), .val (.ref b716), .val (.int q.2.2.2.2.2.2.2.2), .unset, .unset] [])) (P := fun vm_ k_ L_ h_ q => (Fr n0 L_) ∧ (n0 ≤ h_.size) ∧ (Old Z n0 h_) ∧ (CHr Z own_EL s.vm h0 vm_ h_) ∧ (s.Since vm_ k_) ∧ (k_ ≤ h_.size) ∧ (Z.Warmed39 (s.setVm vm_).vm) ∧ ((s.setVm vm_).vm.findClass "com/example/lotd/lotd/ProcessingModeOfPinLaw" = some m.cls) ∧ (Arv Z h_ b716 k716 .char (8 : Int32) [(.int q.1), (.int q.2.1), (.int q.2.2.1), (.int q.2.2.2.1), (.int q.2.2.2.2.1), (.int q.2.2.2.2.2.1), (.int q.2.2.2.2.2.2.1), (.int q.2.2.2.2.2.2.2.1)] (.int 0)) ∧ (own_cc q.1 ∧ own_cc q.2.1 ∧ own_cc q.2.2.1 ∧ own_cc q.2.2.2.1 ∧ own_cc q.2.2.2.2.1 ∧ own_cc q.2.2.2.2.2.1 ∧ own_cc q.2.2.2.2.2.2.1 ∧ own_cc q.2.2.2.2.2.2.2.1 ∧ own_q8 q.2.2.2.2.2.2.2.2)) ?_ (fun J760 => ?_)
  · rintro vm760 k760 T760 L760 h760 ⟨x0, x1, x2, x3, x4, x5, x6, x7, ln⟩ ⟨N760, Z760, O760, CR760, hS760, hk760, hZ760, hown760, F761, hj760⟩ X760 e760
    try dsimp only at F761 hj760 ⊢
    obtain ⟨hx0, hx1, hx2, hx3, hx4, hx5, hx6, hx7, hq⟩ := hj760
    refine own_st (T' := T760) (g' := (mkF m 292 #[.val (.int p1), .val (.int p2), .val (.int p3), .val (.int p4), .val (.long p5), .second, .val (.int (p1 &&& (3 : Int32))), .val (.ref b716), .val (.int ln), .unset, .unset] [(.int (p1 &&& (3 : Int32)))])) (fun _ kt => XS.iload X760.here hx rfl (hb hby at_290) rfl kt) ?_
    by_cases hc762 : (p1 &&& (3 : Int32)) = 0
    ·
      refine own_st (T' := T760) (g' := (mkF m 313 #[.val (.int p1), .val (.int p2), .val (.int p3), .val (.int p4), .val (.long p5), .second, .val (.int (p1 &&& (3 : Int32))), .val (.ref b716), .val (.int ln), .val .null, .unset] [])) (fun _ kt => XS.ifNo X760.here hx rfl (hb hby at_292) rfl (XT.i0_ne_f hc762) (XS.aconstNull X760.here hx rfl (hb hby at_295) (XS.goto X760.here hx rfl (pc0 := 296) (pc' := 306) rfl (hb hby at_296) (by decide) (by decide) (XS.astore X760.here hx rfl (hb hby at_306) rfl rfl (l' := #[.val (.int p1), .val (.int p2), .val (.int p3), .val (.int p4), .val (.long p5), .second, .val (.int (p1 &&& (3 : Int32))), .val (.ref b716), .val (.int ln), .val .null, .unset]) rfl (XS.iload X760.here hx rfl (hb hby at_308) rfl (XS.ifNo X760.here hx rfl (hb hby at_310) rfl (XT.i0_ne_f hc762) kt)))))) ?_
      obtain ⟨T763, X763, e763, st763⟩ := getS2 X760 hx hZ760 hown760 (host := "") (Or.inl (own_k hw 2 rfl)) Via.refl e760 (Sta.ext O760.2 pr7) (g := (mkF m 313 #[.val (.int p1), .val (.int p2), .val (.int p3), .val (.int p4), .val (.long p5), .second, .val (.int (p1 &&& (3 : Int32))), .val (.ref b716), .val (.int ln), .val .null, .unset] [])) rfl (hb hby at_313)
      refine own_st (T' := T763) (g' := (mkF m 316 #[.val (.int p1), .val (.int p2), .val (.int p3), .val (.int p4), .val (.long p5), .second, .val (.int (p1 &&& (3 : Int32))), .val (.ref b716), .val (.int ln), .val .null, .unset] [(.ref sc)])) st763 ?_
      refine own_st (T' := T763) (g' := (mkF m 366 #[.val (.int p1), .val (.int p2), .val (.int p3), .val (.int p4), .val (.long p5), .second, .val (.int (p1 &&& (3 : Int32))), .val (.ref b716), .val (.int ln), .val .null, .val (.ref sc)] [.null])) (fun _ kt => XS.astore X763.here hx rfl (hb hby at_316) rfl rfl (l' := #[.val (.int p1), .val (.int p2), .val (.int p3), .val (.int p4), .val (.long p5), .second, .val (.int (p1 &&& (3 : Int32))), .val (.ref b716), .val (.int ln), .val .null, .val (.ref sc)]) rfl (XS.goto X763.here hx rfl (pc0 := 318) (pc' := 364) rfl (hb hby at_318) (by decide) (by decide) (XS.aload X763.here hx rfl (hb hby at_364) rfl rfl kt))) ?_
      obtain ⟨_, _, ⟨T764, L764, k764, n764⟩, -, X764, ⟨Lc764, hQ764, l764, y764, z764⟩, st764⟩ := Jvm.LawKit.callS X763 hx (y := yN3) hown760 (mvT hZ760 (own_k hw 5 rfl)) (mvT hZ760 (own_k hw 6 rfl)) (mvT hZ760 (own_k hw 3 rfl)) (mvT hZ760 (own_k hw 7 rfl)) (by decide) (backOf (W := 0) (own_of0 l Z a0 hw [] va kv sc le zc sv lv ts tl k1 k2 h760 n0 Z760 O760 pr2 pr3 pr4 pr5 pr6 pr7 pr8 pr9 pr10 pr11 pr12 pr13 pr14 pr15 pr16 pr17 pr18 pr19) hZ760 (own_k hw 7 rfl) (own_k hw 3 rfl) (by decide) (by decide)) (g := (mkF m 366 #[.val (.int p1), .val (.int p2), .val (.int p3), .val (.int p4), .val (.long p5), .second, .val (.int (p1 &&& (3 : Int32))), .val (.ref b716), .val (.int ln), .val .null, .val (.ref sc)] [.null])) rfl hml.symm  (argsL := [.null]) (rest := []) (lenOf own_pd13 rfl) rfl (own_w0 rfl rfl) (hb hby at_366) (fun _ _ => ⟨rfl, e763, (by decide : 1 + 1 ≤ 24), (by decide : 8 + 2 ≤ 3264)⟩)
      dsimp only [Pt.U, Pt.locs, Pt.cells, Pt.slots] at X764 l764 y764 z764 st764 hQ764
      subst l764 y764 z764
      obtain ⟨b_764, rfl, N764, K764_⟩ := hQ764
      have N765 := Fr.app N760 N764
      have CR766 : CHr Z own_EL s.vm h0 vm760 T764.heap := CHr.trans CR760 (CHr.keep K764_ sf0 CR760.1)
      have Z767 : n0 ≤ T764.heap.size := Nat.le_trans Z760 K764_.1
      have hk767 := Nat.le_trans hk760 K764_.1
      refine own_st (T' := T764) (g' := (mkF m 369 #[.val (.int p1), .val (.int p2), .val (.int p3), .val (.int p4), .val (.long p5), .second, .val (.int (p1 &&& (3 : Int32))), .val (.ref b716), .val (.int ln), .val .null, .val (.ref sc)] [(.ref sc)])) st764 ?_
      refine own_st (T' := T764) (g' := (mkF m 379 #[.val (.int p1), .val (.int p2), .val (.int p3), .val (.int p4), .val (.long p5), .second, .val (.int (p1 &&& (3 : Int32))), .val (.ref b716), .val (.int ln), .val .null, .val (.ref sc)] [(.int 1)])) (fun _ kt => XS.aload X764.here hx rfl (hb hby at_369) rfl rfl (XT.acmpNo X764.here hx rfl (hb hby at_371) rfl rfl rfl (XT.aa_ne_f rfl) (XS.iconst X764.here hx rfl (hb hby at_374) (XS.goto X764.here hx rfl (pc0 := 375) (pc' := 379) rfl (hb hby at_375) (by decide) (by decide) kt)))) ?_
      obtain ⟨fs, hr, hrun, hended, hE⟩ := Stand.leaveW X764 hS760 hk767 (v := some (.int 1)) (fun h => by rw [Bd.returns] at h; cases h)
      refine own_end (retN X764 hx (t := .boolean) Bd.returns (by simp) (hb hby at_379) hr) ⟨_, hrun, hended, _, _, rfl, ?_, (by rw [hh]; show CHr Z own_EL s.vm h0 T764.vm T764.heap; exact CHr.trans CR766 (CHv.at X764 hZ760 (own_EW hw) CR766.1)), ⟨hE.1, hE.2.1, hE.2.2.1, hE.2.2.2.mono (by decide) (by decide)⟩⟩
      show own_lawQ Z _ _ _ _ _ _ _ _ _ _ _ _ _ _ _ _ _ h0 n0 _ T764.heap _
      show own_lawQ Z _ _ _ _ _ _ _ _ _ _ _ _ _ _ _ _ _ h0 n0 _ T764.heap _
      exact ⟨rfl, N765⟩
    ·
      refine own_st (T' := T760) (g' := (mkF m 299 #[.val (.int p1), .val (.int p2), .val (.int p3), .val (.int p4), .val (.long p5), .second, .val (.int (p1 &&& (3 : Int32))), .val (.ref b716), .val (.int ln), .unset, .unset] [])) (fun _ kt => XS.ifYes X760.here hx rfl (pc0 := 292) (pc' := 299) rfl (hb hby at_292) rfl (XT.i0_ne_t hc762) (by decide) (by decide) kt) ?_
      rcases hq with rfl | rfl | rfl | rfl | rfl | rfl | rfl | rfl
      ·
        refine own_st (T' := T760) (g' := (mkF m 303 #[.val (.int p1), .val (.int p2), .val (.int p3), .val (.int p4), .val (.long p5), .second, .val (.int (p1 &&& (3 : Int32))), .val (.ref b716), .val (.int 0), .unset, .unset] [(.int 0), (.ref b716)])) (fun _ kt => XS.aload X760.here hx rfl (hb hby at_299) rfl rfl (XS.iload X760.here hx rfl (hb hby at_301) rfl kt)) ?_
        obtain ⟨_, _, ⟨T768, L768, k768, n768⟩, -, X768, hS768, hG768, ⟨Lc768, hQ768, l768, y768, z768, hC768⟩, st768⟩ := callSS X760 hx (y := yN4) hown760 (mvT hZ760 (own_k hw 33 rfl)) (mvT hZ760 (own_k hw 34 rfl)) (mvT hZ760 (own_k hw 35 rfl)) (mvT hZ760 (own_k hw 36 rfl)) (by decide) (backOfSH (W := 0) (own_s0 l Z a0 hw [] b716 k716 zc x0 x1 x2 x3 x4 x5 x6 x7 h760 n0 Z760 O760 pr5 pr6 F761 hx0 hx1 hx2 hx3 hx4 hx5 hx6 hx7) hZ760 (own_k hw 36 rfl) (own_k hw 35 rfl) (by decide) (by decide) (own_EW hw) CR760.1) (g := (mkF m 303 #[.val (.int p1), .val (.int p2), .val (.int p3), .val (.int p4), .val (.long p5), .second, .val (.int (p1 &&& (3 : Int32))), .val (.ref b716), .val (.int 0), .unset, .unset] [(.int 0), (.ref b716)])) rfl hml.symm  (argsL := [(.ref b716), (.int 0)]) (rest := []) (lenOf own_pd14 rfl) rfl (own_w0 rfl rfl) (hb hby at_303) (fun _ _ => ⟨rfl, e760, (by decide : 1 + 6 ≤ 24), (by decide : 8 + 32 ≤ 3264)⟩)
        dsimp only [Pt.U, Pt.locs, Pt.cells, Pt.slots] at X768 l768 y768 z768 st768 hQ768 hS768 hG768 hC768
        subst l768 y768 z768
        obtain ⟨y_768, t_768, ky_768, rfl, N768, K768_, P769, P770, P771, P772, P773⟩ := hQ768
        have N774 := Fr.app N760 N768
        obtain ⟨X775, hS775, hZ775, hown775⟩ := rebS hS760 (by rw [e760]; exact hk760) X768 hS768 hG768 hZ760 hown760
        have CR776 : CHr Z own_EL s.vm h0 T768.vm T768.heap := CHr.trans CR760 hC768
        have Z777 : n0 ≤ T768.heap.size := Nat.le_trans Z760 K768_.1
        have hk777 := Nat.le_trans hk760 K768_.1
        have hk775 : T768.heap.size ≤ T768.heap.size := Nat.le_refl _
        have ne778 : b716 ≠ y_768 := Nat.ne_of_lt (Nat.lt_of_lt_of_le F761.lt P773)
        have ge779 : n0 ≤ y_768 := Nat.le_trans Z760 P773
        refine own_tr (T' := T768) (g' := (mkF m 306 #[.val (.int p1), .val (.int p2), .val (.int p3), .val (.int p4), .val (.long p5), .second, .val (.int (p1 &&& (3 : Int32))), .val (.ref b716), .val (.int 0), .unset, .unset] [(.ref y_768)])) st768 ?_
        refine own_st (T' := T768) (g' := (mkF m 325 #[.val (.int p1), .val (.int p2), .val (.int p3), .val (.int p4), .val (.long p5), .second, .val (.int (p1 &&& (3 : Int32))), .val (.ref b716), .val (.int 0), .val (.ref y_768), .unset] [(.int 0), (.ref b716)])) (fun _ kt => XS.astore X775.here hx rfl (hb hby at_306) rfl rfl (l' := #[.val (.int p1), .val (.int p2), .val (.int p3), .val (.int p4), .val (.long p5), .second, .val (.int (p1 &&& (3 : Int32))), .val (.ref b716), .val (.int 0), .val (.ref y_768), .unset]) rfl (XS.iload X775.here hx rfl (hb hby at_308) rfl (XS.ifYes X775.here hx rfl (pc0 := 310) (pc' := 321) rfl (hb hby at_310) rfl (XT.i0_ne_t hc762) (by decide) (by decide) (XS.aload X775.here hx rfl (hb hby at_321) rfl rfl (XS.iload X775.here hx rfl (hb hby at_323) rfl kt))))) ?_
        obtain ⟨b780, T780, h780, k780, d780, kd780, X780, e780, E780, hS780, hk780, hZ780, hown780, gE780, gC780, gV780, gA780, la780, lb780, hC780, -, hsf780, st780⟩ := ldcCH X775 hx hZ775 hown775 (own_k hw 65 rfl) (own_wS hw) rfl hS775 hk775 (own_EW hw) (show ("com/example/lotd/lotd/ProcessingModeOfPinLaw", 21) ∈ own_EL by simp [own_EL]) CR776.1 (vs := [(.int 115), (.int 116), (.int 114), (.int 105), (.int 99), (.int 116)]) (z := (6 : Int32)) ⟨by decide +kernel, by first | rfl | decide +kernel⟩ (by decide) rfl (g := (mkF m 325 #[.val (.int p1), .val (.int p2), .val (.int p3), .val (.int p4), .val (.long p5), .second, .val (.int (p1 &&& (3 : Int32))), .val (.ref b716), .val (.int 0), .val (.ref y_768), .unset] [(.int 0), (.ref b716)])) rfl (hb hby at_325) (n := 24) (by decide +kernel) (by decide) (by decide) (by decide)
        have CR781 : CHr Z own_EL s.vm h0 T780.vm h780 := CHr.trans CR776 hC780
        have Z782 : n0 ≤ h780.size := Nat.le_trans Z777 E780.1
        have hk782 := Nat.le_trans hk775 E780.1
        have F783 : Arv Z h780 b716 k716 .char (8 : Int32) [(.int x0), (.int x1), (.int x2), (.int x3), (.int x4), (.int x5), (.int x6), (.int x7)] (.int 0) := ((Arv.keep F761 K768_ nin0).ext E780)
        have ne784 := hsf780 b716 (Safe.arv (State.Warmed39.alike hZ780) F783 (by decide))
        have F785 : Exa Z h780 y_768 "java/lang/String" := (Exa.ext E780 P769)
        have F786 : Fld Z h780 y_768 "java/lang/String" "value" "[B" (.ref t_768) := (Fld.ext E780 P771)
        have F787 : Arv Z h780 t_768 ky_768 .byte (0 : Int32) [] (.int 0) := (P772.ext E780)
        refine own_st (T' := T780) (g' := (mkF m 327 #[.val (.int p1), .val (.int p2), .val (.int p3), .val (.int p4), .val (.long p5), .second, .val (.int (p1 &&& (3 : Int32))), .val (.ref b716), .val (.int 0), .val (.ref y_768), .unset] [(.ref b780), (.int 0), (.ref b716)])) st780 ?_
        have F788 : Old Z n0 h780 := (Old.ext (Old.keep O760 K768_ all0) E780)
        obtain ⟨_, _, ⟨T789, L789, k789, n789⟩, -, X789, ⟨Lc789, hQ789, l789, y789, z789⟩, st789⟩ := Jvm.LawKit.callS X780 hx (y := yN2) hown780 (mvT hZ780 (own_k hw 68 rfl)) (mvT hZ780 (own_k hw 69 rfl)) (mvT hZ780 (own_k hw 35 rfl)) (mvT hZ780 (own_k hw 70 rfl)) (by decide) (backOf (W := 0) (own_neq l Z a0 hw [] b716 (0 : Int32) b780 zc d780 kd780 (6 : Int32) [(.int 115), (.int 116), (.int 114), (.int 105), (.int 99), (.int 116)] h780 n0 Z782 F788 pr5 pr6 gE780 gC780 gV780 gA780 (show ¬ (0 : Int32) = (6 : Int32) from (by decide))) hZ780 (own_k hw 70 rfl) (own_k hw 35 rfl) (by decide) (by decide)) (g := (mkF m 327 #[.val (.int p1), .val (.int p2), .val (.int p3), .val (.int p4), .val (.long p5), .second, .val (.int (p1 &&& (3 : Int32))), .val (.ref b716), .val (.int 0), .val (.ref y_768), .unset] [(.ref b780), (.int 0), (.ref b716)])) rfl hml.symm  (argsL := [(.ref b716), (.int 0), (.ref b780)]) (rest := []) (lenOf own_pd15 rfl) rfl (own_w0 rfl rfl) (hb hby at_327) (fun _ _ => ⟨rfl, e780, (by decide : 9 + 0 ≤ 24), (by decide : 68 + 0 ≤ 3264)⟩)
        dsimp only [Pt.U, Pt.locs, Pt.cells, Pt.slots] at X789 l789 y789 z789 st789 hQ789
        subst l789 y789 z789
        obtain ⟨rfl, N789, e789⟩ := hQ789
        have N790 := Fr.app N774 N789
        refine own_st (T' := T789) (g' := (mkF m 330 #[.val (.int p1), .val (.int p2), .val (.int p3), .val (.int p4), .val (.long p5), .second, .val (.int (p1 &&& (3 : Int32))), .val (.ref b716), .val (.int 0), .val (.ref y_768), .unset] [(.int 0)])) st789 ?_
        refine own_st (T' := T789) (g' := (mkF m 345 #[.val (.int p1), .val (.int p2), .val (.int p3), .val (.int p4), .val (.long p5), .second, .val (.int (p1 &&& (3 : Int32))), .val (.ref b716), .val (.int 0), .val (.ref y_768), .unset] [(.int 0), (.ref b716)])) (fun _ kt => XS.ifYes X789.here hx rfl (pc0 := 330) (pc' := 341) rfl (hb hby at_330) rfl (XT.i0_eq_t rfl) (by decide) (by decide) (XS.aload X789.here hx rfl (hb hby at_341) rfl rfl (XS.iload X789.here hx rfl (hb hby at_343) rfl kt))) ?_
        obtain ⟨b791, T791, h791, k791, d791, kd791, X791, e791, E791, hS791, hk791, hZ791, hown791, gE791, gC791, gV791, gA791, la791, lb791, hC791, -, hsf791, st791⟩ := ldcCH X789 hx hZ780 hown780 (own_k hw 81 rfl) (own_wS hw) e789 hS780 hk780 (own_EW hw) (show ("com/example/lotd/lotd/ProcessingModeOfPinLaw", 27) ∈ own_EL by simp [own_EL]) CR781.1 (vs := [(.int 108), (.int 101), (.int 110), (.int 105), (.int 101), (.int 110), (.int 116)]) (z := (7 : Int32)) ⟨by decide +kernel, by first | rfl | decide +kernel⟩ (by decide) rfl (g := (mkF m 345 #[.val (.int p1), .val (.int p2), .val (.int p3), .val (.int p4), .val (.long p5), .second, .val (.int (p1 &&& (3 : Int32))), .val (.ref b716), .val (.int 0), .val (.ref y_768), .unset] [(.int 0), (.ref b716)])) rfl (hb hby at_345) (n := 28) (by decide +kernel) (by decide) (by decide) (by decide)
        have CR792 : CHr Z own_EL s.vm h0 T791.vm h791 := CHr.trans CR781 hC791
        have Z793 : n0 ≤ h791.size := Nat.le_trans Z782 E791.1
        have hk793 := Nat.le_trans hk780 E791.1
        have F794 : Arv Z h791 b716 k716 .char (8 : Int32) [(.int x0), (.int x1), (.int x2), (.int x3), (.int x4), (.int x5), (.int x6), (.int x7)] (.int 0) := (F783.ext E791)
        have ne795 := hsf791 b716 (Safe.arv (State.Warmed39.alike hZ791) F794 (by decide))
        have F796 : Exa Z h791 y_768 "java/lang/String" := (Exa.ext E791 F785)
        have F797 : Fld Z h791 y_768 "java/lang/String" "value" "[B" (.ref t_768) := (Fld.ext E791 F786)
        have F798 : Arv Z h791 t_768 ky_768 .byte (0 : Int32) [] (.int 0) := (F787.ext E791)
        have F799 : Exa Z h791 b780 "java/lang/String" := (Exa.ext E791 gE780)
        have F800 : Fld Z h791 b780 "java/lang/String" "value" "[B" (.ref d780) := (Fld.ext E791 gV780)
        have F801 : Arv Z h791 d780 kd780 .byte (6 : Int32) [(.int 115), (.int 116), (.int 114), (.int 105), (.int 99), (.int 116)] (.int 0) := (gA780.ext E791)
        refine own_st (T' := T791) (g' := (mkF m 347 #[.val (.int p1), .val (.int p2), .val (.int p3), .val (.int p4), .val (.long p5), .second, .val (.int (p1 &&& (3 : Int32))), .val (.ref b716), .val (.int 0), .val (.ref y_768), .unset] [(.ref b791), (.int 0), (.ref b716)])) st791 ?_
        have F802 : Old Z n0 h791 := (Old.ext F788 E791)
        obtain ⟨_, _, ⟨T803, L803, k803, n803⟩, -, X803, ⟨Lc803, hQ803, l803, y803, z803⟩, st803⟩ := Jvm.LawKit.callS X791 hx (y := yN2) hown791 (mvT hZ791 (own_k hw 68 rfl)) (mvT hZ791 (own_k hw 69 rfl)) (mvT hZ791 (own_k hw 35 rfl)) (mvT hZ791 (own_k hw 70 rfl)) (by decide) (backOf (W := 0) (own_neq l Z a0 hw [] b716 (0 : Int32) b791 zc d791 kd791 (7 : Int32) [(.int 108), (.int 101), (.int 110), (.int 105), (.int 101), (.int 110), (.int 116)] h791 n0 Z793 F802 pr5 pr6 gE791 gC791 gV791 gA791 (show ¬ (0 : Int32) = (7 : Int32) from (by decide))) hZ791 (own_k hw 70 rfl) (own_k hw 35 rfl) (by decide) (by decide)) (g := (mkF m 347 #[.val (.int p1), .val (.int p2), .val (.int p3), .val (.int p4), .val (.long p5), .second, .val (.int (p1 &&& (3 : Int32))), .val (.ref b716), .val (.int 0), .val (.ref y_768), .unset] [(.ref b791), (.int 0), (.ref b716)])) rfl hml.symm  (argsL := [(.ref b716), (.int 0), (.ref b791)]) (rest := []) (lenOf own_pd15 rfl) rfl (own_w0 rfl rfl) (hb hby at_347) (fun _ _ => ⟨rfl, e791, (by decide : 11 + 0 ≤ 24), (by decide : 100 + 0 ≤ 3264)⟩)
        dsimp only [Pt.U, Pt.locs, Pt.cells, Pt.slots] at X803 l803 y803 z803 st803 hQ803
        subst l803 y803 z803
        obtain ⟨rfl, N803, e803⟩ := hQ803
        have N804 := Fr.app N790 N803
        refine own_st (T' := T803) (g' := (mkF m 350 #[.val (.int p1), .val (.int p2), .val (.int p3), .val (.int p4), .val (.long p5), .second, .val (.int (p1 &&& (3 : Int32))), .val (.ref b716), .val (.int 0), .val (.ref y_768), .unset] [(.int 0)])) st803 ?_
        refine own_st (T' := T803) (g' := (mkF m 366 #[.val (.int p1), .val (.int p2), .val (.int p3), .val (.int p4), .val (.long p5), .second, .val (.int (p1 &&& (3 : Int32))), .val (.ref b716), .val (.int 0), .val (.ref y_768), .val .null] [(.ref y_768)])) (fun _ kt => XS.ifYes X803.here hx rfl (pc0 := 350) (pc' := 361) rfl (hb hby at_350) rfl (XT.i0_eq_t rfl) (by decide) (by decide) (XS.aconstNull X803.here hx rfl (hb hby at_361) (XS.astore X803.here hx rfl (hb hby at_362) rfl rfl (l' := #[.val (.int p1), .val (.int p2), .val (.int p3), .val (.int p4), .val (.long p5), .second, .val (.int (p1 &&& (3 : Int32))), .val (.ref b716), .val (.int 0), .val (.ref y_768), .val .null]) rfl (XS.aload X803.here hx rfl (hb hby at_364) rfl rfl kt)))) ?_
        have F805 : Fld Z h791 y_768 "java/lang/String" "coder" "B" (.int 0) := (Fld.ext E791 (Fld.ext E780 P770))
        obtain ⟨_, _, ⟨T806, L806, k806, n806⟩, -, X806, ⟨Lc806, hQ806, l806, y806, z806⟩, st806⟩ := Jvm.LawKit.callS X803 hx (y := yN3) hown791 (mvT hZ791 (own_k hw 5 rfl)) (mvT hZ791 (own_k hw 6 rfl)) (mvT hZ791 (own_k hw 3 rfl)) (mvT hZ791 (own_k hw 7 rfl)) (by decide) (backOf (W := 0) (own_ofn l Z a0 hw [] va kv sc le zc sv lv ts tl k1 k2 y_768 t_768 ky_768 (0 : Int32) [] h791 n0 Z793 F802 pr2 pr3 pr4 pr5 pr6 pr7 pr8 pr9 pr10 pr11 pr12 pr13 pr14 pr15 pr16 pr17 pr18 pr19 ge779 F796 F805 F797 F798 (show ¬ (6 : Int32) = (0 : Int32) from (by decide)) (show ¬ (7 : Int32) = (0 : Int32) from (by decide))) hZ791 (own_k hw 7 rfl) (own_k hw 3 rfl) (by decide) (by decide)) (g := (mkF m 366 #[.val (.int p1), .val (.int p2), .val (.int p3), .val (.int p4), .val (.long p5), .second, .val (.int (p1 &&& (3 : Int32))), .val (.ref b716), .val (.int 0), .val (.ref y_768), .val .null] [(.ref y_768)])) rfl hml.symm  (argsL := [(.ref y_768)]) (rest := []) (lenOf own_pd13 rfl) rfl (own_w0 rfl rfl) (hb hby at_366) (fun _ _ => ⟨rfl, e803, (by decide : 11 + 1 ≤ 24), (by decide : 100 + 2 ≤ 3264)⟩)
        dsimp only [Pt.U, Pt.locs, Pt.cells, Pt.slots] at X806 l806 y806 z806 st806 hQ806
        subst l806 y806 z806
        obtain ⟨b_806, rfl, N806, K806_⟩ := hQ806
        have N807 := Fr.app N804 N806
        have CR808 : CHr Z own_EL s.vm h0 T791.vm T806.heap := CHr.trans CR792 (CHr.keep K806_ sf0 CR792.1)
        have Z809 : n0 ≤ T806.heap.size := Nat.le_trans Z793 K806_.1
        have hk809 := Nat.le_trans hk791 K806_.1
        refine own_st (T' := T806) (g' := (mkF m 369 #[.val (.int p1), .val (.int p2), .val (.int p3), .val (.int p4), .val (.long p5), .second, .val (.int (p1 &&& (3 : Int32))), .val (.ref b716), .val (.int 0), .val (.ref y_768), .val .null] [.null])) st806 ?_
        refine own_st (T' := T806) (g' := (mkF m 379 #[.val (.int p1), .val (.int p2), .val (.int p3), .val (.int p4), .val (.long p5), .second, .val (.int (p1 &&& (3 : Int32))), .val (.ref b716), .val (.int 0), .val (.ref y_768), .val .null] [(.int 1)])) (fun _ kt => XS.aload X806.here hx rfl (hb hby at_369) rfl rfl (XT.acmpNo X806.here hx rfl (hb hby at_371) rfl rfl rfl (XT.aa_ne_f rfl) (XS.iconst X806.here hx rfl (hb hby at_374) (XS.goto X806.here hx rfl (pc0 := 375) (pc' := 379) rfl (hb hby at_375) (by decide) (by decide) kt)))) ?_
        obtain ⟨fs, hr, hrun, hended, hE⟩ := Stand.leaveW X806 hS791 hk809 (v := some (.int 1)) (fun h => by rw [Bd.returns] at h; cases h)
        refine own_end (retN X806 hx (t := .boolean) Bd.returns (by simp) (hb hby at_379) hr) ⟨_, hrun, hended, _, _, rfl, ?_, (by rw [hh]; show CHr Z own_EL s.vm h0 T806.vm T806.heap; exact CHr.trans CR808 (CHv.at X806 hZ791 (own_EW hw) CR808.1)), ⟨hE.1, hE.2.1, hE.2.2.1, hE.2.2.2.mono (by decide) (by decide)⟩⟩
        show own_lawQ Z _ _ _ _ _ _ _ _ _ _ _ _ _ _ _ _ _ h0 n0 _ T806.heap _
        show own_lawQ Z _ _ _ _ _ _ _ _ _ _ _ _ _ _ _ _ _ h0 n0 _ T806.heap _
        exact ⟨rfl, N807⟩
      ·
        refine own_st (T' := T760) (g' := (mkF m 303 #[.val (.int p1), .val (.int p2), .val (.int p3), .val (.int p4), .val (.long p5), .second, .val (.int (p1 &&& (3 : Int32))), .val (.ref b716), .val (.int 1), .unset, .unset] [(.int 1), (.ref b716)])) (fun _ kt => XS.aload X760.here hx rfl (hb hby at_299) rfl rfl (XS.iload X760.here hx rfl (hb hby at_301) rfl kt)) ?_
        obtain ⟨_, _, ⟨T810, L810, k810, n810⟩, -, X810, hS810, hG810, ⟨Lc810, hQ810, l810, y810, z810, hC810⟩, st810⟩ := callSS X760 hx (y := yN4) hown760 (mvT hZ760 (own_k hw 33 rfl)) (mvT hZ760 (own_k hw 34 rfl)) (mvT hZ760 (own_k hw 35 rfl)) (mvT hZ760 (own_k hw 36 rfl)) (by decide) (backOfSH (W := 0) (own_s1 l Z a0 hw [] b716 k716 zc x0 x1 x2 x3 x4 x5 x6 x7 h760 n0 Z760 O760 pr5 pr6 F761 hx0 hx1 hx2 hx3 hx4 hx5 hx6 hx7) hZ760 (own_k hw 36 rfl) (own_k hw 35 rfl) (by decide) (by decide) (own_EW hw) CR760.1) (g := (mkF m 303 #[.val (.int p1), .val (.int p2), .val (.int p3), .val (.int p4), .val (.long p5), .second, .val (.int (p1 &&& (3 : Int32))), .val (.ref b716), .val (.int 1), .unset, .unset] [(.int 1), (.ref b716)])) rfl hml.symm  (argsL := [(.ref b716), (.int 1)]) (rest := []) (lenOf own_pd14 rfl) rfl (own_w0 rfl rfl) (hb hby at_303) (fun _ _ => ⟨rfl, e760, (by decide : 1 + 6 ≤ 24), (by decide : 8 + 32 ≤ 3264)⟩)
        dsimp only [Pt.U, Pt.locs, Pt.cells, Pt.slots] at X810 l810 y810 z810 st810 hQ810 hS810 hG810 hC810
        subst l810 y810 z810
        obtain ⟨y_810, t_810, ky_810, rfl, N810, K810_, P811, P812, P813, P814, P815⟩ := hQ810
        have N816 := Fr.app N760 N810
        obtain ⟨X817, hS817, hZ817, hown817⟩ := rebS hS760 (by rw [e760]; exact hk760) X810 hS810 hG810 hZ760 hown760
        have CR818 : CHr Z own_EL s.vm h0 T810.vm T810.heap := CHr.trans CR760 hC810
        have Z819 : n0 ≤ T810.heap.size := Nat.le_trans Z760 K810_.1
        have hk819 := Nat.le_trans hk760 K810_.1
        have hk817 : T810.heap.size ≤ T810.heap.size := Nat.le_refl _
        have ne820 : b716 ≠ y_810 := Nat.ne_of_lt (Nat.lt_of_lt_of_le F761.lt P815)
        have ge821 : n0 ≤ y_810 := Nat.le_trans Z760 P815
        refine own_tr (T' := T810) (g' := (mkF m 306 #[.val (.int p1), .val (.int p2), .val (.int p3), .val (.int p4), .val (.long p5), .second, .val (.int (p1 &&& (3 : Int32))), .val (.ref b716), .val (.int 1), .unset, .unset] [(.ref y_810)])) st810 ?_
        refine own_st (T' := T810) (g' := (mkF m 325 #[.val (.int p1), .val (.int p2), .val (.int p3), .val (.int p4), .val (.long p5), .second, .val (.int (p1 &&& (3 : Int32))), .val (.ref b716), .val (.int 1), .val (.ref y_810), .unset] [(.int 1), (.ref b716)])) (fun _ kt => XS.astore X817.here hx rfl (hb hby at_306) rfl rfl (l' := #[.val (.int p1), .val (.int p2), .val (.int p3), .val (.int p4), .val (.long p5), .second, .val (.int (p1 &&& (3 : Int32))), .val (.ref b716), .val (.int 1), .val (.ref y_810), .unset]) rfl (XS.iload X817.here hx rfl (hb hby at_308) rfl (XS.ifYes X817.here hx rfl (pc0 := 310) (pc' := 321) rfl (hb hby at_310) rfl (XT.i0_ne_t hc762) (by decide) (by decide) (XS.aload X817.here hx rfl (hb hby at_321) rfl rfl (XS.iload X817.here hx rfl (hb hby at_323) rfl kt))))) ?_
        obtain ⟨b822, T822, h822, k822, d822, kd822, X822, e822, E822, hS822, hk822, hZ822, hown822, gE822, gC822, gV822, gA822, la822, lb822, hC822, -, hsf822, st822⟩ := ldcCH X817 hx hZ817 hown817 (own_k hw 65 rfl) (own_wS hw) rfl hS817 hk817 (own_EW hw) (show ("com/example/lotd/lotd/ProcessingModeOfPinLaw", 21) ∈ own_EL by simp [own_EL]) CR818.1 (vs := [(.int 115), (.int 116), (.int 114), (.int 105), (.int 99), (.int 116)]) (z := (6 : Int32)) ⟨by decide +kernel, by first | rfl | decide +kernel⟩ (by decide) rfl (g := (mkF m 325 #[.val (.int p1), .val (.int p2), .val (.int p3), .val (.int p4), .val (.long p5), .second, .val (.int (p1 &&& (3 : Int32))), .val (.ref b716), .val (.int 1), .val (.ref y_810), .unset] [(.int 1), (.ref b716)])) rfl (hb hby at_325) (n := 24) (by decide +kernel) (by decide) (by decide) (by decide)
        have CR823 : CHr Z own_EL s.vm h0 T822.vm h822 := CHr.trans CR818 hC822
        have Z824 : n0 ≤ h822.size := Nat.le_trans Z819 E822.1
        have hk824 := Nat.le_trans hk817 E822.1
        have F825 : Arv Z h822 b716 k716 .char (8 : Int32) [(.int x0), (.int x1), (.int x2), (.int x3), (.int x4), (.int x5), (.int x6), (.int x7)] (.int 0) := ((Arv.keep F761 K810_ nin0).ext E822)
        have ne826 := hsf822 b716 (Safe.arv (State.Warmed39.alike hZ822) F825 (by decide))
        have F827 : Exa Z h822 y_810 "java/lang/String" := (Exa.ext E822 P811)
        have F828 : Fld Z h822 y_810 "java/lang/String" "value" "[B" (.ref t_810) := (Fld.ext E822 P813)
        have F829 : Arv Z h822 t_810 ky_810 .byte (1 : Int32) [(.int x0.toInt8.toInt32)] (.int 0) := (P814.ext E822)
        refine own_st (T' := T822) (g' := (mkF m 327 #[.val (.int p1), .val (.int p2), .val (.int p3), .val (.int p4), .val (.long p5), .second, .val (.int (p1 &&& (3 : Int32))), .val (.ref b716), .val (.int 1), .val (.ref y_810), .unset] [(.ref b822), (.int 1), (.ref b716)])) st822 ?_
        have F830 : Old Z n0 h822 := (Old.ext (Old.keep O760 K810_ all0) E822)
        obtain ⟨_, _, ⟨T831, L831, k831, n831⟩, -, X831, ⟨Lc831, hQ831, l831, y831, z831⟩, st831⟩ := Jvm.LawKit.callS X822 hx (y := yN2) hown822 (mvT hZ822 (own_k hw 68 rfl)) (mvT hZ822 (own_k hw 69 rfl)) (mvT hZ822 (own_k hw 35 rfl)) (mvT hZ822 (own_k hw 70 rfl)) (by decide) (backOf (W := 0) (own_neq l Z a0 hw [] b716 (1 : Int32) b822 zc d822 kd822 (6 : Int32) [(.int 115), (.int 116), (.int 114), (.int 105), (.int 99), (.int 116)] h822 n0 Z824 F830 pr5 pr6 gE822 gC822 gV822 gA822 (show ¬ (1 : Int32) = (6 : Int32) from (by decide))) hZ822 (own_k hw 70 rfl) (own_k hw 35 rfl) (by decide) (by decide)) (g := (mkF m 327 #[.val (.int p1), .val (.int p2), .val (.int p3), .val (.int p4), .val (.long p5), .second, .val (.int (p1 &&& (3 : Int32))), .val (.ref b716), .val (.int 1), .val (.ref y_810), .unset] [(.ref b822), (.int 1), (.ref b716)])) rfl hml.symm  (argsL := [(.ref b716), (.int 1), (.ref b822)]) (rest := []) (lenOf own_pd15 rfl) rfl (own_w0 rfl rfl) (hb hby at_327) (fun _ _ => ⟨rfl, e822, (by decide : 9 + 0 ≤ 24), (by decide : 68 + 0 ≤ 3264)⟩)
        dsimp only [Pt.U, Pt.locs, Pt.cells, Pt.slots] at X831 l831 y831 z831 st831 hQ831
        subst l831 y831 z831
        obtain ⟨rfl, N831, e831⟩ := hQ831
        have N832 := Fr.app N816 N831
        refine own_st (T' := T831) (g' := (mkF m 330 #[.val (.int p1), .val (.int p2), .val (.int p3), .val (.int p4), .val (.long p5), .second, .val (.int (p1 &&& (3 : Int32))), .val (.ref b716), .val (.int 1), .val (.ref y_810), .unset] [(.int 0)])) st831 ?_
        refine own_st (T' := T831) (g' := (mkF m 345 #[.val (.int p1), .val (.int p2), .val (.int p3), .val (.int p4), .val (.long p5), .second, .val (.int (p1 &&& (3 : Int32))), .val (.ref b716), .val (.int 1), .val (.ref y_810), .unset] [(.int 1), (.ref b716)])) (fun _ kt => XS.ifYes X831.here hx rfl (pc0 := 330) (pc' := 341) rfl (hb hby at_330) rfl (XT.i0_eq_t rfl) (by decide) (by decide) (XS.aload X831.here hx rfl (hb hby at_341) rfl rfl (XS.iload X831.here hx rfl (hb hby at_343) rfl kt))) ?_
        obtain ⟨b833, T833, h833, k833, d833, kd833, X833, e833, E833, hS833, hk833, hZ833, hown833, gE833, gC833, gV833, gA833, la833, lb833, hC833, -, hsf833, st833⟩ := ldcCH X831 hx hZ822 hown822 (own_k hw 81 rfl) (own_wS hw) e831 hS822 hk822 (own_EW hw) (show ("com/example/lotd/lotd/ProcessingModeOfPinLaw", 27) ∈ own_EL by simp [own_EL]) CR823.1 (vs := [(.int 108), (.int 101), (.int 110), (.int 105), (.int 101), (.int 110), (.int 116)]) (z := (7 : Int32)) ⟨by decide +kernel, by first | rfl | decide +kernel⟩ (by decide) rfl (g := (mkF m 345 #[.val (.int p1), .val (.int p2), .val (.int p3), .val (.int p4), .val (.long p5), .second, .val (.int (p1 &&& (3 : Int32))), .val (.ref b716), .val (.int 1), .val (.ref y_810), .unset] [(.int 1), (.ref b716)])) rfl (hb hby at_345) (n := 28) (by decide +kernel) (by decide) (by decide) (by decide)
        have CR834 : CHr Z own_EL s.vm h0 T833.vm h833 := CHr.trans CR823 hC833
        have Z835 : n0 ≤ h833.size := Nat.le_trans Z824 E833.1
        have hk835 := Nat.le_trans hk822 E833.1
        have F836 : Arv Z h833 b716 k716 .char (8 : Int32) [(.int x0), (.int x1), (.int x2), (.int x3), (.int x4), (.int x5), (.int x6), (.int x7)] (.int 0) := (F825.ext E833)
        have ne837 := hsf833 b716 (Safe.arv (State.Warmed39.alike hZ833) F836 (by decide))
        have F838 : Exa Z h833 y_810 "java/lang/String" := (Exa.ext E833 F827)
        have F839 : Fld Z h833 y_810 "java/lang/String" "value" "[B" (.ref t_810) := (Fld.ext E833 F828)
        have F840 : Arv Z h833 t_810 ky_810 .byte (1 : Int32) [(.int x0.toInt8.toInt32)] (.int 0) := (F829.ext E833)
        have F841 : Exa Z h833 b822 "java/lang/String" := (Exa.ext E833 gE822)
        have F842 : Fld Z h833 b822 "java/lang/String" "value" "[B" (.ref d822) := (Fld.ext E833 gV822)
        have F843 : Arv Z h833 d822 kd822 .byte (6 : Int32) [(.int 115), (.int 116), (.int 114), (.int 105), (.int 99), (.int 116)] (.int 0) := (gA822.ext E833)
        refine own_st (T' := T833) (g' := (mkF m 347 #[.val (.int p1), .val (.int p2), .val (.int p3), .val (.int p4), .val (.long p5), .second, .val (.int (p1 &&& (3 : Int32))), .val (.ref b716), .val (.int 1), .val (.ref y_810), .unset] [(.ref b833), (.int 1), (.ref b716)])) st833 ?_
        have F844 : Old Z n0 h833 := (Old.ext F830 E833)
        obtain ⟨_, _, ⟨T845, L845, k845, n845⟩, -, X845, ⟨Lc845, hQ845, l845, y845, z845⟩, st845⟩ := Jvm.LawKit.callS X833 hx (y := yN2) hown833 (mvT hZ833 (own_k hw 68 rfl)) (mvT hZ833 (own_k hw 69 rfl)) (mvT hZ833 (own_k hw 35 rfl)) (mvT hZ833 (own_k hw 70 rfl)) (by decide) (backOf (W := 0) (own_neq l Z a0 hw [] b716 (1 : Int32) b833 zc d833 kd833 (7 : Int32) [(.int 108), (.int 101), (.int 110), (.int 105), (.int 101), (.int 110), (.int 116)] h833 n0 Z835 F844 pr5 pr6 gE833 gC833 gV833 gA833 (show ¬ (1 : Int32) = (7 : Int32) from (by decide))) hZ833 (own_k hw 70 rfl) (own_k hw 35 rfl) (by decide) (by decide)) (g := (mkF m 347 #[.val (.int p1), .val (.int p2), .val (.int p3), .val (.int p4), .val (.long p5), .second, .val (.int (p1 &&& (3 : Int32))), .val (.ref b716), .val (.int 1), .val (.ref y_810), .unset] [(.ref b833), (.int 1), (.ref b716)])) rfl hml.symm  (argsL := [(.ref b716), (.int 1), (.ref b833)]) (rest := []) (lenOf own_pd15 rfl) rfl (own_w0 rfl rfl) (hb hby at_347) (fun _ _ => ⟨rfl, e833, (by decide : 11 + 0 ≤ 24), (by decide : 100 + 0 ≤ 3264)⟩)
        dsimp only [Pt.U, Pt.locs, Pt.cells, Pt.slots] at X845 l845 y845 z845 st845 hQ845
        subst l845 y845 z845
        obtain ⟨rfl, N845, e845⟩ := hQ845
        have N846 := Fr.app N832 N845
        refine own_st (T' := T845) (g' := (mkF m 350 #[.val (.int p1), .val (.int p2), .val (.int p3), .val (.int p4), .val (.long p5), .second, .val (.int (p1 &&& (3 : Int32))), .val (.ref b716), .val (.int 1), .val (.ref y_810), .unset] [(.int 0)])) st845 ?_
        refine own_st (T' := T845) (g' := (mkF m 366 #[.val (.int p1), .val (.int p2), .val (.int p3), .val (.int p4), .val (.long p5), .second, .val (.int (p1 &&& (3 : Int32))), .val (.ref b716), .val (.int 1), .val (.ref y_810), .val .null] [(.ref y_810)])) (fun _ kt => XS.ifYes X845.here hx rfl (pc0 := 350) (pc' := 361) rfl (hb hby at_350) rfl (XT.i0_eq_t rfl) (by decide) (by decide) (XS.aconstNull X845.here hx rfl (hb hby at_361) (XS.astore X845.here hx rfl (hb hby at_362) rfl rfl (l' := #[.val (.int p1), .val (.int p2), .val (.int p3), .val (.int p4), .val (.long p5), .second, .val (.int (p1 &&& (3 : Int32))), .val (.ref b716), .val (.int 1), .val (.ref y_810), .val .null]) rfl (XS.aload X845.here hx rfl (hb hby at_364) rfl rfl kt)))) ?_
        have F847 : Fld Z h833 y_810 "java/lang/String" "coder" "B" (.int 0) := (Fld.ext E833 (Fld.ext E822 P812))
        obtain ⟨_, _, ⟨T848, L848, k848, n848⟩, -, X848, ⟨Lc848, hQ848, l848, y848, z848⟩, st848⟩ := Jvm.LawKit.callS X845 hx (y := yN3) hown833 (mvT hZ833 (own_k hw 5 rfl)) (mvT hZ833 (own_k hw 6 rfl)) (mvT hZ833 (own_k hw 3 rfl)) (mvT hZ833 (own_k hw 7 rfl)) (by decide) (backOf (W := 0) (own_ofn l Z a0 hw [] va kv sc le zc sv lv ts tl k1 k2 y_810 t_810 ky_810 (1 : Int32) [(.int x0.toInt8.toInt32)] h833 n0 Z835 F844 pr2 pr3 pr4 pr5 pr6 pr7 pr8 pr9 pr10 pr11 pr12 pr13 pr14 pr15 pr16 pr17 pr18 pr19 ge821 F838 F847 F839 F840 (show ¬ (6 : Int32) = (1 : Int32) from (by decide)) (show ¬ (7 : Int32) = (1 : Int32) from (by decide))) hZ833 (own_k hw 7 rfl) (own_k hw 3 rfl) (by decide) (by decide)) (g := (mkF m 366 #[.val (.int p1), .val (.int p2), .val (.int p3), .val (.int p4), .val (.long p5), .second, .val (.int (p1 &&& (3 : Int32))), .val (.ref b716), .val (.int 1), .val (.ref y_810), .val .null] [(.ref y_810)])) rfl hml.symm  (argsL := [(.ref y_810)]) (rest := []) (lenOf own_pd13 rfl) rfl (own_w0 rfl rfl) (hb hby at_366) (fun _ _ => ⟨rfl, e845, (by decide : 11 + 1 ≤ 24), (by decide : 100 + 2 ≤ 3264)⟩)
        dsimp only [Pt.U, Pt.locs, Pt.cells, Pt.slots] at X848 l848 y848 z848 st848 hQ848
        subst l848 y848 z848
        obtain ⟨b_848, rfl, N848, K848_⟩ := hQ848
        have N849 := Fr.app N846 N848
        have CR850 : CHr Z own_EL s.vm h0 T833.vm T848.heap := CHr.trans CR834 (CHr.keep K848_ sf0 CR834.1)
        have Z851 : n0 ≤ T848.heap.size := Nat.le_trans Z835 K848_.1
        have hk851 := Nat.le_trans hk833 K848_.1
        refine own_st (T' := T848) (g' := (mkF m 369 #[.val (.int p1), .val (.int p2), .val (.int p3), .val (.int p4), .val (.long p5), .second, .val (.int (p1 &&& (3 : Int32))), .val (.ref b716), .val (.int 1), .val (.ref y_810), .val .null] [.null])) st848 ?_
        refine own_st (T' := T848) (g' := (mkF m 379 #[.val (.int p1), .val (.int p2), .val (.int p3), .val (.int p4), .val (.long p5), .second, .val (.int (p1 &&& (3 : Int32))), .val (.ref b716), .val (.int 1), .val (.ref y_810), .val .null] [(.int 1)])) (fun _ kt => XS.aload X848.here hx rfl (hb hby at_369) rfl rfl (XT.acmpNo X848.here hx rfl (hb hby at_371) rfl rfl rfl (XT.aa_ne_f rfl) (XS.iconst X848.here hx rfl (hb hby at_374) (XS.goto X848.here hx rfl (pc0 := 375) (pc' := 379) rfl (hb hby at_375) (by decide) (by decide) kt)))) ?_
        obtain ⟨fs, hr, hrun, hended, hE⟩ := Stand.leaveW X848 hS833 hk851 (v := some (.int 1)) (fun h => by rw [Bd.returns] at h; cases h)
        refine own_end (retN X848 hx (t := .boolean) Bd.returns (by simp) (hb hby at_379) hr) ⟨_, hrun, hended, _, _, rfl, ?_, (by rw [hh]; show CHr Z own_EL s.vm h0 T848.vm T848.heap; exact CHr.trans CR850 (CHv.at X848 hZ833 (own_EW hw) CR850.1)), ⟨hE.1, hE.2.1, hE.2.2.1, hE.2.2.2.mono (by decide) (by decide)⟩⟩
        show own_lawQ Z _ _ _ _ _ _ _ _ _ _ _ _ _ _ _ _ _ h0 n0 _ T848.heap _
        show own_lawQ Z _ _ _ _ _ _ _ _ _ _ _ _ _ _ _ _ _ h0 n0 _ T848.heap _
        exact ⟨rfl, N849⟩
      ·
        refine own_st (T' := T760) (g' := (mkF m 303 #[.val (.int p1), .val (.int p2), .val (.int p3), .val (.int p4), .val (.long p5), .second, .val (.int (p1 &&& (3 : Int32))), .val (.ref b716), .val (.int 2), .unset, .unset] [(.int 2), (.ref b716)])) (fun _ kt => XS.aload X760.here hx rfl (hb hby at_299) rfl rfl (XS.iload X760.here hx rfl (hb hby at_301) rfl kt)) ?_
        obtain ⟨_, _, ⟨T852, L852, k852, n852⟩, -, X852, hS852, hG852, ⟨Lc852, hQ852, l852, y852, z852, hC852⟩, st852⟩ := callSS X760 hx (y := yN4) hown760 (mvT hZ760 (own_k hw 33 rfl)) (mvT hZ760 (own_k hw 34 rfl)) (mvT hZ760 (own_k hw 35 rfl)) (mvT hZ760 (own_k hw 36 rfl)) (by decide) (backOfSH (W := 0) (own_s2 l Z a0 hw [] b716 k716 zc x0 x1 x2 x3 x4 x5 x6 x7 h760 n0 Z760 O760 pr5 pr6 F761 hx0 hx1 hx2 hx3 hx4 hx5 hx6 hx7) hZ760 (own_k hw 36 rfl) (own_k hw 35 rfl) (by decide) (by decide) (own_EW hw) CR760.1) (g := (mkF m 303 #[.val (.int p1), .val (.int p2), .val (.int p3), .val (.int p4), .val (.long p5), .second, .val (.int (p1 &&& (3 : Int32))), .val (.ref b716), .val (.int 2), .unset, .unset] [(.int 2), (.ref b716)])) rfl hml.symm  (argsL := [(.ref b716), (.int 2)]) (rest := []) (lenOf own_pd14 rfl) rfl (own_w0 rfl rfl) (hb hby at_303) (fun _ _ => ⟨rfl, e760, (by decide : 1 + 6 ≤ 24), (by decide : 8 + 32 ≤ 3264)⟩)
        dsimp only [Pt.U, Pt.locs, Pt.cells, Pt.slots] at X852 l852 y852 z852 st852 hQ852 hS852 hG852 hC852
        subst l852 y852 z852
        obtain ⟨y_852, t_852, ky_852, rfl, N852, K852_, P853, P854, P855, P856, P857⟩ := hQ852
        have N858 := Fr.app N760 N852
        obtain ⟨X859, hS859, hZ859, hown859⟩ := rebS hS760 (by rw [e760]; exact hk760) X852 hS852 hG852 hZ760 hown760
        have CR860 : CHr Z own_EL s.vm h0 T852.vm T852.heap := CHr.trans CR760 hC852
        have Z861 : n0 ≤ T852.heap.size := Nat.le_trans Z760 K852_.1
        have hk861 := Nat.le_trans hk760 K852_.1
        have hk859 : T852.heap.size ≤ T852.heap.size := Nat.le_refl _
        have ne862 : b716 ≠ y_852 := Nat.ne_of_lt (Nat.lt_of_lt_of_le F761.lt P857)
        have ge863 : n0 ≤ y_852 := Nat.le_trans Z760 P857
        refine own_tr (T' := T852) (g' := (mkF m 306 #[.val (.int p1), .val (.int p2), .val (.int p3), .val (.int p4), .val (.long p5), .second, .val (.int (p1 &&& (3 : Int32))), .val (.ref b716), .val (.int 2), .unset, .unset] [(.ref y_852)])) st852 ?_
        refine own_st (T' := T852) (g' := (mkF m 325 #[.val (.int p1), .val (.int p2), .val (.int p3), .val (.int p4), .val (.long p5), .second, .val (.int (p1 &&& (3 : Int32))), .val (.ref b716), .val (.int 2), .val (.ref y_852), .unset] [(.int 2), (.ref b716)])) (fun _ kt => XS.astore X859.here hx rfl (hb hby at_306) rfl rfl (l' := #[.val (.int p1), .val (.int p2), .val (.int p3), .val (.int p4), .val (.long p5), .second, .val (.int (p1 &&& (3 : Int32))), .val (.ref b716), .val (.int 2), .val (.ref y_852), .unset]) rfl (XS.iload X859.here hx rfl (hb hby at_308) rfl (XS.ifYes X859.here hx rfl (pc0 := 310) (pc' := 321) rfl (hb hby at_310) rfl (XT.i0_ne_t hc762) (by decide) (by decide) (XS.aload X859.here hx rfl (hb hby at_321) rfl rfl (XS.iload X859.here hx rfl (hb hby at_323) rfl kt))))) ?_
        obtain ⟨b864, T864, h864, k864, d864, kd864, X864, e864, E864, hS864, hk864, hZ864, hown864, gE864, gC864, gV864, gA864, la864, lb864, hC864, -, hsf864, st864⟩ := ldcCH X859 hx hZ859 hown859 (own_k hw 65 rfl) (own_wS hw) rfl hS859 hk859 (own_EW hw) (show ("com/example/lotd/lotd/ProcessingModeOfPinLaw", 21) ∈ own_EL by simp [own_EL]) CR860.1 (vs := [(.int 115), (.int 116), (.int 114), (.int 105), (.int 99), (.int 116)]) (z := (6 : Int32)) ⟨by decide +kernel, by first | rfl | decide +kernel⟩ (by decide) rfl (g := (mkF m 325 #[.val (.int p1), .val (.int p2), .val (.int p3), .val (.int p4), .val (.long p5), .second, .val (.int (p1 &&& (3 : Int32))), .val (.ref b716), .val (.int 2), .val (.ref y_852), .unset] [(.int 2), (.ref b716)])) rfl (hb hby at_325) (n := 24) (by decide +kernel) (by decide) (by decide) (by decide)
        have CR865 : CHr Z own_EL s.vm h0 T864.vm h864 := CHr.trans CR860 hC864
        have Z866 : n0 ≤ h864.size := Nat.le_trans Z861 E864.1
        have hk866 := Nat.le_trans hk859 E864.1
        have F867 : Arv Z h864 b716 k716 .char (8 : Int32) [(.int x0), (.int x1), (.int x2), (.int x3), (.int x4), (.int x5), (.int x6), (.int x7)] (.int 0) := ((Arv.keep F761 K852_ nin0).ext E864)
        have ne868 := hsf864 b716 (Safe.arv (State.Warmed39.alike hZ864) F867 (by decide))
        have F869 : Exa Z h864 y_852 "java/lang/String" := (Exa.ext E864 P853)
        have F870 : Fld Z h864 y_852 "java/lang/String" "value" "[B" (.ref t_852) := (Fld.ext E864 P855)
        have F871 : Arv Z h864 t_852 ky_852 .byte (2 : Int32) [(.int x0.toInt8.toInt32), (.int x1.toInt8.toInt32)] (.int 0) := (P856.ext E864)
        refine own_st (T' := T864) (g' := (mkF m 327 #[.val (.int p1), .val (.int p2), .val (.int p3), .val (.int p4), .val (.long p5), .second, .val (.int (p1 &&& (3 : Int32))), .val (.ref b716), .val (.int 2), .val (.ref y_852), .unset] [(.ref b864), (.int 2), (.ref b716)])) st864 ?_
        have F872 : Old Z n0 h864 := (Old.ext (Old.keep O760 K852_ all0) E864)
        obtain ⟨_, _, ⟨T873, L873, k873, n873⟩, -, X873, ⟨Lc873, hQ873, l873, y873, z873⟩, st873⟩ := Jvm.LawKit.callS X864 hx (y := yN2) hown864 (mvT hZ864 (own_k hw 68 rfl)) (mvT hZ864 (own_k hw 69 rfl)) (mvT hZ864 (own_k hw 35 rfl)) (mvT hZ864 (own_k hw 70 rfl)) (by decide) (backOf (W := 0) (own_neq l Z a0 hw [] b716 (2 : Int32) b864 zc d864 kd864 (6 : Int32) [(.int 115), (.int 116), (.int 114), (.int 105), (.int 99), (.int 116)] h864 n0 Z866 F872 pr5 pr6 gE864 gC864 gV864 gA864 (show ¬ (2 : Int32) = (6 : Int32) from (by decide))) hZ864 (own_k hw 70 rfl) (own_k hw 35 rfl) (by decide) (by decide)) (g := (mkF m 327 #[.val (.int p1), .val (.int p2), .val (.int p3), .val (.int p4), .val (.long p5), .second, .val (.int (p1 &&& (3 : Int32))), .val (.ref b716), .val (.int 2), .val (.ref y_852), .unset] [(.ref b864), (.int 2), (.ref b716)])) rfl hml.symm  (argsL := [(.ref b716), (.int 2), (.ref b864)]) (rest := []) (lenOf own_pd15 rfl) rfl (own_w0 rfl rfl) (hb hby at_327) (fun _ _ => ⟨rfl, e864, (by decide : 9 + 0 ≤ 24), (by decide : 68 + 0 ≤ 3264)⟩)
        dsimp only [Pt.U, Pt.locs, Pt.cells, Pt.slots] at X873 l873 y873 z873 st873 hQ873
        subst l873 y873 z873
        obtain ⟨rfl, N873, e873⟩ := hQ873
        have N874 := Fr.app N858 N873
        refine own_st (T' := T873) (g' := (mkF m 330 #[.val (.int p1), .val (.int p2), .val (.int p3), .val (.int p4), .val (.long p5), .second, .val (.int (p1 &&& (3 : Int32))), .val (.ref b716), .val (.int 2), .val (.ref y_852), .unset] [(.int 0)])) st873 ?_
        refine own_st (T' := T873) (g' := (mkF m 345 #[.val (.int p1), .val (.int p2), .val (.int p3), .val (.int p4), .val (.long p5), .second, .val (.int (p1 &&& (3 : Int32))), .val (.ref b716), .val (.int 2), .val (.ref y_852), .unset] [(.int 2), (.ref b716)])) (fun _ kt => XS.ifYes X873.here hx rfl (pc0 := 330) (pc' := 341) rfl (hb hby at_330) rfl (XT.i0_eq_t rfl) (by decide) (by decide) (XS.aload X873.here hx rfl (hb hby at_341) rfl rfl (XS.iload X873.here hx rfl (hb hby at_343) rfl kt))) ?_
        obtain ⟨b875, T875, h875, k875, d875, kd875, X875, e875, E875, hS875, hk875, hZ875, hown875, gE875, gC875, gV875, gA875, la875, lb875, hC875, -, hsf875, st875⟩ := ldcCH X873 hx hZ864 hown864 (own_k hw 81 rfl) (own_wS hw) e873 hS864 hk864 (own_EW hw) (show ("com/example/lotd/lotd/ProcessingModeOfPinLaw", 27) ∈ own_EL by simp [own_EL]) CR865.1 (vs := [(.int 108), (.int 101), (.int 110), (.int 105), (.int 101), (.int 110), (.int 116)]) (z := (7 : Int32)) ⟨by decide +kernel, by first | rfl | decide +kernel⟩ (by decide) rfl (g := (mkF m 345 #[.val (.int p1), .val (.int p2), .val (.int p3), .val (.int p4), .val (.long p5), .second, .val (.int (p1 &&& (3 : Int32))), .val (.ref b716), .val (.int 2), .val (.ref y_852), .unset] [(.int 2), (.ref b716)])) rfl (hb hby at_345) (n := 28) (by decide +kernel) (by decide) (by decide) (by decide)
        have CR876 : CHr Z own_EL s.vm h0 T875.vm h875 := CHr.trans CR865 hC875
        have Z877 : n0 ≤ h875.size := Nat.le_trans Z866 E875.1
        have hk877 := Nat.le_trans hk864 E875.1
        have F878 : Arv Z h875 b716 k716 .char (8 : Int32) [(.int x0), (.int x1), (.int x2), (.int x3), (.int x4), (.int x5), (.int x6), (.int x7)] (.int 0) := (F867.ext E875)
        have ne879 := hsf875 b716 (Safe.arv (State.Warmed39.alike hZ875) F878 (by decide))
        have F880 : Exa Z h875 y_852 "java/lang/String" := (Exa.ext E875 F869)
        have F881 : Fld Z h875 y_852 "java/lang/String" "value" "[B" (.ref t_852) := (Fld.ext E875 F870)
        have F882 : Arv Z h875 t_852 ky_852 .byte (2 : Int32) [(.int x0.toInt8.toInt32), (.int x1.toInt8.toInt32)] (.int 0) := (F871.ext E875)
        have F883 : Exa Z h875 b864 "java/lang/String" := (Exa.ext E875 gE864)
        have F884 : Fld Z h875 b864 "java/lang/String" "value" "[B" (.ref d864) := (Fld.ext E875 gV864)
        have F885 : Arv Z h875 d864 kd864 .byte (6 : Int32) [(.int 115), (.int 116), (.int 114), (.int 105), (.int 99), (.int 116)] (.int 0) := (gA864.ext E875)
        refine own_st (T' := T875) (g' := (mkF m 347 #[.val (.int p1), .val (.int p2), .val (.int p3), .val (.int p4), .val (.long p5), .second, .val (.int (p1 &&& (3 : Int32))), .val (.ref b716), .val (.int 2), .val (.ref y_852), .unset] [(.ref b875), (.int 2), (.ref b716)])) st875 ?_
        have F886 : Old Z n0 h875 := (Old.ext F872 E875)
        obtain ⟨_, _, ⟨T887, L887, k887, n887⟩, -, X887, ⟨Lc887, hQ887, l887, y887, z887⟩, st887⟩ := Jvm.LawKit.callS X875 hx (y := yN2) hown875 (mvT hZ875 (own_k hw 68 rfl)) (mvT hZ875 (own_k hw 69 rfl)) (mvT hZ875 (own_k hw 35 rfl)) (mvT hZ875 (own_k hw 70 rfl)) (by decide) (backOf (W := 0) (own_neq l Z a0 hw [] b716 (2 : Int32) b875 zc d875 kd875 (7 : Int32) [(.int 108), (.int 101), (.int 110), (.int 105), (.int 101), (.int 110), (.int 116)] h875 n0 Z877 F886 pr5 pr6 gE875 gC875 gV875 gA875 (show ¬ (2 : Int32) = (7 : Int32) from (by decide))) hZ875 (own_k hw 70 rfl) (own_k hw 35 rfl) (by decide) (by decide)) (g := (mkF m 347 #[.val (.int p1), .val (.int p2), .val (.int p3), .val (.int p4), .val (.long p5), .second, .val (.int (p1 &&& (3 : Int32))), .val (.ref b716), .val (.int 2), .val (.ref y_852), .unset] [(.ref b875), (.int 2), (.ref b716)])) rfl hml.symm  (argsL := [(.ref b716), (.int 2), (.ref b875)]) (rest := []) (lenOf own_pd15 rfl) rfl (own_w0 rfl rfl) (hb hby at_347) (fun _ _ => ⟨rfl, e875, (by decide : 11 + 0 ≤ 24), (by decide : 100 + 0 ≤ 3264)⟩)
        dsimp only [Pt.U, Pt.locs, Pt.cells, Pt.slots] at X887 l887 y887 z887 st887 hQ887
        subst l887 y887 z887
        obtain ⟨rfl, N887, e887⟩ := hQ887
        have N888 := Fr.app N874 N887
        refine own_st (T' := T887) (g' := (mkF m 350 #[.val (.int p1), .val (.int p2), .val (.int p3), .val (.int p4), .val (.long p5), .second, .val (.int (p1 &&& (3 : Int32))), .val (.ref b716), .val (.int 2), .val (.ref y_852), .unset] [(.int 0)])) st887 ?_
        refine own_st (T' := T887) (g' := (mkF m 366 #[.val (.int p1), .val (.int p2), .val (.int p3), .val (.int p4), .val (.long p5), .second, .val (.int (p1 &&& (3 : Int32))), .val (.ref b716), .val (.int 2), .val (.ref y_852), .val .null] [(.ref y_852)])) (fun _ kt => XS.ifYes X887.here hx rfl (pc0 := 350) (pc' := 361) rfl (hb hby at_350) rfl (XT.i0_eq_t rfl) (by decide) (by decide) (XS.aconstNull X887.here hx rfl (hb hby at_361) (XS.astore X887.here hx rfl (hb hby at_362) rfl rfl (l' := #[.val (.int p1), .val (.int p2), .val (.int p3), .val (.int p4), .val (.long p5), .second, .val (.int (p1 &&& (3 : Int32))), .val (.ref b716), .val (.int 2), .val (.ref y_852), .val .null]) rfl (XS.aload X887.here hx rfl (hb hby at_364) rfl rfl kt)))) ?_
        have F889 : Fld Z h875 y_852 "java/lang/String" "coder" "B" (.int 0) := (Fld.ext E875 (Fld.ext E864 P854))
        obtain ⟨_, _, ⟨T890, L890, k890, n890⟩, -, X890, ⟨Lc890, hQ890, l890, y890, z890⟩, st890⟩ := Jvm.LawKit.callS X887 hx (y := yN3) hown875 (mvT hZ875 (own_k hw 5 rfl)) (mvT hZ875 (own_k hw 6 rfl)) (mvT hZ875 (own_k hw 3 rfl)) (mvT hZ875 (own_k hw 7 rfl)) (by decide) (backOf (W := 0) (own_ofn l Z a0 hw [] va kv sc le zc sv lv ts tl k1 k2 y_852 t_852 ky_852 (2 : Int32) [(.int x0.toInt8.toInt32), (.int x1.toInt8.toInt32)] h875 n0 Z877 F886 pr2 pr3 pr4 pr5 pr6 pr7 pr8 pr9 pr10 pr11 pr12 pr13 pr14 pr15 pr16 pr17 pr18 pr19 ge863 F880 F889 F881 F882 (show ¬ (6 : Int32) = (2 : Int32) from (by decide)) (show ¬ (7 : Int32) = (2 : Int32) from (by decide))) hZ875 (own_k hw 7 rfl) (own_k hw 3 rfl) (by decide) (by decide)) (g := (mkF m 366 #[.val (.int p1), .val (.int p2), .val (.int p3), .val (.int p4), .val (.long p5), .second, .val (.int (p1 &&& (3 : Int32))), .val (.ref b716), .val (.int 2), .val (.ref y_852), .val .null] [(.ref y_852)])) rfl hml.symm  (argsL := [(.ref y_852)]) (rest := []) (lenOf own_pd13 rfl) rfl (own_w0 rfl rfl) (hb hby at_366) (fun _ _ => ⟨rfl, e887, (by decide : 11 + 1 ≤ 24), (by decide : 100 + 2 ≤ 3264)⟩)
        dsimp only [Pt.U, Pt.locs, Pt.cells, Pt.slots] at X890 l890 y890 z890 st890 hQ890
        subst l890 y890 z890
        obtain ⟨b_890, rfl, N890, K890_⟩ := hQ890
        have N891 := Fr.app N888 N890
        have CR892 : CHr Z own_EL s.vm h0 T875.vm T890.heap := CHr.trans CR876 (CHr.keep K890_ sf0 CR876.1)
        have Z893 : n0 ≤ T890.heap.size := Nat.le_trans Z877 K890_.1
        have hk893 := Nat.le_trans hk875 K890_.1
        refine own_st (T' := T890) (g' := (mkF m 369 #[.val (.int p1), .val (.int p2), .val (.int p3), .val (.int p4), .val (.long p5), .second, .val (.int (p1 &&& (3 : Int32))), .val (.ref b716), .val (.int 2), .val (.ref y_852), .val .null] [.null])) st890 ?_
        refine own_st (T' := T890) (g' := (mkF m 379 #[.val (.int p1), .val (.int p2), .val (.int p3), .val (.int p4), .val (.long p5), .second, .val (.int (p1 &&& (3 : Int32))), .val (.ref b716), .val (.int 2), .val (.ref y_852), .val .null] [(.int 1)])) (fun _ kt => XS.aload X890.here hx rfl (hb hby at_369) rfl rfl (XT.acmpNo X890.here hx rfl (hb hby at_371) rfl rfl rfl (XT.aa_ne_f rfl) (XS.iconst X890.here hx rfl (hb hby at_374) (XS.goto X890.here hx rfl (pc0 := 375) (pc' := 379) rfl (hb hby at_375) (by decide) (by decide) kt)))) ?_
        obtain ⟨fs, hr, hrun, hended, hE⟩ := Stand.leaveW X890 hS875 hk893 (v := some (.int 1)) (fun h => by rw [Bd.returns] at h; cases h)
        refine own_end (retN X890 hx (t := .boolean) Bd.returns (by simp) (hb hby at_379) hr) ⟨_, hrun, hended, _, _, rfl, ?_, (by rw [hh]; show CHr Z own_EL s.vm h0 T890.vm T890.heap; exact CHr.trans CR892 (CHv.at X890 hZ875 (own_EW hw) CR892.1)), ⟨hE.1, hE.2.1, hE.2.2.1, hE.2.2.2.mono (by decide) (by decide)⟩⟩
        show own_lawQ Z _ _ _ _ _ _ _ _ _ _ _ _ _ _ _ _ _ h0 n0 _ T890.heap _
        show own_lawQ Z _ _ _ _ _ _ _ _ _ _ _ _ _ _ _ _ _ h0 n0 _ T890.heap _
        exact ⟨rfl, N891⟩
      ·
        refine own_st (T' := T760) (g' := (mkF m 303 #[.val (.int p1), .val (.int p2), .val (.int p3), .val (.int p4), .val (.long p5), .second, .val (.int (p1 &&& (3 : Int32))), .val (.ref b716), .val (.int 3), .unset, .unset] [(.int 3), (.ref b716)])) (fun _ kt => XS.aload X760.here hx rfl (hb hby at_299) rfl rfl (XS.iload X760.here hx rfl (hb hby at_301) rfl kt)) ?_
        obtain ⟨_, _, ⟨T894, L894, k894, n894⟩, -, X894, hS894, hG894, ⟨Lc894, hQ894, l894, y894, z894, hC894⟩, st894⟩ := callSS X760 hx (y := yN4) hown760 (mvT hZ760 (own_k hw 33 rfl)) (mvT hZ760 (own_k hw 34 rfl)) (mvT hZ760 (own_k hw 35 rfl)) (mvT hZ760 (own_k hw 36 rfl)) (by decide) (backOfSH (W := 0) (own_s3 l Z a0 hw [] b716 k716 zc x0 x1 x2 x3 x4 x5 x6 x7 h760 n0 Z760 O760 pr5 pr6 F761 hx0 hx1 hx2 hx3 hx4 hx5 hx6 hx7) hZ760 (own_k hw 36 rfl) (own_k hw 35 rfl) (by decide) (by decide) (own_EW hw) CR760.1) (g := (mkF m 303 #[.val (.int p1), .val (.int p2), .val (.int p3), .val (.int p4), .val (.long p5), .second, .val (.int (p1 &&& (3 : Int32))), .val (.ref b716), .val (.int 3), .unset, .unset] [(.int 3), (.ref b716)])) rfl hml.symm  (argsL := [(.ref b716), (.int 3)]) (rest := []) (lenOf own_pd14 rfl) rfl (own_w0 rfl rfl) (hb hby at_303) (fun _ _ => ⟨rfl, e760, (by decide : 1 + 6 ≤ 24), (by decide : 8 + 32 ≤ 3264)⟩)
        dsimp only [Pt.U, Pt.locs, Pt.cells, Pt.slots] at X894 l894 y894 z894 st894 hQ894 hS894 hG894 hC894
        subst l894 y894 z894
        obtain ⟨y_894, t_894, ky_894, rfl, N894, K894_, P895, P896, P897, P898, P899⟩ := hQ894
        have N900 := Fr.app N760 N894
        obtain ⟨X901, hS901, hZ901, hown901⟩ := rebS hS760 (by rw [e760]; exact hk760) X894 hS894 hG894 hZ760 hown760
        have CR902 : CHr Z own_EL s.vm h0 T894.vm T894.heap := CHr.trans CR760 hC894
        have Z903 : n0 ≤ T894.heap.size := Nat.le_trans Z760 K894_.1
        have hk903 := Nat.le_trans hk760 K894_.1
        have hk901 : T894.heap.size ≤ T894.heap.size := Nat.le_refl _
        have ne904 : b716 ≠ y_894 := Nat.ne_of_lt (Nat.lt_of_lt_of_le F761.lt P899)
        have ge905 : n0 ≤ y_894 := Nat.le_trans Z760 P899
        refine own_tr (T' := T894) (g' := (mkF m 306 #[.val (.int p1), .val (.int p2), .val (.int p3), .val (.int p4), .val (.long p5), .second, .val (.int (p1 &&& (3 : Int32))), .val (.ref b716), .val (.int 3), .unset, .unset] [(.ref y_894)])) st894 ?_
        refine own_st (T' := T894) (g' := (mkF m 325 #[.val (.int p1), .val (.int p2), .val (.int p3), .val (.int p4), .val (.long p5), .second, .val (.int (p1 &&& (3 : Int32))), .val (.ref b716), .val (.int 3), .val (.ref y_894), .unset] [(.int 3), (.ref b716)])) (fun _ kt => XS.astore X901.here hx rfl (hb hby at_306) rfl rfl (l' := #[.val (.int p1), .val (.int p2), .val (.int p3), .val (.int p4), .val (.long p5), .second, .val (.int (p1 &&& (3 : Int32))), .val (.ref b716), .val (.int 3), .val (.ref y_894), .unset]) rfl (XS.iload X901.here hx rfl (hb hby at_308) rfl (XS.ifYes X901.here hx rfl (pc0 := 310) (pc' := 321) rfl (hb hby at_310) rfl (XT.i0_ne_t hc762) (by decide) (by decide) (XS.aload X901.here hx rfl (hb hby at_321) rfl rfl (XS.iload X901.here hx rfl (hb hby at_323) rfl kt))))) ?_
        obtain ⟨b906, T906, h906, k906, d906, kd906, X906, e906, E906, hS906, hk906, hZ906, hown906, gE906, gC906, gV906, gA906, la906, lb906, hC906, -, hsf906, st906⟩ := ldcCH X901 hx hZ901 hown901 (own_k hw 65 rfl) (own_wS hw) rfl hS901 hk901 (own_EW hw) (show ("com/example/lotd/lotd/ProcessingModeOfPinLaw", 21) ∈ own_EL by simp [own_EL]) CR902.1 (vs := [(.int 115), (.int 116), (.int 114), (.int 105), (.int 99), (.int 116)]) (z := (6 : Int32)) ⟨by decide +kernel, by first | rfl | decide +kernel⟩ (by decide) rfl (g := (mkF m 325 #[.val (.int p1), .val (.int p2), .val (.int p3), .val (.int p4), .val (.long p5), .second, .val (.int (p1 &&& (3 : Int32))), .val (.ref b716), .val (.int 3), .val (.ref y_894), .unset] [(.int 3), (.ref b716)])) rfl (hb hby at_325) (n := 24) (by decide +kernel) (by decide) (by decide) (by decide)
        have CR907 : CHr Z own_EL s.vm h0 T906.vm h906 := CHr.trans CR902 hC906
        have Z908 : n0 ≤ h906.size := Nat.le_trans Z903 E906.1
        have hk908 := Nat.le_trans hk901 E906.1
        have F909 : Arv Z h906 b716 k716 .char (8 : Int32) [(.int x0), (.int x1), (.int x2), (.int x3), (.int x4), (.int x5), (.int x6), (.int x7)] (.int 0) := ((Arv.keep F761 K894_ nin0).ext E906)
        have ne910 := hsf906 b716 (Safe.arv (State.Warmed39.alike hZ906) F909 (by decide))
        have F911 : Exa Z h906 y_894 "java/lang/String" := (Exa.ext E906 P895)
        have F912 : Fld Z h906 y_894 "java/lang/String" "value" "[B" (.ref t_894) := (Fld.ext E906 P897)
        have F913 : Arv Z h906 t_894 ky_894 .byte (3 : Int32) [(.int x0.toInt8.toInt32), (.int x1.toInt8.toInt32), (.int x2.toInt8.toInt32)] (.int 0) := (P898.ext E906)
        refine own_st (T' := T906) (g' := (mkF m 327 #[.val (.int p1), .val (.int p2), .val (.int p3), .val (.int p4), .val (.long p5), .second, .val (.int (p1 &&& (3 : Int32))), .val (.ref b716), .val (.int 3), .val (.ref y_894), .unset] [(.ref b906), (.int 3), (.ref b716)])) st906 ?_
        have F914 : Old Z n0 h906 := (Old.ext (Old.keep O760 K894_ all0) E906)
        obtain ⟨_, _, ⟨T915, L915, k915, n915⟩, -, X915, ⟨Lc915, hQ915, l915, y915, z915⟩, st915⟩ := Jvm.LawKit.callS X906 hx (y := yN2) hown906 (mvT hZ906 (own_k hw 68 rfl)) (mvT hZ906 (own_k hw 69 rfl)) (mvT hZ906 (own_k hw 35 rfl)) (mvT hZ906 (own_k hw 70 rfl)) (by decide) (backOf (W := 0) (own_neq l Z a0 hw [] b716 (3 : Int32) b906 zc d906 kd906 (6 : Int32) [(.int 115), (.int 116), (.int 114), (.int 105), (.int 99), (.int 116)] h906 n0 Z908 F914 pr5 pr6 gE906 gC906 gV906 gA906 (show ¬ (3 : Int32) = (6 : Int32) from (by decide))) hZ906 (own_k hw 70 rfl) (own_k hw 35 rfl) (by decide) (by decide)) (g := (mkF m 327 #[.val (.int p1), .val (.int p2), .val (.int p3), .val (.int p4), .val (.long p5), .second, .val (.int (p1 &&& (3 : Int32))), .val (.ref b716), .val (.int 3), .val (.ref y_894), .unset] [(.ref b906), (.int 3), (.ref b716)])) rfl hml.symm  (argsL := [(.ref b716), (.int 3), (.ref b906)]) (rest := []) (lenOf own_pd15 rfl) rfl (own_w0 rfl rfl) (hb hby at_327) (fun _ _ => ⟨rfl, e906, (by decide : 9 + 0 ≤ 24), (by decide : 68 + 0 ≤ 3264)⟩)
        dsimp only [Pt.U, Pt.locs, Pt.cells, Pt.slots] at X915 l915 y915 z915 st915 hQ915
        subst l915 y915 z915
        obtain ⟨rfl, N915, e915⟩ := hQ915
        have N916 := Fr.app N900 N915
        refine own_st (T' := T915) (g' := (mkF m 330 #[.val (.int p1), .val (.int p2), .val (.int p3), .val (.int p4), .val (.long p5), .second, .val (.int (p1 &&& (3 : Int32))), .val (.ref b716), .val (.int 3), .val (.ref y_894), .unset] [(.int 0)])) st915 ?_
        refine own_st (T' := T915) (g' := (mkF m 345 #[.val (.int p1), .val (.int p2), .val (.int p3), .val (.int p4), .val (.long p5), .second, .val (.int (p1 &&& (3 : Int32))), .val (.ref b716), .val (.int 3), .val (.ref y_894), .unset] [(.int 3), (.ref b716)])) (fun _ kt => XS.ifYes X915.here hx rfl (pc0 := 330) (pc' := 341) rfl (hb hby at_330) rfl (XT.i0_eq_t rfl) (by decide) (by decide) (XS.aload X915.here hx rfl (hb hby at_341) rfl rfl (XS.iload X915.here hx rfl (hb hby at_343) rfl kt))) ?_
        obtain ⟨b917, T917, h917, k917, d917, kd917, X917, e917, E917, hS917, hk917, hZ917, hown917, gE917, gC917, gV917, gA917, la917, lb917, hC917, -, hsf917, st917⟩ := ldcCH X915 hx hZ906 hown906 (own_k hw 81 rfl) (own_wS hw) e915 hS906 hk906 (own_EW hw) (show ("com/example/lotd/lotd/ProcessingModeOfPinLaw", 27) ∈ own_EL by simp [own_EL]) CR907.1 (vs := [(.int 108), (.int 101), (.int 110), (.int 105), (.int 101), (.int 110), (.int 116)]) (z := (7 : Int32)) ⟨by decide +kernel, by first | rfl | decide +kernel⟩ (by decide) rfl (g := (mkF m 345 #[.val (.int p1), .val (.int p2), .val (.int p3), .val (.int p4), .val (.long p5), .second, .val (.int (p1 &&& (3 : Int32))), .val (.ref b716), .val (.int 3), .val (.ref y_894), .unset] [(.int 3), (.ref b716)])) rfl (hb hby at_345) (n := 28) (by decide +kernel) (by decide) (by decide) (by decide)
        have CR918 : CHr Z own_EL s.vm h0 T917.vm h917 := CHr.trans CR907 hC917
        have Z919 : n0 ≤ h917.size := Nat.le_trans Z908 E917.1
        have hk919 := Nat.le_trans hk906 E917.1
        have F920 : Arv Z h917 b716 k716 .char (8 : Int32) [(.int x0), (.int x1), (.int x2), (.int x3), (.int x4), (.int x5), (.int x6), (.int x7)] (.int 0) := (F909.ext E917)
        have ne921 := hsf917 b716 (Safe.arv (State.Warmed39.alike hZ917) F920 (by decide))
        have F922 : Exa Z h917 y_894 "java/lang/String" := (Exa.ext E917 F911)
        have F923 : Fld Z h917 y_894 "java/lang/String" "value" "[B" (.ref t_894) := (Fld.ext E917 F912)
        have F924 : Arv Z h917 t_894 ky_894 .byte (3 : Int32) [(.int x0.toInt8.toInt32), (.int x1.toInt8.toInt32), (.int x2.toInt8.toInt32)] (.int 0) := (F913.ext E917)
        have F925 : Exa Z h917 b906 "java/lang/String" := (Exa.ext E917 gE906)
        have F926 : Fld Z h917 b906 "java/lang/String" "value" "[B" (.ref d906) := (Fld.ext E917 gV906)
        have F927 : Arv Z h917 d906 kd906 .byte (6 : Int32) [(.int 115), (.int 116), (.int 114), (.int 105), (.int 99), (.int 116)] (.int 0) := (gA906.ext E917)
        refine own_st (T' := T917) (g' := (mkF m 347 #[.val (.int p1), .val (.int p2), .val (.int p3), .val (.int p4), .val (.long p5), .second, .val (.int (p1 &&& (3 : Int32))), .val (.ref b716), .val (.int 3), .val (.ref y_894), .unset] [(.ref b917), (.int 3), (.ref b716)])) st917 ?_
        have F928 : Old Z n0 h917 := (Old.ext F914 E917)
        obtain ⟨_, _, ⟨T929, L929, k929, n929⟩, -, X929, ⟨Lc929, hQ929, l929, y929, z929⟩, st929⟩ := Jvm.LawKit.callS X917 hx (y := yN2) hown917 (mvT hZ917 (own_k hw 68 rfl)) (mvT hZ917 (own_k hw 69 rfl)) (mvT hZ917 (own_k hw 35 rfl)) (mvT hZ917 (own_k hw 70 rfl)) (by decide) (backOf (W := 0) (own_neq l Z a0 hw [] b716 (3 : Int32) b917 zc d917 kd917 (7 : Int32) [(.int 108), (.int 101), (.int 110), (.int 105), (.int 101), (.int 110), (.int 116)] h917 n0 Z919 F928 pr5 pr6 gE917 gC917 gV917 gA917 (show ¬ (3 : Int32) = (7 : Int32) from (by decide))) hZ917 (own_k hw 70 rfl) (own_k hw 35 rfl) (by decide) (by decide)) (g := (mkF m 347 #[.val (.int p1), .val (.int p2), .val (.int p3), .val (.int p4), .val (.long p5), .second, .val (.int (p1 &&& (3 : Int32))), .val (.ref b716), .val (.int 3), .val (.ref y_894), .unset] [(.ref b917), (.int 3), (.ref b716)])) rfl hml.symm  (argsL := [(.ref b716), (.int 3), (.ref b917)]) (rest := []) (lenOf own_pd15 rfl) rfl (own_w0 rfl rfl) (hb hby at_347) (fun _ _ => ⟨rfl, e917, (by decide : 11 + 0 ≤ 24), (by decide : 100 + 0 ≤ 3264)⟩)
        dsimp only [Pt.U, Pt.locs, Pt.cells, Pt.slots] at X929 l929 y929 z929 st929 hQ929
        subst l929 y929 z929
        obtain ⟨rfl, N929, e929⟩ := hQ929
        have N930 := Fr.app N916 N929
        refine own_st (T' := T929) (g' := (mkF m 350 #[.val (.int p1), .val (.int p2), .val (.int p3), .val (.int p4), .val (.long p5), .second, .val (.int (p1 &&& (3 : Int32))), .val (.ref b716), .val (.int 3), .val (.ref y_894), .unset] [(.int 0)])) st929 ?_
        refine own_st (T' := T929) (g' := (mkF m 366 #[.val (.int p1), .val (.int p2), .val (.int p3), .val (.int p4), .val (.long p5), .second, .val (.int (p1 &&& (3 : Int32))), .val (.ref b716), .val (.int 3), .val (.ref y_894), .val .null] [(.ref y_894)])) (fun _ kt => XS.ifYes X929.here hx rfl (pc0 := 350) (pc' := 361) rfl (hb hby at_350) rfl (XT.i0_eq_t rfl) (by decide) (by decide) (XS.aconstNull X929.here hx rfl (hb hby at_361) (XS.astore X929.here hx rfl (hb hby at_362) rfl rfl (l' := #[.val (.int p1), .val (.int p2), .val (.int p3), .val (.int p4), .val (.long p5), .second, .val (.int (p1 &&& (3 : Int32))), .val (.ref b716), .val (.int 3), .val (.ref y_894), .val .null]) rfl (XS.aload X929.here hx rfl (hb hby at_364) rfl rfl kt)))) ?_
        have F931 : Fld Z h917 y_894 "java/lang/String" "coder" "B" (.int 0) := (Fld.ext E917 (Fld.ext E906 P896))
        obtain ⟨_, _, ⟨T932, L932, k932, n932⟩, -, X932, ⟨Lc932, hQ932, l932, y932, z932⟩, st932⟩ := Jvm.LawKit.callS X929 hx (y := yN3) hown917 (mvT hZ917 (own_k hw 5 rfl)) (mvT hZ917 (own_k hw 6 rfl)) (mvT hZ917 (own_k hw 3 rfl)) (mvT hZ917 (own_k hw 7 rfl)) (by decide) (backOf (W := 0) (own_ofn l Z a0 hw [] va kv sc le zc sv lv ts tl k1 k2 y_894 t_894 ky_894 (3 : Int32) [(.int x0.toInt8.toInt32), (.int x1.toInt8.toInt32), (.int x2.toInt8.toInt32)] h917 n0 Z919 F928 pr2 pr3 pr4 pr5 pr6 pr7 pr8 pr9 pr10 pr11 pr12 pr13 pr14 pr15 pr16 pr17 pr18 pr19 ge905 F922 F931 F923 F924 (show ¬ (6 : Int32) = (3 : Int32) from (by decide)) (show ¬ (7 : Int32) = (3 : Int32) from (by decide))) hZ917 (own_k hw 7 rfl) (own_k hw 3 rfl) (by decide) (by decide)) (g := (mkF m 366 #[.val (.int p1), .val (.int p2), .val (.int p3), .val (.int p4), .val (.long p5), .second, .val (.int (p1 &&& (3 : Int32))), .val (.ref b716), .val (.int 3), .val (.ref y_894), .val .null] [(.ref y_894)])) rfl hml.symm  (argsL := [(.ref y_894)]) (rest := []) (lenOf own_pd13 rfl) rfl (own_w0 rfl rfl) (hb hby at_366) (fun _ _ => ⟨rfl, e929, (by decide : 11 + 1 ≤ 24), (by decide : 100 + 2 ≤ 3264)⟩)
        dsimp only [Pt.U, Pt.locs, Pt.cells, Pt.slots] at X932 l932 y932 z932 st932 hQ932
        subst l932 y932 z932
        obtain ⟨b_932, rfl, N932, K932_⟩ := hQ932
        have N933 := Fr.app N930 N932
        have CR934 : CHr Z own_EL s.vm h0 T917.vm T932.heap := CHr.trans CR918 (CHr.keep K932_ sf0 CR918.1)
        have Z935 : n0 ≤ T932.heap.size := Nat.le_trans Z919 K932_.1
        have hk935 := Nat.le_trans hk917 K932_.1
        refine own_st (T' := T932) (g' := (mkF m 369 #[.val (.int p1), .val (.int p2), .val (.int p3), .val (.int p4), .val (.long p5), .second, .val (.int (p1 &&& (3 : Int32))), .val (.ref b716), .val (.int 3), .val (.ref y_894), .val .null] [.null])) st932 ?_
        refine own_st (T' := T932) (g' := (mkF m 379 #[.val (.int p1), .val (.int p2), .val (.int p3), .val (.int p4), .val (.long p5), .second, .val (.int (p1 &&& (3 : Int32))), .val (.ref b716), .val (.int 3), .val (.ref y_894), .val .null] [(.int 1)])) (fun _ kt => XS.aload X932.here hx rfl (hb hby at_369) rfl rfl (XT.acmpNo X932.here hx rfl (hb hby at_371) rfl rfl rfl (XT.aa_ne_f rfl) (XS.iconst X932.here hx rfl (hb hby at_374) (XS.goto X932.here hx rfl (pc0 := 375) (pc' := 379) rfl (hb hby at_375) (by decide) (by decide) kt)))) ?_
        obtain ⟨fs, hr, hrun, hended, hE⟩ := Stand.leaveW X932 hS917 hk935 (v := some (.int 1)) (fun h => by rw [Bd.returns] at h; cases h)
        refine own_end (retN X932 hx (t := .boolean) Bd.returns (by simp) (hb hby at_379) hr) ⟨_, hrun, hended, _, _, rfl, ?_, (by rw [hh]; show CHr Z own_EL s.vm h0 T932.vm T932.heap; exact CHr.trans CR934 (CHv.at X932 hZ917 (own_EW hw) CR934.1)), ⟨hE.1, hE.2.1, hE.2.2.1, hE.2.2.2.mono (by decide) (by decide)⟩⟩
        show own_lawQ Z _ _ _ _ _ _ _ _ _ _ _ _ _ _ _ _ _ h0 n0 _ T932.heap _
        show own_lawQ Z _ _ _ _ _ _ _ _ _ _ _ _ _ _ _ _ _ h0 n0 _ T932.heap _
        exact ⟨rfl, N933⟩
      ·
        refine own_st (T' := T760) (g' := (mkF m 303 #[.val (.int p1), .val (.int p2), .val (.int p3), .val (.int p4), .val (.long p5), .second, .val (.int (p1 &&& (3 : Int32))), .val (.ref b716), .val (.int 4), .unset, .unset] [(.int 4), (.ref b716)])) (fun _ kt => XS.aload X760.here hx rfl (hb hby at_299) rfl rfl (XS.iload X760.here hx rfl (hb hby at_301) rfl kt)) ?_
        obtain ⟨_, _, ⟨T936, L936, k936, n936⟩, -, X936, hS936, hG936, ⟨Lc936, hQ936, l936, y936, z936, hC936⟩, st936⟩ := callSS X760 hx (y := yN4) hown760 (mvT hZ760 (own_k hw 33 rfl)) (mvT hZ760 (own_k hw 34 rfl)) (mvT hZ760 (own_k hw 35 rfl)) (mvT hZ760 (own_k hw 36 rfl)) (by decide) (backOfSH (W := 0) (own_s4 l Z a0 hw [] b716 k716 zc x0 x1 x2 x3 x4 x5 x6 x7 h760 n0 Z760 O760 pr5 pr6 F761 hx0 hx1 hx2 hx3 hx4 hx5 hx6 hx7) hZ760 (own_k hw 36 rfl) (own_k hw 35 rfl) (by decide) (by decide) (own_EW hw) CR760.1) (g := (mkF m 303 #[.val (.int p1), .val (.int p2), .val (.int p3), .val (.int p4), .val (.long p5), .second, .val (.int (p1 &&& (3 : Int32))), .val (.ref b716), .val (.int 4), .unset, .unset] [(.int 4), (.ref b716)])) rfl hml.symm  (argsL := [(.ref b716), (.int 4)]) (rest := []) (lenOf own_pd14 rfl) rfl (own_w0 rfl rfl) (hb hby at_303) (fun _ _ => ⟨rfl, e760, (by decide : 1 + 6 ≤ 24), (by decide : 8 + 32 ≤ 3264)⟩)
        dsimp only [Pt.U, Pt.locs, Pt.cells, Pt.slots] at X936 l936 y936 z936 st936 hQ936 hS936 hG936 hC936
        subst l936 y936 z936
        obtain ⟨y_936, t_936, ky_936, rfl, N936, K936_, P937, P938, P939, P940, P941⟩ := hQ936
        have N942 := Fr.app N760 N936
        obtain ⟨X943, hS943, hZ943, hown943⟩ := rebS hS760 (by rw [e760]; exact hk760) X936 hS936 hG936 hZ760 hown760
        have CR944 : CHr Z own_EL s.vm h0 T936.vm T936.heap := CHr.trans CR760 hC936
        have Z945 : n0 ≤ T936.heap.size := Nat.le_trans Z760 K936_.1
        have hk945 := Nat.le_trans hk760 K936_.1
        have hk943 : T936.heap.size ≤ T936.heap.size := Nat.le_refl _
        have ne946 : b716 ≠ y_936 := Nat.ne_of_lt (Nat.lt_of_lt_of_le F761.lt P941)
        have ge947 : n0 ≤ y_936 := Nat.le_trans Z760 P941
        refine own_tr (T' := T936) (g' := (mkF m 306 #[.val (.int p1), .val (.int p2), .val (.int p3), .val (.int p4), .val (.long p5), .second, .val (.int (p1 &&& (3 : Int32))), .val (.ref b716), .val (.int 4), .unset, .unset] [(.ref y_936)])) st936 ?_
        refine own_st (T' := T936) (g' := (mkF m 325 #[.val (.int p1), .val (.int p2), .val (.int p3), .val (.int p4), .val (.long p5), .second, .val (.int (p1 &&& (3 : Int32))), .val (.ref b716), .val (.int 4), .val (.ref y_936), .unset] [(.int 4), (.ref b716)])) (fun _ kt => XS.astore X943.here hx rfl (hb hby at_306) rfl rfl (l' := #[.val (.int p1), .val (.int p2), .val (.int p3), .val (.int p4), .val (.long p5), .second, .val (.int (p1 &&& (3 : Int32))), .val (.ref b716), .val (.int 4), .val (.ref y_936), .unset]) rfl (XS.iload X943.here hx rfl (hb hby at_308) rfl (XS.ifYes X943.here hx rfl (pc0 := 310) (pc' := 321) rfl (hb hby at_310) rfl (XT.i0_ne_t hc762) (by decide) (by decide) (XS.aload X943.here hx rfl (hb hby at_321) rfl rfl (XS.iload X943.here hx rfl (hb hby at_323) rfl kt))))) ?_
        obtain ⟨b948, T948, h948, k948, d948, kd948, X948, e948, E948, hS948, hk948, hZ948, hown948, gE948, gC948, gV948, gA948, la948, lb948, hC948, -, hsf948, st948⟩ := ldcCH X943 hx hZ943 hown943 (own_k hw 65 rfl) (own_wS hw) rfl hS943 hk943 (own_EW hw) (show ("com/example/lotd/lotd/ProcessingModeOfPinLaw", 21) ∈ own_EL by simp [own_EL]) CR944.1 (vs := [(.int 115), (.int 116), (.int 114), (.int 105), (.int 99), (.int 116)]) (z := (6 : Int32)) ⟨by decide +kernel, by first | rfl | decide +kernel⟩ (by decide) rfl (g := (mkF m 325 #[.val (.int p1), .val (.int p2), .val (.int p3), .val (.int p4), .val (.long p5), .second, .val (.int (p1 &&& (3 : Int32))), .val (.ref b716), .val (.int 4), .val (.ref y_936), .unset] [(.int 4), (.ref b716)])) rfl (hb hby at_325) (n := 24) (by decide +kernel) (by decide) (by decide) (by decide)
        have CR949 : CHr Z own_EL s.vm h0 T948.vm h948 := CHr.trans CR944 hC948
        have Z950 : n0 ≤ h948.size := Nat.le_trans Z945 E948.1
        have hk950 := Nat.le_trans hk943 E948.1
        have F951 : Arv Z h948 b716 k716 .char (8 : Int32) [(.int x0), (.int x1), (.int x2), (.int x3), (.int x4), (.int x5), (.int x6), (.int x7)] (.int 0) := ((Arv.keep F761 K936_ nin0).ext E948)
        have ne952 := hsf948 b716 (Safe.arv (State.Warmed39.alike hZ948) F951 (by decide))
        have F953 : Exa Z h948 y_936 "java/lang/String" := (Exa.ext E948 P937)
        have F954 : Fld Z h948 y_936 "java/lang/String" "value" "[B" (.ref t_936) := (Fld.ext E948 P939)
        have F955 : Arv Z h948 t_936 ky_936 .byte (4 : Int32) [(.int x0.toInt8.toInt32), (.int x1.toInt8.toInt32), (.int x2.toInt8.toInt32), (.int x3.toInt8.toInt32)] (.int 0) := (P940.ext E948)
        refine own_st (T' := T948) (g' := (mkF m 327 #[.val (.int p1), .val (.int p2), .val (.int p3), .val (.int p4), .val (.long p5), .second, .val (.int (p1 &&& (3 : Int32))), .val (.ref b716), .val (.int 4), .val (.ref y_936), .unset] [(.ref b948), (.int 4), (.ref b716)])) st948 ?_
        have F956 : Old Z n0 h948 := (Old.ext (Old.keep O760 K936_ all0) E948)
        obtain ⟨_, _, ⟨T957, L957, k957, n957⟩, -, X957, ⟨Lc957, hQ957, l957, y957, z957⟩, st957⟩ := Jvm.LawKit.callS X948 hx (y := yN2) hown948 (mvT hZ948 (own_k hw 68 rfl)) (mvT hZ948 (own_k hw 69 rfl)) (mvT hZ948 (own_k hw 35 rfl)) (mvT hZ948 (own_k hw 70 rfl)) (by decide) (backOf (W := 0) (own_neq l Z a0 hw [] b716 (4 : Int32) b948 zc d948 kd948 (6 : Int32) [(.int 115), (.int 116), (.int 114), (.int 105), (.int 99), (.int 116)] h948 n0 Z950 F956 pr5 pr6 gE948 gC948 gV948 gA948 (show ¬ (4 : Int32) = (6 : Int32) from (by decide))) hZ948 (own_k hw 70 rfl) (own_k hw 35 rfl) (by decide) (by decide)) (g := (mkF m 327 #[.val (.int p1), .val (.int p2), .val (.int p3), .val (.int p4), .val (.long p5), .second, .val (.int (p1 &&& (3 : Int32))), .val (.ref b716), .val (.int 4), .val (.ref y_936), .unset] [(.ref b948), (.int 4), (.ref b716)])) rfl hml.symm  (argsL := [(.ref b716), (.int 4), (.ref b948)]) (rest := []) (lenOf own_pd15 rfl) rfl (own_w0 rfl rfl) (hb hby at_327) (fun _ _ => ⟨rfl, e948, (by decide : 9 + 0 ≤ 24), (by decide : 68 + 0 ≤ 3264)⟩)
        dsimp only [Pt.U, Pt.locs, Pt.cells, Pt.slots] at X957 l957 y957 z957 st957 hQ957
        subst l957 y957 z957
        obtain ⟨rfl, N957, e957⟩ := hQ957
        have N958 := Fr.app N942 N957
        refine own_st (T' := T957) (g' := (mkF m 330 #[.val (.int p1), .val (.int p2), .val (.int p3), .val (.int p4), .val (.long p5), .second, .val (.int (p1 &&& (3 : Int32))), .val (.ref b716), .val (.int 4), .val (.ref y_936), .unset] [(.int 0)])) st957 ?_
        refine own_st (T' := T957) (g' := (mkF m 345 #[.val (.int p1), .val (.int p2), .val (.int p3), .val (.int p4), .val (.long p5), .second, .val (.int (p1 &&& (3 : Int32))), .val (.ref b716), .val (.int 4), .val (.ref y_936), .unset] [(.int 4), (.ref b716)])) (fun _ kt => XS.ifYes X957.here hx rfl (pc0 := 330) (pc' := 341) rfl (hb hby at_330) rfl (XT.i0_eq_t rfl) (by decide) (by decide) (XS.aload X957.here hx rfl (hb hby at_341) rfl rfl (XS.iload X957.here hx rfl (hb hby at_343) rfl kt))) ?_
        obtain ⟨b959, T959, h959, k959, d959, kd959, X959, e959, E959, hS959, hk959, hZ959, hown959, gE959, gC959, gV959, gA959, la959, lb959, hC959, -, hsf959, st959⟩ := ldcCH X957 hx hZ948 hown948 (own_k hw 81 rfl) (own_wS hw) e957 hS948 hk948 (own_EW hw) (show ("com/example/lotd/lotd/ProcessingModeOfPinLaw", 27) ∈ own_EL by simp [own_EL]) CR949.1 (vs := [(.int 108), (.int 101), (.int 110), (.int 105), (.int 101), (.int 110), (.int 116)]) (z := (7 : Int32)) ⟨by decide +kernel, by first | rfl | decide +kernel⟩ (by decide) rfl (g := (mkF m 345 #[.val (.int p1), .val (.int p2), .val (.int p3), .val (.int p4), .val (.long p5), .second, .val (.int (p1 &&& (3 : Int32))), .val (.ref b716), .val (.int 4), .val (.ref y_936), .unset] [(.int 4), (.ref b716)])) rfl (hb hby at_345) (n := 28) (by decide +kernel) (by decide) (by decide) (by decide)
        have CR960 : CHr Z own_EL s.vm h0 T959.vm h959 := CHr.trans CR949 hC959
        have Z961 : n0 ≤ h959.size := Nat.le_trans Z950 E959.1
        have hk961 := Nat.le_trans hk948 E959.1
        have F962 : Arv Z h959 b716 k716 .char (8 : Int32) [(.int x0), (.int x1), (.int x2), (.int x3), (.int x4), (.int x5), (.int x6), (.int x7)] (.int 0) := (F951.ext E959)
        have ne963 := hsf959 b716 (Safe.arv (State.Warmed39.alike hZ959) F962 (by decide))
        have F964 : Exa Z h959 y_936 "java/lang/String" := (Exa.ext E959 F953)
        have F965 : Fld Z h959 y_936 "java/lang/String" "value" "[B" (.ref t_936) := (Fld.ext E959 F954)
        have F966 : Arv Z h959 t_936 ky_936 .byte (4 : Int32) [(.int x0.toInt8.toInt32), (.int x1.toInt8.toInt32), (.int x2.toInt8.toInt32), (.int x3.toInt8.toInt32)] (.int 0) := (F955.ext E959)
        have F967 : Exa Z h959 b948 "java/lang/String" := (Exa.ext E959 gE948)
        have F968 : Fld Z h959 b948 "java/lang/String" "value" "[B" (.ref d948) := (Fld.ext E959 gV948)
        have F969 : Arv Z h959 d948 kd948 .byte (6 : Int32) [(.int 115), (.int 116), (.int 114), (.int 105), (.int 99), (.int 116)] (.int 0) := (gA948.ext E959)
        refine own_st (T' := T959) (g' := (mkF m 347 #[.val (.int p1), .val (.int p2), .val (.int p3), .val (.int p4), .val (.long p5), .second, .val (.int (p1 &&& (3 : Int32))), .val (.ref b716), .val (.int 4), .val (.ref y_936), .unset] [(.ref b959), (.int 4), (.ref b716)])) st959 ?_
        have F970 : Old Z n0 h959 := (Old.ext F956 E959)
        obtain ⟨_, _, ⟨T971, L971, k971, n971⟩, -, X971, ⟨Lc971, hQ971, l971, y971, z971⟩, st971⟩ := Jvm.LawKit.callS X959 hx (y := yN2) hown959 (mvT hZ959 (own_k hw 68 rfl)) (mvT hZ959 (own_k hw 69 rfl)) (mvT hZ959 (own_k hw 35 rfl)) (mvT hZ959 (own_k hw 70 rfl)) (by decide) (backOf (W := 0) (own_neq l Z a0 hw [] b716 (4 : Int32) b959 zc d959 kd959 (7 : Int32) [(.int 108), (.int 101), (.int 110), (.int 105), (.int 101), (.int 110), (.int 116)] h959 n0 Z961 F970 pr5 pr6 gE959 gC959 gV959 gA959 (show ¬ (4 : Int32) = (7 : Int32) from (by decide))) hZ959 (own_k hw 70 rfl) (own_k hw 35 rfl) (by decide) (by decide)) (g := (mkF m 347 #[.val (.int p1), .val (.int p2), .val (.int p3), .val (.int p4), .val (.long p5), .second, .val (.int (p1 &&& (3 : Int32))), .val (.ref b716), .val (.int 4), .val (.ref y_936), .unset] [(.ref b959), (.int 4), (.ref b716)])) rfl hml.symm  (argsL := [(.ref b716), (.int 4), (.ref b959)]) (rest := []) (lenOf own_pd15 rfl) rfl (own_w0 rfl rfl) (hb hby at_347) (fun _ _ => ⟨rfl, e959, (by decide : 11 + 0 ≤ 24), (by decide : 100 + 0 ≤ 3264)⟩)
        dsimp only [Pt.U, Pt.locs, Pt.cells, Pt.slots] at X971 l971 y971 z971 st971 hQ971
        subst l971 y971 z971
        obtain ⟨rfl, N971, e971⟩ := hQ971
        have N972 := Fr.app N958 N971
        refine own_st (T' := T971) (g' := (mkF m 350 #[.val (.int p1), .val (.int p2), .val (.int p3), .val (.int p4), .val (.long p5), .second, .val (.int (p1 &&& (3 : Int32))), .val (.ref b716), .val (.int 4), .val (.ref y_936), .unset] [(.int 0)])) st971 ?_
        refine own_st (T' := T971) (g' := (mkF m 366 #[.val (.int p1), .val (.int p2), .val (.int p3), .val (.int p4), .val (.long p5), .second, .val (.int (p1 &&& (3 : Int32))), .val (.ref b716), .val (.int 4), .val (.ref y_936), .val .null] [(.ref y_936)])) (fun _ kt => XS.ifYes X971.here hx rfl (pc0 := 350) (pc' := 361) rfl (hb hby at_350) rfl (XT.i0_eq_t rfl) (by decide) (by decide) (XS.aconstNull X971.here hx rfl (hb hby at_361) (XS.astore X971.here hx rfl (hb hby at_362) rfl rfl (l' := #[.val (.int p1), .val (.int p2), .val (.int p3), .val (.int p4), .val (.long p5), .second, .val (.int (p1 &&& (3 : Int32))), .val (.ref b716), .val (.int 4), .val (.ref y_936), .val .null]) rfl (XS.aload X971.here hx rfl (hb hby at_364) rfl rfl kt)))) ?_
        have F973 : Fld Z h959 y_936 "java/lang/String" "coder" "B" (.int 0) := (Fld.ext E959 (Fld.ext E948 P938))
        obtain ⟨_, _, ⟨T974, L974, k974, n974⟩, -, X974, ⟨Lc974, hQ974, l974, y974, z974⟩, st974⟩ := Jvm.LawKit.callS X971 hx (y := yN3) hown959 (mvT hZ959 (own_k hw 5 rfl)) (mvT hZ959 (own_k hw 6 rfl)) (mvT hZ959 (own_k hw 3 rfl)) (mvT hZ959 (own_k hw 7 rfl)) (by decide) (backOf (W := 0) (own_ofn l Z a0 hw [] va kv sc le zc sv lv ts tl k1 k2 y_936 t_936 ky_936 (4 : Int32) [(.int x0.toInt8.toInt32), (.int x1.toInt8.toInt32), (.int x2.toInt8.toInt32), (.int x3.toInt8.toInt32)] h959 n0 Z961 F970 pr2 pr3 pr4 pr5 pr6 pr7 pr8 pr9 pr10 pr11 pr12 pr13 pr14 pr15 pr16 pr17 pr18 pr19 ge947 F964 F973 F965 F966 (show ¬ (6 : Int32) = (4 : Int32) from (by decide)) (show ¬ (7 : Int32) = (4 : Int32) from (by decide))) hZ959 (own_k hw 7 rfl) (own_k hw 3 rfl) (by decide) (by decide)) (g := (mkF m 366 #[.val (.int p1), .val (.int p2), .val (.int p3), .val (.int p4), .val (.long p5), .second, .val (.int (p1 &&& (3 : Int32))), .val (.ref b716), .val (.int 4), .val (.ref y_936), .val .null] [(.ref y_936)])) rfl hml.symm  (argsL := [(.ref y_936)]) (rest := []) (lenOf own_pd13 rfl) rfl (own_w0 rfl rfl) (hb hby at_366) (fun _ _ => ⟨rfl, e971, (by decide : 11 + 1 ≤ 24), (by decide : 100 + 2 ≤ 3264)⟩)
        dsimp only [Pt.U, Pt.locs, Pt.cells, Pt.slots] at X974 l974 y974 z974 st974 hQ974
        subst l974 y974 z974
        obtain ⟨b_974, rfl, N974, K974_⟩ := hQ974
        have N975 := Fr.app N972 N974
        have CR976 : CHr Z own_EL s.vm h0 T959.vm T974.heap := CHr.trans CR960 (CHr.keep K974_ sf0 CR960.1)
        have Z977 : n0 ≤ T974.heap.size := Nat.le_trans Z961 K974_.1
        have hk977 := Nat.le_trans hk959 K974_.1
        refine own_st (T' := T974) (g' := (mkF m 369 #[.val (.int p1), .val (.int p2), .val (.int p3), .val (.int p4), .val (.long p5), .second, .val (.int (p1 &&& (3 : Int32))), .val (.ref b716), .val (.int 4), .val (.ref y_936), .val .null] [.null])) st974 ?_
        refine own_st (T' := T974) (g' := (mkF m 379 #[.val (.int p1), .val (.int p2), .val (.int p3), .val (.int p4), .val (.long p5), .second, .val (.int (p1 &&& (3 : Int32))), .val (.ref b716), .val (.int 4), .val (.ref y_936), .val .null] [(.int 1)])) (fun _ kt => XS.aload X974.here hx rfl (hb hby at_369) rfl rfl (XT.acmpNo X974.here hx rfl (hb hby at_371) rfl rfl rfl (XT.aa_ne_f rfl) (XS.iconst X974.here hx rfl (hb hby at_374) (XS.goto X974.here hx rfl (pc0 := 375) (pc' := 379) rfl (hb hby at_375) (by decide) (by decide) kt)))) ?_
        obtain ⟨fs, hr, hrun, hended, hE⟩ := Stand.leaveW X974 hS959 hk977 (v := some (.int 1)) (fun h => by rw [Bd.returns] at h; cases h)
        refine own_end (retN X974 hx (t := .boolean) Bd.returns (by simp) (hb hby at_379) hr) ⟨_, hrun, hended, _, _, rfl, ?_, (by rw [hh]; show CHr Z own_EL s.vm h0 T974.vm T974.heap; exact CHr.trans CR976 (CHv.at X974 hZ959 (own_EW hw) CR976.1)), ⟨hE.1, hE.2.1, hE.2.2.1, hE.2.2.2.mono (by decide) (by decide)⟩⟩
        show own_lawQ Z _ _ _ _ _ _ _ _ _ _ _ _ _ _ _ _ _ h0 n0 _ T974.heap _
        show own_lawQ Z _ _ _ _ _ _ _ _ _ _ _ _ _ _ _ _ _ h0 n0 _ T974.heap _
        exact ⟨rfl, N975⟩
      ·
        refine own_st (T' := T760) (g' := (mkF m 303 #[.val (.int p1), .val (.int p2), .val (.int p3), .val (.int p4), .val (.long p5), .second, .val (.int (p1 &&& (3 : Int32))), .val (.ref b716), .val (.int 5), .unset, .unset] [(.int 5), (.ref b716)])) (fun _ kt => XS.aload X760.here hx rfl (hb hby at_299) rfl rfl (XS.iload X760.here hx rfl (hb hby at_301) rfl kt)) ?_
        obtain ⟨_, _, ⟨T978, L978, k978, n978⟩, -, X978, hS978, hG978, ⟨Lc978, hQ978, l978, y978, z978, hC978⟩, st978⟩ := callSS X760 hx (y := yN4) hown760 (mvT hZ760 (own_k hw 33 rfl)) (mvT hZ760 (own_k hw 34 rfl)) (mvT hZ760 (own_k hw 35 rfl)) (mvT hZ760 (own_k hw 36 rfl)) (by decide) (backOfSH (W := 0) (own_s5 l Z a0 hw [] b716 k716 zc x0 x1 x2 x3 x4 x5 x6 x7 h760 n0 Z760 O760 pr5 pr6 F761 hx0 hx1 hx2 hx3 hx4 hx5 hx6 hx7) hZ760 (own_k hw 36 rfl) (own_k hw 35 rfl) (by decide) (by decide) (own_EW hw) CR760.1) (g := (mkF m 303 #[.val (.int p1), .val (.int p2), .val (.int p3), .val (.int p4), .val (.long p5), .second, .val (.int (p1 &&& (3 : Int32))), .val (.ref b716), .val (.int 5), .unset, .unset] [(.int 5), (.ref b716)])) rfl hml.symm  (argsL := [(.ref b716), (.int 5)]) (rest := []) (lenOf own_pd14 rfl) rfl (own_w0 rfl rfl) (hb hby at_303) (fun _ _ => ⟨rfl, e760, (by decide : 1 + 6 ≤ 24), (by decide : 8 + 32 ≤ 3264)⟩)
        dsimp only [Pt.U, Pt.locs, Pt.cells, Pt.slots] at X978 l978 y978 z978 st978 hQ978 hS978 hG978 hC978
        subst l978 y978 z978
        obtain ⟨y_978, t_978, ky_978, rfl, N978, K978_, P979, P980, P981, P982, P983⟩ := hQ978
        have N984 := Fr.app N760 N978
        obtain ⟨X985, hS985, hZ985, hown985⟩ := rebS hS760 (by rw [e760]; exact hk760) X978 hS978 hG978 hZ760 hown760
        have CR986 : CHr Z own_EL s.vm h0 T978.vm T978.heap := CHr.trans CR760 hC978
        have Z987 : n0 ≤ T978.heap.size := Nat.le_trans Z760 K978_.1
        have hk987 := Nat.le_trans hk760 K978_.1
        have hk985 : T978.heap.size ≤ T978.heap.size := Nat.le_refl _
        have ne988 : b716 ≠ y_978 := Nat.ne_of_lt (Nat.lt_of_lt_of_le F761.lt P983)
        have ge989 : n0 ≤ y_978 := Nat.le_trans Z760 P983
        refine own_tr (T' := T978) (g' := (mkF m 306 #[.val (.int p1), .val (.int p2), .val (.int p3), .val (.int p4), .val (.long p5), .second, .val (.int (p1 &&& (3 : Int32))), .val (.ref b716), .val (.int 5), .unset, .unset] [(.ref y_978)])) st978 ?_
        refine own_st (T' := T978) (g' := (mkF m 325 #[.val (.int p1), .val (.int p2), .val (.int p3), .val (.int p4), .val (.long p5), .second, .val (.int (p1 &&& (3 : Int32))), .val (.ref b716), .val (.int 5), .val (.ref y_978), .unset] [(.int 5), (.ref b716)])) (fun _ kt => XS.astore X985.here hx rfl (hb hby at_306) rfl rfl (l' := #[.val (.int p1), .val (.int p2), .val (.int p3), .val (.int p4), .val (.long p5), .second, .val (.int (p1 &&& (3 : Int32))), .val (.ref b716), .val (.int 5), .val (.ref y_978), .unset]) rfl (XS.iload X985.here hx rfl (hb hby at_308) rfl (XS.ifYes X985.here hx rfl (pc0 := 310) (pc' := 321) rfl (hb hby at_310) rfl (XT.i0_ne_t hc762) (by decide) (by decide) (XS.aload X985.here hx rfl (hb hby at_321) rfl rfl (XS.iload X985.here hx rfl (hb hby at_323) rfl kt))))) ?_
        obtain ⟨b990, T990, h990, k990, d990, kd990, X990, e990, E990, hS990, hk990, hZ990, hown990, gE990, gC990, gV990, gA990, la990, lb990, hC990, -, hsf990, st990⟩ := ldcCH X985 hx hZ985 hown985 (own_k hw 65 rfl) (own_wS hw) rfl hS985 hk985 (own_EW hw) (show ("com/example/lotd/lotd/ProcessingModeOfPinLaw", 21) ∈ own_EL by simp [own_EL]) CR986.1 (vs := [(.int 115), (.int 116), (.int 114), (.int 105), (.int 99), (.int 116)]) (z := (6 : Int32)) ⟨by decide +kernel, by first | rfl | decide +kernel⟩ (by decide) rfl (g := (mkF m 325 #[.val (.int p1), .val (.int p2), .val (.int p3), .val (.int p4), .val (.long p5), .second, .val (.int (p1 &&& (3 : Int32))), .val (.ref b716), .val (.int 5), .val (.ref y_978), .unset] [(.int 5), (.ref b716)])) rfl (hb hby at_325) (n := 24) (by decide +kernel) (by decide) (by decide) (by decide)
        have CR991 : CHr Z own_EL s.vm h0 T990.vm h990 := CHr.trans CR986 hC990
        have Z992 : n0 ≤ h990.size := Nat.le_trans Z987 E990.1
        have hk992 := Nat.le_trans hk985 E990.1
        have F993 : Arv Z h990 b716 k716 .char (8 : Int32) [(.int x0), (.int x1), (.int x2), (.int x3), (.int x4), (.int x5), (.int x6), (.int x7)] (.int 0) := ((Arv.keep F761 K978_ nin0).ext E990)
        have ne994 := hsf990 b716 (Safe.arv (State.Warmed39.alike hZ990) F993 (by decide))
        have F995 : Exa Z h990 y_978 "java/lang/String" := (Exa.ext E990 P979)
        have F996 : Fld Z h990 y_978 "java/lang/String" "value" "[B" (.ref t_978) := (Fld.ext E990 P981)
        have F997 : Arv Z h990 t_978 ky_978 .byte (5 : Int32) [(.int x0.toInt8.toInt32), (.int x1.toInt8.toInt32), (.int x2.toInt8.toInt32), (.int x3.toInt8.toInt32), (.int x4.toInt8.toInt32)] (.int 0) := (P982.ext E990)
        refine own_st (T' := T990) (g' := (mkF m 327 #[.val (.int p1), .val (.int p2), .val (.int p3), .val (.int p4), .val (.long p5), .second, .val (.int (p1 &&& (3 : Int32))), .val (.ref b716), .val (.int 5), .val (.ref y_978), .unset] [(.ref b990), (.int 5), (.ref b716)])) st990 ?_
        have F998 : Old Z n0 h990 := (Old.ext (Old.keep O760 K978_ all0) E990)
        obtain ⟨_, _, ⟨T999, L999, k999, n999⟩, -, X999, ⟨Lc999, hQ999, l999, y999, z999⟩, st999⟩ := Jvm.LawKit.callS X990 hx (y := yN2) hown990 (mvT hZ990 (own_k hw 68 rfl)) (mvT hZ990 (own_k hw 69 rfl)) (mvT hZ990 (own_k hw 35 rfl)) (mvT hZ990 (own_k hw 70 rfl)) (by decide) (backOf (W := 0) (own_neq l Z a0 hw [] b716 (5 : Int32) b990 zc d990 kd990 (6 : Int32) [(.int 115), (.int 116), (.int 114), (.int 105), (.int 99), (.int 116)] h990 n0 Z992 F998 pr5 pr6 gE990 gC990 gV990 gA990 (show ¬ (5 : Int32) = (6 : Int32) from (by decide))) hZ990 (own_k hw 70 rfl) (own_k hw 35 rfl) (by decide) (by decide)) (g := (mkF m 327 #[.val (.int p1), .val (.int p2), .val (.int p3), .val (.int p4), .val (.long p5), .second, .val (.int (p1 &&& (3 : Int32))), .val (.ref b716), .val (.int 5), .val (.ref y_978), .unset] [(.ref b990), (.int 5), (.ref b716)])) rfl hml.symm  (argsL := [(.ref b716), (.int 5), (.ref b990)]) (rest := []) (lenOf own_pd15 rfl) rfl (own_w0 rfl rfl) (hb hby at_327) (fun _ _ => ⟨rfl, e990, (by decide : 9 + 0 ≤ 24), (by decide : 68 + 0 ≤ 3264)⟩)
        dsimp only [Pt.U, Pt.locs, Pt.cells, Pt.slots] at X999 l999 y999 z999 st999 hQ999
        subst l999 y999 z999
        obtain ⟨rfl, N999, e999⟩ := hQ999
        have N1000 := Fr.app N984 N999
        refine own_st (T' := T999) (g' := (mkF m 330 #[.val (.int p1), .val (.int p2), .val (.int p3), .val (.int p4), .val (.long p5), .second, .val (.int (p1 &&& (3 : Int32))), .val (.ref b716), .val (.int 5), .val (.ref y_978), .unset] [(.int 0)])) st999 ?_
        refine own_st (T' := T999) (g' := (mkF m 345 #[.val (.int p1), .val (.int p2), .val (.int p3), .val (.int p4), .val (.long p5), .second, .val (.int (p1 &&& (3 : Int32))), .val (.ref b716), .val (.int 5), .val (.ref y_978), .unset] [(.int 5), (.ref b716)])) (fun _ kt => XS.ifYes X999.here hx rfl (pc0 := 330) (pc' := 341) rfl (hb hby at_330) rfl (XT.i0_eq_t rfl) (by decide) (by decide) (XS.aload X999.here hx rfl (hb hby at_341) rfl rfl (XS.iload X999.here hx rfl (hb hby at_343) rfl kt))) ?_
        obtain ⟨b1001, T1001, h1001, k1001, d1001, kd1001, X1001, e1001, E1001, hS1001, hk1001, hZ1001, hown1001, gE1001, gC1001, gV1001, gA1001, la1001, lb1001, hC1001, -, hsf1001, st1001⟩ := ldcCH X999 hx hZ990 hown990 (own_k hw 81 rfl) (own_wS hw) e999 hS990 hk990 (own_EW hw) (show ("com/example/lotd/lotd/ProcessingModeOfPinLaw", 27) ∈ own_EL by simp [own_EL]) CR991.1 (vs := [(.int 108), (.int 101), (.int 110), (.int 105), (.int 101), (.int 110), (.int 116)]) (z := (7 : Int32)) ⟨by decide +kernel, by first | rfl | decide +kernel⟩ (by decide) rfl (g := (mkF m 345 #[.val (.int p1), .val (.int p2), .val (.int p3), .val (.int p4), .val (.long p5), .second, .val (.int (p1 &&& (3 : Int32))), .val (.ref b716), .val (.int 5), .val (.ref y_978), .unset] [(.int 5), (.ref b716)])) rfl (hb hby at_345) (n := 28) (by decide +kernel) (by decide) (by decide) (by decide)
        have CR1002 : CHr Z own_EL s.vm h0 T1001.vm h1001 := CHr.trans CR991 hC1001
        have Z1003 : n0 ≤ h1001.size := Nat.le_trans Z992 E1001.1
        have hk1003 := Nat.le_trans hk990 E1001.1
        have F1004 : Arv Z h1001 b716 k716 .char (8 : Int32) [(.int x0), (.int x1), (.int x2), (.int x3), (.int x4), (.int x5), (.int x6), (.int x7)] (.int 0) := (F993.ext E1001)
        have ne1005 := hsf1001 b716 (Safe.arv (State.Warmed39.alike hZ1001) F1004 (by decide))
        have F1006 : Exa Z h1001 y_978 "java/lang/String" := (Exa.ext E1001 F995)
        have F1007 : Fld Z h1001 y_978 "java/lang/String" "value" "[B" (.ref t_978) := (Fld.ext E1001 F996)
        have F1008 : Arv Z h1001 t_978 ky_978 .byte (5 : Int32) [(.int x0.toInt8.toInt32), (.int x1.toInt8.toInt32), (.int x2.toInt8.toInt32), (.int x3.toInt8.toInt32), (.int x4.toInt8.toInt32)] (.int 0) := (F997.ext E1001)
        have F1009 : Exa Z h1001 b990 "java/lang/String" := (Exa.ext E1001 gE990)
        have F1010 : Fld Z h1001 b990 "java/lang/String" "value" "[B" (.ref d990) := (Fld.ext E1001 gV990)
        have F1011 : Arv Z h1001 d990 kd990 .byte (6 : Int32) [(.int 115), (.int 116), (.int 114), (.int 105), (.int 99), (.int 116)] (.int 0) := (gA990.ext E1001)
        refine own_st (T' := T1001) (g' := (mkF m 347 #[.val (.int p1), .val (.int p2), .val (.int p3), .val (.int p4), .val (.long p5), .second, .val (.int (p1 &&& (3 : Int32))), .val (.ref b716), .val (.int 5), .val (.ref y_978), .unset] [(.ref b1001), (.int 5), (.ref b716)])) st1001 ?_
        have F1012 : Old Z n0 h1001 := (Old.ext F998 E1001)
        obtain ⟨_, _, ⟨T1013, L1013, k1013, n1013⟩, -, X1013, ⟨Lc1013, hQ1013, l1013, y1013, z1013⟩, st1013⟩ := Jvm.LawKit.callS X1001 hx (y := yN2) hown1001 (mvT hZ1001 (own_k hw 68 rfl)) (mvT hZ1001 (own_k hw 69 rfl)) (mvT hZ1001 (own_k hw 35 rfl)) (mvT hZ1001 (own_k hw 70 rfl)) (by decide) (backOf (W := 0) (own_neq l Z a0 hw [] b716 (5 : Int32) b1001 zc d1001 kd1001 (7 : Int32) [(.int 108), (.int 101), (.int 110), (.int 105), (.int 101), (.int 110), (.int 116)] h1001 n0 Z1003 F1012 pr5 pr6 gE1001 gC1001 gV1001 gA1001 (show ¬ (5 : Int32) = (7 : Int32) from (by decide))) hZ1001 (own_k hw 70 rfl) (own_k hw 35 rfl) (by decide) (by decide)) (g := (mkF m 347 #[.val (.int p1), .val (.int p2), .val (.int p3), .val (.int p4), .val (.long p5), .second, .val (.int (p1 &&& (3 : Int32))), .val (.ref b716), .val (.int 5), .val (.ref y_978), .unset] [(.ref b1001), (.int 5), (.ref b716)])) rfl hml.symm  (argsL := [(.ref b716), (.int 5), (.ref b1001)]) (rest := []) (lenOf own_pd15 rfl) rfl (own_w0 rfl rfl) (hb hby at_347) (fun _ _ => ⟨rfl, e1001, (by decide : 11 + 0 ≤ 24), (by decide : 100 + 0 ≤ 3264)⟩)
        dsimp only [Pt.U, Pt.locs, Pt.cells, Pt.slots] at X1013 l1013 y1013 z1013 st1013 hQ1013
        subst l1013 y1013 z1013
        obtain ⟨rfl, N1013, e1013⟩ := hQ1013
        have N1014 := Fr.app N1000 N1013
        refine own_st (T' := T1013) (g' := (mkF m 350 #[.val (.int p1), .val (.int p2), .val (.int p3), .val (.int p4), .val (.long p5), .second, .val (.int (p1 &&& (3 : Int32))), .val (.ref b716), .val (.int 5), .val (.ref y_978), .unset] [(.int 0)])) st1013 ?_
        refine own_st (T' := T1013) (g' := (mkF m 366 #[.val (.int p1), .val (.int p2), .val (.int p3), .val (.int p4), .val (.long p5), .second, .val (.int (p1 &&& (3 : Int32))), .val (.ref b716), .val (.int 5), .val (.ref y_978), .val .null] [(.ref y_978)])) (fun _ kt => XS.ifYes X1013.here hx rfl (pc0 := 350) (pc' := 361) rfl (hb hby at_350) rfl (XT.i0_eq_t rfl) (by decide) (by decide) (XS.aconstNull X1013.here hx rfl (hb hby at_361) (XS.astore X1013.here hx rfl (hb hby at_362) rfl rfl (l' := #[.val (.int p1), .val (.int p2), .val (.int p3), .val (.int p4), .val (.long p5), .second, .val (.int (p1 &&& (3 : Int32))), .val (.ref b716), .val (.int 5), .val (.ref y_978), .val .null]) rfl (XS.aload X1013.here hx rfl (hb hby at_364) rfl rfl kt)))) ?_
        have F1015 : Fld Z h1001 y_978 "java/lang/String" "coder" "B" (.int 0) := (Fld.ext E1001 (Fld.ext E990 P980))
        obtain ⟨_, _, ⟨T1016, L1016, k1016, n1016⟩, -, X1016, ⟨Lc1016, hQ1016, l1016, y1016, z1016⟩, st1016⟩ := Jvm.LawKit.callS X1013 hx (y := yN3) hown1001 (mvT hZ1001 (own_k hw 5 rfl)) (mvT hZ1001 (own_k hw 6 rfl)) (mvT hZ1001 (own_k hw 3 rfl)) (mvT hZ1001 (own_k hw 7 rfl)) (by decide) (backOf (W := 0) (own_ofn l Z a0 hw [] va kv sc le zc sv lv ts tl k1 k2 y_978 t_978 ky_978 (5 : Int32) [(.int x0.toInt8.toInt32), (.int x1.toInt8.toInt32), (.int x2.toInt8.toInt32), (.int x3.toInt8.toInt32), (.int x4.toInt8.toInt32)] h1001 n0 Z1003 F1012 pr2 pr3 pr4 pr5 pr6 pr7 pr8 pr9 pr10 pr11 pr12 pr13 pr14 pr15 pr16 pr17 pr18 pr19 ge989 F1006 F1015 F1007 F1008 (show ¬ (6 : Int32) = (5 : Int32) from (by decide)) (show ¬ (7 : Int32) = (5 : Int32) from (by decide))) hZ1001 (own_k hw 7 rfl) (own_k hw 3 rfl) (by decide) (by decide)) (g := (mkF m 366 #[.val (.int p1), .val (.int p2), .val (.int p3), .val (.int p4), .val (.long p5), .second, .val (.int (p1 &&& (3 : Int32))), .val (.ref b716), .val (.int 5), .val (.ref y_978), .val .null] [(.ref y_978)])) rfl hml.symm  (argsL := [(.ref y_978)]) (rest := []) (lenOf own_pd13 rfl) rfl (own_w0 rfl rfl) (hb hby at_366) (fun _ _ => ⟨rfl, e1013, (by decide : 11 + 1 ≤ 24), (by decide : 100 + 2 ≤ 3264)⟩)
        dsimp only [Pt.U, Pt.locs, Pt.cells, Pt.slots] at X1016 l1016 y1016 z1016 st1016 hQ1016
        subst l1016 y1016 z1016
        obtain ⟨b_1016, rfl, N1016, K1016_⟩ := hQ1016
        have N1017 := Fr.app N1014 N1016
        have CR1018 : CHr Z own_EL s.vm h0 T1001.vm T1016.heap := CHr.trans CR1002 (CHr.keep K1016_ sf0 CR1002.1)
        have Z1019 : n0 ≤ T1016.heap.size := Nat.le_trans Z1003 K1016_.1
        have hk1019 := Nat.le_trans hk1001 K1016_.1
        refine own_st (T' := T1016) (g' := (mkF m 369 #[.val (.int p1), .val (.int p2), .val (.int p3), .val (.int p4), .val (.long p5), .second, .val (.int (p1 &&& (3 : Int32))), .val (.ref b716), .val (.int 5), .val (.ref y_978), .val .null] [.null])) st1016 ?_
        refine own_st (T' := T1016) (g' := (mkF m 379 #[.val (.int p1), .val (.int p2), .val (.int p3), .val (.int p4), .val (.long p5), .second, .val (.int (p1 &&& (3 : Int32))), .val (.ref b716), .val (.int 5), .val (.ref y_978), .val .null] [(.int 1)])) (fun _ kt => XS.aload X1016.here hx rfl (hb hby at_369) rfl rfl (XT.acmpNo X1016.here hx rfl (hb hby at_371) rfl rfl rfl (XT.aa_ne_f rfl) (XS.iconst X1016.here hx rfl (hb hby at_374) (XS.goto X1016.here hx rfl (pc0 := 375) (pc' := 379) rfl (hb hby at_375) (by decide) (by decide) kt)))) ?_
        obtain ⟨fs, hr, hrun, hended, hE⟩ := Stand.leaveW X1016 hS1001 hk1019 (v := some (.int 1)) (fun h => by rw [Bd.returns] at h; cases h)
        refine own_end (retN X1016 hx (t := .boolean) Bd.returns (by simp) (hb hby at_379) hr) ⟨_, hrun, hended, _, _, rfl, ?_, (by rw [hh]; show CHr Z own_EL s.vm h0 T1016.vm T1016.heap; exact CHr.trans CR1018 (CHv.at X1016 hZ1001 (own_EW hw) CR1018.1)), ⟨hE.1, hE.2.1, hE.2.2.1, hE.2.2.2.mono (by decide) (by decide)⟩⟩
        show own_lawQ Z _ _ _ _ _ _ _ _ _ _ _ _ _ _ _ _ _ h0 n0 _ T1016.heap _
        show own_lawQ Z _ _ _ _ _ _ _ _ _ _ _ _ _ _ _ _ _ h0 n0 _ T1016.heap _
        exact ⟨rfl, N1017⟩
      ·
        refine own_st (T' := T760) (g' := (mkF m 303 #[.val (.int p1), .val (.int p2), .val (.int p3), .val (.int p4), .val (.long p5), .second, .val (.int (p1 &&& (3 : Int32))), .val (.ref b716), .val (.int 6), .unset, .unset] [(.int 6), (.ref b716)])) (fun _ kt => XS.aload X760.here hx rfl (hb hby at_299) rfl rfl (XS.iload X760.here hx rfl (hb hby at_301) rfl kt)) ?_
        obtain ⟨_, _, ⟨T1020, L1020, k1020, n1020⟩, -, X1020, hS1020, hG1020, ⟨Lc1020, hQ1020, l1020, y1020, z1020, hC1020⟩, st1020⟩ := callSS X760 hx (y := yN4) hown760 (mvT hZ760 (own_k hw 33 rfl)) (mvT hZ760 (own_k hw 34 rfl)) (mvT hZ760 (own_k hw 35 rfl)) (mvT hZ760 (own_k hw 36 rfl)) (by decide) (backOfSH (W := 0) (own_s6 l Z a0 hw [] b716 k716 zc x0 x1 x2 x3 x4 x5 x6 x7 h760 n0 Z760 O760 pr5 pr6 F761 hx0 hx1 hx2 hx3 hx4 hx5 hx6 hx7) hZ760 (own_k hw 36 rfl) (own_k hw 35 rfl) (by decide) (by decide) (own_EW hw) CR760.1) (g := (mkF m 303 #[.val (.int p1), .val (.int p2), .val (.int p3), .val (.int p4), .val (.long p5), .second, .val (.int (p1 &&& (3 : Int32))), .val (.ref b716), .val (.int 6), .unset, .unset] [(.int 6), (.ref b716)])) rfl hml.symm  (argsL := [(.ref b716), (.int 6)]) (rest := []) (lenOf own_pd14 rfl) rfl (own_w0 rfl rfl) (hb hby at_303) (fun _ _ => ⟨rfl, e760, (by decide : 1 + 6 ≤ 24), (by decide : 8 + 32 ≤ 3264)⟩)
        dsimp only [Pt.U, Pt.locs, Pt.cells, Pt.slots] at X1020 l1020 y1020 z1020 st1020 hQ1020 hS1020 hG1020 hC1020
        subst l1020 y1020 z1020
        obtain ⟨y_1020, t_1020, ky_1020, rfl, N1020, K1020_, P1021, P1022, P1023, P1024, P1025⟩ := hQ1020
        have N1026 := Fr.app N760 N1020
        obtain ⟨X1027, hS1027, hZ1027, hown1027⟩ := rebS hS760 (by rw [e760]; exact hk760) X1020 hS1020 hG1020 hZ760 hown760
        have CR1028 : CHr Z own_EL s.vm h0 T1020.vm T1020.heap := CHr.trans CR760 hC1020
        have Z1029 : n0 ≤ T1020.heap.size := Nat.le_trans Z760 K1020_.1
        have hk1029 := Nat.le_trans hk760 K1020_.1
        have hk1027 : T1020.heap.size ≤ T1020.heap.size := Nat.le_refl _
        have ne1030 : b716 ≠ y_1020 := Nat.ne_of_lt (Nat.lt_of_lt_of_le F761.lt P1025)
        have ge1031 : n0 ≤ y_1020 := Nat.le_trans Z760 P1025
        refine own_tr (T' := T1020) (g' := (mkF m 306 #[.val (.int p1), .val (.int p2), .val (.int p3), .val (.int p4), .val (.long p5), .second, .val (.int (p1 &&& (3 : Int32))), .val (.ref b716), .val (.int 6), .unset, .unset] [(.ref y_1020)])) st1020 ?_
        refine own_st (T' := T1020) (g' := (mkF m 325 #[.val (.int p1), .val (.int p2), .val (.int p3), .val (.int p4), .val (.long p5), .second, .val (.int (p1 &&& (3 : Int32))), .val (.ref b716), .val (.int 6), .val (.ref y_1020), .unset] [(.int 6), (.ref b716)])) (fun _ kt => XS.astore X1027.here hx rfl (hb hby at_306) rfl rfl (l' := #[.val (.int p1), .val (.int p2), .val (.int p3), .val (.int p4), .val (.long p5), .second, .val (.int (p1 &&& (3 : Int32))), .val (.ref b716), .val (.int 6), .val (.ref y_1020), .unset]) rfl (XS.iload X1027.here hx rfl (hb hby at_308) rfl (XS.ifYes X1027.here hx rfl (pc0 := 310) (pc' := 321) rfl (hb hby at_310) rfl (XT.i0_ne_t hc762) (by decide) (by decide) (XS.aload X1027.here hx rfl (hb hby at_321) rfl rfl (XS.iload X1027.here hx rfl (hb hby at_323) rfl kt))))) ?_
        obtain ⟨b1032, T1032, h1032, k1032, d1032, kd1032, X1032, e1032, E1032, hS1032, hk1032, hZ1032, hown1032, gE1032, gC1032, gV1032, gA1032, la1032, lb1032, hC1032, -, hsf1032, st1032⟩ := ldcCH X1027 hx hZ1027 hown1027 (own_k hw 65 rfl) (own_wS hw) rfl hS1027 hk1027 (own_EW hw) (show ("com/example/lotd/lotd/ProcessingModeOfPinLaw", 21) ∈ own_EL by simp [own_EL]) CR1028.1 (vs := [(.int 115), (.int 116), (.int 114), (.int 105), (.int 99), (.int 116)]) (z := (6 : Int32)) ⟨by decide +kernel, by first | rfl | decide +kernel⟩ (by decide) rfl (g := (mkF m 325 #[.val (.int p1), .val (.int p2), .val (.int p3), .val (.int p4), .val (.long p5), .second, .val (.int (p1 &&& (3 : Int32))), .val (.ref b716), .val (.int 6), .val (.ref y_1020), .unset] [(.int 6), (.ref b716)])) rfl (hb hby at_325) (n := 24) (by decide +kernel) (by decide) (by decide) (by decide)
        have CR1033 : CHr Z own_EL s.vm h0 T1032.vm h1032 := CHr.trans CR1028 hC1032
        have Z1034 : n0 ≤ h1032.size := Nat.le_trans Z1029 E1032.1
        have hk1034 := Nat.le_trans hk1027 E1032.1
        have F1035 : Arv Z h1032 b716 k716 .char (8 : Int32) [(.int x0), (.int x1), (.int x2), (.int x3), (.int x4), (.int x5), (.int x6), (.int x7)] (.int 0) := ((Arv.keep F761 K1020_ nin0).ext E1032)
        have ne1036 := hsf1032 b716 (Safe.arv (State.Warmed39.alike hZ1032) F1035 (by decide))
        have F1037 : Exa Z h1032 y_1020 "java/lang/String" := (Exa.ext E1032 P1021)
        have F1038 : Fld Z h1032 y_1020 "java/lang/String" "value" "[B" (.ref t_1020) := (Fld.ext E1032 P1023)
        have F1039 : Arv Z h1032 t_1020 ky_1020 .byte (6 : Int32) [(.int x0.toInt8.toInt32), (.int x1.toInt8.toInt32), (.int x2.toInt8.toInt32), (.int x3.toInt8.toInt32), (.int x4.toInt8.toInt32), (.int x5.toInt8.toInt32)] (.int 0) := (P1024.ext E1032)
        refine own_st (T' := T1032) (g' := (mkF m 327 #[.val (.int p1), .val (.int p2), .val (.int p3), .val (.int p4), .val (.long p5), .second, .val (.int (p1 &&& (3 : Int32))), .val (.ref b716), .val (.int 6), .val (.ref y_1020), .unset] [(.ref b1032), (.int 6), (.ref b716)])) st1032 ?_
        have F1040 : Old Z n0 h1032 := (Old.ext (Old.keep O760 K1020_ all0) E1032)
        obtain ⟨_, _, ⟨T1041, L1041, k1041, n1041⟩, -, X1041, ⟨Lc1041, hQ1041, l1041, y1041, z1041⟩, st1041⟩ := Jvm.LawKit.callS X1032 hx (y := yN2) hown1032 (mvT hZ1032 (own_k hw 68 rfl)) (mvT hZ1032 (own_k hw 69 rfl)) (mvT hZ1032 (own_k hw 35 rfl)) (mvT hZ1032 (own_k hw 70 rfl)) (by decide) (backOf (W := 0) (own_eq6 l Z a0 hw [] b716 k716 b1032 zc fmt d1032 kd1032 x0 x1 x2 x3 x4 x5 x6 x7 h1032 n0 Z1034 F1040 pr5 pr6 pr21 pr22 F1035 gE1032 gC1032 gV1032 gA1032) hZ1032 (own_k hw 70 rfl) (own_k hw 35 rfl) (by decide) (by decide)) (g := (mkF m 327 #[.val (.int p1), .val (.int p2), .val (.int p3), .val (.int p4), .val (.long p5), .second, .val (.int (p1 &&& (3 : Int32))), .val (.ref b716), .val (.int 6), .val (.ref y_1020), .unset] [(.ref b1032), (.int 6), (.ref b716)])) rfl hml.symm  (argsL := [(.ref b716), (.int 6), (.ref b1032)]) (rest := []) (lenOf own_pd15 rfl) rfl (own_w0 rfl rfl) (hb hby at_327) (fun _ _ => ⟨rfl, e1032, (by decide : 9 + 0 ≤ 24), (by decide : 68 + 0 ≤ 3264)⟩)
        dsimp only [Pt.U, Pt.locs, Pt.cells, Pt.slots] at X1041 l1041 y1041 z1041 st1041 hQ1041
        subst l1041 y1041 z1041
        obtain ⟨rfl, N1041, e1041⟩ := hQ1041
        have N1042 := Fr.app N1026 N1041
        refine own_st (T' := T1041) (g' := (mkF m 330 #[.val (.int p1), .val (.int p2), .val (.int p3), .val (.int p4), .val (.long p5), .second, .val (.int (p1 &&& (3 : Int32))), .val (.ref b716), .val (.int 6), .val (.ref y_1020), .unset] [(.int (own_m6 x0 x1 x2 x3 x4 x5))])) st1041 ?_
        by_cases hc1043 : (own_m6 x0 x1 x2 x3 x4 x5) = 0
        ·
          refine own_st (T' := T1041) (g' := (mkF m 345 #[.val (.int p1), .val (.int p2), .val (.int p3), .val (.int p4), .val (.long p5), .second, .val (.int (p1 &&& (3 : Int32))), .val (.ref b716), .val (.int 6), .val (.ref y_1020), .unset] [(.int 6), (.ref b716)])) (fun _ kt => XS.ifYes X1041.here hx rfl (pc0 := 330) (pc' := 341) rfl (hb hby at_330) rfl (XT.i0_eq_t hc1043) (by decide) (by decide) (XS.aload X1041.here hx rfl (hb hby at_341) rfl rfl (XS.iload X1041.here hx rfl (hb hby at_343) rfl kt))) ?_
          obtain ⟨b1044, T1044, h1044, k1044, d1044, kd1044, X1044, e1044, E1044, hS1044, hk1044, hZ1044, hown1044, gE1044, gC1044, gV1044, gA1044, la1044, lb1044, hC1044, -, hsf1044, st1044⟩ := ldcCH X1041 hx hZ1032 hown1032 (own_k hw 81 rfl) (own_wS hw) e1041 hS1032 hk1032 (own_EW hw) (show ("com/example/lotd/lotd/ProcessingModeOfPinLaw", 27) ∈ own_EL by simp [own_EL]) CR1033.1 (vs := [(.int 108), (.int 101), (.int 110), (.int 105), (.int 101), (.int 110), (.int 116)]) (z := (7 : Int32)) ⟨by decide +kernel, by first | rfl | decide +kernel⟩ (by decide) rfl (g := (mkF m 345 #[.val (.int p1), .val (.int p2), .val (.int p3), .val (.int p4), .val (.long p5), .second, .val (.int (p1 &&& (3 : Int32))), .val (.ref b716), .val (.int 6), .val (.ref y_1020), .unset] [(.int 6), (.ref b716)])) rfl (hb hby at_345) (n := 28) (by decide +kernel) (by decide) (by decide) (by decide)
          have CR1045 : CHr Z own_EL s.vm h0 T1044.vm h1044 := CHr.trans CR1033 hC1044
          have Z1046 : n0 ≤ h1044.size := Nat.le_trans Z1034 E1044.1
          have hk1046 := Nat.le_trans hk1032 E1044.1
          have F1047 : Arv Z h1044 b716 k716 .char (8 : Int32) [(.int x0), (.int x1), (.int x2), (.int x3), (.int x4), (.int x5), (.int x6), (.int x7)] (.int 0) := (F1035.ext E1044)
          have ne1048 := hsf1044 b716 (Safe.arv (State.Warmed39.alike hZ1044) F1047 (by decide))
          have F1049 : Exa Z h1044 y_1020 "java/lang/String" := (Exa.ext E1044 F1037)
          have F1050 : Fld Z h1044 y_1020 "java/lang/String" "value" "[B" (.ref t_1020) := (Fld.ext E1044 F1038)
          have F1051 : Arv Z h1044 t_1020 ky_1020 .byte (6 : Int32) [(.int x0.toInt8.toInt32), (.int x1.toInt8.toInt32), (.int x2.toInt8.toInt32), (.int x3.toInt8.toInt32), (.int x4.toInt8.toInt32), (.int x5.toInt8.toInt32)] (.int 0) := (F1039.ext E1044)
          have F1052 : Exa Z h1044 b1032 "java/lang/String" := (Exa.ext E1044 gE1032)
          have F1053 : Fld Z h1044 b1032 "java/lang/String" "value" "[B" (.ref d1032) := (Fld.ext E1044 gV1032)
          have F1054 : Arv Z h1044 d1032 kd1032 .byte (6 : Int32) [(.int 115), (.int 116), (.int 114), (.int 105), (.int 99), (.int 116)] (.int 0) := (gA1032.ext E1044)
          refine own_st (T' := T1044) (g' := (mkF m 347 #[.val (.int p1), .val (.int p2), .val (.int p3), .val (.int p4), .val (.long p5), .second, .val (.int (p1 &&& (3 : Int32))), .val (.ref b716), .val (.int 6), .val (.ref y_1020), .unset] [(.ref b1044), (.int 6), (.ref b716)])) st1044 ?_
          have F1055 : Old Z n0 h1044 := (Old.ext F1040 E1044)
          obtain ⟨_, _, ⟨T1056, L1056, k1056, n1056⟩, -, X1056, ⟨Lc1056, hQ1056, l1056, y1056, z1056⟩, st1056⟩ := Jvm.LawKit.callS X1044 hx (y := yN2) hown1044 (mvT hZ1044 (own_k hw 68 rfl)) (mvT hZ1044 (own_k hw 69 rfl)) (mvT hZ1044 (own_k hw 35 rfl)) (mvT hZ1044 (own_k hw 70 rfl)) (by decide) (backOf (W := 0) (own_neq l Z a0 hw [] b716 (6 : Int32) b1044 zc d1044 kd1044 (7 : Int32) [(.int 108), (.int 101), (.int 110), (.int 105), (.int 101), (.int 110), (.int 116)] h1044 n0 Z1046 F1055 pr5 pr6 gE1044 gC1044 gV1044 gA1044 (show ¬ (6 : Int32) = (7 : Int32) from (by decide))) hZ1044 (own_k hw 70 rfl) (own_k hw 35 rfl) (by decide) (by decide)) (g := (mkF m 347 #[.val (.int p1), .val (.int p2), .val (.int p3), .val (.int p4), .val (.long p5), .second, .val (.int (p1 &&& (3 : Int32))), .val (.ref b716), .val (.int 6), .val (.ref y_1020), .unset] [(.ref b1044), (.int 6), (.ref b716)])) rfl hml.symm  (argsL := [(.ref b716), (.int 6), (.ref b1044)]) (rest := []) (lenOf own_pd15 rfl) rfl (own_w0 rfl rfl) (hb hby at_347) (fun _ _ => ⟨rfl, e1044, (by decide : 11 + 0 ≤ 24), (by decide : 100 + 0 ≤ 3264)⟩)
          dsimp only [Pt.U, Pt.locs, Pt.cells, Pt.slots] at X1056 l1056 y1056 z1056 st1056 hQ1056
          subst l1056 y1056 z1056
          obtain ⟨rfl, N1056, e1056⟩ := hQ1056
          have N1057 := Fr.app N1042 N1056
          refine own_st (T' := T1056) (g' := (mkF m 350 #[.val (.int p1), .val (.int p2), .val (.int p3), .val (.int p4), .val (.long p5), .second, .val (.int (p1 &&& (3 : Int32))), .val (.ref b716), .val (.int 6), .val (.ref y_1020), .unset] [(.int 0)])) st1056 ?_
          refine own_st (T' := T1056) (g' := (mkF m 366 #[.val (.int p1), .val (.int p2), .val (.int p3), .val (.int p4), .val (.long p5), .second, .val (.int (p1 &&& (3 : Int32))), .val (.ref b716), .val (.int 6), .val (.ref y_1020), .val .null] [(.ref y_1020)])) (fun _ kt => XS.ifYes X1056.here hx rfl (pc0 := 350) (pc' := 361) rfl (hb hby at_350) rfl (XT.i0_eq_t rfl) (by decide) (by decide) (XS.aconstNull X1056.here hx rfl (hb hby at_361) (XS.astore X1056.here hx rfl (hb hby at_362) rfl rfl (l' := #[.val (.int p1), .val (.int p2), .val (.int p3), .val (.int p4), .val (.long p5), .second, .val (.int (p1 &&& (3 : Int32))), .val (.ref b716), .val (.int 6), .val (.ref y_1020), .val .null]) rfl (XS.aload X1056.here hx rfl (hb hby at_364) rfl rfl kt)))) ?_
          have F1058 : Fld Z h1044 y_1020 "java/lang/String" "coder" "B" (.int 0) := (Fld.ext E1044 (Fld.ext E1032 P1022))
          obtain ⟨_, _, ⟨T1059, L1059, k1059, n1059⟩, -, X1059, ⟨Lc1059, hQ1059, l1059, y1059, z1059⟩, st1059⟩ := Jvm.LawKit.callS X1056 hx (y := yN3) hown1044 (mvT hZ1044 (own_k hw 5 rfl)) (mvT hZ1044 (own_k hw 6 rfl)) (mvT hZ1044 (own_k hw 3 rfl)) (mvT hZ1044 (own_k hw 7 rfl)) (by decide) (backOf (W := 0) (own_of6f l Z a0 hw [] va kv sc le zc sv lv ts tl k1 k2 y_1020 t_1020 ky_1020 x0 x1 x2 x3 x4 x5 h1044 n0 Z1046 F1055 pr2 pr3 pr4 pr5 pr6 pr7 pr8 pr9 pr10 pr11 pr12 pr13 pr14 pr15 pr16 pr17 pr18 pr19 ge1031 F1049 F1058 F1050 F1051 hx0 hx1 hx2 hx3 hx4 hx5 hc1043) hZ1044 (own_k hw 7 rfl) (own_k hw 3 rfl) (by decide) (by decide)) (g := (mkF m 366 #[.val (.int p1), .val (.int p2), .val (.int p3), .val (.int p4), .val (.long p5), .second, .val (.int (p1 &&& (3 : Int32))), .val (.ref b716), .val (.int 6), .val (.ref y_1020), .val .null] [(.ref y_1020)])) rfl hml.symm  (argsL := [(.ref y_1020)]) (rest := []) (lenOf own_pd13 rfl) rfl (own_w0 rfl rfl) (hb hby at_366) (fun _ _ => ⟨rfl, e1056, (by decide : 11 + 1 ≤ 24), (by decide : 100 + 2 ≤ 3264)⟩)
          dsimp only [Pt.U, Pt.locs, Pt.cells, Pt.slots] at X1059 l1059 y1059 z1059 st1059 hQ1059
          subst l1059 y1059 z1059
          obtain ⟨b_1059, rfl, N1059, K1059_⟩ := hQ1059
          have N1060 := Fr.app N1057 N1059
          have CR1061 : CHr Z own_EL s.vm h0 T1044.vm T1059.heap := CHr.trans CR1045 (CHr.keep K1059_ sf0 CR1045.1)
          have Z1062 : n0 ≤ T1059.heap.size := Nat.le_trans Z1046 K1059_.1
          have hk1062 := Nat.le_trans hk1044 K1059_.1
          refine own_st (T' := T1059) (g' := (mkF m 369 #[.val (.int p1), .val (.int p2), .val (.int p3), .val (.int p4), .val (.long p5), .second, .val (.int (p1 &&& (3 : Int32))), .val (.ref b716), .val (.int 6), .val (.ref y_1020), .val .null] [.null])) st1059 ?_
          refine own_st (T' := T1059) (g' := (mkF m 379 #[.val (.int p1), .val (.int p2), .val (.int p3), .val (.int p4), .val (.long p5), .second, .val (.int (p1 &&& (3 : Int32))), .val (.ref b716), .val (.int 6), .val (.ref y_1020), .val .null] [(.int 1)])) (fun _ kt => XS.aload X1059.here hx rfl (hb hby at_369) rfl rfl (XT.acmpNo X1059.here hx rfl (hb hby at_371) rfl rfl rfl (XT.aa_ne_f rfl) (XS.iconst X1059.here hx rfl (hb hby at_374) (XS.goto X1059.here hx rfl (pc0 := 375) (pc' := 379) rfl (hb hby at_375) (by decide) (by decide) kt)))) ?_
          obtain ⟨fs, hr, hrun, hended, hE⟩ := Stand.leaveW X1059 hS1044 hk1062 (v := some (.int 1)) (fun h => by rw [Bd.returns] at h; cases h)
          refine own_end (retN X1059 hx (t := .boolean) Bd.returns (by simp) (hb hby at_379) hr) ⟨_, hrun, hended, _, _, rfl, ?_, (by rw [hh]; show CHr Z own_EL s.vm h0 T1059.vm T1059.heap; exact CHr.trans CR1061 (CHv.at X1059 hZ1044 (own_EW hw) CR1061.1)), ⟨hE.1, hE.2.1, hE.2.2.1, hE.2.2.2.mono (by decide) (by decide)⟩⟩
          show own_lawQ Z _ _ _ _ _ _ _ _ _ _ _ _ _ _ _ _ _ h0 n0 _ T1059.heap _
          show own_lawQ Z _ _ _ _ _ _ _ _ _ _ _ _ _ _ _ _ _ h0 n0 _ T1059.heap _
          exact ⟨rfl, N1060⟩
        ·
          refine own_st (T' := T1041) (g' := (mkF m 333 #[.val (.int p1), .val (.int p2), .val (.int p3), .val (.int p4), .val (.long p5), .second, .val (.int (p1 &&& (3 : Int32))), .val (.ref b716), .val (.int 6), .val (.ref y_1020), .unset] [])) (fun _ kt => XS.ifNo X1041.here hx rfl (hb hby at_330) rfl (XT.i0_eq_f hc1043) kt) ?_
          obtain ⟨T1063, X1063, e1063, st1063⟩ := getS2 X1041 hx hZ1032 hown1032 (host := "") (Or.inl (own_k hw 2 rfl)) Via.refl e1041 (Sta.ext F1040.2 pr7) (g := (mkF m 333 #[.val (.int p1), .val (.int p2), .val (.int p3), .val (.int p4), .val (.long p5), .second, .val (.int (p1 &&& (3 : Int32))), .val (.ref b716), .val (.int 6), .val (.ref y_1020), .unset] [])) rfl (hb hby at_333)
          refine own_st (T' := T1063) (g' := (mkF m 336 #[.val (.int p1), .val (.int p2), .val (.int p3), .val (.int p4), .val (.long p5), .second, .val (.int (p1 &&& (3 : Int32))), .val (.ref b716), .val (.int 6), .val (.ref y_1020), .unset] [(.ref sc)])) st1063 ?_
          refine own_st (T' := T1063) (g' := (mkF m 366 #[.val (.int p1), .val (.int p2), .val (.int p3), .val (.int p4), .val (.long p5), .second, .val (.int (p1 &&& (3 : Int32))), .val (.ref b716), .val (.int 6), .val (.ref y_1020), .val (.ref sc)] [(.ref y_1020)])) (fun _ kt => XS.astore X1063.here hx rfl (hb hby at_336) rfl rfl (l' := #[.val (.int p1), .val (.int p2), .val (.int p3), .val (.int p4), .val (.long p5), .second, .val (.int (p1 &&& (3 : Int32))), .val (.ref b716), .val (.int 6), .val (.ref y_1020), .val (.ref sc)]) rfl (XS.goto X1063.here hx rfl (pc0 := 338) (pc' := 364) rfl (hb hby at_338) (by decide) (by decide) (XS.aload X1063.here hx rfl (hb hby at_364) rfl rfl kt))) ?_
          have F1064 : Fld Z h1032 y_1020 "java/lang/String" "coder" "B" (.int 0) := (Fld.ext E1032 P1022)
          obtain ⟨_, _, ⟨T1065, L1065, k1065, n1065⟩, -, X1065, ⟨Lc1065, hQ1065, l1065, y1065, z1065⟩, st1065⟩ := Jvm.LawKit.callS X1063 hx (y := yN3) hown1032 (mvT hZ1032 (own_k hw 5 rfl)) (mvT hZ1032 (own_k hw 6 rfl)) (mvT hZ1032 (own_k hw 3 rfl)) (mvT hZ1032 (own_k hw 7 rfl)) (by decide) (backOf (W := 0) (own_of6t l Z a0 hw [] va kv sc le zc sv lv ts tl k1 k2 y_1020 t_1020 ky_1020 x0 x1 x2 x3 x4 x5 h1032 n0 Z1034 F1040 pr2 pr3 pr4 pr5 pr6 pr7 pr8 pr9 pr10 pr11 pr12 pr13 pr14 pr15 pr16 pr17 pr18 pr19 ge1031 F1037 F1064 F1038 F1039 hx0 hx1 hx2 hx3 hx4 hx5 hc1043) hZ1032 (own_k hw 7 rfl) (own_k hw 3 rfl) (by decide) (by decide)) (g := (mkF m 366 #[.val (.int p1), .val (.int p2), .val (.int p3), .val (.int p4), .val (.long p5), .second, .val (.int (p1 &&& (3 : Int32))), .val (.ref b716), .val (.int 6), .val (.ref y_1020), .val (.ref sc)] [(.ref y_1020)])) rfl hml.symm  (argsL := [(.ref y_1020)]) (rest := []) (lenOf own_pd13 rfl) rfl (own_w0 rfl rfl) (hb hby at_366) (fun _ _ => ⟨rfl, e1063, (by decide : 9 + 1 ≤ 24), (by decide : 68 + 2 ≤ 3264)⟩)
          dsimp only [Pt.U, Pt.locs, Pt.cells, Pt.slots] at X1065 l1065 y1065 z1065 st1065 hQ1065
          subst l1065 y1065 z1065
          obtain ⟨b_1065, rfl, N1065, K1065_⟩ := hQ1065
          have N1066 := Fr.app N1042 N1065
          have CR1067 : CHr Z own_EL s.vm h0 T1032.vm T1065.heap := CHr.trans CR1033 (CHr.keep K1065_ sf0 CR1033.1)
          have Z1068 : n0 ≤ T1065.heap.size := Nat.le_trans Z1034 K1065_.1
          have hk1068 := Nat.le_trans hk1032 K1065_.1
          refine own_st (T' := T1065) (g' := (mkF m 369 #[.val (.int p1), .val (.int p2), .val (.int p3), .val (.int p4), .val (.long p5), .second, .val (.int (p1 &&& (3 : Int32))), .val (.ref b716), .val (.int 6), .val (.ref y_1020), .val (.ref sc)] [(.ref sc)])) st1065 ?_
          refine own_st (T' := T1065) (g' := (mkF m 379 #[.val (.int p1), .val (.int p2), .val (.int p3), .val (.int p4), .val (.long p5), .second, .val (.int (p1 &&& (3 : Int32))), .val (.ref b716), .val (.int 6), .val (.ref y_1020), .val (.ref sc)] [(.int 1)])) (fun _ kt => XS.aload X1065.here hx rfl (hb hby at_369) rfl rfl (XT.acmpNo X1065.here hx rfl (hb hby at_371) rfl rfl rfl (XT.aa_ne_f rfl) (XS.iconst X1065.here hx rfl (hb hby at_374) (XS.goto X1065.here hx rfl (pc0 := 375) (pc' := 379) rfl (hb hby at_375) (by decide) (by decide) kt)))) ?_
          obtain ⟨fs, hr, hrun, hended, hE⟩ := Stand.leaveW X1065 hS1032 hk1068 (v := some (.int 1)) (fun h => by rw [Bd.returns] at h; cases h)
          refine own_end (retN X1065 hx (t := .boolean) Bd.returns (by simp) (hb hby at_379) hr) ⟨_, hrun, hended, _, _, rfl, ?_, (by rw [hh]; show CHr Z own_EL s.vm h0 T1065.vm T1065.heap; exact CHr.trans CR1067 (CHv.at X1065 hZ1032 (own_EW hw) CR1067.1)), ⟨hE.1, hE.2.1, hE.2.2.1, hE.2.2.2.mono (by decide) (by decide)⟩⟩
          show own_lawQ Z _ _ _ _ _ _ _ _ _ _ _ _ _ _ _ _ _ h0 n0 _ T1065.heap _
          show own_lawQ Z _ _ _ _ _ _ _ _ _ _ _ _ _ _ _ _ _ h0 n0 _ T1065.heap _
          exact ⟨rfl, N1066⟩
      ·
        refine own_st (T' := T760) (g' := (mkF m 303 #[.val (.int p1), .val (.int p2), .val (.int p3), .val (.int p4), .val (.long p5), .second, .val (.int (p1 &&& (3 : Int32))), .val (.ref b716), .val (.int 7), .unset, .unset] [(.int 7), (.ref b716)])) (fun _ kt => XS.aload X760.here hx rfl (hb hby at_299) rfl rfl (XS.iload X760.here hx rfl (hb hby at_301) rfl kt)) ?_
        obtain ⟨_, _, ⟨T1069, L1069, k1069, n1069⟩, -, X1069, hS1069, hG1069, ⟨Lc1069, hQ1069, l1069, y1069, z1069, hC1069⟩, st1069⟩ := callSS X760 hx (y := yN4) hown760 (mvT hZ760 (own_k hw 33 rfl)) (mvT hZ760 (own_k hw 34 rfl)) (mvT hZ760 (own_k hw 35 rfl)) (mvT hZ760 (own_k hw 36 rfl)) (by decide) (backOfSH (W := 0) (own_s7 l Z a0 hw [] b716 k716 zc x0 x1 x2 x3 x4 x5 x6 x7 h760 n0 Z760 O760 pr5 pr6 F761 hx0 hx1 hx2 hx3 hx4 hx5 hx6 hx7) hZ760 (own_k hw 36 rfl) (own_k hw 35 rfl) (by decide) (by decide) (own_EW hw) CR760.1) (g := (mkF m 303 #[.val (.int p1), .val (.int p2), .val (.int p3), .val (.int p4), .val (.long p5), .second, .val (.int (p1 &&& (3 : Int32))), .val (.ref b716), .val (.int 7), .unset, .unset] [(.int 7), (.ref b716)])) rfl hml.symm  (argsL := [(.ref b716), (.int 7)]) (rest := []) (lenOf own_pd14 rfl) rfl (own_w0 rfl rfl) (hb hby at_303) (fun _ _ => ⟨rfl, e760, (by decide : 1 + 6 ≤ 24), (by decide : 8 + 32 ≤ 3264)⟩)
        dsimp only [Pt.U, Pt.locs, Pt.cells, Pt.slots] at X1069 l1069 y1069 z1069 st1069 hQ1069 hS1069 hG1069 hC1069
        subst l1069 y1069 z1069
        obtain ⟨y_1069, t_1069, ky_1069, rfl, N1069, K1069_, P1070, P1071, P1072, P1073, P1074⟩ := hQ1069
        have N1075 := Fr.app N760 N1069
        obtain ⟨X1076, hS1076, hZ1076, hown1076⟩ := rebS hS760 (by rw [e760]; exact hk760) X1069 hS1069 hG1069 hZ760 hown760
        have CR1077 : CHr Z own_EL s.vm h0 T1069.vm T1069.heap := CHr.trans CR760 hC1069
        have Z1078 : n0 ≤ T1069.heap.size := Nat.le_trans Z760 K1069_.1
        have hk1078 := Nat.le_trans hk760 K1069_.1
        have hk1076 : T1069.heap.size ≤ T1069.heap.size := Nat.le_refl _
        have ne1079 : b716 ≠ y_1069 := Nat.ne_of_lt (Nat.lt_of_lt_of_le F761.lt P1074)
        have ge1080 : n0 ≤ y_1069 := Nat.le_trans Z760 P1074
        refine own_tr (T' := T1069) (g' := (mkF m 306 #[.val (.int p1), .val (.int p2), .val (.int p3), .val (.int p4), .val (.long p5), .second, .val (.int (p1 &&& (3 : Int32))), .val (.ref b716), .val (.int 7), .unset, .unset] [(.ref y_1069)])) st1069 ?_
        refine own_st (T' := T1069) (g' := (mkF m 325 #[.val (.int p1), .val (.int p2), .val (.int p3), .val (.int p4), .val (.long p5), .second, .val (.int (p1 &&& (3 : Int32))), .val (.ref b716), .val (.int 7), .val (.ref y_1069), .unset] [(.int 7), (.ref b716)])) (fun _ kt => XS.astore X1076.here hx rfl (hb hby at_306) rfl rfl (l' := #[.val (.int p1), .val (.int p2), .val (.int p3), .val (.int p4), .val (.long p5), .second, .val (.int (p1 &&& (3 : Int32))), .val (.ref b716), .val (.int 7), .val (.ref y_1069), .unset]) rfl (XS.iload X1076.here hx rfl (hb hby at_308) rfl (XS.ifYes X1076.here hx rfl (pc0 := 310) (pc' := 321) rfl (hb hby at_310) rfl (XT.i0_ne_t hc762) (by decide) (by decide) (XS.aload X1076.here hx rfl (hb hby at_321) rfl rfl (XS.iload X1076.here hx rfl (hb hby at_323) rfl kt))))) ?_
        obtain ⟨b1081, T1081, h1081, k1081, d1081, kd1081, X1081, e1081, E1081, hS1081, hk1081, hZ1081, hown1081, gE1081, gC1081, gV1081, gA1081, la1081, lb1081, hC1081, -, hsf1081, st1081⟩ := ldcCH X1076 hx hZ1076 hown1076 (own_k hw 65 rfl) (own_wS hw) rfl hS1076 hk1076 (own_EW hw) (show ("com/example/lotd/lotd/ProcessingModeOfPinLaw", 21) ∈ own_EL by simp [own_EL]) CR1077.1 (vs := [(.int 115), (.int 116), (.int 114), (.int 105), (.int 99), (.int 116)]) (z := (6 : Int32)) ⟨by decide +kernel, by first | rfl | decide +kernel⟩ (by decide) rfl (g := (mkF m 325 #[.val (.int p1), .val (.int p2), .val (.int p3), .val (.int p4), .val (.long p5), .second, .val (.int (p1 &&& (3 : Int32))), .val (.ref b716), .val (.int 7), .val (.ref y_1069), .unset] [(.int 7), (.ref b716)])) rfl (hb hby at_325) (n := 24) (by decide +kernel) (by decide) (by decide) (by decide)
        have CR1082 : CHr Z own_EL s.vm h0 T1081.vm h1081 := CHr.trans CR1077 hC1081
        have Z1083 : n0 ≤ h1081.size := Nat.le_trans Z1078 E1081.1
        have hk1083 := Nat.le_trans hk1076 E1081.1
        have F1084 : Arv Z h1081 b716 k716 .char (8 : Int32) [(.int x0), (.int x1), (.int x2), (.int x3), (.int x4), (.int x5), (.int x6), (.int x7)] (.int 0) := ((Arv.keep F761 K1069_ nin0).ext E1081)
        have ne1085 := hsf1081 b716 (Safe.arv (State.Warmed39.alike hZ1081) F1084 (by decide))
        have F1086 : Exa Z h1081 y_1069 "java/lang/String" := (Exa.ext E1081 P1070)
        have F1087 : Fld Z h1081 y_1069 "java/lang/String" "value" "[B" (.ref t_1069) := (Fld.ext E1081 P1072)
        have F1088 : Arv Z h1081 t_1069 ky_1069 .byte (7 : Int32) [(.int x0.toInt8.toInt32), (.int x1.toInt8.toInt32), (.int x2.toInt8.toInt32), (.int x3.toInt8.toInt32), (.int x4.toInt8.toInt32), (.int x5.toInt8.toInt32), (.int x6.toInt8.toInt32)] (.int 0) := (P1073.ext E1081)
        refine own_st (T' := T1081) (g' := (mkF m 327 #[.val (.int p1), .val (.int p2), .val (.int p3), .val (.int p4), .val (.long p5), .second, .val (.int (p1 &&& (3 : Int32))), .val (.ref b716), .val (.int 7), .val (.ref y_1069), .unset] [(.ref b1081), (.int 7), (.ref b716)])) st1081 ?_
        have F1089 : Old Z n0 h1081 := (Old.ext (Old.keep O760 K1069_ all0) E1081)
        obtain ⟨_, _, ⟨T1090, L1090, k1090, n1090⟩, -, X1090, ⟨Lc1090, hQ1090, l1090, y1090, z1090⟩, st1090⟩ := Jvm.LawKit.callS X1081 hx (y := yN2) hown1081 (mvT hZ1081 (own_k hw 68 rfl)) (mvT hZ1081 (own_k hw 69 rfl)) (mvT hZ1081 (own_k hw 35 rfl)) (mvT hZ1081 (own_k hw 70 rfl)) (by decide) (backOf (W := 0) (own_neq l Z a0 hw [] b716 (7 : Int32) b1081 zc d1081 kd1081 (6 : Int32) [(.int 115), (.int 116), (.int 114), (.int 105), (.int 99), (.int 116)] h1081 n0 Z1083 F1089 pr5 pr6 gE1081 gC1081 gV1081 gA1081 (show ¬ (7 : Int32) = (6 : Int32) from (by decide))) hZ1081 (own_k hw 70 rfl) (own_k hw 35 rfl) (by decide) (by decide)) (g := (mkF m 327 #[.val (.int p1), .val (.int p2), .val (.int p3), .val (.int p4), .val (.long p5), .second, .val (.int (p1 &&& (3 : Int32))), .val (.ref b716), .val (.int 7), .val (.ref y_1069), .unset] [(.ref b1081), (.int 7), (.ref b716)])) rfl hml.symm  (argsL := [(.ref b716), (.int 7), (.ref b1081)]) (rest := []) (lenOf own_pd15 rfl) rfl (own_w0 rfl rfl) (hb hby at_327) (fun _ _ => ⟨rfl, e1081, (by decide : 9 + 0 ≤ 24), (by decide : 68 + 0 ≤ 3264)⟩)
        dsimp only [Pt.U, Pt.locs, Pt.cells, Pt.slots] at X1090 l1090 y1090 z1090 st1090 hQ1090
        subst l1090 y1090 z1090
        obtain ⟨rfl, N1090, e1090⟩ := hQ1090
        have N1091 := Fr.app N1075 N1090
        refine own_st (T' := T1090) (g' := (mkF m 330 #[.val (.int p1), .val (.int p2), .val (.int p3), .val (.int p4), .val (.long p5), .second, .val (.int (p1 &&& (3 : Int32))), .val (.ref b716), .val (.int 7), .val (.ref y_1069), .unset] [(.int 0)])) st1090 ?_
        refine own_st (T' := T1090) (g' := (mkF m 345 #[.val (.int p1), .val (.int p2), .val (.int p3), .val (.int p4), .val (.long p5), .second, .val (.int (p1 &&& (3 : Int32))), .val (.ref b716), .val (.int 7), .val (.ref y_1069), .unset] [(.int 7), (.ref b716)])) (fun _ kt => XS.ifYes X1090.here hx rfl (pc0 := 330) (pc' := 341) rfl (hb hby at_330) rfl (XT.i0_eq_t rfl) (by decide) (by decide) (XS.aload X1090.here hx rfl (hb hby at_341) rfl rfl (XS.iload X1090.here hx rfl (hb hby at_343) rfl kt))) ?_
        obtain ⟨b1092, T1092, h1092, k1092, d1092, kd1092, X1092, e1092, E1092, hS1092, hk1092, hZ1092, hown1092, gE1092, gC1092, gV1092, gA1092, la1092, lb1092, hC1092, -, hsf1092, st1092⟩ := ldcCH X1090 hx hZ1081 hown1081 (own_k hw 81 rfl) (own_wS hw) e1090 hS1081 hk1081 (own_EW hw) (show ("com/example/lotd/lotd/ProcessingModeOfPinLaw", 27) ∈ own_EL by simp [own_EL]) CR1082.1 (vs := [(.int 108), (.int 101), (.int 110), (.int 105), (.int 101), (.int 110), (.int 116)]) (z := (7 : Int32)) ⟨by decide +kernel, by first | rfl | decide +kernel⟩ (by decide) rfl (g := (mkF m 345 #[.val (.int p1), .val (.int p2), .val (.int p3), .val (.int p4), .val (.long p5), .second, .val (.int (p1 &&& (3 : Int32))), .val (.ref b716), .val (.int 7), .val (.ref y_1069), .unset] [(.int 7), (.ref b716)])) rfl (hb hby at_345) (n := 28) (by decide +kernel) (by decide) (by decide) (by decide)
        have CR1093 : CHr Z own_EL s.vm h0 T1092.vm h1092 := CHr.trans CR1082 hC1092
        have Z1094 : n0 ≤ h1092.size := Nat.le_trans Z1083 E1092.1
        have hk1094 := Nat.le_trans hk1081 E1092.1
        have F1095 : Arv Z h1092 b716 k716 .char (8 : Int32) [(.int x0), (.int x1), (.int x2), (.int x3), (.int x4), (.int x5), (.int x6), (.int x7)] (.int 0) := (F1084.ext E1092)
        have ne1096 := hsf1092 b716 (Safe.arv (State.Warmed39.alike hZ1092) F1095 (by decide))
        have F1097 : Exa Z h1092 y_1069 "java/lang/String" := (Exa.ext E1092 F1086)
        have F1098 : Fld Z h1092 y_1069 "java/lang/String" "value" "[B" (.ref t_1069) := (Fld.ext E1092 F1087)
        have F1099 : Arv Z h1092 t_1069 ky_1069 .byte (7 : Int32) [(.int x0.toInt8.toInt32), (.int x1.toInt8.toInt32), (.int x2.toInt8.toInt32), (.int x3.toInt8.toInt32), (.int x4.toInt8.toInt32), (.int x5.toInt8.toInt32), (.int x6.toInt8.toInt32)] (.int 0) := (F1088.ext E1092)
        have F1100 : Exa Z h1092 b1081 "java/lang/String" := (Exa.ext E1092 gE1081)
        have F1101 : Fld Z h1092 b1081 "java/lang/String" "value" "[B" (.ref d1081) := (Fld.ext E1092 gV1081)
        have F1102 : Arv Z h1092 d1081 kd1081 .byte (6 : Int32) [(.int 115), (.int 116), (.int 114), (.int 105), (.int 99), (.int 116)] (.int 0) := (gA1081.ext E1092)
        refine own_st (T' := T1092) (g' := (mkF m 347 #[.val (.int p1), .val (.int p2), .val (.int p3), .val (.int p4), .val (.long p5), .second, .val (.int (p1 &&& (3 : Int32))), .val (.ref b716), .val (.int 7), .val (.ref y_1069), .unset] [(.ref b1092), (.int 7), (.ref b716)])) st1092 ?_
        have F1103 : Old Z n0 h1092 := (Old.ext F1089 E1092)
        obtain ⟨_, _, ⟨T1104, L1104, k1104, n1104⟩, -, X1104, ⟨Lc1104, hQ1104, l1104, y1104, z1104⟩, st1104⟩ := Jvm.LawKit.callS X1092 hx (y := yN2) hown1092 (mvT hZ1092 (own_k hw 68 rfl)) (mvT hZ1092 (own_k hw 69 rfl)) (mvT hZ1092 (own_k hw 35 rfl)) (mvT hZ1092 (own_k hw 70 rfl)) (by decide) (backOf (W := 0) (own_eq7 l Z a0 hw [] b716 k716 b1092 zc fmt d1092 kd1092 x0 x1 x2 x3 x4 x5 x6 x7 h1092 n0 Z1094 F1103 pr5 pr6 pr21 pr22 F1095 gE1092 gC1092 gV1092 gA1092) hZ1092 (own_k hw 70 rfl) (own_k hw 35 rfl) (by decide) (by decide)) (g := (mkF m 347 #[.val (.int p1), .val (.int p2), .val (.int p3), .val (.int p4), .val (.long p5), .second, .val (.int (p1 &&& (3 : Int32))), .val (.ref b716), .val (.int 7), .val (.ref y_1069), .unset] [(.ref b1092), (.int 7), (.ref b716)])) rfl hml.symm  (argsL := [(.ref b716), (.int 7), (.ref b1092)]) (rest := []) (lenOf own_pd15 rfl) rfl (own_w0 rfl rfl) (hb hby at_347) (fun _ _ => ⟨rfl, e1092, (by decide : 11 + 0 ≤ 24), (by decide : 100 + 0 ≤ 3264)⟩)
        dsimp only [Pt.U, Pt.locs, Pt.cells, Pt.slots] at X1104 l1104 y1104 z1104 st1104 hQ1104
        subst l1104 y1104 z1104
        obtain ⟨rfl, N1104, e1104⟩ := hQ1104
        have N1105 := Fr.app N1091 N1104
        refine own_st (T' := T1104) (g' := (mkF m 350 #[.val (.int p1), .val (.int p2), .val (.int p3), .val (.int p4), .val (.long p5), .second, .val (.int (p1 &&& (3 : Int32))), .val (.ref b716), .val (.int 7), .val (.ref y_1069), .unset] [(.int (own_m7 x0 x1 x2 x3 x4 x5 x6))])) st1104 ?_
        by_cases hc1106 : (own_m7 x0 x1 x2 x3 x4 x5 x6) = 0
        ·
          refine own_st (T' := T1104) (g' := (mkF m 366 #[.val (.int p1), .val (.int p2), .val (.int p3), .val (.int p4), .val (.long p5), .second, .val (.int (p1 &&& (3 : Int32))), .val (.ref b716), .val (.int 7), .val (.ref y_1069), .val .null] [(.ref y_1069)])) (fun _ kt => XS.ifYes X1104.here hx rfl (pc0 := 350) (pc' := 361) rfl (hb hby at_350) rfl (XT.i0_eq_t hc1106) (by decide) (by decide) (XS.aconstNull X1104.here hx rfl (hb hby at_361) (XS.astore X1104.here hx rfl (hb hby at_362) rfl rfl (l' := #[.val (.int p1), .val (.int p2), .val (.int p3), .val (.int p4), .val (.long p5), .second, .val (.int (p1 &&& (3 : Int32))), .val (.ref b716), .val (.int 7), .val (.ref y_1069), .val .null]) rfl (XS.aload X1104.here hx rfl (hb hby at_364) rfl rfl kt)))) ?_
          have F1107 : Fld Z h1092 y_1069 "java/lang/String" "coder" "B" (.int 0) := (Fld.ext E1092 (Fld.ext E1081 P1071))
          obtain ⟨_, _, ⟨T1108, L1108, k1108, n1108⟩, -, X1108, ⟨Lc1108, hQ1108, l1108, y1108, z1108⟩, st1108⟩ := Jvm.LawKit.callS X1104 hx (y := yN3) hown1092 (mvT hZ1092 (own_k hw 5 rfl)) (mvT hZ1092 (own_k hw 6 rfl)) (mvT hZ1092 (own_k hw 3 rfl)) (mvT hZ1092 (own_k hw 7 rfl)) (by decide) (backOf (W := 0) (own_of7f l Z a0 hw [] va kv sc le zc sv lv ts tl k1 k2 y_1069 t_1069 ky_1069 x0 x1 x2 x3 x4 x5 x6 h1092 n0 Z1094 F1103 pr2 pr3 pr4 pr5 pr6 pr7 pr8 pr9 pr10 pr11 pr12 pr13 pr14 pr15 pr16 pr17 pr18 pr19 ge1080 F1097 F1107 F1098 F1099 hx0 hx1 hx2 hx3 hx4 hx5 hx6 hc1106) hZ1092 (own_k hw 7 rfl) (own_k hw 3 rfl) (by decide) (by decide)) (g := (mkF m 366 #[.val (.int p1), .val (.int p2), .val (.int p3), .val (.int p4), .val (.long p5), .second, .val (.int (p1 &&& (3 : Int32))), .val (.ref b716), .val (.int 7), .val (.ref y_1069), .val .null] [(.ref y_1069)])) rfl hml.symm  (argsL := [(.ref y_1069)]) (rest := []) (lenOf own_pd13 rfl) rfl (own_w0 rfl rfl) (hb hby at_366) (fun _ _ => ⟨rfl, e1104, (by decide : 11 + 1 ≤ 24), (by decide : 100 + 2 ≤ 3264)⟩)
          dsimp only [Pt.U, Pt.locs, Pt.cells, Pt.slots] at X1108 l1108 y1108 z1108 st1108 hQ1108
          subst l1108 y1108 z1108
          obtain ⟨b_1108, rfl, N1108, K1108_⟩ := hQ1108
          have N1109 := Fr.app N1105 N1108
          have CR1110 : CHr Z own_EL s.vm h0 T1092.vm T1108.heap := CHr.trans CR1093 (CHr.keep K1108_ sf0 CR1093.1)
          have Z1111 : n0 ≤ T1108.heap.size := Nat.le_trans Z1094 K1108_.1
          have hk1111 := Nat.le_trans hk1092 K1108_.1
          refine own_st (T' := T1108) (g' := (mkF m 369 #[.val (.int p1), .val (.int p2), .val (.int p3), .val (.int p4), .val (.long p5), .second, .val (.int (p1 &&& (3 : Int32))), .val (.ref b716), .val (.int 7), .val (.ref y_1069), .val .null] [.null])) st1108 ?_
          refine own_st (T' := T1108) (g' := (mkF m 379 #[.val (.int p1), .val (.int p2), .val (.int p3), .val (.int p4), .val (.long p5), .second, .val (.int (p1 &&& (3 : Int32))), .val (.ref b716), .val (.int 7), .val (.ref y_1069), .val .null] [(.int 1)])) (fun _ kt => XS.aload X1108.here hx rfl (hb hby at_369) rfl rfl (XT.acmpNo X1108.here hx rfl (hb hby at_371) rfl rfl rfl (XT.aa_ne_f rfl) (XS.iconst X1108.here hx rfl (hb hby at_374) (XS.goto X1108.here hx rfl (pc0 := 375) (pc' := 379) rfl (hb hby at_375) (by decide) (by decide) kt)))) ?_
          obtain ⟨fs, hr, hrun, hended, hE⟩ := Stand.leaveW X1108 hS1092 hk1111 (v := some (.int 1)) (fun h => by rw [Bd.returns] at h; cases h)
          refine own_end (retN X1108 hx (t := .boolean) Bd.returns (by simp) (hb hby at_379) hr) ⟨_, hrun, hended, _, _, rfl, ?_, (by rw [hh]; show CHr Z own_EL s.vm h0 T1108.vm T1108.heap; exact CHr.trans CR1110 (CHv.at X1108 hZ1092 (own_EW hw) CR1110.1)), ⟨hE.1, hE.2.1, hE.2.2.1, hE.2.2.2.mono (by decide) (by decide)⟩⟩
          show own_lawQ Z _ _ _ _ _ _ _ _ _ _ _ _ _ _ _ _ _ h0 n0 _ T1108.heap _
          show own_lawQ Z _ _ _ _ _ _ _ _ _ _ _ _ _ _ _ _ _ h0 n0 _ T1108.heap _
          exact ⟨rfl, N1109⟩
        ·
          refine own_st (T' := T1104) (g' := (mkF m 353 #[.val (.int p1), .val (.int p2), .val (.int p3), .val (.int p4), .val (.long p5), .second, .val (.int (p1 &&& (3 : Int32))), .val (.ref b716), .val (.int 7), .val (.ref y_1069), .unset] [])) (fun _ kt => XS.ifNo X1104.here hx rfl (hb hby at_350) rfl (XT.i0_eq_f hc1106) kt) ?_
          obtain ⟨T1112, X1112, e1112, st1112⟩ := getS2 X1104 hx hZ1092 hown1092 (host := "") (Or.inl (own_k hw 109 rfl)) Via.refl e1104 (Sta.ext F1103.2 pr20) (g := (mkF m 353 #[.val (.int p1), .val (.int p2), .val (.int p3), .val (.int p4), .val (.long p5), .second, .val (.int (p1 &&& (3 : Int32))), .val (.ref b716), .val (.int 7), .val (.ref y_1069), .unset] [])) rfl (hb hby at_353)
          refine own_st (T' := T1112) (g' := (mkF m 356 #[.val (.int p1), .val (.int p2), .val (.int p3), .val (.int p4), .val (.long p5), .second, .val (.int (p1 &&& (3 : Int32))), .val (.ref b716), .val (.int 7), .val (.ref y_1069), .unset] [(.ref le)])) st1112 ?_
          refine own_st (T' := T1112) (g' := (mkF m 366 #[.val (.int p1), .val (.int p2), .val (.int p3), .val (.int p4), .val (.long p5), .second, .val (.int (p1 &&& (3 : Int32))), .val (.ref b716), .val (.int 7), .val (.ref y_1069), .val (.ref le)] [(.ref y_1069)])) (fun _ kt => XS.astore X1112.here hx rfl (hb hby at_356) rfl rfl (l' := #[.val (.int p1), .val (.int p2), .val (.int p3), .val (.int p4), .val (.long p5), .second, .val (.int (p1 &&& (3 : Int32))), .val (.ref b716), .val (.int 7), .val (.ref y_1069), .val (.ref le)]) rfl (XS.goto X1112.here hx rfl (pc0 := 358) (pc' := 364) rfl (hb hby at_358) (by decide) (by decide) (XS.aload X1112.here hx rfl (hb hby at_364) rfl rfl kt))) ?_
          have F1113 : Fld Z h1092 y_1069 "java/lang/String" "coder" "B" (.int 0) := (Fld.ext E1092 (Fld.ext E1081 P1071))
          obtain ⟨_, _, ⟨T1114, L1114, k1114, n1114⟩, -, X1114, ⟨Lc1114, hQ1114, l1114, y1114, z1114⟩, st1114⟩ := Jvm.LawKit.callS X1112 hx (y := yN3) hown1092 (mvT hZ1092 (own_k hw 5 rfl)) (mvT hZ1092 (own_k hw 6 rfl)) (mvT hZ1092 (own_k hw 3 rfl)) (mvT hZ1092 (own_k hw 7 rfl)) (by decide) (backOf (W := 0) (own_of7t l Z a0 hw [] va kv sc le zc sv lv ts tl k1 k2 y_1069 t_1069 ky_1069 x0 x1 x2 x3 x4 x5 x6 h1092 n0 Z1094 F1103 pr2 pr3 pr4 pr5 pr6 pr7 pr8 pr9 pr10 pr11 pr12 pr13 pr14 pr15 pr16 pr17 pr18 pr19 ge1080 F1097 F1113 F1098 F1099 hx0 hx1 hx2 hx3 hx4 hx5 hx6 hc1106) hZ1092 (own_k hw 7 rfl) (own_k hw 3 rfl) (by decide) (by decide)) (g := (mkF m 366 #[.val (.int p1), .val (.int p2), .val (.int p3), .val (.int p4), .val (.long p5), .second, .val (.int (p1 &&& (3 : Int32))), .val (.ref b716), .val (.int 7), .val (.ref y_1069), .val (.ref le)] [(.ref y_1069)])) rfl hml.symm  (argsL := [(.ref y_1069)]) (rest := []) (lenOf own_pd13 rfl) rfl (own_w0 rfl rfl) (hb hby at_366) (fun _ _ => ⟨rfl, e1112, (by decide : 11 + 1 ≤ 24), (by decide : 100 + 2 ≤ 3264)⟩)
          dsimp only [Pt.U, Pt.locs, Pt.cells, Pt.slots] at X1114 l1114 y1114 z1114 st1114 hQ1114
          subst l1114 y1114 z1114
          obtain ⟨b_1114, rfl, N1114, K1114_⟩ := hQ1114
          have N1115 := Fr.app N1105 N1114
          have CR1116 : CHr Z own_EL s.vm h0 T1092.vm T1114.heap := CHr.trans CR1093 (CHr.keep K1114_ sf0 CR1093.1)
          have Z1117 : n0 ≤ T1114.heap.size := Nat.le_trans Z1094 K1114_.1
          have hk1117 := Nat.le_trans hk1092 K1114_.1
          refine own_st (T' := T1114) (g' := (mkF m 369 #[.val (.int p1), .val (.int p2), .val (.int p3), .val (.int p4), .val (.long p5), .second, .val (.int (p1 &&& (3 : Int32))), .val (.ref b716), .val (.int 7), .val (.ref y_1069), .val (.ref le)] [(.ref le)])) st1114 ?_
          refine own_st (T' := T1114) (g' := (mkF m 379 #[.val (.int p1), .val (.int p2), .val (.int p3), .val (.int p4), .val (.long p5), .second, .val (.int (p1 &&& (3 : Int32))), .val (.ref b716), .val (.int 7), .val (.ref y_1069), .val (.ref le)] [(.int 1)])) (fun _ kt => XS.aload X1114.here hx rfl (hb hby at_369) rfl rfl (XT.acmpNo X1114.here hx rfl (hb hby at_371) rfl rfl rfl (XT.aa_ne_f rfl) (XS.iconst X1114.here hx rfl (hb hby at_374) (XS.goto X1114.here hx rfl (pc0 := 375) (pc' := 379) rfl (hb hby at_375) (by decide) (by decide) kt)))) ?_
          obtain ⟨fs, hr, hrun, hended, hE⟩ := Stand.leaveW X1114 hS1092 hk1117 (v := some (.int 1)) (fun h => by rw [Bd.returns] at h; cases h)
          refine own_end (retN X1114 hx (t := .boolean) Bd.returns (by simp) (hb hby at_379) hr) ⟨_, hrun, hended, _, _, rfl, ?_, (by rw [hh]; show CHr Z own_EL s.vm h0 T1114.vm T1114.heap; exact CHr.trans CR1116 (CHv.at X1114 hZ1092 (own_EW hw) CR1116.1)), ⟨hE.1, hE.2.1, hE.2.2.1, hE.2.2.2.mono (by decide) (by decide)⟩⟩
          show own_lawQ Z _ _ _ _ _ _ _ _ _ _ _ _ _ _ _ _ _ h0 n0 _ T1114.heap _
          show own_lawQ Z _ _ _ _ _ _ _ _ _ _ _ _ _ _ _ _ _ h0 n0 _ T1114.heap _
          exact ⟨rfl, N1115⟩
  ·
    refine own_st (T' := T755) (g' := (mkF m 133 #[.val (.int p1), .val (.int p2), .val (.int p3), .val (.int p4), .val (.long p5), .second, .val (.int (p1 &&& (3 : Int32))), .val (.ref b716), .unset, .unset, .unset] [(.int 1), (.int (p1 &&& (3 : Int32)))])) (fun _ kt => XS.iload X755.here hx rfl (hb hby at_130) rfl (XS.iconst X755.here hx rfl (hb hby at_132) kt)) ?_
    by_cases hc1118 : (p1 &&& (3 : Int32)) = (1 : Int32)
    ·
      refine own_st (T' := T755) (g' := (mkF m 141 #[.val (.int p1), .val (.int p2), .val (.int p3), .val (.int p4), .val (.long p5), .second, .val (.int (p1 &&& (3 : Int32))), .val (.ref b716), .unset, .unset, .unset] [(.int 115), (.int 0), (.ref b716)])) (fun _ kt => XS.icmpNo X755.here hx rfl (hb hby at_133) rfl (XT.ii_ne_f hc1118) (XS.aload X755.here hx rfl (hb hby at_136) rfl rfl (XS.iconst X755.here hx rfl (hb hby at_138) (XS.bipush X755.here hx rfl (hb hby at_139) kt)))) ?_
      obtain ⟨T1119, h1119, X1119, e1119, W1119, V1119, st1119⟩ := own_cst X755 hx hZ e755 F759 ⟨by decide, by decide⟩ (i := 0) rfl (by simp) (y := (115 : Int32)) rfl (g := (mkF m 141 #[.val (.int p1), .val (.int p2), .val (.int p3), .val (.int p4), .val (.long p5), .second, .val (.int (p1 &&& (3 : Int32))), .val (.ref b716), .unset, .unset, .unset] [(.int 115), (.int 0), (.ref b716)])) rfl rfl (hb hby at_141)
      have N1119 := Fr.snoc X1119 N755 ge_b716
      have F1120 : Safe Z own_EL s.vm h755 b716 := (Safe.wr W755 F756 CR752.1 F756)
      have CR1121 : CHr Z own_EL s.vm h0 s.vm h1119 := CHr.trans CR757 (CHr.wr W1119 F1120 CR757.1)
      have Z1122 : n0 ≤ h1119.size := Nat.le_trans Z758 (Nat.le_of_eq (Wr.size W1119).symm)
      have hk1122 := Nat.le_trans hk758 (Nat.le_of_eq (Wr.size W1119).symm)
      have F1123 : Arv Z h1119 b716 k716 .char (8 : Int32) [(.int 115), (.int c1), (.int c2), (.int c3), (.int c4), (.int c5), (.int c6), (.int c7)] (.int 0) := V1119
      refine own_st (T' := T1119) (g' := (mkF m 142 #[.val (.int p1), .val (.int p2), .val (.int p3), .val (.int p4), .val (.long p5), .second, .val (.int (p1 &&& (3 : Int32))), .val (.ref b716), .unset, .unset, .unset] [])) st1119 ?_
      refine own_st (T' := T1119) (g' := (mkF m 147 #[.val (.int p1), .val (.int p2), .val (.int p3), .val (.int p4), .val (.long p5), .second, .val (.int (p1 &&& (3 : Int32))), .val (.ref b716), .unset, .unset, .unset] [(.int 116), (.int 1), (.ref b716)])) (fun _ kt => XS.aload X1119.here hx rfl (hb hby at_142) rfl rfl (XS.iconst X1119.here hx rfl (hb hby at_144) (XS.bipush X1119.here hx rfl (hb hby at_145) kt))) ?_
      obtain ⟨T1124, h1124, X1124, e1124, W1124, V1124, st1124⟩ := own_cst X1119 hx hZ e1119 F1123 ⟨by decide, by decide⟩ (i := 1) rfl (by simp) (y := (116 : Int32)) rfl (g := (mkF m 147 #[.val (.int p1), .val (.int p2), .val (.int p3), .val (.int p4), .val (.long p5), .second, .val (.int (p1 &&& (3 : Int32))), .val (.ref b716), .unset, .unset, .unset] [(.int 116), (.int 1), (.ref b716)])) rfl rfl (hb hby at_147)
      have N1124 := Fr.snoc X1124 N1119 ge_b716
      have F1125 : Safe Z own_EL s.vm h1119 b716 := (Safe.wr W1119 F1120 CR757.1 F1120)
      have CR1126 : CHr Z own_EL s.vm h0 s.vm h1124 := CHr.trans CR1121 (CHr.wr W1124 F1125 CR1121.1)
      have Z1127 : n0 ≤ h1124.size := Nat.le_trans Z1122 (Nat.le_of_eq (Wr.size W1124).symm)
      have hk1127 := Nat.le_trans hk1122 (Nat.le_of_eq (Wr.size W1124).symm)
      have F1128 : Arv Z h1124 b716 k716 .char (8 : Int32) [(.int 115), (.int 116), (.int c2), (.int c3), (.int c4), (.int c5), (.int c6), (.int c7)] (.int 0) := V1124
      refine own_st (T' := T1124) (g' := (mkF m 148 #[.val (.int p1), .val (.int p2), .val (.int p3), .val (.int p4), .val (.long p5), .second, .val (.int (p1 &&& (3 : Int32))), .val (.ref b716), .unset, .unset, .unset] [])) st1124 ?_
      refine own_st (T' := T1124) (g' := (mkF m 153 #[.val (.int p1), .val (.int p2), .val (.int p3), .val (.int p4), .val (.long p5), .second, .val (.int (p1 &&& (3 : Int32))), .val (.ref b716), .unset, .unset, .unset] [(.int 114), (.int 2), (.ref b716)])) (fun _ kt => XS.aload X1124.here hx rfl (hb hby at_148) rfl rfl (XS.iconst X1124.here hx rfl (hb hby at_150) (XS.bipush X1124.here hx rfl (hb hby at_151) kt))) ?_
      obtain ⟨T1129, h1129, X1129, e1129, W1129, V1129, st1129⟩ := own_cst X1124 hx hZ e1124 F1128 ⟨by decide, by decide⟩ (i := 2) rfl (by simp) (y := (114 : Int32)) rfl (g := (mkF m 153 #[.val (.int p1), .val (.int p2), .val (.int p3), .val (.int p4), .val (.long p5), .second, .val (.int (p1 &&& (3 : Int32))), .val (.ref b716), .unset, .unset, .unset] [(.int 114), (.int 2), (.ref b716)])) rfl rfl (hb hby at_153)
      have N1129 := Fr.snoc X1129 N1124 ge_b716
      have F1130 : Safe Z own_EL s.vm h1124 b716 := (Safe.wr W1124 F1125 CR1121.1 F1125)
      have CR1131 : CHr Z own_EL s.vm h0 s.vm h1129 := CHr.trans CR1126 (CHr.wr W1129 F1130 CR1126.1)
      have Z1132 : n0 ≤ h1129.size := Nat.le_trans Z1127 (Nat.le_of_eq (Wr.size W1129).symm)
      have hk1132 := Nat.le_trans hk1127 (Nat.le_of_eq (Wr.size W1129).symm)
      have F1133 : Arv Z h1129 b716 k716 .char (8 : Int32) [(.int 115), (.int 116), (.int 114), (.int c3), (.int c4), (.int c5), (.int c6), (.int c7)] (.int 0) := V1129
      refine own_st (T' := T1129) (g' := (mkF m 154 #[.val (.int p1), .val (.int p2), .val (.int p3), .val (.int p4), .val (.long p5), .second, .val (.int (p1 &&& (3 : Int32))), .val (.ref b716), .unset, .unset, .unset] [])) st1129 ?_
      refine own_st (T' := T1129) (g' := (mkF m 159 #[.val (.int p1), .val (.int p2), .val (.int p3), .val (.int p4), .val (.long p5), .second, .val (.int (p1 &&& (3 : Int32))), .val (.ref b716), .unset, .unset, .unset] [(.int 105), (.int 3), (.ref b716)])) (fun _ kt => XS.aload X1129.here hx rfl (hb hby at_154) rfl rfl (XS.iconst X1129.here hx rfl (hb hby at_156) (XS.bipush X1129.here hx rfl (hb hby at_157) kt))) ?_
      obtain ⟨T1134, h1134, X1134, e1134, W1134, V1134, st1134⟩ := own_cst X1129 hx hZ e1129 F1133 ⟨by decide, by decide⟩ (i := 3) rfl (by simp) (y := (105 : Int32)) rfl (g := (mkF m 159 #[.val (.int p1), .val (.int p2), .val (.int p3), .val (.int p4), .val (.long p5), .second, .val (.int (p1 &&& (3 : Int32))), .val (.ref b716), .unset, .unset, .unset] [(.int 105), (.int 3), (.ref b716)])) rfl rfl (hb hby at_159)
      have N1134 := Fr.snoc X1134 N1129 ge_b716
      have F1135 : Safe Z own_EL s.vm h1129 b716 := (Safe.wr W1129 F1130 CR1126.1 F1130)
      have CR1136 : CHr Z own_EL s.vm h0 s.vm h1134 := CHr.trans CR1131 (CHr.wr W1134 F1135 CR1131.1)
      have Z1137 : n0 ≤ h1134.size := Nat.le_trans Z1132 (Nat.le_of_eq (Wr.size W1134).symm)
      have hk1137 := Nat.le_trans hk1132 (Nat.le_of_eq (Wr.size W1134).symm)
      have F1138 : Arv Z h1134 b716 k716 .char (8 : Int32) [(.int 115), (.int 116), (.int 114), (.int 105), (.int c4), (.int c5), (.int c6), (.int c7)] (.int 0) := V1134
      refine own_st (T' := T1134) (g' := (mkF m 160 #[.val (.int p1), .val (.int p2), .val (.int p3), .val (.int p4), .val (.long p5), .second, .val (.int (p1 &&& (3 : Int32))), .val (.ref b716), .unset, .unset, .unset] [])) st1134 ?_
      refine own_st (T' := T1134) (g' := (mkF m 165 #[.val (.int p1), .val (.int p2), .val (.int p3), .val (.int p4), .val (.long p5), .second, .val (.int (p1 &&& (3 : Int32))), .val (.ref b716), .unset, .unset, .unset] [(.int 99), (.int 4), (.ref b716)])) (fun _ kt => XS.aload X1134.here hx rfl (hb hby at_160) rfl rfl (XS.iconst X1134.here hx rfl (hb hby at_162) (XS.bipush X1134.here hx rfl (hb hby at_163) kt))) ?_
      obtain ⟨T1139, h1139, X1139, e1139, W1139, V1139, st1139⟩ := own_cst X1134 hx hZ e1134 F1138 ⟨by decide, by decide⟩ (i := 4) rfl (by simp) (y := (99 : Int32)) rfl (g := (mkF m 165 #[.val (.int p1), .val (.int p2), .val (.int p3), .val (.int p4), .val (.long p5), .second, .val (.int (p1 &&& (3 : Int32))), .val (.ref b716), .unset, .unset, .unset] [(.int 99), (.int 4), (.ref b716)])) rfl rfl (hb hby at_165)
      have N1139 := Fr.snoc X1139 N1134 ge_b716
      have F1140 : Safe Z own_EL s.vm h1134 b716 := (Safe.wr W1134 F1135 CR1131.1 F1135)
      have CR1141 : CHr Z own_EL s.vm h0 s.vm h1139 := CHr.trans CR1136 (CHr.wr W1139 F1140 CR1136.1)
      have Z1142 : n0 ≤ h1139.size := Nat.le_trans Z1137 (Nat.le_of_eq (Wr.size W1139).symm)
      have hk1142 := Nat.le_trans hk1137 (Nat.le_of_eq (Wr.size W1139).symm)
      have F1143 : Arv Z h1139 b716 k716 .char (8 : Int32) [(.int 115), (.int 116), (.int 114), (.int 105), (.int 99), (.int c5), (.int c6), (.int c7)] (.int 0) := V1139
      refine own_st (T' := T1139) (g' := (mkF m 166 #[.val (.int p1), .val (.int p2), .val (.int p3), .val (.int p4), .val (.long p5), .second, .val (.int (p1 &&& (3 : Int32))), .val (.ref b716), .unset, .unset, .unset] [])) st1139 ?_
      refine own_st (T' := T1139) (g' := (mkF m 171 #[.val (.int p1), .val (.int p2), .val (.int p3), .val (.int p4), .val (.long p5), .second, .val (.int (p1 &&& (3 : Int32))), .val (.ref b716), .unset, .unset, .unset] [(.int 116), (.int 5), (.ref b716)])) (fun _ kt => XS.aload X1139.here hx rfl (hb hby at_166) rfl rfl (XS.iconst X1139.here hx rfl (hb hby at_168) (XS.bipush X1139.here hx rfl (hb hby at_169) kt))) ?_
      obtain ⟨T1144, h1144, X1144, e1144, W1144, V1144, st1144⟩ := own_cst X1139 hx hZ e1139 F1143 ⟨by decide, by decide⟩ (i := 5) rfl (by simp) (y := (116 : Int32)) rfl (g := (mkF m 171 #[.val (.int p1), .val (.int p2), .val (.int p3), .val (.int p4), .val (.long p5), .second, .val (.int (p1 &&& (3 : Int32))), .val (.ref b716), .unset, .unset, .unset] [(.int 116), (.int 5), (.ref b716)])) rfl rfl (hb hby at_171)
      have N1144 := Fr.snoc X1144 N1139 ge_b716
      have F1145 : Safe Z own_EL s.vm h1139 b716 := (Safe.wr W1139 F1140 CR1136.1 F1140)
      have CR1146 : CHr Z own_EL s.vm h0 s.vm h1144 := CHr.trans CR1141 (CHr.wr W1144 F1145 CR1141.1)
      have Z1147 : n0 ≤ h1144.size := Nat.le_trans Z1142 (Nat.le_of_eq (Wr.size W1144).symm)
      have hk1147 := Nat.le_trans hk1142 (Nat.le_of_eq (Wr.size W1144).symm)
      have F1148 : Arv Z h1144 b716 k716 .char (8 : Int32) [(.int 115), (.int 116), (.int 114), (.int 105), (.int 99), (.int 116), (.int c6), (.int c7)] (.int 0) := V1144
      refine own_st (T' := T1144) (g' := (mkF m 172 #[.val (.int p1), .val (.int p2), .val (.int p3), .val (.int p4), .val (.long p5), .second, .val (.int (p1 &&& (3 : Int32))), .val (.ref b716), .unset, .unset, .unset] [])) st1144 ?_
      refine own_st (T' := T1144) (g' := (mkF m 175 #[.val (.int p1), .val (.int p2), .val (.int p3), .val (.int p4), .val (.long p5), .second, .val (.int (p1 &&& (3 : Int32))), .val (.ref b716), .unset, .unset, .unset] [(.int (p4 &&& (3 : Int32)))])) (fun _ kt => XS.iloadN X1144.here hx rfl (hb hby at_172) rfl (XS.iconst X1144.here hx rfl (hb hby at_173) (XS.iand X1144.here hx rfl (hb hby at_174) rfl kt))) ?_
      by_cases hc1149 : (p4 &&& (3 : Int32)) = 0
      ·
        refine own_st (T' := T1144) (g' := (mkF m 274 #[.val (.int p1), .val (.int p2), .val (.int p3), .val (.int p4), .val (.long p5), .second, .val (.int (p1 &&& (3 : Int32))), .val (.ref b716), .val (.int ((XT.ushr p4 (2 : Int32)) &&& (7 : Int32))), .unset, .unset] [(.int (p1 &&& (4 : Int32)))])) (fun _ kt => XS.ifNo X1144.here hx rfl (hb hby at_175) rfl (XT.i0_ne_f hc1149) (XS.iloadN X1144.here hx rfl (hb hby at_178) rfl (XS.iconst X1144.here hx rfl (hb hby at_179) (XT.iushr X1144.here hx rfl (hb hby at_180) rfl (XS.bipush X1144.here hx rfl (hb hby at_181) (XS.iand X1144.here hx rfl (hb hby at_183) rfl (XS.goto X1144.here hx rfl (pc0 := 184) (pc' := 189) rfl (hb hby at_184) (by decide) (by decide) (XS.istore X1144.here hx rfl (hb hby at_189) rfl (l' := #[.val (.int p1), .val (.int p2), .val (.int p3), .val (.int p4), .val (.long p5), .second, .val (.int (p1 &&& (3 : Int32))), .val (.ref b716), .val (.int ((XT.ushr p4 (2 : Int32)) &&& (7 : Int32))), .unset, .unset]) rfl (XS.goto X1144.here hx rfl (pc0 := 191) (pc' := 271) rfl (hb hby at_191) (by decide) (by decide) (XS.iloadN X1144.here hx rfl (hb hby at_271) rfl (XS.iconst X1144.here hx rfl (hb hby at_272) (XS.iand X1144.here hx rfl (hb hby at_273) rfl kt)))))))))))) ?_
        by_cases hc1150 : (p1 &&& (4 : Int32)) = 0
        ·
          refine own_st (T' := T1144) (g' := (mkF m 290 #[.val (.int p1), .val (.int p2), .val (.int p3), .val (.int p4), .val (.long p5), .second, .val (.int (p1 &&& (3 : Int32))), .val (.ref b716), .val (.int ((XT.ushr p4 (2 : Int32)) &&& (7 : Int32))), .unset, .unset] [])) (fun _ kt => XS.ifYes X1144.here hx rfl (pc0 := 274) (pc' := 290) rfl (hb hby at_274) rfl (XT.i0_eq_t hc1150) (by decide) (by decide) kt) ?_
          have F1151 : Old Z n0 h1144 := (Old.wr (Old.wr (Old.wr (Old.wr (Old.wr (Old.wr (Old.wr (Old.wr (Old.wr (Old.wr (Old.wr (Old.wr (Old.wr (Old.wr (Old.ext pr1 E716) W721 ge_b716) W725 ge_b716) W730 ge_b716) W735 ge_b716) W740 ge_b716) W745 ge_b716) W750 ge_b716) W755 ge_b716) W1119 ge_b716) W1124 ge_b716) W1129 ge_b716) W1134 ge_b716) W1139 ge_b716) W1144 ge_b716)
          exact J760 _ _ _ _ _ ⟨(115 : Int32), (116 : Int32), (114 : Int32), (105 : Int32), (99 : Int32), (116 : Int32), c6, c7, ((XT.ushr p4 (2 : Int32)) &&& (7 : Int32))⟩ ⟨N1144, Z1147, F1151, CR1146, hS, hk1147, hZ, hown, F1148, ⟨own_c115, own_c116, own_c114, own_c105, own_c99, own_c116, b_c6, b_c7, (own_and7 _)⟩⟩ (X1144.mono (by decide) (by decide)) e1144
        ·
          refine own_st (T' := T1144) (g' := (mkF m 283 #[.val (.int p1), .val (.int p2), .val (.int p3), .val (.int p4), .val (.long p5), .second, .val (.int (p1 &&& (3 : Int32))), .val (.ref b716), .val (.int ((XT.ushr p4 (2 : Int32)) &&& (7 : Int32))), .unset, .unset] [(.int (p2 &&& (7 : Int32))), (.ref b716)])) (fun _ kt => XS.ifNo X1144.here hx rfl (hb hby at_274) rfl (XT.i0_eq_f hc1150) (XS.aload X1144.here hx rfl (hb hby at_277) rfl rfl (XS.iloadN X1144.here hx rfl (hb hby at_279) rfl (XS.bipush X1144.here hx rfl (hb hby at_280) (XS.iand X1144.here hx rfl (hb hby at_282) rfl kt))))) ?_
          obtain ⟨ii, hii⟩ : ∃ z : Int32, z = (p2 &&& (7 : Int32)) := ⟨_, rfl⟩
          rw [← hii]
          rcases (hii ▸ own_and7 _ : own_q8 ii) with rfl | rfl | rfl | rfl | rfl | rfl | rfl | rfl
          ·
            refine own_st (T' := T1144) (g' := (mkF m 289 #[.val (.int p1), .val (.int p2), .val (.int p3), .val (.int p4), .val (.long p5), .second, .val (.int (p1 &&& (3 : Int32))), .val (.ref b716), .val (.int ((XT.ushr p4 (2 : Int32)) &&& (7 : Int32))), .unset, .unset] [(.int ((p3 &&& (255 : Int32)).toUInt32.toUInt16.toUInt32.toInt32)), (.int 0), (.ref b716)])) (fun _ kt => XS.iloadN X1144.here hx rfl (hb hby at_283) rfl (XS.sipush X1144.here hx rfl (hb hby at_284) (XS.iand X1144.here hx rfl (hb hby at_287) rfl (XT.i2c X1144.here hx rfl (hb hby at_288) rfl kt)))) ?_
            obtain ⟨cv, hcv⟩ : ∃ z : Int32, z = ((p3 &&& (255 : Int32)).toUInt32.toUInt16.toUInt32.toInt32) := ⟨_, rfl⟩
            rw [← hcv]
            have b_cv : own_cc cv := hcv ▸ own_mkc _
            obtain ⟨T1152, h1152, X1152, e1152, W1152, V1152, st1152⟩ := own_cst X1144 hx hZ e1144 F1148 ⟨by decide, by decide⟩ (i := 0) rfl (by simp) (y := cv) b_cv.2.2 (g := (mkF m 289 #[.val (.int p1), .val (.int p2), .val (.int p3), .val (.int p4), .val (.long p5), .second, .val (.int (p1 &&& (3 : Int32))), .val (.ref b716), .val (.int ((XT.ushr p4 (2 : Int32)) &&& (7 : Int32))), .unset, .unset] [(.int cv), (.int 0), (.ref b716)])) rfl rfl (hb hby at_289)
            have N1152 := Fr.snoc X1152 N1144 ge_b716
            have F1153 : Safe Z own_EL s.vm h1144 b716 := (Safe.wr W1144 F1145 CR1141.1 F1145)
            have CR1154 : CHr Z own_EL s.vm h0 s.vm h1152 := CHr.trans CR1146 (CHr.wr W1152 F1153 CR1146.1)
            have Z1155 : n0 ≤ h1152.size := Nat.le_trans Z1147 (Nat.le_of_eq (Wr.size W1152).symm)
            have hk1155 := Nat.le_trans hk1147 (Nat.le_of_eq (Wr.size W1152).symm)
            have F1156 : Arv Z h1152 b716 k716 .char (8 : Int32) [(.int cv), (.int 116), (.int 114), (.int 105), (.int 99), (.int 116), (.int c6), (.int c7)] (.int 0) := V1152
            refine own_st (T' := T1152) (g' := (mkF m 290 #[.val (.int p1), .val (.int p2), .val (.int p3), .val (.int p4), .val (.long p5), .second, .val (.int (p1 &&& (3 : Int32))), .val (.ref b716), .val (.int ((XT.ushr p4 (2 : Int32)) &&& (7 : Int32))), .unset, .unset] [])) st1152 ?_
            have F1157 : Old Z n0 h1152 := (Old.wr (Old.wr (Old.wr (Old.wr (Old.wr (Old.wr (Old.wr (Old.wr (Old.wr (Old.wr (Old.wr (Old.wr (Old.wr (Old.wr (Old.wr (Old.ext pr1 E716) W721 ge_b716) W725 ge_b716) W730 ge_b716) W735 ge_b716) W740 ge_b716) W745 ge_b716) W750 ge_b716) W755 ge_b716) W1119 ge_b716) W1124 ge_b716) W1129 ge_b716) W1134 ge_b716) W1139 ge_b716) W1144 ge_b716) W1152 ge_b716)
            exact J760 _ _ _ _ _ ⟨cv, (116 : Int32), (114 : Int32), (105 : Int32), (99 : Int32), (116 : Int32), c6, c7, ((XT.ushr p4 (2 : Int32)) &&& (7 : Int32))⟩ ⟨N1152, Z1155, F1157, CR1154, hS, hk1155, hZ, hown, F1156, ⟨b_cv, own_c116, own_c114, own_c105, own_c99, own_c116, b_c6, b_c7, (own_and7 _)⟩⟩ (X1152.mono (by decide) (by decide)) e1152
          ·
            refine own_st (T' := T1144) (g' := (mkF m 289 #[.val (.int p1), .val (.int p2), .val (.int p3), .val (.int p4), .val (.long p5), .second, .val (.int (p1 &&& (3 : Int32))), .val (.ref b716), .val (.int ((XT.ushr p4 (2 : Int32)) &&& (7 : Int32))), .unset, .unset] [(.int ((p3 &&& (255 : Int32)).toUInt32.toUInt16.toUInt32.toInt32)), (.int 1), (.ref b716)])) (fun _ kt => XS.iloadN X1144.here hx rfl (hb hby at_283) rfl (XS.sipush X1144.here hx rfl (hb hby at_284) (XS.iand X1144.here hx rfl (hb hby at_287) rfl (XT.i2c X1144.here hx rfl (hb hby at_288) rfl kt)))) ?_
            obtain ⟨cv, hcv⟩ : ∃ z : Int32, z = ((p3 &&& (255 : Int32)).toUInt32.toUInt16.toUInt32.toInt32) := ⟨_, rfl⟩
            rw [← hcv]
            have b_cv : own_cc cv := hcv ▸ own_mkc _
            obtain ⟨T1158, h1158, X1158, e1158, W1158, V1158, st1158⟩ := own_cst X1144 hx hZ e1144 F1148 ⟨by decide, by decide⟩ (i := 1) rfl (by simp) (y := cv) b_cv.2.2 (g := (mkF m 289 #[.val (.int p1), .val (.int p2), .val (.int p3), .val (.int p4), .val (.long p5), .second, .val (.int (p1 &&& (3 : Int32))), .val (.ref b716), .val (.int ((XT.ushr p4 (2 : Int32)) &&& (7 : Int32))), .unset, .unset] [(.int cv), (.int 1), (.ref b716)])) rfl rfl (hb hby at_289)
            have N1158 := Fr.snoc X1158 N1144 ge_b716
            have F1159 : Safe Z own_EL s.vm h1144 b716 := (Safe.wr W1144 F1145 CR1141.1 F1145)
            have CR1160 : CHr Z own_EL s.vm h0 s.vm h1158 := CHr.trans CR1146 (CHr.wr W1158 F1159 CR1146.1)
            have Z1161 : n0 ≤ h1158.size := Nat.le_trans Z1147 (Nat.le_of_eq (Wr.size W1158).symm)
            have hk1161 := Nat.le_trans hk1147 (Nat.le_of_eq (Wr.size W1158).symm)
            have F1162 : Arv Z h1158 b716 k716 .char (8 : Int32) [(.int 115), (.int cv), (.int 114), (.int 105), (.int 99), (.int 116), (.int c6), (.int c7)] (.int 0) := V1158
            refine own_st (T' := T1158) (g' := (mkF m 290 #[.val (.int p1), .val (.int p2), .val (.int p3), .val (.int p4), .val (.long p5), .second, .val (.int (p1 &&& (3 : Int32))), .val (.ref b716), .val (.int ((XT.ushr p4 (2 : Int32)) &&& (7 : Int32))), .unset, .unset] [])) st1158 ?_
            have F1163 : Old Z n0 h1158 := (Old.wr (Old.wr (Old.wr (Old.wr (Old.wr (Old.wr (Old.wr (Old.wr (Old.wr (Old.wr (Old.wr (Old.wr (Old.wr (Old.wr (Old.wr (Old.ext pr1 E716) W721 ge_b716) W725 ge_b716) W730 ge_b716) W735 ge_b716) W740 ge_b716) W745 ge_b716) W750 ge_b716) W755 ge_b716) W1119 ge_b716) W1124 ge_b716) W1129 ge_b716) W1134 ge_b716) W1139 ge_b716) W1144 ge_b716) W1158 ge_b716)
            exact J760 _ _ _ _ _ ⟨(115 : Int32), cv, (114 : Int32), (105 : Int32), (99 : Int32), (116 : Int32), c6, c7, ((XT.ushr p4 (2 : Int32)) &&& (7 : Int32))⟩ ⟨N1158, Z1161, F1163, CR1160, hS, hk1161, hZ, hown, F1162, ⟨own_c115, b_cv, own_c114, own_c105, own_c99, own_c116, b_c6, b_c7, (own_and7 _)⟩⟩ (X1158.mono (by decide) (by decide)) e1158
          ·
            refine own_st (T' := T1144) (g' := (mkF m 289 #[.val (.int p1), .val (.int p2), .val (.int p3), .val (.int p4), .val (.long p5), .second, .val (.int (p1 &&& (3 : Int32))), .val (.ref b716), .val (.int ((XT.ushr p4 (2 : Int32)) &&& (7 : Int32))), .unset, .unset] [(.int ((p3 &&& (255 : Int32)).toUInt32.toUInt16.toUInt32.toInt32)), (.int 2), (.ref b716)])) (fun _ kt => XS.iloadN X1144.here hx rfl (hb hby at_283) rfl (XS.sipush X1144.here hx rfl (hb hby at_284) (XS.iand X1144.here hx rfl (hb hby at_287) rfl (XT.i2c X1144.here hx rfl (hb hby at_288) rfl kt)))) ?_
            obtain ⟨cv, hcv⟩ : ∃ z : Int32, z = ((p3 &&& (255 : Int32)).toUInt32.toUInt16.toUInt32.toInt32) := ⟨_, rfl⟩
            rw [← hcv]
            have b_cv : own_cc cv := hcv ▸ own_mkc _
            obtain ⟨T1164, h1164, X1164, e1164, W1164, V1164, st1164⟩ := own_cst X1144 hx hZ e1144 F1148 ⟨by decide, by decide⟩ (i := 2) rfl (by simp) (y := cv) b_cv.2.2 (g := (mkF m 289 #[.val (.int p1), .val (.int p2), .val (.int p3), .val (.int p4), .val (.long p5), .second, .val (.int (p1 &&& (3 : Int32))), .val (.ref b716), .val (.int ((XT.ushr p4 (2 : Int32)) &&& (7 : Int32))), .unset, .unset] [(.int cv), (.int 2), (.ref b716)])) rfl rfl (hb hby at_289)
            have N1164 := Fr.snoc X1164 N1144 ge_b716
            have F1165 : Safe Z own_EL s.vm h1144 b716 := (Safe.wr W1144 F1145 CR1141.1 F1145)
            have CR1166 : CHr Z own_EL s.vm h0 s.vm h1164 := CHr.trans CR1146 (CHr.wr W1164 F1165 CR1146.1)
            have Z1167 : n0 ≤ h1164.size := Nat.le_trans Z1147 (Nat.le_of_eq (Wr.size W1164).symm)
            have hk1167 := Nat.le_trans hk1147 (Nat.le_of_eq (Wr.size W1164).symm)
            have F1168 : Arv Z h1164 b716 k716 .char (8 : Int32) [(.int 115), (.int 116), (.int cv), (.int 105), (.int 99), (.int 116), (.int c6), (.int c7)] (.int 0) := V1164
            refine own_st (T' := T1164) (g' := (mkF m 290 #[.val (.int p1), .val (.int p2), .val (.int p3), .val (.int p4), .val (.long p5), .second, .val (.int (p1 &&& (3 : Int32))), .val (.ref b716), .val (.int ((XT.ushr p4 (2 : Int32)) &&& (7 : Int32))), .unset, .unset] [])) st1164 ?_
            have F1169 : Old Z n0 h1164 := (Old.wr (Old.wr (Old.wr (Old.wr (Old.wr (Old.wr (Old.wr (Old.wr (Old.wr (Old.wr (Old.wr (Old.wr (Old.wr (Old.wr (Old.wr (Old.ext pr1 E716) W721 ge_b716) W725 ge_b716) W730 ge_b716) W735 ge_b716) W740 ge_b716) W745 ge_b716) W750 ge_b716) W755 ge_b716) W1119 ge_b716) W1124 ge_b716) W1129 ge_b716) W1134 ge_b716) W1139 ge_b716) W1144 ge_b716) W1164 ge_b716)
            exact J760 _ _ _ _ _ ⟨(115 : Int32), (116 : Int32), cv, (105 : Int32), (99 : Int32), (116 : Int32), c6, c7, ((XT.ushr p4 (2 : Int32)) &&& (7 : Int32))⟩ ⟨N1164, Z1167, F1169, CR1166, hS, hk1167, hZ, hown, F1168, ⟨own_c115, own_c116, b_cv, own_c105, own_c99, own_c116, b_c6, b_c7, (own_and7 _)⟩⟩ (X1164.mono (by decide) (by decide)) e1164
          ·
            refine own_st (T' := T1144) (g' := (mkF m 289 #[.val (.int p1), .val (.int p2), .val (.int p3), .val (.int p4), .val (.long p5), .second, .val (.int (p1 &&& (3 : Int32))), .val (.ref b716), .val (.int ((XT.ushr p4 (2 : Int32)) &&& (7 : Int32))), .unset, .unset] [(.int ((p3 &&& (255 : Int32)).toUInt32.toUInt16.toUInt32.toInt32)), (.int 3), (.ref b716)])) (fun _ kt => XS.iloadN X1144.here hx rfl (hb hby at_283) rfl (XS.sipush X1144.here hx rfl (hb hby at_284) (XS.iand X1144.here hx rfl (hb hby at_287) rfl (XT.i2c X1144.here hx rfl (hb hby at_288) rfl kt)))) ?_
            obtain ⟨cv, hcv⟩ : ∃ z : Int32, z = ((p3 &&& (255 : Int32)).toUInt32.toUInt16.toUInt32.toInt32) := ⟨_, rfl⟩
            rw [← hcv]
            have b_cv : own_cc cv := hcv ▸ own_mkc _
            obtain ⟨T1170, h1170, X1170, e1170, W1170, V1170, st1170⟩ := own_cst X1144 hx hZ e1144 F1148 ⟨by decide, by decide⟩ (i := 3) rfl (by simp) (y := cv) b_cv.2.2 (g := (mkF m 289 #[.val (.int p1), .val (.int p2), .val (.int p3), .val (.int p4), .val (.long p5), .second, .val (.int (p1 &&& (3 : Int32))), .val (.ref b716), .val (.int ((XT.ushr p4 (2 : Int32)) &&& (7 : Int32))), .unset, .unset] [(.int cv), (.int 3), (.ref b716)])) rfl rfl (hb hby at_289)
            have N1170 := Fr.snoc X1170 N1144 ge_b716
            have F1171 : Safe Z own_EL s.vm h1144 b716 := (Safe.wr W1144 F1145 CR1141.1 F1145)
            have CR1172 : CHr Z own_EL s.vm h0 s.vm h1170 := CHr.trans CR1146 (CHr.wr W1170 F1171 CR1146.1)
            have Z1173 : n0 ≤ h1170.size := Nat.le_trans Z1147 (Nat.le_of_eq (Wr.size W1170).symm)
            have hk1173 := Nat.le_trans hk1147 (Nat.le_of_eq (Wr.size W1170).symm)
            have F1174 : Arv Z h1170 b716 k716 .char (8 : Int32) [(.int 115), (.int 116), (.int 114), (.int cv), (.int 99), (.int 116), (.int c6), (.int c7)] (.int 0) := V1170
            refine own_st (T' := T1170) (g' := (mkF m 290 #[.val (.int p1), .val (.int p2), .val (.int p3), .val (.int p4), .val (.long p5), .second, .val (.int (p1 &&& (3 : Int32))), .val (.ref b716), .val (.int ((XT.ushr p4 (2 : Int32)) &&& (7 : Int32))), .unset, .unset] [])) st1170 ?_
            have F1175 : Old Z n0 h1170 := (Old.wr (Old.wr (Old.wr (Old.wr (Old.wr (Old.wr (Old.wr (Old.wr (Old.wr (Old.wr (Old.wr (Old.wr (Old.wr (Old.wr (Old.wr (Old.ext pr1 E716) W721 ge_b716) W725 ge_b716) W730 ge_b716) W735 ge_b716) W740 ge_b716) W745 ge_b716) W750 ge_b716) W755 ge_b716) W1119 ge_b716) W1124 ge_b716) W1129 ge_b716) W1134 ge_b716) W1139 ge_b716) W1144 ge_b716) W1170 ge_b716)
            exact J760 _ _ _ _ _ ⟨(115 : Int32), (116 : Int32), (114 : Int32), cv, (99 : Int32), (116 : Int32), c6, c7, ((XT.ushr p4 (2 : Int32)) &&& (7 : Int32))⟩ ⟨N1170, Z1173, F1175, CR1172, hS, hk1173, hZ, hown, F1174, ⟨own_c115, own_c116, own_c114, b_cv, own_c99, own_c116, b_c6, b_c7, (own_and7 _)⟩⟩ (X1170.mono (by decide) (by decide)) e1170
          ·
            refine own_st (T' := T1144) (g' := (mkF m 289 #[.val (.int p1), .val (.int p2), .val (.int p3), .val (.int p4), .val (.long p5), .second, .val (.int (p1 &&& (3 : Int32))), .val (.ref b716), .val (.int ((XT.ushr p4 (2 : Int32)) &&& (7 : Int32))), .unset, .unset] [(.int ((p3 &&& (255 : Int32)).toUInt32.toUInt16.toUInt32.toInt32)), (.int 4), (.ref b716)])) (fun _ kt => XS.iloadN X1144.here hx rfl (hb hby at_283) rfl (XS.sipush X1144.here hx rfl (hb hby at_284) (XS.iand X1144.here hx rfl (hb hby at_287) rfl (XT.i2c X1144.here hx rfl (hb hby at_288) rfl kt)))) ?_
            obtain ⟨cv, hcv⟩ : ∃ z : Int32, z = ((p3 &&& (255 : Int32)).toUInt32.toUInt16.toUInt32.toInt32) := ⟨_, rfl⟩
            rw [← hcv]
            have b_cv : own_cc cv := hcv ▸ own_mkc _
            obtain ⟨T1176, h1176, X1176, e1176, W1176, V1176, st1176⟩ := own_cst X1144 hx hZ e1144 F1148 ⟨by decide, by decide⟩ (i := 4) rfl (by simp) (y := cv) b_cv.2.2 (g := (mkF m 289 #[.val (.int p1), .val (.int p2), .val (.int p3), .val (.int p4), .val (.long p5), .second, .val (.int (p1 &&& (3 : Int32))), .val (.ref b716), .val (.int ((XT.ushr p4 (2 : Int32)) &&& (7 : Int32))), .unset, .unset] [(.int cv), (.int 4), (.ref b716)])) rfl rfl (hb hby at_289)
            have N1176 := Fr.snoc X1176 N1144 ge_b716
            have F1177 : Safe Z own_EL s.vm h1144 b716 := (Safe.wr W1144 F1145 CR1141.1 F1145)
            have CR1178 : CHr Z own_EL s.vm h0 s.vm h1176 := CHr.trans CR1146 (CHr.wr W1176 F1177 CR1146.1)
            have Z1179 : n0 ≤ h1176.size := Nat.le_trans Z1147 (Nat.le_of_eq (Wr.size W1176).symm)
            have hk1179 := Nat.le_trans hk1147 (Nat.le_of_eq (Wr.size W1176).symm)
            have F1180 : Arv Z h1176 b716 k716 .char (8 : Int32) [(.int 115), (.int 116), (.int 114), (.int 105), (.int cv), (.int 116), (.int c6), (.int c7)] (.int 0) := V1176
            refine own_st (T' := T1176) (g' := (mkF m 290 #[.val (.int p1), .val (.int p2), .val (.int p3), .val (.int p4), .val (.long p5), .second, .val (.int (p1 &&& (3 : Int32))), .val (.ref b716), .val (.int ((XT.ushr p4 (2 : Int32)) &&& (7 : Int32))), .unset, .unset] [])) st1176 ?_
            have F1181 : Old Z n0 h1176 := (Old.wr (Old.wr (Old.wr (Old.wr (Old.wr (Old.wr (Old.wr (Old.wr (Old.wr (Old.wr (Old.wr (Old.wr (Old.wr (Old.wr (Old.wr (Old.ext pr1 E716) W721 ge_b716) W725 ge_b716) W730 ge_b716) W735 ge_b716) W740 ge_b716) W745 ge_b716) W750 ge_b716) W755 ge_b716) W1119 ge_b716) W1124 ge_b716) W1129 ge_b716) W1134 ge_b716) W1139 ge_b716) W1144 ge_b716) W1176 ge_b716)
            exact J760 _ _ _ _ _ ⟨(115 : Int32), (116 : Int32), (114 : Int32), (105 : Int32), cv, (116 : Int32), c6, c7, ((XT.ushr p4 (2 : Int32)) &&& (7 : Int32))⟩ ⟨N1176, Z1179, F1181, CR1178, hS, hk1179, hZ, hown, F1180, ⟨own_c115, own_c116, own_c114, own_c105, b_cv, own_c116, b_c6, b_c7, (own_and7 _)⟩⟩ (X1176.mono (by decide) (by decide)) e1176
          ·
            refine own_st (T' := T1144) (g' := (mkF m 289 #[.val (.int p1), .val (.int p2), .val (.int p3), .val (.int p4), .val (.long p5), .second, .val (.int (p1 &&& (3 : Int32))), .val (.ref b716), .val (.int ((XT.ushr p4 (2 : Int32)) &&& (7 : Int32))), .unset, .unset] [(.int ((p3 &&& (255 : Int32)).toUInt32.toUInt16.toUInt32.toInt32)), (.int 5), (.ref b716)])) (fun _ kt => XS.iloadN X1144.here hx rfl (hb hby at_283) rfl (XS.sipush X1144.here hx rfl (hb hby at_284) (XS.iand X1144.here hx rfl (hb hby at_287) rfl (XT.i2c X1144.here hx rfl (hb hby at_288) rfl kt)))) ?_
            obtain ⟨cv, hcv⟩ : ∃ z : Int32, z = ((p3 &&& (255 : Int32)).toUInt32.toUInt16.toUInt32.toInt32) := ⟨_, rfl⟩
            rw [← hcv]
            have b_cv : own_cc cv := hcv ▸ own_mkc _
            obtain ⟨T1182, h1182, X1182, e1182, W1182, V1182, st1182⟩ := own_cst X1144 hx hZ e1144 F1148 ⟨by decide, by decide⟩ (i := 5) rfl (by simp) (y := cv) b_cv.2.2 (g := (mkF m 289 #[.val (.int p1), .val (.int p2), .val (.int p3), .val (.int p4), .val (.long p5), .second, .val (.int (p1 &&& (3 : Int32))), .val (.ref b716), .val (.int ((XT.ushr p4 (2 : Int32)) &&& (7 : Int32))), .unset, .unset] [(.int cv), (.int 5), (.ref b716)])) rfl rfl (hb hby at_289)
            have N1182 := Fr.snoc X1182 N1144 ge_b716
            have F1183 : Safe Z own_EL s.vm h1144 b716 := (Safe.wr W1144 F1145 CR1141.1 F1145)
            have CR1184 : CHr Z own_EL s.vm h0 s.vm h1182 := CHr.trans CR1146 (CHr.wr W1182 F1183 CR1146.1)
            have Z1185 : n0 ≤ h1182.size := Nat.le_trans Z1147 (Nat.le_of_eq (Wr.size W1182).symm)
            have hk1185 := Nat.le_trans hk1147 (Nat.le_of_eq (Wr.size W1182).symm)
            have F1186 : Arv Z h1182 b716 k716 .char (8 : Int32) [(.int 115), (.int 116), (.int 114), (.int 105), (.int 99), (.int cv), (.int c6), (.int c7)] (.int 0) := V1182
            refine own_st (T' := T1182) (g' := (mkF m 290 #[.val (.int p1), .val (.int p2), .val (.int p3), .val (.int p4), .val (.long p5), .second, .val (.int (p1 &&& (3 : Int32))), .val (.ref b716), .val (.int ((XT.ushr p4 (2 : Int32)) &&& (7 : Int32))), .unset, .unset] [])) st1182 ?_
            have F1187 : Old Z n0 h1182 := (Old.wr (Old.wr (Old.wr (Old.wr (Old.wr (Old.wr (Old.wr (Old.wr (Old.wr (Old.wr (Old.wr (Old.wr (Old.wr (Old.wr (Old.wr (Old.ext pr1 E716) W721 ge_b716) W725 ge_b716) W730 ge_b716) W735 ge_b716) W740 ge_b716) W745 ge_b716) W750 ge_b716) W755 ge_b716) W1119 ge_b716) W1124 ge_b716) W1129 ge_b716) W1134 ge_b716) W1139 ge_b716) W1144 ge_b716) W1182 ge_b716)
            exact J760 _ _ _ _ _ ⟨(115 : Int32), (116 : Int32), (114 : Int32), (105 : Int32), (99 : Int32), cv, c6, c7, ((XT.ushr p4 (2 : Int32)) &&& (7 : Int32))⟩ ⟨N1182, Z1185, F1187, CR1184, hS, hk1185, hZ, hown, F1186, ⟨own_c115, own_c116, own_c114, own_c105, own_c99, b_cv, b_c6, b_c7, (own_and7 _)⟩⟩ (X1182.mono (by decide) (by decide)) e1182
          ·
            refine own_st (T' := T1144) (g' := (mkF m 289 #[.val (.int p1), .val (.int p2), .val (.int p3), .val (.int p4), .val (.long p5), .second, .val (.int (p1 &&& (3 : Int32))), .val (.ref b716), .val (.int ((XT.ushr p4 (2 : Int32)) &&& (7 : Int32))), .unset, .unset] [(.int ((p3 &&& (255 : Int32)).toUInt32.toUInt16.toUInt32.toInt32)), (.int 6), (.ref b716)])) (fun _ kt => XS.iloadN X1144.here hx rfl (hb hby at_283) rfl (XS.sipush X1144.here hx rfl (hb hby at_284) (XS.iand X1144.here hx rfl (hb hby at_287) rfl (XT.i2c X1144.here hx rfl (hb hby at_288) rfl kt)))) ?_
            obtain ⟨cv, hcv⟩ : ∃ z : Int32, z = ((p3 &&& (255 : Int32)).toUInt32.toUInt16.toUInt32.toInt32) := ⟨_, rfl⟩
            rw [← hcv]
            have b_cv : own_cc cv := hcv ▸ own_mkc _
            obtain ⟨T1188, h1188, X1188, e1188, W1188, V1188, st1188⟩ := own_cst X1144 hx hZ e1144 F1148 ⟨by decide, by decide⟩ (i := 6) rfl (by simp) (y := cv) b_cv.2.2 (g := (mkF m 289 #[.val (.int p1), .val (.int p2), .val (.int p3), .val (.int p4), .val (.long p5), .second, .val (.int (p1 &&& (3 : Int32))), .val (.ref b716), .val (.int ((XT.ushr p4 (2 : Int32)) &&& (7 : Int32))), .unset, .unset] [(.int cv), (.int 6), (.ref b716)])) rfl rfl (hb hby at_289)
            have N1188 := Fr.snoc X1188 N1144 ge_b716
            have F1189 : Safe Z own_EL s.vm h1144 b716 := (Safe.wr W1144 F1145 CR1141.1 F1145)
            have CR1190 : CHr Z own_EL s.vm h0 s.vm h1188 := CHr.trans CR1146 (CHr.wr W1188 F1189 CR1146.1)
            have Z1191 : n0 ≤ h1188.size := Nat.le_trans Z1147 (Nat.le_of_eq (Wr.size W1188).symm)
            have hk1191 := Nat.le_trans hk1147 (Nat.le_of_eq (Wr.size W1188).symm)
            have F1192 : Arv Z h1188 b716 k716 .char (8 : Int32) [(.int 115), (.int 116), (.int 114), (.int 105), (.int 99), (.int 116), (.int cv), (.int c7)] (.int 0) := V1188
            refine own_st (T' := T1188) (g' := (mkF m 290 #[.val (.int p1), .val (.int p2), .val (.int p3), .val (.int p4), .val (.long p5), .second, .val (.int (p1 &&& (3 : Int32))), .val (.ref b716), .val (.int ((XT.ushr p4 (2 : Int32)) &&& (7 : Int32))), .unset, .unset] [])) st1188 ?_
            have F1193 : Old Z n0 h1188 := (Old.wr (Old.wr (Old.wr (Old.wr (Old.wr (Old.wr (Old.wr (Old.wr (Old.wr (Old.wr (Old.wr (Old.wr (Old.wr (Old.wr (Old.wr (Old.ext pr1 E716) W721 ge_b716) W725 ge_b716) W730 ge_b716) W735 ge_b716) W740 ge_b716) W745 ge_b716) W750 ge_b716) W755 ge_b716) W1119 ge_b716) W1124 ge_b716) W1129 ge_b716) W1134 ge_b716) W1139 ge_b716) W1144 ge_b716) W1188 ge_b716)
            exact J760 _ _ _ _ _ ⟨(115 : Int32), (116 : Int32), (114 : Int32), (105 : Int32), (99 : Int32), (116 : Int32), cv, c7, ((XT.ushr p4 (2 : Int32)) &&& (7 : Int32))⟩ ⟨N1188, Z1191, F1193, CR1190, hS, hk1191, hZ, hown, F1192, ⟨own_c115, own_c116, own_c114, own_c105, own_c99, own_c116, b_cv, b_c7, (own_and7 _)⟩⟩ (X1188.mono (by decide) (by decide)) e1188
          ·
            refine own_st (T' := T1144) (g' := (mkF m 289 #[.val (.int p1), .val (.int p2), .val (.int p3), .val (.int p4), .val (.long p5), .second, .val (.int (p1 &&& (3 : Int32))), .val (.ref b716), .val (.int ((XT.ushr p4 (2 : Int32)) &&& (7 : Int32))), .unset, .unset] [(.int ((p3 &&& (255 : Int32)).toUInt32.toUInt16.toUInt32.toInt32)), (.int 7), (.ref b716)])) (fun _ kt => XS.iloadN X1144.here hx rfl (hb hby at_283) rfl (XS.sipush X1144.here hx rfl (hb hby at_284) (XS.iand X1144.here hx rfl (hb hby at_287) rfl (XT.i2c X1144.here hx rfl (hb hby at_288) rfl kt)))) ?_
            obtain ⟨cv, hcv⟩ : ∃ z : Int32, z = ((p3 &&& (255 : Int32)).toUInt32.toUInt16.toUInt32.toInt32) := ⟨_, rfl⟩
            rw [← hcv]
            have b_cv : own_cc cv := hcv ▸ own_mkc _
            obtain ⟨T1194, h1194, X1194, e1194, W1194, V1194, st1194⟩ := own_cst X1144 hx hZ e1144 F1148 ⟨by decide, by decide⟩ (i := 7) rfl (by simp) (y := cv) b_cv.2.2 (g := (mkF m 289 #[.val (.int p1), .val (.int p2), .val (.int p3), .val (.int p4), .val (.long p5), .second, .val (.int (p1 &&& (3 : Int32))), .val (.ref b716), .val (.int ((XT.ushr p4 (2 : Int32)) &&& (7 : Int32))), .unset, .unset] [(.int cv), (.int 7), (.ref b716)])) rfl rfl (hb hby at_289)
            have N1194 := Fr.snoc X1194 N1144 ge_b716
            have F1195 : Safe Z own_EL s.vm h1144 b716 := (Safe.wr W1144 F1145 CR1141.1 F1145)
            have CR1196 : CHr Z own_EL s.vm h0 s.vm h1194 := CHr.trans CR1146 (CHr.wr W1194 F1195 CR1146.1)
            have Z1197 : n0 ≤ h1194.size := Nat.le_trans Z1147 (Nat.le_of_eq (Wr.size W1194).symm)
            have hk1197 := Nat.le_trans hk1147 (Nat.le_of_eq (Wr.size W1194).symm)
            have F1198 : Arv Z h1194 b716 k716 .char (8 : Int32) [(.int 115), (.int 116), (.int 114), (.int 105), (.int 99), (.int 116), (.int c6), (.int cv)] (.int 0) := V1194
            refine own_st (T' := T1194) (g' := (mkF m 290 #[.val (.int p1), .val (.int p2), .val (.int p3), .val (.int p4), .val (.long p5), .second, .val (.int (p1 &&& (3 : Int32))), .val (.ref b716), .val (.int ((XT.ushr p4 (2 : Int32)) &&& (7 : Int32))), .unset, .unset] [])) st1194 ?_
            have F1199 : Old Z n0 h1194 := (Old.wr (Old.wr (Old.wr (Old.wr (Old.wr (Old.wr (Old.wr (Old.wr (Old.wr (Old.wr (Old.wr (Old.wr (Old.wr (Old.wr (Old.wr (Old.ext pr1 E716) W721 ge_b716) W725 ge_b716) W730 ge_b716) W735 ge_b716) W740 ge_b716) W745 ge_b716) W750 ge_b716) W755 ge_b716) W1119 ge_b716) W1124 ge_b716) W1129 ge_b716) W1134 ge_b716) W1139 ge_b716) W1144 ge_b716) W1194 ge_b716)
            exact J760 _ _ _ _ _ ⟨(115 : Int32), (116 : Int32), (114 : Int32), (105 : Int32), (99 : Int32), (116 : Int32), c6, cv, ((XT.ushr p4 (2 : Int32)) &&& (7 : Int32))⟩ ⟨N1194, Z1197, F1199, CR1196, hS, hk1197, hZ, hown, F1198, ⟨own_c115, own_c116, own_c114, own_c105, own_c99, own_c116, b_c6, b_cv, (own_and7 _)⟩⟩ (X1194.mono (by decide) (by decide)) e1194
      ·
        refine own_st (T' := T1144) (g' := (mkF m 274 #[.val (.int p1), .val (.int p2), .val (.int p3), .val (.int p4), .val (.long p5), .second, .val (.int (p1 &&& (3 : Int32))), .val (.ref b716), .val (.int 6), .unset, .unset] [(.int (p1 &&& (4 : Int32)))])) (fun _ kt => XS.ifYes X1144.here hx rfl (pc0 := 175) (pc' := 187) rfl (hb hby at_175) rfl (XT.i0_ne_t hc1149) (by decide) (by decide) (XS.bipush X1144.here hx rfl (hb hby at_187) (XS.istore X1144.here hx rfl (hb hby at_189) rfl (l' := #[.val (.int p1), .val (.int p2), .val (.int p3), .val (.int p4), .val (.long p5), .second, .val (.int (p1 &&& (3 : Int32))), .val (.ref b716), .val (.int 6), .unset, .unset]) rfl (XS.goto X1144.here hx rfl (pc0 := 191) (pc' := 271) rfl (hb hby at_191) (by decide) (by decide) (XS.iloadN X1144.here hx rfl (hb hby at_271) rfl (XS.iconst X1144.here hx rfl (hb hby at_272) (XS.iand X1144.here hx rfl (hb hby at_273) rfl kt))))))) ?_
        by_cases hc1200 : (p1 &&& (4 : Int32)) = 0
        ·
          refine own_st (T' := T1144) (g' := (mkF m 290 #[.val (.int p1), .val (.int p2), .val (.int p3), .val (.int p4), .val (.long p5), .second, .val (.int (p1 &&& (3 : Int32))), .val (.ref b716), .val (.int 6), .unset, .unset] [])) (fun _ kt => XS.ifYes X1144.here hx rfl (pc0 := 274) (pc' := 290) rfl (hb hby at_274) rfl (XT.i0_eq_t hc1200) (by decide) (by decide) kt) ?_
          have F1201 : Old Z n0 h1144 := (Old.wr (Old.wr (Old.wr (Old.wr (Old.wr (Old.wr (Old.wr (Old.wr (Old.wr (Old.wr (Old.wr (Old.wr (Old.wr (Old.wr (Old.ext pr1 E716) W721 ge_b716) W725 ge_b716) W730 ge_b716) W735 ge_b716) W740 ge_b716) W745 ge_b716) W750 ge_b716) W755 ge_b716) W1119 ge_b716) W1124 ge_b716) W1129 ge_b716) W1134 ge_b716) W1139 ge_b716) W1144 ge_b716)
          exact J760 _ _ _ _ _ ⟨(115 : Int32), (116 : Int32), (114 : Int32), (105 : Int32), (99 : Int32), (116 : Int32), c6, c7, (6 : Int32)⟩ ⟨N1144, Z1147, F1201, CR1146, hS, hk1147, hZ, hown, F1148, ⟨own_c115, own_c116, own_c114, own_c105, own_c99, own_c116, b_c6, b_c7, own_ql6⟩⟩ (X1144.mono (by decide) (by decide)) e1144
        ·
          refine own_st (T' := T1144) (g' := (mkF m 283 #[.val (.int p1), .val (.int p2), .val (.int p3), .val (.int p4), .val (.long p5), .second, .val (.int (p1 &&& (3 : Int32))), .val (.ref b716), .val (.int 6), .unset, .unset] [(.int (p2 &&& (7 : Int32))), (.ref b716)])) (fun _ kt => XS.ifNo X1144.here hx rfl (hb hby at_274) rfl (XT.i0_eq_f hc1200) (XS.aload X1144.here hx rfl (hb hby at_277) rfl rfl (XS.iloadN X1144.here hx rfl (hb hby at_279) rfl (XS.bipush X1144.here hx rfl (hb hby at_280) (XS.iand X1144.here hx rfl (hb hby at_282) rfl kt))))) ?_
          obtain ⟨ii, hii⟩ : ∃ z : Int32, z = (p2 &&& (7 : Int32)) := ⟨_, rfl⟩
          rw [← hii]
          rcases (hii ▸ own_and7 _ : own_q8 ii) with rfl | rfl | rfl | rfl | rfl | rfl | rfl | rfl
          ·
            refine own_st (T' := T1144) (g' := (mkF m 289 #[.val (.int p1), .val (.int p2), .val (.int p3), .val (.int p4), .val (.long p5), .second, .val (.int (p1 &&& (3 : Int32))), .val (.ref b716), .val (.int 6), .unset, .unset] [(.int ((p3 &&& (255 : Int32)).toUInt32.toUInt16.toUInt32.toInt32)), (.int 0), (.ref b716)])) (fun _ kt => XS.iloadN X1144.here hx rfl (hb hby at_283) rfl (XS.sipush X1144.here hx rfl (hb hby at_284) (XS.iand X1144.here hx rfl (hb hby at_287) rfl (XT.i2c X1144.here hx rfl (hb hby at_288) rfl kt)))) ?_
            obtain ⟨cv, hcv⟩ : ∃ z : Int32, z = ((p3 &&& (255 : Int32)).toUInt32.toUInt16.toUInt32.toInt32) := ⟨_, rfl⟩
            rw [← hcv]
            have b_cv : own_cc cv := hcv ▸ own_mkc _
            obtain ⟨T1202, h1202, X1202, e1202, W1202, V1202, st1202⟩ := own_cst X1144 hx hZ e1144 F1148 ⟨by decide, by decide⟩ (i := 0) rfl (by simp) (y := cv) b_cv.2.2 (g := (mkF m 289 #[.val (.int p1), .val (.int p2), .val (.int p3), .val (.int p4), .val (.long p5), .second, .val (.int (p1 &&& (3 : Int32))), .val (.ref b716), .val (.int 6), .unset, .unset] [(.int cv), (.int 0), (.ref b716)])) rfl rfl (hb hby at_289)
            have N1202 := Fr.snoc X1202 N1144 ge_b716
            have F1203 : Safe Z own_EL s.vm h1144 b716 := (Safe.wr W1144 F1145 CR1141.1 F1145)
            have CR1204 : CHr Z own_EL s.vm h0 s.vm h1202 := CHr.trans CR1146 (CHr.wr W1202 F1203 CR1146.1)
            have Z1205 : n0 ≤ h1202.size := Nat.le_trans Z1147 (Nat.le_of_eq (Wr.size W1202).symm)
            have hk1205 := Nat.le_trans hk1147 (Nat.le_of_eq (Wr.size W1202).symm)
            have F1206 : Arv Z h1202 b716 k716 .char (8 : Int32) [(.int cv), (.int 116), (.int 114), (.int 105), (.int 99), (.int 116), (.int c6), (.int c7)] (.int 0) := V1202
            refine own_st (T' := T1202) (g' := (mkF m 290 #[.val (.int p1), .val (.int p2), .val (.int p3), .val (.int p4), .val (.long p5), .second, .val (.int (p1 &&& (3 : Int32))), .val (.ref b716), .val (.int 6), .unset, .unset] [])) st1202 ?_
            have F1207 : Old Z n0 h1202 := (Old.wr (Old.wr (Old.wr (Old.wr (Old.wr (Old.wr (Old.wr (Old.wr (Old.wr (Old.wr (Old.wr (Old.wr (Old.wr (Old.wr (Old.wr (Old.ext pr1 E716) W721 ge_b716) W725 ge_b716) W730 ge_b716) W735 ge_b716) W740 ge_b716) W745 ge_b716) W750 ge_b716) W755 ge_b716) W1119 ge_b716) W1124 ge_b716) W1129 ge_b716) W1134 ge_b716) W1139 ge_b716) W1144 ge_b716) W1202 ge_b716)
            exact J760 _ _ _ _ _ ⟨cv, (116 : Int32), (114 : Int32), (105 : Int32), (99 : Int32), (116 : Int32), c6, c7, (6 : Int32)⟩ ⟨N1202, Z1205, F1207, CR1204, hS, hk1205, hZ, hown, F1206, ⟨b_cv, own_c116, own_c114, own_c105, own_c99, own_c116, b_c6, b_c7, own_ql6⟩⟩ (X1202.mono (by decide) (by decide)) e1202
          ·
            refine own_st (T' := T1144) (g' := (mkF m 289 #[.val (.int p1), .val (.int p2), .val (.int p3), .val (.int p4), .val (.long p5), .second, .val (.int (p1 &&& (3 : Int32))), .val (.ref b716), .val (.int 6), .unset, .unset] [(.int ((p3 &&& (255 : Int32)).toUInt32.toUInt16.toUInt32.toInt32)), (.int 1), (.ref b716)])) (fun _ kt => XS.iloadN X1144.here hx rfl (hb hby at_283) rfl (XS.sipush X1144.here hx rfl (hb hby at_284) (XS.iand X1144.here hx rfl (hb hby at_287) rfl (XT.i2c X1144.here hx rfl (hb hby at_288) rfl kt)))) ?_
            obtain ⟨cv, hcv⟩ : ∃ z : Int32, z = ((p3 &&& (255 : Int32)).toUInt32.toUInt16.toUInt32.toInt32) := ⟨_, rfl⟩
            rw [← hcv]
            have b_cv : own_cc cv := hcv ▸ own_mkc _
            obtain ⟨T1208, h1208, X1208, e1208, W1208, V1208, st1208⟩ := own_cst X1144 hx hZ e1144 F1148 ⟨by decide, by decide⟩ (i := 1) rfl (by simp) (y := cv) b_cv.2.2 (g := (mkF m 289 #[.val (.int p1), .val (.int p2), .val (.int p3), .val (.int p4), .val (.long p5), .second, .val (.int (p1 &&& (3 : Int32))), .val (.ref b716), .val (.int 6), .unset, .unset] [(.int cv), (.int 1), (.ref b716)])) rfl rfl (hb hby at_289)
            have N1208 := Fr.snoc X1208 N1144 ge_b716
            have F1209 : Safe Z own_EL s.vm h1144 b716 := (Safe.wr W1144 F1145 CR1141.1 F1145)
            have CR1210 : CHr Z own_EL s.vm h0 s.vm h1208 := CHr.trans CR1146 (CHr.wr W1208 F1209 CR1146.1)
            have Z1211 : n0 ≤ h1208.size := Nat.le_trans Z1147 (Nat.le_of_eq (Wr.size W1208).symm)
            have hk1211 := Nat.le_trans hk1147 (Nat.le_of_eq (Wr.size W1208).symm)
            have F1212 : Arv Z h1208 b716 k716 .char (8 : Int32) [(.int 115), (.int cv), (.int 114), (.int 105), (.int 99), (.int 116), (.int c6), (.int c7)] (.int 0) := V1208
            refine own_st (T' := T1208) (g' := (mkF m 290 #[.val (.int p1), .val (.int p2), .val (.int p3), .val (.int p4), .val (.long p5), .second, .val (.int (p1 &&& (3 : Int32))), .val (.ref b716), .val (.int 6), .unset, .unset] [])) st1208 ?_
            have F1213 : Old Z n0 h1208 := (Old.wr (Old.wr (Old.wr (Old.wr (Old.wr (Old.wr (Old.wr (Old.wr (Old.wr (Old.wr (Old.wr (Old.wr (Old.wr (Old.wr (Old.wr (Old.ext pr1 E716) W721 ge_b716) W725 ge_b716) W730 ge_b716) W735 ge_b716) W740 ge_b716) W745 ge_b716) W750 ge_b716) W755 ge_b716) W1119 ge_b716) W1124 ge_b716) W1129 ge_b716) W1134 ge_b716) W1139 ge_b716) W1144 ge_b716) W1208 ge_b716)
            exact J760 _ _ _ _ _ ⟨(115 : Int32), cv, (114 : Int32), (105 : Int32), (99 : Int32), (116 : Int32), c6, c7, (6 : Int32)⟩ ⟨N1208, Z1211, F1213, CR1210, hS, hk1211, hZ, hown, F1212, ⟨own_c115, b_cv, own_c114, own_c105, own_c99, own_c116, b_c6, b_c7, own_ql6⟩⟩ (X1208.mono (by decide) (by decide)) e1208
          ·
            refine own_st (T' := T1144) (g' := (mkF m 289 #[.val (.int p1), .val (.int p2), .val (.int p3), .val (.int p4), .val (.long p5), .second, .val (.int (p1 &&& (3 : Int32))), .val (.ref b716), .val (.int 6), .unset, .unset] [(.int ((p3 &&& (255 : Int32)).toUInt32.toUInt16.toUInt32.toInt32)), (.int 2), (.ref b716)])) (fun _ kt => XS.iloadN X1144.here hx rfl (hb hby at_283) rfl (XS.sipush X1144.here hx rfl (hb hby at_284) (XS.iand X1144.here hx rfl (hb hby at_287) rfl (XT.i2c X1144.here hx rfl (hb hby at_288) rfl kt)))) ?_
            obtain ⟨cv, hcv⟩ : ∃ z : Int32, z = ((p3 &&& (255 : Int32)).toUInt32.toUInt16.toUInt32.toInt32) := ⟨_, rfl⟩
            rw [← hcv]
            have b_cv : own_cc cv := hcv ▸ own_mkc _
            obtain ⟨T1214, h1214, X1214, e1214, W1214, V1214, st1214⟩ := own_cst X1144 hx hZ e1144 F1148 ⟨by decide, by decide⟩ (i := 2) rfl (by simp) (y := cv) b_cv.2.2 (g := (mkF m 289 #[.val (.int p1), .val (.int p2), .val (.int p3), .val (.int p4), .val (.long p5), .second, .val (.int (p1 &&& (3 : Int32))), .val (.ref b716), .val (.int 6), .unset, .unset] [(.int cv), (.int 2), (.ref b716)])) rfl rfl (hb hby at_289)
            have N1214 := Fr.snoc X1214 N1144 ge_b716
            have F1215 : Safe Z own_EL s.vm h1144 b716 := (Safe.wr W1144 F1145 CR1141.1 F1145)
            have CR1216 : CHr Z own_EL s.vm h0 s.vm h1214 := CHr.trans CR1146 (CHr.wr W1214 F1215 CR1146.1)
            have Z1217 : n0 ≤ h1214.size := Nat.le_trans Z1147 (Nat.le_of_eq (Wr.size W1214).symm)
            have hk1217 := Nat.le_trans hk1147 (Nat.le_of_eq (Wr.size W1214).symm)
            have F1218 : Arv Z h1214 b716 k716 .char (8 : Int32) [(.int 115), (.int 116), (.int cv), (.int 105), (.int 99), (.int 116), (.int c6), (.int c7)] (.int 0) := V1214
            refine own_st (T' := T1214) (g' := (mkF m 290 #[.val (.int p1), .val (.int p2), .val (.int p3), .val (.int p4), .val (.long p5), .second, .val (.int (p1 &&& (3 : Int32))), .val (.ref b716), .val (.int 6), .unset, .unset] [])) st1214 ?_
            have F1219 : Old Z n0 h1214 := (Old.wr (Old.wr (Old.wr (Old.wr (Old.wr (Old.wr (Old.wr (Old.wr (Old.wr (Old.wr (Old.wr (Old.wr (Old.wr (Old.wr (Old.wr (Old.ext pr1 E716) W721 ge_b716) W725 ge_b716) W730 ge_b716) W735 ge_b716) W740 ge_b716) W745 ge_b716) W750 ge_b716) W755 ge_b716) W1119 ge_b716) W1124 ge_b716) W1129 ge_b716) W1134 ge_b716) W1139 ge_b716) W1144 ge_b716) W1214 ge_b716)
            exact J760 _ _ _ _ _ ⟨(115 : Int32), (116 : Int32), cv, (105 : Int32), (99 : Int32), (116 : Int32), c6, c7, (6 : Int32)⟩ ⟨N1214, Z1217, F1219, CR1216, hS, hk1217, hZ, hown, F1218, ⟨own_c115, own_c116, b_cv, own_c105, own_c99, own_c116, b_c6, b_c7, own_ql6⟩⟩ (X1214.mono (by decide) (by decide)) e1214
          ·
            refine own_st (T' := T1144) (g' := (mkF m 289 #[.val (.int p1), .val (.int p2), .val (.int p3), .val (.int p4), .val (.long p5), .second, .val (.int (p1 &&& (3 : Int32))), .val (.ref b716), .val (.int 6), .unset, .unset] [(.int ((p3 &&& (255 : Int32)).toUInt32.toUInt16.toUInt32.toInt32)), (.int 3), (.ref b716)])) (fun _ kt => XS.iloadN X1144.here hx rfl (hb hby at_283) rfl (XS.sipush X1144.here hx rfl (hb hby at_284) (XS.iand X1144.here hx rfl (hb hby at_287) rfl (XT.i2c X1144.here hx rfl (hb hby at_288) rfl kt)))) ?_
            obtain ⟨cv, hcv⟩ : ∃ z : Int32, z = ((p3 &&& (255 : Int32)).toUInt32.toUInt16.toUInt32.toInt32) := ⟨_, rfl⟩
            rw [← hcv]
            have b_cv : own_cc cv := hcv ▸ own_mkc _
            obtain ⟨T1220, h1220, X1220, e1220, W1220, V1220, st1220⟩ := own_cst X1144 hx hZ e1144 F1148 ⟨by decide, by decide⟩ (i := 3) rfl (by simp) (y := cv) b_cv.2.2 (g := (mkF m 289 #[.val (.int p1), .val (.int p2), .val (.int p3), .val (.int p4), .val (.long p5), .second, .val (.int (p1 &&& (3 : Int32))), .val (.ref b716), .val (.int 6), .unset, .unset] [(.int cv), (.int 3), (.ref b716)])) rfl rfl (hb hby at_289)
            have N1220 := Fr.snoc X1220 N1144 ge_b716
            have F1221 : Safe Z own_EL s.vm h1144 b716 := (Safe.wr W1144 F1145 CR1141.1 F1145)
            have CR1222 : CHr Z own_EL s.vm h0 s.vm h1220 := CHr.trans CR1146 (CHr.wr W1220 F1221 CR1146.1)
            have Z1223 : n0 ≤ h1220.size := Nat.le_trans Z1147 (Nat.le_of_eq (Wr.size W1220).symm)
            have hk1223 := Nat.le_trans hk1147 (Nat.le_of_eq (Wr.size W1220).symm)
            have F1224 : Arv Z h1220 b716 k716 .char (8 : Int32) [(.int 115), (.int 116), (.int 114), (.int cv), (.int 99), (.int 116), (.int c6), (.int c7)] (.int 0) := V1220
            refine own_st (T' := T1220) (g' := (mkF m 290 #[.val (.int p1), .val (.int p2), .val (.int p3), .val (.int p4), .val (.long p5), .second, .val (.int (p1 &&& (3 : Int32))), .val (.ref b716), .val (.int 6), .unset, .unset] [])) st1220 ?_
            have F1225 : Old Z n0 h1220 := (Old.wr (Old.wr (Old.wr (Old.wr (Old.wr (Old.wr (Old.wr (Old.wr (Old.wr (Old.wr (Old.wr (Old.wr (Old.wr (Old.wr (Old.wr (Old.ext pr1 E716) W721 ge_b716) W725 ge_b716) W730 ge_b716) W735 ge_b716) W740 ge_b716) W745 ge_b716) W750 ge_b716) W755 ge_b716) W1119 ge_b716) W1124 ge_b716) W1129 ge_b716) W1134 ge_b716) W1139 ge_b716) W1144 ge_b716) W1220 ge_b716)
            exact J760 _ _ _ _ _ ⟨(115 : Int32), (116 : Int32), (114 : Int32), cv, (99 : Int32), (116 : Int32), c6, c7, (6 : Int32)⟩ ⟨N1220, Z1223, F1225, CR1222, hS, hk1223, hZ, hown, F1224, ⟨own_c115, own_c116, own_c114, b_cv, own_c99, own_c116, b_c6, b_c7, own_ql6⟩⟩ (X1220.mono (by decide) (by decide)) e1220
          ·
            refine own_st (T' := T1144) (g' := (mkF m 289 #[.val (.int p1), .val (.int p2), .val (.int p3), .val (.int p4), .val (.long p5), .second, .val (.int (p1 &&& (3 : Int32))), .val (.ref b716), .val (.int 6), .unset, .unset] [(.int ((p3 &&& (255 : Int32)).toUInt32.toUInt16.toUInt32.toInt32)), (.int 4), (.ref b716)])) (fun _ kt => XS.iloadN X1144.here hx rfl (hb hby at_283) rfl (XS.sipush X1144.here hx rfl (hb hby at_284) (XS.iand X1144.here hx rfl (hb hby at_287) rfl (XT.i2c X1144.here hx rfl (hb hby at_288) rfl kt)))) ?_
            obtain ⟨cv, hcv⟩ : ∃ z : Int32, z = ((p3 &&& (255 : Int32)).toUInt32.toUInt16.toUInt32.toInt32) := ⟨_, rfl⟩
            rw [← hcv]
            have b_cv : own_cc cv := hcv ▸ own_mkc _
            obtain ⟨T1226, h1226, X1226, e1226, W1226, V1226, st1226⟩ := own_cst X1144 hx hZ e1144 F1148 ⟨by decide, by decide⟩ (i := 4) rfl (by simp) (y := cv) b_cv.2.2 (g := (mkF m 289 #[.val (.int p1), .val (.int p2), .val (.int p3), .val (.int p4), .val (.long p5), .second, .val (.int (p1 &&& (3 : Int32))), .val (.ref b716), .val (.int 6), .unset, .unset] [(.int cv), (.int 4), (.ref b716)])) rfl rfl (hb hby at_289)
            have N1226 := Fr.snoc X1226 N1144 ge_b716
            have F1227 : Safe Z own_EL s.vm h1144 b716 := (Safe.wr W1144 F1145 CR1141.1 F1145)
            have CR1228 : CHr Z own_EL s.vm h0 s.vm h1226 := CHr.trans CR1146 (CHr.wr W1226 F1227 CR1146.1)
            have Z1229 : n0 ≤ h1226.size := Nat.le_trans Z1147 (Nat.le_of_eq (Wr.size W1226).symm)
            have hk1229 := Nat.le_trans hk1147 (Nat.le_of_eq (Wr.size W1226).symm)
            have F1230 : Arv Z h1226 b716 k716 .char (8 : Int32) [(.int 115), (.int 116), (.int 114), (.int 105), (.int cv), (.int 116), (.int c6), (.int c7)] (.int 0) := V1226
            refine own_st (T' := T1226) (g' := (mkF m 290 #[.val (.int p1), .val (.int p2), .val (.int p3), .val (.int p4), .val (.long p5), .second, .val (.int (p1 &&& (3 : Int32))), .val (.ref b716), .val (.int 6), .unset, .unset] [])) st1226 ?_
            have F1231 : Old Z n0 h1226 := (Old.wr (Old.wr (Old.wr (Old.wr (Old.wr (Old.wr (Old.wr (Old.wr (Old.wr (Old.wr (Old.wr (Old.wr (Old.wr (Old.wr (Old.wr (Old.ext pr1 E716) W721 ge_b716) W725 ge_b716) W730 ge_b716) W735 ge_b716) W740 ge_b716) W745 ge_b716) W750 ge_b716) W755 ge_b716) W1119 ge_b716) W1124 ge_b716) W1129 ge_b716) W1134 ge_b716) W1139 ge_b716) W1144 ge_b716) W1226 ge_b716)
            exact J760 _ _ _ _ _ ⟨(115 : Int32), (116 : Int32), (114 : Int32), (105 : Int32), cv, (116 : Int32), c6, c7, (6 : Int32)⟩ ⟨N1226, Z1229, F1231, CR1228, hS, hk1229, hZ, hown, F1230, ⟨own_c115, own_c116, own_c114, own_c105, b_cv, own_c116, b_c6, b_c7, own_ql6⟩⟩ (X1226.mono (by decide) (by decide)) e1226
          ·
            refine own_st (T' := T1144) (g' := (mkF m 289 #[.val (.int p1), .val (.int p2), .val (.int p3), .val (.int p4), .val (.long p5), .second, .val (.int (p1 &&& (3 : Int32))), .val (.ref b716), .val (.int 6), .unset, .unset] [(.int ((p3 &&& (255 : Int32)).toUInt32.toUInt16.toUInt32.toInt32)), (.int 5), (.ref b716)])) (fun _ kt => XS.iloadN X1144.here hx rfl (hb hby at_283) rfl (XS.sipush X1144.here hx rfl (hb hby at_284) (XS.iand X1144.here hx rfl (hb hby at_287) rfl (XT.i2c X1144.here hx rfl (hb hby at_288) rfl kt)))) ?_
            obtain ⟨cv, hcv⟩ : ∃ z : Int32, z = ((p3 &&& (255 : Int32)).toUInt32.toUInt16.toUInt32.toInt32) := ⟨_, rfl⟩
            rw [← hcv]
            have b_cv : own_cc cv := hcv ▸ own_mkc _
            obtain ⟨T1232, h1232, X1232, e1232, W1232, V1232, st1232⟩ := own_cst X1144 hx hZ e1144 F1148 ⟨by decide, by decide⟩ (i := 5) rfl (by simp) (y := cv) b_cv.2.2 (g := (mkF m 289 #[.val (.int p1), .val (.int p2), .val (.int p3), .val (.int p4), .val (.long p5), .second, .val (.int (p1 &&& (3 : Int32))), .val (.ref b716), .val (.int 6), .unset, .unset] [(.int cv), (.int 5), (.ref b716)])) rfl rfl (hb hby at_289)
            have N1232 := Fr.snoc X1232 N1144 ge_b716
            have F1233 : Safe Z own_EL s.vm h1144 b716 := (Safe.wr W1144 F1145 CR1141.1 F1145)
            have CR1234 : CHr Z own_EL s.vm h0 s.vm h1232 := CHr.trans CR1146 (CHr.wr W1232 F1233 CR1146.1)
            have Z1235 : n0 ≤ h1232.size := Nat.le_trans Z1147 (Nat.le_of_eq (Wr.size W1232).symm)
            have hk1235 := Nat.le_trans hk1147 (Nat.le_of_eq (Wr.size W1232).symm)
            have F1236 : Arv Z h1232 b716 k716 .char (8 : Int32) [(.int 115), (.int 116), (.int 114), (.int 105), (.int 99), (.int cv), (.int c6), (.int c7)] (.int 0) := V1232
            refine own_st (T' := T1232) (g' := (mkF m 290 #[.val (.int p1), .val (.int p2), .val (.int p3), .val (.int p4), .val (.long p5), .second, .val (.int (p1 &&& (3 : Int32))), .val (.ref b716), .val (.int 6), .unset, .unset] [])) st1232 ?_
            have F1237 : Old Z n0 h1232 := (Old.wr (Old.wr (Old.wr (Old.wr (Old.wr (Old.wr (Old.wr (Old.wr (Old.wr (Old.wr (Old.wr (Old.wr (Old.wr (Old.wr (Old.wr (Old.ext pr1 E716) W721 ge_b716) W725 ge_b716) W730 ge_b716) W735 ge_b716) W740 ge_b716) W745 ge_b716) W750 ge_b716) W755 ge_b716) W1119 ge_b716) W1124 ge_b716) W1129 ge_b716) W1134 ge_b716) W1139 ge_b716) W1144 ge_b716) W1232 ge_b716)
            exact J760 _ _ _ _ _ ⟨(115 : Int32), (116 : Int32), (114 : Int32), (105 : Int32), (99 : Int32), cv, c6, c7, (6 : Int32)⟩ ⟨N1232, Z1235, F1237, CR1234, hS, hk1235, hZ, hown, F1236, ⟨own_c115, own_c116, own_c114, own_c105, own_c99, b_cv, b_c6, b_c7, own_ql6⟩⟩ (X1232.mono (by decide) (by decide)) e1232
          ·
            refine own_st (T' := T1144) (g' := (mkF m 289 #[.val (.int p1), .val (.int p2), .val (.int p3), .val (.int p4), .val (.long p5), .second, .val (.int (p1 &&& (3 : Int32))), .val (.ref b716), .val (.int 6), .unset, .unset] [(.int ((p3 &&& (255 : Int32)).toUInt32.toUInt16.toUInt32.toInt32)), (.int 6), (.ref b716)])) (fun _ kt => XS.iloadN X1144.here hx rfl (hb hby at_283) rfl (XS.sipush X1144.here hx rfl (hb hby at_284) (XS.iand X1144.here hx rfl (hb hby at_287) rfl (XT.i2c X1144.here hx rfl (hb hby at_288) rfl kt)))) ?_
            obtain ⟨cv, hcv⟩ : ∃ z : Int32, z = ((p3 &&& (255 : Int32)).toUInt32.toUInt16.toUInt32.toInt32) := ⟨_, rfl⟩
            rw [← hcv]
            have b_cv : own_cc cv := hcv ▸ own_mkc _
            obtain ⟨T1238, h1238, X1238, e1238, W1238, V1238, st1238⟩ := own_cst X1144 hx hZ e1144 F1148 ⟨by decide, by decide⟩ (i := 6) rfl (by simp) (y := cv) b_cv.2.2 (g := (mkF m 289 #[.val (.int p1), .val (.int p2), .val (.int p3), .val (.int p4), .val (.long p5), .second, .val (.int (p1 &&& (3 : Int32))), .val (.ref b716), .val (.int 6), .unset, .unset] [(.int cv), (.int 6), (.ref b716)])) rfl rfl (hb hby at_289)
            have N1238 := Fr.snoc X1238 N1144 ge_b716
            have F1239 : Safe Z own_EL s.vm h1144 b716 := (Safe.wr W1144 F1145 CR1141.1 F1145)
            have CR1240 : CHr Z own_EL s.vm h0 s.vm h1238 := CHr.trans CR1146 (CHr.wr W1238 F1239 CR1146.1)
            have Z1241 : n0 ≤ h1238.size := Nat.le_trans Z1147 (Nat.le_of_eq (Wr.size W1238).symm)
            have hk1241 := Nat.le_trans hk1147 (Nat.le_of_eq (Wr.size W1238).symm)
            have F1242 : Arv Z h1238 b716 k716 .char (8 : Int32) [(.int 115), (.int 116), (.int 114), (.int 105), (.int 99), (.int 116), (.int cv), (.int c7)] (.int 0) := V1238
            refine own_st (T' := T1238) (g' := (mkF m 290 #[.val (.int p1), .val (.int p2), .val (.int p3), .val (.int p4), .val (.long p5), .second, .val (.int (p1 &&& (3 : Int32))), .val (.ref b716), .val (.int 6), .unset, .unset] [])) st1238 ?_
            have F1243 : Old Z n0 h1238 := (Old.wr (Old.wr (Old.wr (Old.wr (Old.wr (Old.wr (Old.wr (Old.wr (Old.wr (Old.wr (Old.wr (Old.wr (Old.wr (Old.wr (Old.wr (Old.ext pr1 E716) W721 ge_b716) W725 ge_b716) W730 ge_b716) W735 ge_b716) W740 ge_b716) W745 ge_b716) W750 ge_b716) W755 ge_b716) W1119 ge_b716) W1124 ge_b716) W1129 ge_b716) W1134 ge_b716) W1139 ge_b716) W1144 ge_b716) W1238 ge_b716)
            exact J760 _ _ _ _ _ ⟨(115 : Int32), (116 : Int32), (114 : Int32), (105 : Int32), (99 : Int32), (116 : Int32), cv, c7, (6 : Int32)⟩ ⟨N1238, Z1241, F1243, CR1240, hS, hk1241, hZ, hown, F1242, ⟨own_c115, own_c116, own_c114, own_c105, own_c99, own_c116, b_cv, b_c7, own_ql6⟩⟩ (X1238.mono (by decide) (by decide)) e1238
          ·
            refine own_st (T' := T1144) (g' := (mkF m 289 #[.val (.int p1), .val (.int p2), .val (.int p3), .val (.int p4), .val (.long p5), .second, .val (.int (p1 &&& (3 : Int32))), .val (.ref b716), .val (.int 6), .unset, .unset] [(.int ((p3 &&& (255 : Int32)).toUInt32.toUInt16.toUInt32.toInt32)), (.int 7), (.ref b716)])) (fun _ kt => XS.iloadN X1144.here hx rfl (hb hby at_283) rfl (XS.sipush X1144.here hx rfl (hb hby at_284) (XS.iand X1144.here hx rfl (hb hby at_287) rfl (XT.i2c X1144.here hx rfl (hb hby at_288) rfl kt)))) ?_
            obtain ⟨cv, hcv⟩ : ∃ z : Int32, z = ((p3 &&& (255 : Int32)).toUInt32.toUInt16.toUInt32.toInt32) := ⟨_, rfl⟩
            rw [← hcv]
            have b_cv : own_cc cv := hcv ▸ own_mkc _
            obtain ⟨T1244, h1244, X1244, e1244, W1244, V1244, st1244⟩ := own_cst X1144 hx hZ e1144 F1148 ⟨by decide, by decide⟩ (i := 7) rfl (by simp) (y := cv) b_cv.2.2 (g := (mkF m 289 #[.val (.int p1), .val (.int p2), .val (.int p3), .val (.int p4), .val (.long p5), .second, .val (.int (p1 &&& (3 : Int32))), .val (.ref b716), .val (.int 6), .unset, .unset] [(.int cv), (.int 7), (.ref b716)])) rfl rfl (hb hby at_289)
            have N1244 := Fr.snoc X1244 N1144 ge_b716
            have F1245 : Safe Z own_EL s.vm h1144 b716 := (Safe.wr W1144 F1145 CR1141.1 F1145)
            have CR1246 : CHr Z own_EL s.vm h0 s.vm h1244 := CHr.trans CR1146 (CHr.wr W1244 F1245 CR1146.1)
            have Z1247 : n0 ≤ h1244.size := Nat.le_trans Z1147 (Nat.le_of_eq (Wr.size W1244).symm)
            have hk1247 := Nat.le_trans hk1147 (Nat.le_of_eq (Wr.size W1244).symm)
            have F1248 : Arv Z h1244 b716 k716 .char (8 : Int32) [(.int 115), (.int 116), (.int 114), (.int 105), (.int 99), (.int 116), (.int c6), (.int cv)] (.int 0) := V1244
            refine own_st (T' := T1244) (g' := (mkF m 290 #[.val (.int p1), .val (.int p2), .val (.int p3), .val (.int p4), .val (.long p5), .second, .val (.int (p1 &&& (3 : Int32))), .val (.ref b716), .val (.int 6), .unset, .unset] [])) st1244 ?_
            have F1249 : Old Z n0 h1244 := (Old.wr (Old.wr (Old.wr (Old.wr (Old.wr (Old.wr (Old.wr (Old.wr (Old.wr (Old.wr (Old.wr (Old.wr (Old.wr (Old.wr (Old.wr (Old.ext pr1 E716) W721 ge_b716) W725 ge_b716) W730 ge_b716) W735 ge_b716) W740 ge_b716) W745 ge_b716) W750 ge_b716) W755 ge_b716) W1119 ge_b716) W1124 ge_b716) W1129 ge_b716) W1134 ge_b716) W1139 ge_b716) W1144 ge_b716) W1244 ge_b716)
            exact J760 _ _ _ _ _ ⟨(115 : Int32), (116 : Int32), (114 : Int32), (105 : Int32), (99 : Int32), (116 : Int32), c6, cv, (6 : Int32)⟩ ⟨N1244, Z1247, F1249, CR1246, hS, hk1247, hZ, hown, F1248, ⟨own_c115, own_c116, own_c114, own_c105, own_c99, own_c116, b_c6, b_cv, own_ql6⟩⟩ (X1244.mono (by decide) (by decide)) e1244
    ·
      refine own_st (T' := T755) (g' := (mkF m 197 #[.val (.int p1), .val (.int p2), .val (.int p3), .val (.int p4), .val (.long p5), .second, .val (.int (p1 &&& (3 : Int32))), .val (.ref b716), .unset, .unset, .unset] [(.int 2), (.int (p1 &&& (3 : Int32)))])) (fun _ kt => XS.icmpYes X755.here hx rfl (pc0 := 133) (pc' := 194) rfl (hb hby at_133) rfl (XT.ii_ne_t hc1118) (by decide) (by decide) (XS.iload X755.here hx rfl (hb hby at_194) rfl (XS.iconst X755.here hx rfl (hb hby at_196) kt))) ?_
      by_cases hc1250 : (p1 &&& (3 : Int32)) = (2 : Int32)
      ·
        refine own_st (T' := T755) (g' := (mkF m 205 #[.val (.int p1), .val (.int p2), .val (.int p3), .val (.int p4), .val (.long p5), .second, .val (.int (p1 &&& (3 : Int32))), .val (.ref b716), .unset, .unset, .unset] [(.int 108), (.int 0), (.ref b716)])) (fun _ kt => XS.icmpNo X755.here hx rfl (hb hby at_197) rfl (XT.ii_ne_f hc1250) (XS.aload X755.here hx rfl (hb hby at_200) rfl rfl (XS.iconst X755.here hx rfl (hb hby at_202) (XS.bipush X755.here hx rfl (hb hby at_203) kt)))) ?_
        obtain ⟨T1251, h1251, X1251, e1251, W1251, V1251, st1251⟩ := own_cst X755 hx hZ e755 F759 ⟨by decide, by decide⟩ (i := 0) rfl (by simp) (y := (108 : Int32)) rfl (g := (mkF m 205 #[.val (.int p1), .val (.int p2), .val (.int p3), .val (.int p4), .val (.long p5), .second, .val (.int (p1 &&& (3 : Int32))), .val (.ref b716), .unset, .unset, .unset] [(.int 108), (.int 0), (.ref b716)])) rfl rfl (hb hby at_205)
        have N1251 := Fr.snoc X1251 N755 ge_b716
        have F1252 : Safe Z own_EL s.vm h755 b716 := (Safe.wr W755 F756 CR752.1 F756)
        have CR1253 : CHr Z own_EL s.vm h0 s.vm h1251 := CHr.trans CR757 (CHr.wr W1251 F1252 CR757.1)
        have Z1254 : n0 ≤ h1251.size := Nat.le_trans Z758 (Nat.le_of_eq (Wr.size W1251).symm)
        have hk1254 := Nat.le_trans hk758 (Nat.le_of_eq (Wr.size W1251).symm)
        have F1255 : Arv Z h1251 b716 k716 .char (8 : Int32) [(.int 108), (.int c1), (.int c2), (.int c3), (.int c4), (.int c5), (.int c6), (.int c7)] (.int 0) := V1251
        refine own_st (T' := T1251) (g' := (mkF m 206 #[.val (.int p1), .val (.int p2), .val (.int p3), .val (.int p4), .val (.long p5), .second, .val (.int (p1 &&& (3 : Int32))), .val (.ref b716), .unset, .unset, .unset] [])) st1251 ?_
        refine own_st (T' := T1251) (g' := (mkF m 211 #[.val (.int p1), .val (.int p2), .val (.int p3), .val (.int p4), .val (.long p5), .second, .val (.int (p1 &&& (3 : Int32))), .val (.ref b716), .unset, .unset, .unset] [(.int 101), (.int 1), (.ref b716)])) (fun _ kt => XS.aload X1251.here hx rfl (hb hby at_206) rfl rfl (XS.iconst X1251.here hx rfl (hb hby at_208) (XS.bipush X1251.here hx rfl (hb hby at_209) kt))) ?_
        obtain ⟨T1256, h1256, X1256, e1256, W1256, V1256, st1256⟩ := own_cst X1251 hx hZ e1251 F1255 ⟨by decide, by decide⟩ (i := 1) rfl (by simp) (y := (101 : Int32)) rfl (g := (mkF m 211 #[.val (.int p1), .val (.int p2), .val (.int p3), .val (.int p4), .val (.long p5), .second, .val (.int (p1 &&& (3 : Int32))), .val (.ref b716), .unset, .unset, .unset] [(.int 101), (.int 1), (.ref b716)])) rfl rfl (hb hby at_211)
        have N1256 := Fr.snoc X1256 N1251 ge_b716
        have F1257 : Safe Z own_EL s.vm h1251 b716 := (Safe.wr W1251 F1252 CR757.1 F1252)
        have CR1258 : CHr Z own_EL s.vm h0 s.vm h1256 := CHr.trans CR1253 (CHr.wr W1256 F1257 CR1253.1)
        have Z1259 : n0 ≤ h1256.size := Nat.le_trans Z1254 (Nat.le_of_eq (Wr.size W1256).symm)
        have hk1259 := Nat.le_trans hk1254 (Nat.le_of_eq (Wr.size W1256).symm)
        have F1260 : Arv Z h1256 b716 k716 .char (8 : Int32) [(.int 108), (.int 101), (.int c2), (.int c3), (.int c4), (.int c5), (.int c6), (.int c7)] (.int 0) := V1256
        refine own_st (T' := T1256) (g' := (mkF m 212 #[.val (.int p1), .val (.int p2), .val (.int p3), .val (.int p4), .val (.long p5), .second, .val (.int (p1 &&& (3 : Int32))), .val (.ref b716), .unset, .unset, .unset] [])) st1256 ?_
        refine own_st (T' := T1256) (g' := (mkF m 217 #[.val (.int p1), .val (.int p2), .val (.int p3), .val (.int p4), .val (.long p5), .second, .val (.int (p1 &&& (3 : Int32))), .val (.ref b716), .unset, .unset, .unset] [(.int 110), (.int 2), (.ref b716)])) (fun _ kt => XS.aload X1256.here hx rfl (hb hby at_212) rfl rfl (XS.iconst X1256.here hx rfl (hb hby at_214) (XS.bipush X1256.here hx rfl (hb hby at_215) kt))) ?_
        obtain ⟨T1261, h1261, X1261, e1261, W1261, V1261, st1261⟩ := own_cst X1256 hx hZ e1256 F1260 ⟨by decide, by decide⟩ (i := 2) rfl (by simp) (y := (110 : Int32)) rfl (g := (mkF m 217 #[.val (.int p1), .val (.int p2), .val (.int p3), .val (.int p4), .val (.long p5), .second, .val (.int (p1 &&& (3 : Int32))), .val (.ref b716), .unset, .unset, .unset] [(.int 110), (.int 2), (.ref b716)])) rfl rfl (hb hby at_217)
        have N1261 := Fr.snoc X1261 N1256 ge_b716
        have F1262 : Safe Z own_EL s.vm h1256 b716 := (Safe.wr W1256 F1257 CR1253.1 F1257)
        have CR1263 : CHr Z own_EL s.vm h0 s.vm h1261 := CHr.trans CR1258 (CHr.wr W1261 F1262 CR1258.1)
        have Z1264 : n0 ≤ h1261.size := Nat.le_trans Z1259 (Nat.le_of_eq (Wr.size W1261).symm)
        have hk1264 := Nat.le_trans hk1259 (Nat.le_of_eq (Wr.size W1261).symm)
        have F1265 : Arv Z h1261 b716 k716 .char (8 : Int32) [(.int 108), (.int 101), (.int 110), (.int c3), (.int c4), (.int c5), (.int c6), (.int c7)] (.int 0) := V1261
        refine own_st (T' := T1261) (g' := (mkF m 218 #[.val (.int p1), .val (.int p2), .val (.int p3), .val (.int p4), .val (.long p5), .second, .val (.int (p1 &&& (3 : Int32))), .val (.ref b716), .unset, .unset, .unset] [])) st1261 ?_
        refine own_st (T' := T1261) (g' := (mkF m 223 #[.val (.int p1), .val (.int p2), .val (.int p3), .val (.int p4), .val (.long p5), .second, .val (.int (p1 &&& (3 : Int32))), .val (.ref b716), .unset, .unset, .unset] [(.int 105), (.int 3), (.ref b716)])) (fun _ kt => XS.aload X1261.here hx rfl (hb hby at_218) rfl rfl (XS.iconst X1261.here hx rfl (hb hby at_220) (XS.bipush X1261.here hx rfl (hb hby at_221) kt))) ?_
        obtain ⟨T1266, h1266, X1266, e1266, W1266, V1266, st1266⟩ := own_cst X1261 hx hZ e1261 F1265 ⟨by decide, by decide⟩ (i := 3) rfl (by simp) (y := (105 : Int32)) rfl (g := (mkF m 223 #[.val (.int p1), .val (.int p2), .val (.int p3), .val (.int p4), .val (.long p5), .second, .val (.int (p1 &&& (3 : Int32))), .val (.ref b716), .unset, .unset, .unset] [(.int 105), (.int 3), (.ref b716)])) rfl rfl (hb hby at_223)
        have N1266 := Fr.snoc X1266 N1261 ge_b716
        have F1267 : Safe Z own_EL s.vm h1261 b716 := (Safe.wr W1261 F1262 CR1258.1 F1262)
        have CR1268 : CHr Z own_EL s.vm h0 s.vm h1266 := CHr.trans CR1263 (CHr.wr W1266 F1267 CR1263.1)
        have Z1269 : n0 ≤ h1266.size := Nat.le_trans Z1264 (Nat.le_of_eq (Wr.size W1266).symm)
        have hk1269 := Nat.le_trans hk1264 (Nat.le_of_eq (Wr.size W1266).symm)
        have F1270 : Arv Z h1266 b716 k716 .char (8 : Int32) [(.int 108), (.int 101), (.int 110), (.int 105), (.int c4), (.int c5), (.int c6), (.int c7)] (.int 0) := V1266
        refine own_st (T' := T1266) (g' := (mkF m 224 #[.val (.int p1), .val (.int p2), .val (.int p3), .val (.int p4), .val (.long p5), .second, .val (.int (p1 &&& (3 : Int32))), .val (.ref b716), .unset, .unset, .unset] [])) st1266 ?_
        refine own_st (T' := T1266) (g' := (mkF m 229 #[.val (.int p1), .val (.int p2), .val (.int p3), .val (.int p4), .val (.long p5), .second, .val (.int (p1 &&& (3 : Int32))), .val (.ref b716), .unset, .unset, .unset] [(.int 101), (.int 4), (.ref b716)])) (fun _ kt => XS.aload X1266.here hx rfl (hb hby at_224) rfl rfl (XS.iconst X1266.here hx rfl (hb hby at_226) (XS.bipush X1266.here hx rfl (hb hby at_227) kt))) ?_
        obtain ⟨T1271, h1271, X1271, e1271, W1271, V1271, st1271⟩ := own_cst X1266 hx hZ e1266 F1270 ⟨by decide, by decide⟩ (i := 4) rfl (by simp) (y := (101 : Int32)) rfl (g := (mkF m 229 #[.val (.int p1), .val (.int p2), .val (.int p3), .val (.int p4), .val (.long p5), .second, .val (.int (p1 &&& (3 : Int32))), .val (.ref b716), .unset, .unset, .unset] [(.int 101), (.int 4), (.ref b716)])) rfl rfl (hb hby at_229)
        have N1271 := Fr.snoc X1271 N1266 ge_b716
        have F1272 : Safe Z own_EL s.vm h1266 b716 := (Safe.wr W1266 F1267 CR1263.1 F1267)
        have CR1273 : CHr Z own_EL s.vm h0 s.vm h1271 := CHr.trans CR1268 (CHr.wr W1271 F1272 CR1268.1)
        have Z1274 : n0 ≤ h1271.size := Nat.le_trans Z1269 (Nat.le_of_eq (Wr.size W1271).symm)
        have hk1274 := Nat.le_trans hk1269 (Nat.le_of_eq (Wr.size W1271).symm)
        have F1275 : Arv Z h1271 b716 k716 .char (8 : Int32) [(.int 108), (.int 101), (.int 110), (.int 105), (.int 101), (.int c5), (.int c6), (.int c7)] (.int 0) := V1271
        refine own_st (T' := T1271) (g' := (mkF m 230 #[.val (.int p1), .val (.int p2), .val (.int p3), .val (.int p4), .val (.long p5), .second, .val (.int (p1 &&& (3 : Int32))), .val (.ref b716), .unset, .unset, .unset] [])) st1271 ?_
        refine own_st (T' := T1271) (g' := (mkF m 235 #[.val (.int p1), .val (.int p2), .val (.int p3), .val (.int p4), .val (.long p5), .second, .val (.int (p1 &&& (3 : Int32))), .val (.ref b716), .unset, .unset, .unset] [(.int 110), (.int 5), (.ref b716)])) (fun _ kt => XS.aload X1271.here hx rfl (hb hby at_230) rfl rfl (XS.iconst X1271.here hx rfl (hb hby at_232) (XS.bipush X1271.here hx rfl (hb hby at_233) kt))) ?_
        obtain ⟨T1276, h1276, X1276, e1276, W1276, V1276, st1276⟩ := own_cst X1271 hx hZ e1271 F1275 ⟨by decide, by decide⟩ (i := 5) rfl (by simp) (y := (110 : Int32)) rfl (g := (mkF m 235 #[.val (.int p1), .val (.int p2), .val (.int p3), .val (.int p4), .val (.long p5), .second, .val (.int (p1 &&& (3 : Int32))), .val (.ref b716), .unset, .unset, .unset] [(.int 110), (.int 5), (.ref b716)])) rfl rfl (hb hby at_235)
        have N1276 := Fr.snoc X1276 N1271 ge_b716
        have F1277 : Safe Z own_EL s.vm h1271 b716 := (Safe.wr W1271 F1272 CR1268.1 F1272)
        have CR1278 : CHr Z own_EL s.vm h0 s.vm h1276 := CHr.trans CR1273 (CHr.wr W1276 F1277 CR1273.1)
        have Z1279 : n0 ≤ h1276.size := Nat.le_trans Z1274 (Nat.le_of_eq (Wr.size W1276).symm)
        have hk1279 := Nat.le_trans hk1274 (Nat.le_of_eq (Wr.size W1276).symm)
        have F1280 : Arv Z h1276 b716 k716 .char (8 : Int32) [(.int 108), (.int 101), (.int 110), (.int 105), (.int 101), (.int 110), (.int c6), (.int c7)] (.int 0) := V1276
        refine own_st (T' := T1276) (g' := (mkF m 236 #[.val (.int p1), .val (.int p2), .val (.int p3), .val (.int p4), .val (.long p5), .second, .val (.int (p1 &&& (3 : Int32))), .val (.ref b716), .unset, .unset, .unset] [])) st1276 ?_
        refine own_st (T' := T1276) (g' := (mkF m 242 #[.val (.int p1), .val (.int p2), .val (.int p3), .val (.int p4), .val (.long p5), .second, .val (.int (p1 &&& (3 : Int32))), .val (.ref b716), .unset, .unset, .unset] [(.int 116), (.int 6), (.ref b716)])) (fun _ kt => XS.aload X1276.here hx rfl (hb hby at_236) rfl rfl (XS.bipush X1276.here hx rfl (hb hby at_238) (XS.bipush X1276.here hx rfl (hb hby at_240) kt))) ?_
        obtain ⟨T1281, h1281, X1281, e1281, W1281, V1281, st1281⟩ := own_cst X1276 hx hZ e1276 F1280 ⟨by decide, by decide⟩ (i := 6) rfl (by simp) (y := (116 : Int32)) rfl (g := (mkF m 242 #[.val (.int p1), .val (.int p2), .val (.int p3), .val (.int p4), .val (.long p5), .second, .val (.int (p1 &&& (3 : Int32))), .val (.ref b716), .unset, .unset, .unset] [(.int 116), (.int 6), (.ref b716)])) rfl rfl (hb hby at_242)
        have N1281 := Fr.snoc X1281 N1276 ge_b716
        have F1282 : Safe Z own_EL s.vm h1276 b716 := (Safe.wr W1276 F1277 CR1273.1 F1277)
        have CR1283 : CHr Z own_EL s.vm h0 s.vm h1281 := CHr.trans CR1278 (CHr.wr W1281 F1282 CR1278.1)
        have Z1284 : n0 ≤ h1281.size := Nat.le_trans Z1279 (Nat.le_of_eq (Wr.size W1281).symm)
        have hk1284 := Nat.le_trans hk1279 (Nat.le_of_eq (Wr.size W1281).symm)
        have F1285 : Arv Z h1281 b716 k716 .char (8 : Int32) [(.int 108), (.int 101), (.int 110), (.int 105), (.int 101), (.int 110), (.int 116), (.int c7)] (.int 0) := V1281
        refine own_st (T' := T1281) (g' := (mkF m 243 #[.val (.int p1), .val (.int p2), .val (.int p3), .val (.int p4), .val (.long p5), .second, .val (.int (p1 &&& (3 : Int32))), .val (.ref b716), .unset, .unset, .unset] [])) st1281 ?_
        refine own_st (T' := T1281) (g' := (mkF m 246 #[.val (.int p1), .val (.int p2), .val (.int p3), .val (.int p4), .val (.long p5), .second, .val (.int (p1 &&& (3 : Int32))), .val (.ref b716), .unset, .unset, .unset] [(.int (p4 &&& (3 : Int32)))])) (fun _ kt => XS.iloadN X1281.here hx rfl (hb hby at_243) rfl (XS.iconst X1281.here hx rfl (hb hby at_244) (XS.iand X1281.here hx rfl (hb hby at_245) rfl kt))) ?_
        by_cases hc1286 : (p4 &&& (3 : Int32)) = 0
        ·
          refine own_st (T' := T1281) (g' := (mkF m 274 #[.val (.int p1), .val (.int p2), .val (.int p3), .val (.int p4), .val (.long p5), .second, .val (.int (p1 &&& (3 : Int32))), .val (.ref b716), .val (.int ((XT.ushr p4 (2 : Int32)) &&& (7 : Int32))), .unset, .unset] [(.int (p1 &&& (4 : Int32)))])) (fun _ kt => XS.ifNo X1281.here hx rfl (hb hby at_246) rfl (XT.i0_ne_f hc1286) (XS.iloadN X1281.here hx rfl (hb hby at_249) rfl (XS.iconst X1281.here hx rfl (hb hby at_250) (XT.iushr X1281.here hx rfl (hb hby at_251) rfl (XS.bipush X1281.here hx rfl (hb hby at_252) (XS.iand X1281.here hx rfl (hb hby at_254) rfl (XS.goto X1281.here hx rfl (pc0 := 255) (pc' := 260) rfl (hb hby at_255) (by decide) (by decide) (XS.istore X1281.here hx rfl (hb hby at_260) rfl (l' := #[.val (.int p1), .val (.int p2), .val (.int p3), .val (.int p4), .val (.long p5), .second, .val (.int (p1 &&& (3 : Int32))), .val (.ref b716), .val (.int ((XT.ushr p4 (2 : Int32)) &&& (7 : Int32))), .unset, .unset]) rfl (XS.goto X1281.here hx rfl (pc0 := 262) (pc' := 271) rfl (hb hby at_262) (by decide) (by decide) (XS.iloadN X1281.here hx rfl (hb hby at_271) rfl (XS.iconst X1281.here hx rfl (hb hby at_272) (XS.iand X1281.here hx rfl (hb hby at_273) rfl kt)))))))))))) ?_
          by_cases hc1287 : (p1 &&& (4 : Int32)) = 0
          ·
            refine own_st (T' := T1281) (g' := (mkF m 290 #[.val (.int p1), .val (.int p2), .val (.int p3), .val (.int p4), .val (.long p5), .second, .val (.int (p1 &&& (3 : Int32))), .val (.ref b716), .val (.int ((XT.ushr p4 (2 : Int32)) &&& (7 : Int32))), .unset, .unset] [])) (fun _ kt => XS.ifYes X1281.here hx rfl (pc0 := 274) (pc' := 290) rfl (hb hby at_274) rfl (XT.i0_eq_t hc1287) (by decide) (by decide) kt) ?_
            have F1288 : Old Z n0 h1281 := (Old.wr (Old.wr (Old.wr (Old.wr (Old.wr (Old.wr (Old.wr (Old.wr (Old.wr (Old.wr (Old.wr (Old.wr (Old.wr (Old.wr (Old.wr (Old.ext pr1 E716) W721 ge_b716) W725 ge_b716) W730 ge_b716) W735 ge_b716) W740 ge_b716) W745 ge_b716) W750 ge_b716) W755 ge_b716) W1251 ge_b716) W1256 ge_b716) W1261 ge_b716) W1266 ge_b716) W1271 ge_b716) W1276 ge_b716) W1281 ge_b716)
            exact J760 _ _ _ _ _ ⟨(108 : Int32), (101 : Int32), (110 : Int32), (105 : Int32), (101 : Int32), (110 : Int32), (116 : Int32), c7, ((XT.ushr p4 (2 : Int32)) &&& (7 : Int32))⟩ ⟨N1281, Z1284, F1288, CR1283, hS, hk1284, hZ, hown, F1285, ⟨own_c108, own_c101, own_c110, own_c105, own_c101, own_c110, own_c116, b_c7, (own_and7 _)⟩⟩ (X1281.mono (by decide) (by decide)) e1281
          ·
            refine own_st (T' := T1281) (g' := (mkF m 283 #[.val (.int p1), .val (.int p2), .val (.int p3), .val (.int p4), .val (.long p5), .second, .val (.int (p1 &&& (3 : Int32))), .val (.ref b716), .val (.int ((XT.ushr p4 (2 : Int32)) &&& (7 : Int32))), .unset, .unset] [(.int (p2 &&& (7 : Int32))), (.ref b716)])) (fun _ kt => XS.ifNo X1281.here hx rfl (hb hby at_274) rfl (XT.i0_eq_f hc1287) (XS.aload X1281.here hx rfl (hb hby at_277) rfl rfl (XS.iloadN X1281.here hx rfl (hb hby at_279) rfl (XS.bipush X1281.here hx rfl (hb hby at_280) (XS.iand X1281.here hx rfl (hb hby at_282) rfl kt))))) ?_
            obtain ⟨ii, hii⟩ : ∃ z : Int32, z = (p2 &&& (7 : Int32)) := ⟨_, rfl⟩
            rw [← hii]
            rcases (hii ▸ own_and7 _ : own_q8 ii) with rfl | rfl | rfl | rfl | rfl | rfl | rfl | rfl
            ·
              refine own_st (T' := T1281) (g' := (mkF m 289 #[.val (.int p1), .val (.int p2), .val (.int p3), .val (.int p4), .val (.long p5), .second, .val (.int (p1 &&& (3 : Int32))), .val (.ref b716), .val (.int ((XT.ushr p4 (2 : Int32)) &&& (7 : Int32))), .unset, .unset] [(.int ((p3 &&& (255 : Int32)).toUInt32.toUInt16.toUInt32.toInt32)), (.int 0), (.ref b716)])) (fun _ kt => XS.iloadN X1281.here hx rfl (hb hby at_283) rfl (XS.sipush X1281.here hx rfl (hb hby at_284) (XS.iand X1281.here hx rfl (hb hby at_287) rfl (XT.i2c X1281.here hx rfl (hb hby at_288) rfl kt)))) ?_
              obtain ⟨cv, hcv⟩ : ∃ z : Int32, z = ((p3 &&& (255 : Int32)).toUInt32.toUInt16.toUInt32.toInt32) := ⟨_, rfl⟩
              rw [← hcv]
              have b_cv : own_cc cv := hcv ▸ own_mkc _
              obtain ⟨T1289, h1289, X1289, e1289, W1289, V1289, st1289⟩ := own_cst X1281 hx hZ e1281 F1285 ⟨by decide, by decide⟩ (i := 0) rfl (by simp) (y := cv) b_cv.2.2 (g := (mkF m 289 #[.val (.int p1), .val (.int p2), .val (.int p3), .val (.int p4), .val (.long p5), .second, .val (.int (p1 &&& (3 : Int32))), .val (.ref b716), .val (.int ((XT.ushr p4 (2 : Int32)) &&& (7 : Int32))), .unset, .unset] [(.int cv), (.int 0), (.ref b716)])) rfl rfl (hb hby at_289)
              have N1289 := Fr.snoc X1289 N1281 ge_b716
              have F1290 : Safe Z own_EL s.vm h1281 b716 := (Safe.wr W1281 F1282 CR1278.1 F1282)
              have CR1291 : CHr Z own_EL s.vm h0 s.vm h1289 := CHr.trans CR1283 (CHr.wr W1289 F1290 CR1283.1)
              have Z1292 : n0 ≤ h1289.size := Nat.le_trans Z1284 (Nat.le_of_eq (Wr.size W1289).symm)
              have hk1292 := Nat.le_trans hk1284 (Nat.le_of_eq (Wr.size W1289).symm)
              have F1293 : Arv Z h1289 b716 k716 .char (8 : Int32) [(.int cv), (.int 101), (.int 110), (.int 105), (.int 101), (.int 110), (.int 116), (.int c7)] (.int 0) := V1289
              refine own_st (T' := T1289) (g' := (mkF m 290 #[.val (.int p1), .val (.int p2), .val (.int p3), .val (.int p4), .val (.long p5), .second, .val (.int (p1 &&& (3 : Int32))), .val (.ref b716), .val (.int ((XT.ushr p4 (2 : Int32)) &&& (7 : Int32))), .unset, .unset] [])) st1289 ?_
              have F1294 : Old Z n0 h1289 := (Old.wr (Old.wr (Old.wr (Old.wr (Old.wr (Old.wr (Old.wr (Old.wr (Old.wr (Old.wr (Old.wr (Old.wr (Old.wr (Old.wr (Old.wr (Old.wr (Old.ext pr1 E716) W721 ge_b716) W725 ge_b716) W730 ge_b716) W735 ge_b716) W740 ge_b716) W745 ge_b716) W750 ge_b716) W755 ge_b716) W1251 ge_b716) W1256 ge_b716) W1261 ge_b716) W1266 ge_b716) W1271 ge_b716) W1276 ge_b716) W1281 ge_b716) W1289 ge_b716)
              exact J760 _ _ _ _ _ ⟨cv, (101 : Int32), (110 : Int32), (105 : Int32), (101 : Int32), (110 : Int32), (116 : Int32), c7, ((XT.ushr p4 (2 : Int32)) &&& (7 : Int32))⟩ ⟨N1289, Z1292, F1294, CR1291, hS, hk1292, hZ, hown, F1293, ⟨b_cv, own_c101, own_c110, own_c105, own_c101, own_c110, own_c116, b_c7, (own_and7 _)⟩⟩ (X1289.mono (by decide) (by decide)) e1289
            ·
              refine own_st (T' := T1281) (g' := (mkF m 289 #[.val (.int p1), .val (.int p2), .val (.int p3), .val (.int p4), .val (.long p5), .second, .val (.int (p1 &&& (3 : Int32))), .val (.ref b716), .val (.int ((XT.ushr p4 (2 : Int32)) &&& (7 : Int32))), .unset, .unset] [(.int ((p3 &&& (255 : Int32)).toUInt32.toUInt16.toUInt32.toInt32)), (.int 1), (.ref b716)])) (fun _ kt => XS.iloadN X1281.here hx rfl (hb hby at_283) rfl (XS.sipush X1281.here hx rfl (hb hby at_284) (XS.iand X1281.here hx rfl (hb hby at_287) rfl (XT.i2c X1281.here hx rfl (hb hby at_288) rfl kt)))) ?_
              obtain ⟨cv, hcv⟩ : ∃ z : Int32, z = ((p3 &&& (255 : Int32)).toUInt32.toUInt16.toUInt32.toInt32) := ⟨_, rfl⟩
              rw [← hcv]
              have b_cv : own_cc cv := hcv ▸ own_mkc _
              obtain ⟨T1295, h1295, X1295, e1295, W1295, V1295, st1295⟩ := own_cst X1281 hx hZ e1281 F1285 ⟨by decide, by decide⟩ (i := 1) rfl (by simp) (y := cv) b_cv.2.2 (g := (mkF m 289 #[.val (.int p1), .val (.int p2), .val (.int p3), .val (.int p4), .val (.long p5), .second, .val (.int (p1 &&& (3 : Int32))), .val (.ref b716), .val (.int ((XT.ushr p4 (2 : Int32)) &&& (7 : Int32))), .unset, .unset] [(.int cv), (.int 1), (.ref b716)])) rfl rfl (hb hby at_289)
              have N1295 := Fr.snoc X1295 N1281 ge_b716
              have F1296 : Safe Z own_EL s.vm h1281 b716 := (Safe.wr W1281 F1282 CR1278.1 F1282)
              have CR1297 : CHr Z own_EL s.vm h0 s.vm h1295 := CHr.trans CR1283 (CHr.wr W1295 F1296 CR1283.1)
              have Z1298 : n0 ≤ h1295.size := Nat.le_trans Z1284 (Nat.le_of_eq (Wr.size W1295).symm)
              have hk1298 := Nat.le_trans hk1284 (Nat.le_of_eq (Wr.size W1295).symm)
              have F1299 : Arv Z h1295 b716 k716 .char (8 : Int32) [(.int 108), (.int cv), (.int 110), (.int 105), (.int 101), (.int 110), (.int 116), (.int c7)] (.int 0) := V1295
              refine own_st (T' := T1295) (g' := (mkF m 290 #[.val (.int p1), .val (.int p2), .val (.int p3), .val (.int p4), .val (.long p5), .second, .val (.int (p1 &&& (3 : Int32))), .val (.ref b716), .val (.int ((XT.ushr p4 (2 : Int32)) &&& (7 : Int32))), .unset, .unset] [])) st1295 ?_
              have F1300 : Old Z n0 h1295 := (Old.wr (Old.wr (Old.wr (Old.wr (Old.wr (Old.wr (Old.wr (Old.wr (Old.wr (Old.wr (Old.wr (Old.wr (Old.wr (Old.wr (Old.wr (Old.wr (Old.ext pr1 E716) W721 ge_b716) W725 ge_b716) W730 ge_b716) W735 ge_b716) W740 ge_b716) W745 ge_b716) W750 ge_b716) W755 ge_b716) W1251 ge_b716) W1256 ge_b716) W1261 ge_b716) W1266 ge_b716) W1271 ge_b716) W1276 ge_b716) W1281 ge_b716) W1295 ge_b716)
              exact J760 _ _ _ _ _ ⟨(108 : Int32), cv, (110 : Int32), (105 : Int32), (101 : Int32), (110 : Int32), (116 : Int32), c7, ((XT.ushr p4 (2 : Int32)) &&& (7 : Int32))⟩ ⟨N1295, Z1298, F1300, CR1297, hS, hk1298, hZ, hown, F1299, ⟨own_c108, b_cv, own_c110, own_c105, own_c101, own_c110, own_c116, b_c7, (own_and7 _)⟩⟩ (X1295.mono (by decide) (by decide)) e1295
            ·
              refine own_st (T' := T1281) (g' := (mkF m 289 #[.val (.int p1), .val (.int p2), .val (.int p3), .val (.int p4), .val (.long p5), .second, .val (.int (p1 &&& (3 : Int32))), .val (.ref b716), .val (.int ((XT.ushr p4 (2 : Int32)) &&& (7 : Int32))), .unset, .unset] [(.int ((p3 &&& (255 : Int32)).toUInt32.toUInt16.toUInt32.toInt32)), (.int 2), (.ref b716)])) (fun _ kt => XS.iloadN X1281.here hx rfl (hb hby at_283) rfl (XS.sipush X1281.here hx rfl (hb hby at_284) (XS.iand X1281.here hx rfl (hb hby at_287) rfl (XT.i2c X1281.here hx rfl (hb hby at_288) rfl kt)))) ?_
              obtain ⟨cv, hcv⟩ : ∃ z : Int32, z = ((p3 &&& (255 : Int32)).toUInt32.toUInt16.toUInt32.toInt32) := ⟨_, rfl⟩
              rw [← hcv]
              have b_cv : own_cc cv := hcv ▸ own_mkc _
              obtain ⟨T1301, h1301, X1301, e1301, W1301, V1301, st1301⟩ := own_cst X1281 hx hZ e1281 F1285 ⟨by decide, by decide⟩ (i := 2) rfl (by simp) (y := cv) b_cv.2.2 (g := (mkF m 289 #[.val (.int p1), .val (.int p2), .val (.int p3), .val (.int p4), .val (.long p5), .second, .val (.int (p1 &&& (3 : Int32))), .val (.ref b716), .val (.int ((XT.ushr p4 (2 : Int32)) &&& (7 : Int32))), .unset, .unset] [(.int cv), (.int 2), (.ref b716)])) rfl rfl (hb hby at_289)
              have N1301 := Fr.snoc X1301 N1281 ge_b716
              have F1302 : Safe Z own_EL s.vm h1281 b716 := (Safe.wr W1281 F1282 CR1278.1 F1282)
              have CR1303 : CHr Z own_EL s.vm h0 s.vm h1301 := CHr.trans CR1283 (CHr.wr W1301 F1302 CR1283.1)
              have Z1304 : n0 ≤ h1301.size := Nat.le_trans Z1284 (Nat.le_of_eq (Wr.size W1301).symm)
              have hk1304 := Nat.le_trans hk1284 (Nat.le_of_eq (Wr.size W1301).symm)
              have F1305 : Arv Z h1301 b716 k716 .char (8 : Int32) [(.int 108), (.int 101), (.int cv), (.int 105), (.int 101), (.int 110), (.int 116), (.int c7)] (.int 0) := V1301
              refine own_st (T' := T1301) (g' := (mkF m 290 #[.val (.int p1), .val (.int p2), .val (.int p3), .val (.int p4), .val (.long p5), .second, .val (.int (p1 &&& (3 : Int32))), .val (.ref b716), .val (.int ((XT.ushr p4 (2 : Int32)) &&& (7 : Int32))), .unset, .unset] [])) st1301 ?_
              have F1306 : Old Z n0 h1301 := (Old.wr (Old.wr (Old.wr (Old.wr (Old.wr (Old.wr (Old.wr (Old.wr (Old.wr (Old.wr (Old.wr (Old.wr (Old.wr (Old.wr (Old.wr (Old.wr (Old.ext pr1 E716) W721 ge_b716) W725 ge_b716) W730 ge_b716) W735 ge_b716) W740 ge_b716) W745 ge_b716) W750 ge_b716) W755 ge_b716) W1251 ge_b716) W1256 ge_b716) W1261 ge_b716) W1266 ge_b716) W1271 ge_b716) W1276 ge_b716) W1281 ge_b716) W1301 ge_b716)
              exact J760 _ _ _ _ _ ⟨(108 : Int32), (101 : Int32), cv, (105 : Int32), (101 : Int32), (110 : Int32), (116 : Int32), c7, ((XT.ushr p4 (2 : Int32)) &&& (7 : Int32))⟩ ⟨N1301, Z1304, F1306, CR1303, hS, hk1304, hZ, hown, F1305, ⟨own_c108, own_c101, b_cv, own_c105, own_c101, own_c110, own_c116, b_c7, (own_and7 _)⟩⟩ (X1301.mono (by decide) (by decide)) e1301
            ·
              refine own_st (T' := T1281) (g' := (mkF m 289 #[.val (.int p1), .val (.int p2), .val (.int p3), .val (.int p4), .val (.long p5), .second, .val (.int (p1 &&& (3 : Int32))), .val (.ref b716), .val (.int ((XT.ushr p4 (2 : Int32)) &&& (7 : Int32))), .unset, .unset] [(.int ((p3 &&& (255 : Int32)).toUInt32.toUInt16.toUInt32.toInt32)), (.int 3), (.ref b716)])) (fun _ kt => XS.iloadN X1281.here hx rfl (hb hby at_283) rfl (XS.sipush X1281.here hx rfl (hb hby at_284) (XS.iand X1281.here hx rfl (hb hby at_287) rfl (XT.i2c X1281.here hx rfl (hb hby at_288) rfl kt)))) ?_
              obtain ⟨cv, hcv⟩ : ∃ z : Int32, z = ((p3 &&& (255 : Int32)).toUInt32.toUInt16.toUInt32.toInt32) := ⟨_, rfl⟩
              rw [← hcv]
              have b_cv : own_cc cv := hcv ▸ own_mkc _
              obtain ⟨T1307, h1307, X1307, e1307, W1307, V1307, st1307⟩ := own_cst X1281 hx hZ e1281 F1285 ⟨by decide, by decide⟩ (i := 3) rfl (by simp) (y := cv) b_cv.2.2 (g := (mkF m 289 #[.val (.int p1), .val (.int p2), .val (.int p3), .val (.int p4), .val (.long p5), .second, .val (.int (p1 &&& (3 : Int32))), .val (.ref b716), .val (.int ((XT.ushr p4 (2 : Int32)) &&& (7 : Int32))), .unset, .unset] [(.int cv), (.int 3), (.ref b716)])) rfl rfl (hb hby at_289)
              have N1307 := Fr.snoc X1307 N1281 ge_b716
              have F1308 : Safe Z own_EL s.vm h1281 b716 := (Safe.wr W1281 F1282 CR1278.1 F1282)
              have CR1309 : CHr Z own_EL s.vm h0 s.vm h1307 := CHr.trans CR1283 (CHr.wr W1307 F1308 CR1283.1)
              have Z1310 : n0 ≤ h1307.size := Nat.le_trans Z1284 (Nat.le_of_eq (Wr.size W1307).symm)
              have hk1310 := Nat.le_trans hk1284 (Nat.le_of_eq (Wr.size W1307).symm)
              have F1311 : Arv Z h1307 b716 k716 .char (8 : Int32) [(.int 108), (.int 101), (.int 110), (.int cv), (.int 101), (.int 110), (.int 116), (.int c7)] (.int 0) := V1307
              refine own_st (T' := T1307) (g' := (mkF m 290 #[.val (.int p1), .val (.int p2), .val (.int p3), .val (.int p4), .val (.long p5), .second, .val (.int (p1 &&& (3 : Int32))), .val (.ref b716), .val (.int ((XT.ushr p4 (2 : Int32)) &&& (7 : Int32))), .unset, .unset] [])) st1307 ?_
              have F1312 : Old Z n0 h1307 := (Old.wr (Old.wr (Old.wr (Old.wr (Old.wr (Old.wr (Old.wr (Old.wr (Old.wr (Old.wr (Old.wr (Old.wr (Old.wr (Old.wr (Old.wr (Old.wr (Old.ext pr1 E716) W721 ge_b716) W725 ge_b716) W730 ge_b716) W735 ge_b716) W740 ge_b716) W745 ge_b716) W750 ge_b716) W755 ge_b716) W1251 ge_b716) W1256 ge_b716) W1261 ge_b716) W1266 ge_b716) W1271 ge_b716) W1276 ge_b716) W1281 ge_b716) W1307 ge_b716)
              exact J760 _ _ _ _ _ ⟨(108 : Int32), (101 : Int32), (110 : Int32), cv, (101 : Int32), (110 : Int32), (116 : Int32), c7, ((XT.ushr p4 (2 : Int32)) &&& (7 : Int32))⟩ ⟨N1307, Z1310, F1312, CR1309, hS, hk1310, hZ, hown, F1311, ⟨own_c108, own_c101, own_c110, b_cv, own_c101, own_c110, own_c116, b_c7, (own_and7 _)⟩⟩ (X1307.mono (by decide) (by decide)) e1307
            ·
              refine own_st (T' := T1281) (g' := (mkF m 289 #[.val (.int p1), .val (.int p2), .val (.int p3), .val (.int p4), .val (.long p5), .second, .val (.int (p1 &&& (3 : Int32))), .val (.ref b716), .val (.int ((XT.ushr p4 (2 : Int32)) &&& (7 : Int32))), .unset, .unset] [(.int ((p3 &&& (255 : Int32)).toUInt32.toUInt16.toUInt32.toInt32)), (.int 4), (.ref b716)])) (fun _ kt => XS.iloadN X1281.here hx rfl (hb hby at_283) rfl (XS.sipush X1281.here hx rfl (hb hby at_284) (XS.iand X1281.here hx rfl (hb hby at_287) rfl (XT.i2c X1281.here hx rfl (hb hby at_288) rfl kt)))) ?_
              obtain ⟨cv, hcv⟩ : ∃ z : Int32, z = ((p3 &&& (255 : Int32)).toUInt32.toUInt16.toUInt32.toInt32) := ⟨_, rfl⟩
              rw [← hcv]
              have b_cv : own_cc cv := hcv ▸ own_mkc _
              obtain ⟨T1313, h1313, X1313, e1313, W1313, V1313, st1313⟩ := own_cst X1281 hx hZ e1281 F1285 ⟨by decide, by decide⟩ (i := 4) rfl (by simp) (y := cv) b_cv.2.2 (g := (mkF m 289 #[.val (.int p1), .val (.int p2), .val (.int p3), .val (.int p4), .val (.long p5), .second, .val (.int (p1 &&& (3 : Int32))), .val (.ref b716), .val (.int ((XT.ushr p4 (2 : Int32)) &&& (7 : Int32))), .unset, .unset] [(.int cv), (.int 4), (.ref b716)])) rfl rfl (hb hby at_289)
              have N1313 := Fr.snoc X1313 N1281 ge_b716
              have F1314 : Safe Z own_EL s.vm h1281 b716 := (Safe.wr W1281 F1282 CR1278.1 F1282)
              have CR1315 : CHr Z own_EL s.vm h0 s.vm h1313 := CHr.trans CR1283 (CHr.wr W1313 F1314 CR1283.1)
              have Z1316 : n0 ≤ h1313.size := Nat.le_trans Z1284 (Nat.le_of_eq (Wr.size W1313).symm)
              have hk1316 := Nat.le_trans hk1284 (Nat.le_of_eq (Wr.size W1313).symm)
              have F1317 : Arv Z h1313 b716 k716 .char (8 : Int32) [(.int 108), (.int 101), (.int 110), (.int 105), (.int cv), (.int 110), (.int 116), (.int c7)] (.int 0) := V1313
              refine own_st (T' := T1313) (g' := (mkF m 290 #[.val (.int p1), .val (.int p2), .val (.int p3), .val (.int p4), .val (.long p5), .second, .val (.int (p1 &&& (3 : Int32))), .val (.ref b716), .val (.int ((XT.ushr p4 (2 : Int32)) &&& (7 : Int32))), .unset, .unset] [])) st1313 ?_
              have F1318 : Old Z n0 h1313 := (Old.wr (Old.wr (Old.wr (Old.wr (Old.wr (Old.wr (Old.wr (Old.wr (Old.wr (Old.wr (Old.wr (Old.wr (Old.wr (Old.wr (Old.wr (Old.wr (Old.ext pr1 E716) W721 ge_b716) W725 ge_b716) W730 ge_b716) W735 ge_b716) W740 ge_b716) W745 ge_b716) W750 ge_b716) W755 ge_b716) W1251 ge_b716) W1256 ge_b716) W1261 ge_b716) W1266 ge_b716) W1271 ge_b716) W1276 ge_b716) W1281 ge_b716) W1313 ge_b716)
              exact J760 _ _ _ _ _ ⟨(108 : Int32), (101 : Int32), (110 : Int32), (105 : Int32), cv, (110 : Int32), (116 : Int32), c7, ((XT.ushr p4 (2 : Int32)) &&& (7 : Int32))⟩ ⟨N1313, Z1316, F1318, CR1315, hS, hk1316, hZ, hown, F1317, ⟨own_c108, own_c101, own_c110, own_c105, b_cv, own_c110, own_c116, b_c7, (own_and7 _)⟩⟩ (X1313.mono (by decide) (by decide)) e1313
            ·
              refine own_st (T' := T1281) (g' := (mkF m 289 #[.val (.int p1), .val (.int p2), .val (.int p3), .val (.int p4), .val (.long p5), .second, .val (.int (p1 &&& (3 : Int32))), .val (.ref b716), .val (.int ((XT.ushr p4 (2 : Int32)) &&& (7 : Int32))), .unset, .unset] [(.int ((p3 &&& (255 : Int32)).toUInt32.toUInt16.toUInt32.toInt32)), (.int 5), (.ref b716)])) (fun _ kt => XS.iloadN X1281.here hx rfl (hb hby at_283) rfl (XS.sipush X1281.here hx rfl (hb hby at_284) (XS.iand X1281.here hx rfl (hb hby at_287) rfl (XT.i2c X1281.here hx rfl (hb hby at_288) rfl kt)))) ?_
              obtain ⟨cv, hcv⟩ : ∃ z : Int32, z = ((p3 &&& (255 : Int32)).toUInt32.toUInt16.toUInt32.toInt32) := ⟨_, rfl⟩
              rw [← hcv]
              have b_cv : own_cc cv := hcv ▸ own_mkc _
              obtain ⟨T1319, h1319, X1319, e1319, W1319, V1319, st1319⟩ := own_cst X1281 hx hZ e1281 F1285 ⟨by decide, by decide⟩ (i := 5) rfl (by simp) (y := cv) b_cv.2.2 (g := (mkF m 289 #[.val (.int p1), .val (.int p2), .val (.int p3), .val (.int p4), .val (.long p5), .second, .val (.int (p1 &&& (3 : Int32))), .val (.ref b716), .val (.int ((XT.ushr p4 (2 : Int32)) &&& (7 : Int32))), .unset, .unset] [(.int cv), (.int 5), (.ref b716)])) rfl rfl (hb hby at_289)
              have N1319 := Fr.snoc X1319 N1281 ge_b716
              have F1320 : Safe Z own_EL s.vm h1281 b716 := (Safe.wr W1281 F1282 CR1278.1 F1282)
              have CR1321 : CHr Z own_EL s.vm h0 s.vm h1319 := CHr.trans CR1283 (CHr.wr W1319 F1320 CR1283.1)
              have Z1322 : n0 ≤ h1319.size := Nat.le_trans Z1284 (Nat.le_of_eq (Wr.size W1319).symm)
              have hk1322 := Nat.le_trans hk1284 (Nat.le_of_eq (Wr.size W1319).symm)
              have F1323 : Arv Z h1319 b716 k716 .char (8 : Int32) [(.int 108), (.int 101), (.int 110), (.int 105), (.int 101), (.int cv), (.int 116), (.int c7)] (.int 0) := V1319
              refine own_st (T' := T1319) (g' := (mkF m 290 #[.val (.int p1), .val (.int p2), .val (.int p3), .val (.int p4), .val (.long p5), .second, .val (.int (p1 &&& (3 : Int32))), .val (.ref b716), .val (.int ((XT.ushr p4 (2 : Int32)) &&& (7 : Int32))), .unset, .unset] [])) st1319 ?_
              have F1324 : Old Z n0 h1319 := (Old.wr (Old.wr (Old.wr (Old.wr (Old.wr (Old.wr (Old.wr (Old.wr (Old.wr (Old.wr (Old.wr (Old.wr (Old.wr (Old.wr (Old.wr (Old.wr (Old.ext pr1 E716) W721 ge_b716) W725 ge_b716) W730 ge_b716) W735 ge_b716) W740 ge_b716) W745 ge_b716) W750 ge_b716) W755 ge_b716) W1251 ge_b716) W1256 ge_b716) W1261 ge_b716) W1266 ge_b716) W1271 ge_b716) W1276 ge_b716) W1281 ge_b716) W1319 ge_b716)
              exact J760 _ _ _ _ _ ⟨(108 : Int32), (101 : Int32), (110 : Int32), (105 : Int32), (101 : Int32), cv, (116 : Int32), c7, ((XT.ushr p4 (2 : Int32)) &&& (7 : Int32))⟩ ⟨N1319, Z1322, F1324, CR1321, hS, hk1322, hZ, hown, F1323, ⟨own_c108, own_c101, own_c110, own_c105, own_c101, b_cv, own_c116, b_c7, (own_and7 _)⟩⟩ (X1319.mono (by decide) (by decide)) e1319
            ·
              refine own_st (T' := T1281) (g' := (mkF m 289 #[.val (.int p1), .val (.int p2), .val (.int p3), .val (.int p4), .val (.long p5), .second, .val (.int (p1 &&& (3 : Int32))), .val (.ref b716), .val (.int ((XT.ushr p4 (2 : Int32)) &&& (7 : Int32))), .unset, .unset] [(.int ((p3 &&& (255 : Int32)).toUInt32.toUInt16.toUInt32.toInt32)), (.int 6), (.ref b716)])) (fun _ kt => XS.iloadN X1281.here hx rfl (hb hby at_283) rfl (XS.sipush X1281.here hx rfl (hb hby at_284) (XS.iand X1281.here hx rfl (hb hby at_287) rfl (XT.i2c X1281.here hx rfl (hb hby at_288) rfl kt)))) ?_
              obtain ⟨cv, hcv⟩ : ∃ z : Int32, z = ((p3 &&& (255 : Int32)).toUInt32.toUInt16.toUInt32.toInt32) := ⟨_, rfl⟩
              rw [← hcv]
              have b_cv : own_cc cv := hcv ▸ own_mkc _
              obtain ⟨T1325, h1325, X1325, e1325, W1325, V1325, st1325⟩ := own_cst X1281 hx hZ e1281 F1285 ⟨by decide, by decide⟩ (i := 6) rfl (by simp) (y := cv) b_cv.2.2 (g := (mkF m 289 #[.val (.int p1), .val (.int p2), .val (.int p3), .val (.int p4), .val (.long p5), .second, .val (.int (p1 &&& (3 : Int32))), .val (.ref b716), .val (.int ((XT.ushr p4 (2 : Int32)) &&& (7 : Int32))), .unset, .unset] [(.int cv), (.int 6), (.ref b716)])) rfl rfl (hb hby at_289)
              have N1325 := Fr.snoc X1325 N1281 ge_b716
              have F1326 : Safe Z own_EL s.vm h1281 b716 := (Safe.wr W1281 F1282 CR1278.1 F1282)
              have CR1327 : CHr Z own_EL s.vm h0 s.vm h1325 := CHr.trans CR1283 (CHr.wr W1325 F1326 CR1283.1)
              have Z1328 : n0 ≤ h1325.size := Nat.le_trans Z1284 (Nat.le_of_eq (Wr.size W1325).symm)
              have hk1328 := Nat.le_trans hk1284 (Nat.le_of_eq (Wr.size W1325).symm)
              have F1329 : Arv Z h1325 b716 k716 .char (8 : Int32) [(.int 108), (.int 101), (.int 110), (.int 105), (.int 101), (.int 110), (.int cv), (.int c7)] (.int 0) := V1325
              refine own_st (T' := T1325) (g' := (mkF m 290 #[.val (.int p1), .val (.int p2), .val (.int p3), .val (.int p4), .val (.long p5), .second, .val (.int (p1 &&& (3 : Int32))), .val (.ref b716), .val (.int ((XT.ushr p4 (2 : Int32)) &&& (7 : Int32))), .unset, .unset] [])) st1325 ?_
              have F1330 : Old Z n0 h1325 := (Old.wr (Old.wr (Old.wr (Old.wr (Old.wr (Old.wr (Old.wr (Old.wr (Old.wr (Old.wr (Old.wr (Old.wr (Old.wr (Old.wr (Old.wr (Old.wr (Old.ext pr1 E716) W721 ge_b716) W725 ge_b716) W730 ge_b716) W735 ge_b716) W740 ge_b716) W745 ge_b716) W750 ge_b716) W755 ge_b716) W1251 ge_b716) W1256 ge_b716) W1261 ge_b716) W1266 ge_b716) W1271 ge_b716) W1276 ge_b716) W1281 ge_b716) W1325 ge_b716)
              exact J760 _ _ _ _ _ ⟨(108 : Int32), (101 : Int32), (110 : Int32), (105 : Int32), (101 : Int32), (110 : Int32), cv, c7, ((XT.ushr p4 (2 : Int32)) &&& (7 : Int32))⟩ ⟨N1325, Z1328, F1330, CR1327, hS, hk1328, hZ, hown, F1329, ⟨own_c108, own_c101, own_c110, own_c105, own_c101, own_c110, b_cv, b_c7, (own_and7 _)⟩⟩ (X1325.mono (by decide) (by decide)) e1325
            ·
              refine own_st (T' := T1281) (g' := (mkF m 289 #[.val (.int p1), .val (.int p2), .val (.int p3), .val (.int p4), .val (.long p5), .second, .val (.int (p1 &&& (3 : Int32))), .val (.ref b716), .val (.int ((XT.ushr p4 (2 : Int32)) &&& (7 : Int32))), .unset, .unset] [(.int ((p3 &&& (255 : Int32)).toUInt32.toUInt16.toUInt32.toInt32)), (.int 7), (.ref b716)])) (fun _ kt => XS.iloadN X1281.here hx rfl (hb hby at_283) rfl (XS.sipush X1281.here hx rfl (hb hby at_284) (XS.iand X1281.here hx rfl (hb hby at_287) rfl (XT.i2c X1281.here hx rfl (hb hby at_288) rfl kt)))) ?_
              obtain ⟨cv, hcv⟩ : ∃ z : Int32, z = ((p3 &&& (255 : Int32)).toUInt32.toUInt16.toUInt32.toInt32) := ⟨_, rfl⟩
              rw [← hcv]
              have b_cv : own_cc cv := hcv ▸ own_mkc _
              obtain ⟨T1331, h1331, X1331, e1331, W1331, V1331, st1331⟩ := own_cst X1281 hx hZ e1281 F1285 ⟨by decide, by decide⟩ (i := 7) rfl (by simp) (y := cv) b_cv.2.2 (g := (mkF m 289 #[.val (.int p1), .val (.int p2), .val (.int p3), .val (.int p4), .val (.long p5), .second, .val (.int (p1 &&& (3 : Int32))), .val (.ref b716), .val (.int ((XT.ushr p4 (2 : Int32)) &&& (7 : Int32))), .unset, .unset] [(.int cv), (.int 7), (.ref b716)])) rfl rfl (hb hby at_289)
              have N1331 := Fr.snoc X1331 N1281 ge_b716
              have F1332 : Safe Z own_EL s.vm h1281 b716 := (Safe.wr W1281 F1282 CR1278.1 F1282)
              have CR1333 : CHr Z own_EL s.vm h0 s.vm h1331 := CHr.trans CR1283 (CHr.wr W1331 F1332 CR1283.1)
              have Z1334 : n0 ≤ h1331.size := Nat.le_trans Z1284 (Nat.le_of_eq (Wr.size W1331).symm)
              have hk1334 := Nat.le_trans hk1284 (Nat.le_of_eq (Wr.size W1331).symm)
              have F1335 : Arv Z h1331 b716 k716 .char (8 : Int32) [(.int 108), (.int 101), (.int 110), (.int 105), (.int 101), (.int 110), (.int 116), (.int cv)] (.int 0) := V1331
              refine own_st (T' := T1331) (g' := (mkF m 290 #[.val (.int p1), .val (.int p2), .val (.int p3), .val (.int p4), .val (.long p5), .second, .val (.int (p1 &&& (3 : Int32))), .val (.ref b716), .val (.int ((XT.ushr p4 (2 : Int32)) &&& (7 : Int32))), .unset, .unset] [])) st1331 ?_
              have F1336 : Old Z n0 h1331 := (Old.wr (Old.wr (Old.wr (Old.wr (Old.wr (Old.wr (Old.wr (Old.wr (Old.wr (Old.wr (Old.wr (Old.wr (Old.wr (Old.wr (Old.wr (Old.wr (Old.ext pr1 E716) W721 ge_b716) W725 ge_b716) W730 ge_b716) W735 ge_b716) W740 ge_b716) W745 ge_b716) W750 ge_b716) W755 ge_b716) W1251 ge_b716) W1256 ge_b716) W1261 ge_b716) W1266 ge_b716) W1271 ge_b716) W1276 ge_b716) W1281 ge_b716) W1331 ge_b716)
              exact J760 _ _ _ _ _ ⟨(108 : Int32), (101 : Int32), (110 : Int32), (105 : Int32), (101 : Int32), (110 : Int32), (116 : Int32), cv, ((XT.ushr p4 (2 : Int32)) &&& (7 : Int32))⟩ ⟨N1331, Z1334, F1336, CR1333, hS, hk1334, hZ, hown, F1335, ⟨own_c108, own_c101, own_c110, own_c105, own_c101, own_c110, own_c116, b_cv, (own_and7 _)⟩⟩ (X1331.mono (by decide) (by decide)) e1331
        ·
          refine own_st (T' := T1281) (g' := (mkF m 274 #[.val (.int p1), .val (.int p2), .val (.int p3), .val (.int p4), .val (.long p5), .second, .val (.int (p1 &&& (3 : Int32))), .val (.ref b716), .val (.int 7), .unset, .unset] [(.int (p1 &&& (4 : Int32)))])) (fun _ kt => XS.ifYes X1281.here hx rfl (pc0 := 246) (pc' := 258) rfl (hb hby at_246) rfl (XT.i0_ne_t hc1286) (by decide) (by decide) (XS.bipush X1281.here hx rfl (hb hby at_258) (XS.istore X1281.here hx rfl (hb hby at_260) rfl (l' := #[.val (.int p1), .val (.int p2), .val (.int p3), .val (.int p4), .val (.long p5), .second, .val (.int (p1 &&& (3 : Int32))), .val (.ref b716), .val (.int 7), .unset, .unset]) rfl (XS.goto X1281.here hx rfl (pc0 := 262) (pc' := 271) rfl (hb hby at_262) (by decide) (by decide) (XS.iloadN X1281.here hx rfl (hb hby at_271) rfl (XS.iconst X1281.here hx rfl (hb hby at_272) (XS.iand X1281.here hx rfl (hb hby at_273) rfl kt))))))) ?_
          by_cases hc1337 : (p1 &&& (4 : Int32)) = 0
          ·
            refine own_st (T' := T1281) (g' := (mkF m 290 #[.val (.int p1), .val (.int p2), .val (.int p3), .val (.int p4), .val (.long p5), .second, .val (.int (p1 &&& (3 : Int32))), .val (.ref b716), .val (.int 7), .unset, .unset] [])) (fun _ kt => XS.ifYes X1281.here hx rfl (pc0 := 274) (pc' := 290) rfl (hb hby at_274) rfl (XT.i0_eq_t hc1337) (by decide) (by decide) kt) ?_
            have F1338 : Old Z n0 h1281 := (Old.wr (Old.wr (Old.wr (Old.wr (Old.wr (Old.wr (Old.wr (Old.wr (Old.wr (Old.wr (Old.wr (Old.wr (Old.wr (Old.wr (Old.wr (Old.ext pr1 E716) W721 ge_b716) W725 ge_b716) W730 ge_b716) W735 ge_b716) W740 ge_b716) W745 ge_b716) W750 ge_b716) W755 ge_b716) W1251 ge_b716) W1256 ge_b716) W1261 ge_b716) W1266 ge_b716) W1271 ge_b716) W1276 ge_b716) W1281 ge_b716)
            exact J760 _ _ _ _ _ ⟨(108 : Int32), (101 : Int32), (110 : Int32), (105 : Int32), (101 : Int32), (110 : Int32), (116 : Int32), c7, (7 : Int32)⟩ ⟨N1281, Z1284, F1338, CR1283, hS, hk1284, hZ, hown, F1285, ⟨own_c108, own_c101, own_c110, own_c105, own_c101, own_c110, own_c116, b_c7, own_ql7⟩⟩ (X1281.mono (by decide) (by decide)) e1281
          ·
            refine own_st (T' := T1281) (g' := (mkF m 283 #[.val (.int p1), .val (.int p2), .val (.int p3), .val (.int p4), .val (.long p5), .second, .val (.int (p1 &&& (3 : Int32))), .val (.ref b716), .val (.int 7), .unset, .unset] [(.int (p2 &&& (7 : Int32))), (.ref b716)])) (fun _ kt => XS.ifNo X1281.here hx rfl (hb hby at_274) rfl (XT.i0_eq_f hc1337) (XS.aload X1281.here hx rfl (hb hby at_277) rfl rfl (XS.iloadN X1281.here hx rfl (hb hby at_279) rfl (XS.bipush X1281.here hx rfl (hb hby at_280) (XS.iand X1281.here hx rfl (hb hby at_282) rfl kt))))) ?_
            obtain ⟨ii, hii⟩ : ∃ z : Int32, z = (p2 &&& (7 : Int32)) := ⟨_, rfl⟩
            rw [← hii]
            rcases (hii ▸ own_and7 _ : own_q8 ii) with rfl | rfl | rfl | rfl | rfl | rfl | rfl | rfl
            ·
              refine own_st (T' := T1281) (g' := (mkF m 289 #[.val (.int p1), .val (.int p2), .val (.int p3), .val (.int p4), .val (.long p5), .second, .val (.int (p1 &&& (3 : Int32))), .val (.ref b716), .val (.int 7), .unset, .unset] [(.int ((p3 &&& (255 : Int32)).toUInt32.toUInt16.toUInt32.toInt32)), (.int 0), (.ref b716)])) (fun _ kt => XS.iloadN X1281.here hx rfl (hb hby at_283) rfl (XS.sipush X1281.here hx rfl (hb hby at_284) (XS.iand X1281.here hx rfl (hb hby at_287) rfl (XT.i2c X1281.here hx rfl (hb hby at_288) rfl kt)))) ?_
              obtain ⟨cv, hcv⟩ : ∃ z : Int32, z = ((p3 &&& (255 : Int32)).toUInt32.toUInt16.toUInt32.toInt32) := ⟨_, rfl⟩
              rw [← hcv]
              have b_cv : own_cc cv := hcv ▸ own_mkc _
              obtain ⟨T1339, h1339, X1339, e1339, W1339, V1339, st1339⟩ := own_cst X1281 hx hZ e1281 F1285 ⟨by decide, by decide⟩ (i := 0) rfl (by simp) (y := cv) b_cv.2.2 (g := (mkF m 289 #[.val (.int p1), .val (.int p2), .val (.int p3), .val (.int p4), .val (.long p5), .second, .val (.int (p1 &&& (3 : Int32))), .val (.ref b716), .val (.int 7), .unset, .unset] [(.int cv), (.int 0), (.ref b716)])) rfl rfl (hb hby at_289)
              have N1339 := Fr.snoc X1339 N1281 ge_b716
              have F1340 : Safe Z own_EL s.vm h1281 b716 := (Safe.wr W1281 F1282 CR1278.1 F1282)
              have CR1341 : CHr Z own_EL s.vm h0 s.vm h1339 := CHr.trans CR1283 (CHr.wr W1339 F1340 CR1283.1)
              have Z1342 : n0 ≤ h1339.size := Nat.le_trans Z1284 (Nat.le_of_eq (Wr.size W1339).symm)
              have hk1342 := Nat.le_trans hk1284 (Nat.le_of_eq (Wr.size W1339).symm)
              have F1343 : Arv Z h1339 b716 k716 .char (8 : Int32) [(.int cv), (.int 101), (.int 110), (.int 105), (.int 101), (.int 110), (.int 116), (.int c7)] (.int 0) := V1339
              refine own_st (T' := T1339) (g' := (mkF m 290 #[.val (.int p1), .val (.int p2), .val (.int p3), .val (.int p4), .val (.long p5), .second, .val (.int (p1 &&& (3 : Int32))), .val (.ref b716), .val (.int 7), .unset, .unset] [])) st1339 ?_
              have F1344 : Old Z n0 h1339 := (Old.wr (Old.wr (Old.wr (Old.wr (Old.wr (Old.wr (Old.wr (Old.wr (Old.wr (Old.wr (Old.wr (Old.wr (Old.wr (Old.wr (Old.wr (Old.wr (Old.ext pr1 E716) W721 ge_b716) W725 ge_b716) W730 ge_b716) W735 ge_b716) W740 ge_b716) W745 ge_b716) W750 ge_b716) W755 ge_b716) W1251 ge_b716) W1256 ge_b716) W1261 ge_b716) W1266 ge_b716) W1271 ge_b716) W1276 ge_b716) W1281 ge_b716) W1339 ge_b716)
              exact J760 _ _ _ _ _ ⟨cv, (101 : Int32), (110 : Int32), (105 : Int32), (101 : Int32), (110 : Int32), (116 : Int32), c7, (7 : Int32)⟩ ⟨N1339, Z1342, F1344, CR1341, hS, hk1342, hZ, hown, F1343, ⟨b_cv, own_c101, own_c110, own_c105, own_c101, own_c110, own_c116, b_c7, own_ql7⟩⟩ (X1339.mono (by decide) (by decide)) e1339
            ·
              refine own_st (T' := T1281) (g' := (mkF m 289 #[.val (.int p1), .val (.int p2), .val (.int p3), .val (.int p4), .val (.long p5), .second, .val (.int (p1 &&& (3 : Int32))), .val (.ref b716), .val (.int 7), .unset, .unset] [(.int ((p3 &&& (255 : Int32)).toUInt32.toUInt16.toUInt32.toInt32)), (.int 1), (.ref b716)])) (fun _ kt => XS.iloadN X1281.here hx rfl (hb hby at_283) rfl (XS.sipush X1281.here hx rfl (hb hby at_284) (XS.iand X1281.here hx rfl (hb hby at_287) rfl (XT.i2c X1281.here hx rfl (hb hby at_288) rfl kt)))) ?_
              obtain ⟨cv, hcv⟩ : ∃ z : Int32, z = ((p3 &&& (255 : Int32)).toUInt32.toUInt16.toUInt32.toInt32) := ⟨_, rfl⟩
              rw [← hcv]
              have b_cv : own_cc cv := hcv ▸ own_mkc _
              obtain ⟨T1345, h1345, X1345, e1345, W1345, V1345, st1345⟩ := own_cst X1281 hx hZ e1281 F1285 ⟨by decide, by decide⟩ (i := 1) rfl (by simp) (y := cv) b_cv.2.2 (g := (mkF m 289 #[.val (.int p1), .val (.int p2), .val (.int p3), .val (.int p4), .val (.long p5), .second, .val (.int (p1 &&& (3 : Int32))), .val (.ref b716), .val (.int 7), .unset, .unset] [(.int cv), (.int 1), (.ref b716)])) rfl rfl (hb hby at_289)
              have N1345 := Fr.snoc X1345 N1281 ge_b716
              have F1346 : Safe Z own_EL s.vm h1281 b716 := (Safe.wr W1281 F1282 CR1278.1 F1282)
              have CR1347 : CHr Z own_EL s.vm h0 s.vm h1345 := CHr.trans CR1283 (CHr.wr W1345 F1346 CR1283.1)
              have Z1348 : n0 ≤ h1345.size := Nat.le_trans Z1284 (Nat.le_of_eq (Wr.size W1345).symm)
              have hk1348 := Nat.le_trans hk1284 (Nat.le_of_eq (Wr.size W1345).symm)
              have F1349 : Arv Z h1345 b716 k716 .char (8 : Int32) [(.int 108), (.int cv), (.int 110), (.int 105), (.int 101), (.int 110), (.int 116), (.int c7)] (.int 0) := V1345
              refine own_st (T' := T1345) (g' := (mkF m 290 #[.val (.int p1), .val (.int p2), .val (.int p3), .val (.int p4), .val (.long p5), .second, .val (.int (p1 &&& (3 : Int32))), .val (.ref b716), .val (.int 7), .unset, .unset] [])) st1345 ?_
              have F1350 : Old Z n0 h1345 := (Old.wr (Old.wr (Old.wr (Old.wr (Old.wr (Old.wr (Old.wr (Old.wr (Old.wr (Old.wr (Old.wr (Old.wr (Old.wr (Old.wr (Old.wr (Old.wr (Old.ext pr1 E716) W721 ge_b716) W725 ge_b716) W730 ge_b716) W735 ge_b716) W740 ge_b716) W745 ge_b716) W750 ge_b716) W755 ge_b716) W1251 ge_b716) W1256 ge_b716) W1261 ge_b716) W1266 ge_b716) W1271 ge_b716) W1276 ge_b716) W1281 ge_b716) W1345 ge_b716)
              exact J760 _ _ _ _ _ ⟨(108 : Int32), cv, (110 : Int32), (105 : Int32), (101 : Int32), (110 : Int32), (116 : Int32), c7, (7 : Int32)⟩ ⟨N1345, Z1348, F1350, CR1347, hS, hk1348, hZ, hown, F1349, ⟨own_c108, b_cv, own_c110, own_c105, own_c101, own_c110, own_c116, b_c7, own_ql7⟩⟩ (X1345.mono (by decide) (by decide)) e1345
            ·
              refine own_st (T' := T1281) (g' := (mkF m 289 #[.val (.int p1), .val (.int p2), .val (.int p3), .val (.int p4), .val (.long p5), .second, .val (.int (p1 &&& (3 : Int32))), .val (.ref b716), .val (.int 7), .unset, .unset] [(.int ((p3 &&& (255 : Int32)).toUInt32.toUInt16.toUInt32.toInt32)), (.int 2), (.ref b716)])) (fun _ kt => XS.iloadN X1281.here hx rfl (hb hby at_283) rfl (XS.sipush X1281.here hx rfl (hb hby at_284) (XS.iand X1281.here hx rfl (hb hby at_287) rfl (XT.i2c X1281.here hx rfl (hb hby at_288) rfl kt)))) ?_
              obtain ⟨cv, hcv⟩ : ∃ z : Int32, z = ((p3 &&& (255 : Int32)).toUInt32.toUInt16.toUInt32.toInt32) := ⟨_, rfl⟩
              rw [← hcv]
              have b_cv : own_cc cv := hcv ▸ own_mkc _
              obtain ⟨T1351, h1351, X1351, e1351, W1351, V1351, st1351⟩ := own_cst X1281 hx hZ e1281 F1285 ⟨by decide, by decide⟩ (i := 2) rfl (by simp) (y := cv) b_cv.2.2 (g := (mkF m 289 #[.val (.int p1), .val (.int p2), .val (.int p3), .val (.int p4), .val (.long p5), .second, .val (.int (p1 &&& (3 : Int32))), .val (.ref b716), .val (.int 7), .unset, .unset] [(.int cv), (.int 2), (.ref b716)])) rfl rfl (hb hby at_289)
              have N1351 := Fr.snoc X1351 N1281 ge_b716
              have F1352 : Safe Z own_EL s.vm h1281 b716 := (Safe.wr W1281 F1282 CR1278.1 F1282)
              have CR1353 : CHr Z own_EL s.vm h0 s.vm h1351 := CHr.trans CR1283 (CHr.wr W1351 F1352 CR1283.1)
              have Z1354 : n0 ≤ h1351.size := Nat.le_trans Z1284 (Nat.le_of_eq (Wr.size W1351).symm)
              have hk1354 := Nat.le_trans hk1284 (Nat.le_of_eq (Wr.size W1351).symm)
              have F1355 : Arv Z h1351 b716 k716 .char (8 : Int32) [(.int 108), (.int 101), (.int cv), (.int 105), (.int 101), (.int 110), (.int 116), (.int c7)] (.int 0) := V1351
              refine own_st (T' := T1351) (g' := (mkF m 290 #[.val (.int p1), .val (.int p2), .val (.int p3), .val (.int p4), .val (.long p5), .second, .val (.int (p1 &&& (3 : Int32))), .val (.ref b716), .val (.int 7), .unset, .unset] [])) st1351 ?_
              have F1356 : Old Z n0 h1351 := (Old.wr (Old.wr (Old.wr (Old.wr (Old.wr (Old.wr (Old.wr (Old.wr (Old.wr (Old.wr (Old.wr (Old.wr (Old.wr (Old.wr (Old.wr (Old.wr (Old.ext pr1 E716) W721 ge_b716) W725 ge_b716) W730 ge_b716) W735 ge_b716) W740 ge_b716) W745 ge_b716) W750 ge_b716) W755 ge_b716) W1251 ge_b716) W1256 ge_b716) W1261 ge_b716) W1266 ge_b716) W1271 ge_b716) W1276 ge_b716) W1281 ge_b716) W1351 ge_b716)
              exact J760 _ _ _ _ _ ⟨(108 : Int32), (101 : Int32), cv, (105 : Int32), (101 : Int32), (110 : Int32), (116 : Int32), c7, (7 : Int32)⟩ ⟨N1351, Z1354, F1356, CR1353, hS, hk1354, hZ, hown, F1355, ⟨own_c108, own_c101, b_cv, own_c105, own_c101, own_c110, own_c116, b_c7, own_ql7⟩⟩ (X1351.mono (by decide) (by decide)) e1351
            ·
              refine own_st (T' := T1281) (g' := (mkF m 289 #[.val (.int p1), .val (.int p2), .val (.int p3), .val (.int p4), .val (.long p5), .second, .val (.int (p1 &&& (3 : Int32))), .val (.ref b716), .val (.int 7), .unset, .unset] [(.int ((p3 &&& (255 : Int32)).toUInt32.toUInt16.toUInt32.toInt32)), (.int 3), (.ref b716)])) (fun _ kt => XS.iloadN X1281.here hx rfl (hb hby at_283) rfl (XS.sipush X1281.here hx rfl (hb hby at_284) (XS.iand X1281.here hx rfl (hb hby at_287) rfl (XT.i2c X1281.here hx rfl (hb hby at_288) rfl kt)))) ?_
              obtain ⟨cv, hcv⟩ : ∃ z : Int32, z = ((p3 &&& (255 : Int32)).toUInt32.toUInt16.toUInt32.toInt32) := ⟨_, rfl⟩
              rw [← hcv]
              have b_cv : own_cc cv := hcv ▸ own_mkc _
              obtain ⟨T1357, h1357, X1357, e1357, W1357, V1357, st1357⟩ := own_cst X1281 hx hZ e1281 F1285 ⟨by decide, by decide⟩ (i := 3) rfl (by simp) (y := cv) b_cv.2.2 (g := (mkF m 289 #[.val (.int p1), .val (.int p2), .val (.int p3), .val (.int p4), .val (.long p5), .second, .val (.int (p1 &&& (3 : Int32))), .val (.ref b716), .val (.int 7), .unset, .unset] [(.int cv), (.int 3), (.ref b716)])) rfl rfl (hb hby at_289)
              have N1357 := Fr.snoc X1357 N1281 ge_b716
              have F1358 : Safe Z own_EL s.vm h1281 b716 := (Safe.wr W1281 F1282 CR1278.1 F1282)
              have CR1359 : CHr Z own_EL s.vm h0 s.vm h1357 := CHr.trans CR1283 (CHr.wr W1357 F1358 CR1283.1)
              have Z1360 : n0 ≤ h1357.size := Nat.le_trans Z1284 (Nat.le_of_eq (Wr.size W1357).symm)
              have hk1360 := Nat.le_trans hk1284 (Nat.le_of_eq (Wr.size W1357).symm)
              have F1361 : Arv Z h1357 b716 k716 .char (8 : Int32) [(.int 108), (.int 101), (.int 110), (.int cv), (.int 101), (.int 110), (.int 116), (.int c7)] (.int 0) := V1357
              refine own_st (T' := T1357) (g' := (mkF m 290 #[.val (.int p1), .val (.int p2), .val (.int p3), .val (.int p4), .val (.long p5), .second, .val (.int (p1 &&& (3 : Int32))), .val (.ref b716), .val (.int 7), .unset, .unset] [])) st1357 ?_
              have F1362 : Old Z n0 h1357 := (Old.wr (Old.wr (Old.wr (Old.wr (Old.wr (Old.wr (Old.wr (Old.wr (Old.wr (Old.wr (Old.wr (Old.wr (Old.wr (Old.wr (Old.wr (Old.wr (Old.ext pr1 E716) W721 ge_b716) W725 ge_b716) W730 ge_b716) W735 ge_b716) W740 ge_b716) W745 ge_b716) W750 ge_b716) W755 ge_b716) W1251 ge_b716) W1256 ge_b716) W1261 ge_b716) W1266 ge_b716) W1271 ge_b716) W1276 ge_b716) W1281 ge_b716) W1357 ge_b716)
              exact J760 _ _ _ _ _ ⟨(108 : Int32), (101 : Int32), (110 : Int32), cv, (101 : Int32), (110 : Int32), (116 : Int32), c7, (7 : Int32)⟩ ⟨N1357, Z1360, F1362, CR1359, hS, hk1360, hZ, hown, F1361, ⟨own_c108, own_c101, own_c110, b_cv, own_c101, own_c110, own_c116, b_c7, own_ql7⟩⟩ (X1357.mono (by decide) (by decide)) e1357
            ·
              refine own_st (T' := T1281) (g' := (mkF m 289 #[.val (.int p1), .val (.int p2), .val (.int p3), .val (.int p4), .val (.long p5), .second, .val (.int (p1 &&& (3 : Int32))), .val (.ref b716), .val (.int 7), .unset, .unset] [(.int ((p3 &&& (255 : Int32)).toUInt32.toUInt16.toUInt32.toInt32)), (.int 4), (.ref b716)])) (fun _ kt => XS.iloadN X1281.here hx rfl (hb hby at_283) rfl (XS.sipush X1281.here hx rfl (hb hby at_284) (XS.iand X1281.here hx rfl (hb hby at_287) rfl (XT.i2c X1281.here hx rfl (hb hby at_288) rfl kt)))) ?_
              obtain ⟨cv, hcv⟩ : ∃ z : Int32, z = ((p3 &&& (255 : Int32)).toUInt32.toUInt16.toUInt32.toInt32) := ⟨_, rfl⟩
              rw [← hcv]
              have b_cv : own_cc cv := hcv ▸ own_mkc _
              obtain ⟨T1363, h1363, X1363, e1363, W1363, V1363, st1363⟩ := own_cst X1281 hx hZ e1281 F1285 ⟨by decide, by decide⟩ (i := 4) rfl (by simp) (y := cv) b_cv.2.2 (g := (mkF m 289 #[.val (.int p1), .val (.int p2), .val (.int p3), .val (.int p4), .val (.long p5), .second, .val (.int (p1 &&& (3 : Int32))), .val (.ref b716), .val (.int 7), .unset, .unset] [(.int cv), (.int 4), (.ref b716)])) rfl rfl (hb hby at_289)
              have N1363 := Fr.snoc X1363 N1281 ge_b716
              have F1364 : Safe Z own_EL s.vm h1281 b716 := (Safe.wr W1281 F1282 CR1278.1 F1282)
              have CR1365 : CHr Z own_EL s.vm h0 s.vm h1363 := CHr.trans CR1283 (CHr.wr W1363 F1364 CR1283.1)
              have Z1366 : n0 ≤ h1363.size := Nat.le_trans Z1284 (Nat.le_of_eq (Wr.size W1363).symm)
              have hk1366 := Nat.le_trans hk1284 (Nat.le_of_eq (Wr.size W1363).symm)
              have F1367 : Arv Z h1363 b716 k716 .char (8 : Int32) [(.int 108), (.int 101), (.int 110), (.int 105), (.int cv), (.int 110), (.int 116), (.int c7)] (.int 0) := V1363
              refine own_st (T' := T1363) (g' := (mkF m 290 #[.val (.int p1), .val (.int p2), .val (.int p3), .val (.int p4), .val (.long p5), .second, .val (.int (p1 &&& (3 : Int32))), .val (.ref b716), .val (.int 7), .unset, .unset] [])) st1363 ?_
              have F1368 : Old Z n0 h1363 := (Old.wr (Old.wr (Old.wr (Old.wr (Old.wr (Old.wr (Old.wr (Old.wr (Old.wr (Old.wr (Old.wr (Old.wr (Old.wr (Old.wr (Old.wr (Old.wr (Old.ext pr1 E716) W721 ge_b716) W725 ge_b716) W730 ge_b716) W735 ge_b716) W740 ge_b716) W745 ge_b716) W750 ge_b716) W755 ge_b716) W1251 ge_b716) W1256 ge_b716) W1261 ge_b716) W1266 ge_b716) W1271 ge_b716) W1276 ge_b716) W1281 ge_b716) W1363 ge_b716)
              exact J760 _ _ _ _ _ ⟨(108 : Int32), (101 : Int32), (110 : Int32), (105 : Int32), cv, (110 : Int32), (116 : Int32), c7, (7 : Int32)⟩ ⟨N1363, Z1366, F1368, CR1365, hS, hk1366, hZ, hown, F1367, ⟨own_c108, own_c101, own_c110, own_c105, b_cv, own_c110, own_c116, b_c7, own_ql7⟩⟩ (X1363.mono (by decide) (by decide)) e1363
            ·
              refine own_st (T' := T1281) (g' := (mkF m 289 #[.val (.int p1), .val (.int p2), .val (.int p3), .val (.int p4), .val (.long p5), .second, .val (.int (p1 &&& (3 : Int32))), .val (.ref b716), .val (.int 7), .unset, .unset] [(.int ((p3 &&& (255 : Int32)).toUInt32.toUInt16.toUInt32.toInt32)), (.int 5), (.ref b716)])) (fun _ kt => XS.iloadN X1281.here hx rfl (hb hby at_283) rfl (XS.sipush X1281.here hx rfl (hb hby at_284) (XS.iand X1281.here hx rfl (hb hby at_287) rfl (XT.i2c X1281.here hx rfl (hb hby at_288) rfl kt)))) ?_
              obtain ⟨cv, hcv⟩ : ∃ z : Int32, z = ((p3 &&& (255 : Int32)).toUInt32.toUInt16.toUInt32.toInt32) := ⟨_, rfl⟩
              rw [← hcv]
              have b_cv : own_cc cv := hcv ▸ own_mkc _
              obtain ⟨T1369, h1369, X1369, e1369, W1369, V1369, st1369⟩ := own_cst X1281 hx hZ e1281 F1285 ⟨by decide, by decide⟩ (i := 5) rfl (by simp) (y := cv) b_cv.2.2 (g := (mkF m 289 #[.val (.int p1), .val (.int p2), .val (.int p3), .val (.int p4), .val (.long p5), .second, .val (.int (p1 &&& (3 : Int32))), .val (.ref b716), .val (.int 7), .unset, .unset] [(.int cv), (.int 5), (.ref b716)])) rfl rfl (hb hby at_289)
              have N1369 := Fr.snoc X1369 N1281 ge_b716
              have F1370 : Safe Z own_EL s.vm h1281 b716 := (Safe.wr W1281 F1282 CR1278.1 F1282)
              have CR1371 : CHr Z own_EL s.vm h0 s.vm h1369 := CHr.trans CR1283 (CHr.wr W1369 F1370 CR1283.1)
              have Z1372 : n0 ≤ h1369.size := Nat.le_trans Z1284 (Nat.le_of_eq (Wr.size W1369).symm)
              have hk1372 := Nat.le_trans hk1284 (Nat.le_of_eq (Wr.size W1369).symm)
              have F1373 : Arv Z h1369 b716 k716 .char (8 : Int32) [(.int 108), (.int 101), (.int 110), (.int 105), (.int 101), (.int cv), (.int 116), (.int c7)] (.int 0) := V1369
              refine own_st (T' := T1369) (g' := (mkF m 290 #[.val (.int p1), .val (.int p2), .val (.int p3), .val (.int p4), .val (.long p5), .second, .val (.int (p1 &&& (3 : Int32))), .val (.ref b716), .val (.int 7), .unset, .unset] [])) st1369 ?_
              have F1374 : Old Z n0 h1369 := (Old.wr (Old.wr (Old.wr (Old.wr (Old.wr (Old.wr (Old.wr (Old.wr (Old.wr (Old.wr (Old.wr (Old.wr (Old.wr (Old.wr (Old.wr (Old.wr (Old.ext pr1 E716) W721 ge_b716) W725 ge_b716) W730 ge_b716) W735 ge_b716) W740 ge_b716) W745 ge_b716) W750 ge_b716) W755 ge_b716) W1251 ge_b716) W1256 ge_b716) W1261 ge_b716) W1266 ge_b716) W1271 ge_b716) W1276 ge_b716) W1281 ge_b716) W1369 ge_b716)
              exact J760 _ _ _ _ _ ⟨(108 : Int32), (101 : Int32), (110 : Int32), (105 : Int32), (101 : Int32), cv, (116 : Int32), c7, (7 : Int32)⟩ ⟨N1369, Z1372, F1374, CR1371, hS, hk1372, hZ, hown, F1373, ⟨own_c108, own_c101, own_c110, own_c105, own_c101, b_cv, own_c116, b_c7, own_ql7⟩⟩ (X1369.mono (by decide) (by decide)) e1369
            ·
              refine own_st (T' := T1281) (g' := (mkF m 289 #[.val (.int p1), .val (.int p2), .val (.int p3), .val (.int p4), .val (.long p5), .second, .val (.int (p1 &&& (3 : Int32))), .val (.ref b716), .val (.int 7), .unset, .unset] [(.int ((p3 &&& (255 : Int32)).toUInt32.toUInt16.toUInt32.toInt32)), (.int 6), (.ref b716)])) (fun _ kt => XS.iloadN X1281.here hx rfl (hb hby at_283) rfl (XS.sipush X1281.here hx rfl (hb hby at_284) (XS.iand X1281.here hx rfl (hb hby at_287) rfl (XT.i2c X1281.here hx rfl (hb hby at_288) rfl kt)))) ?_
              obtain ⟨cv, hcv⟩ : ∃ z : Int32, z = ((p3 &&& (255 : Int32)).toUInt32.toUInt16.toUInt32.toInt32) := ⟨_, rfl⟩
              rw [← hcv]
              have b_cv : own_cc cv := hcv ▸ own_mkc _
              obtain ⟨T1375, h1375, X1375, e1375, W1375, V1375, st1375⟩ := own_cst X1281 hx hZ e1281 F1285 ⟨by decide, by decide⟩ (i := 6) rfl (by simp) (y := cv) b_cv.2.2 (g := (mkF m 289 #[.val (.int p1), .val (.int p2), .val (.int p3), .val (.int p4), .val (.long p5), .second, .val (.int (p1 &&& (3 : Int32))), .val (.ref b716), .val (.int 7), .unset, .unset] [(.int cv), (.int 6), (.ref b716)])) rfl rfl (hb hby at_289)
              have N1375 := Fr.snoc X1375 N1281 ge_b716
              have F1376 : Safe Z own_EL s.vm h1281 b716 := (Safe.wr W1281 F1282 CR1278.1 F1282)
              have CR1377 : CHr Z own_EL s.vm h0 s.vm h1375 := CHr.trans CR1283 (CHr.wr W1375 F1376 CR1283.1)
              have Z1378 : n0 ≤ h1375.size := Nat.le_trans Z1284 (Nat.le_of_eq (Wr.size W1375).symm)
              have hk1378 := Nat.le_trans hk1284 (Nat.le_of_eq (Wr.size W1375).symm)
              have F1379 : Arv Z h1375 b716 k716 .char (8 : Int32) [(.int 108), (.int 101), (.int 110), (.int 105), (.int 101), (.int 110), (.int cv), (.int c7)] (.int 0) := V1375
              refine own_st (T' := T1375) (g' := (mkF m 290 #[.val (.int p1), .val (.int p2), .val (.int p3), .val (.int p4), .val (.long p5), .second, .val (.int (p1 &&& (3 : Int32))), .val (.ref b716), .val (.int 7), .unset, .unset] [])) st1375 ?_
              have F1380 : Old Z n0 h1375 := (Old.wr (Old.wr (Old.wr (Old.wr (Old.wr (Old.wr (Old.wr (Old.wr (Old.wr (Old.wr (Old.wr (Old.wr (Old.wr (Old.wr (Old.wr (Old.wr (Old.ext pr1 E716) W721 ge_b716) W725 ge_b716) W730 ge_b716) W735 ge_b716) W740 ge_b716) W745 ge_b716) W750 ge_b716) W755 ge_b716) W1251 ge_b716) W1256 ge_b716) W1261 ge_b716) W1266 ge_b716) W1271 ge_b716) W1276 ge_b716) W1281 ge_b716) W1375 ge_b716)
              exact J760 _ _ _ _ _ ⟨(108 : Int32), (101 : Int32), (110 : Int32), (105 : Int32), (101 : Int32), (110 : Int32), cv, c7, (7 : Int32)⟩ ⟨N1375, Z1378, F1380, CR1377, hS, hk1378, hZ, hown, F1379, ⟨own_c108, own_c101, own_c110, own_c105, own_c101, own_c110, b_cv, b_c7, own_ql7⟩⟩ (X1375.mono (by decide) (by decide)) e1375
            ·
              refine own_st (T' := T1281) (g' := (mkF m 289 #[.val (.int p1), .val (.int p2), .val (.int p3), .val (.int p4), .val (.long p5), .second, .val (.int (p1 &&& (3 : Int32))), .val (.ref b716), .val (.int 7), .unset, .unset] [(.int ((p3 &&& (255 : Int32)).toUInt32.toUInt16.toUInt32.toInt32)), (.int 7), (.ref b716)])) (fun _ kt => XS.iloadN X1281.here hx rfl (hb hby at_283) rfl (XS.sipush X1281.here hx rfl (hb hby at_284) (XS.iand X1281.here hx rfl (hb hby at_287) rfl (XT.i2c X1281.here hx rfl (hb hby at_288) rfl kt)))) ?_
              obtain ⟨cv, hcv⟩ : ∃ z : Int32, z = ((p3 &&& (255 : Int32)).toUInt32.toUInt16.toUInt32.toInt32) := ⟨_, rfl⟩
              rw [← hcv]
              have b_cv : own_cc cv := hcv ▸ own_mkc _
              obtain ⟨T1381, h1381, X1381, e1381, W1381, V1381, st1381⟩ := own_cst X1281 hx hZ e1281 F1285 ⟨by decide, by decide⟩ (i := 7) rfl (by simp) (y := cv) b_cv.2.2 (g := (mkF m 289 #[.val (.int p1), .val (.int p2), .val (.int p3), .val (.int p4), .val (.long p5), .second, .val (.int (p1 &&& (3 : Int32))), .val (.ref b716), .val (.int 7), .unset, .unset] [(.int cv), (.int 7), (.ref b716)])) rfl rfl (hb hby at_289)
              have N1381 := Fr.snoc X1381 N1281 ge_b716
              have F1382 : Safe Z own_EL s.vm h1281 b716 := (Safe.wr W1281 F1282 CR1278.1 F1282)
              have CR1383 : CHr Z own_EL s.vm h0 s.vm h1381 := CHr.trans CR1283 (CHr.wr W1381 F1382 CR1283.1)
              have Z1384 : n0 ≤ h1381.size := Nat.le_trans Z1284 (Nat.le_of_eq (Wr.size W1381).symm)
              have hk1384 := Nat.le_trans hk1284 (Nat.le_of_eq (Wr.size W1381).symm)
              have F1385 : Arv Z h1381 b716 k716 .char (8 : Int32) [(.int 108), (.int 101), (.int 110), (.int 105), (.int 101), (.int 110), (.int 116), (.int cv)] (.int 0) := V1381
              refine own_st (T' := T1381) (g' := (mkF m 290 #[.val (.int p1), .val (.int p2), .val (.int p3), .val (.int p4), .val (.long p5), .second, .val (.int (p1 &&& (3 : Int32))), .val (.ref b716), .val (.int 7), .unset, .unset] [])) st1381 ?_
              have F1386 : Old Z n0 h1381 := (Old.wr (Old.wr (Old.wr (Old.wr (Old.wr (Old.wr (Old.wr (Old.wr (Old.wr (Old.wr (Old.wr (Old.wr (Old.wr (Old.wr (Old.wr (Old.wr (Old.ext pr1 E716) W721 ge_b716) W725 ge_b716) W730 ge_b716) W735 ge_b716) W740 ge_b716) W745 ge_b716) W750 ge_b716) W755 ge_b716) W1251 ge_b716) W1256 ge_b716) W1261 ge_b716) W1266 ge_b716) W1271 ge_b716) W1276 ge_b716) W1281 ge_b716) W1381 ge_b716)
              exact J760 _ _ _ _ _ ⟨(108 : Int32), (101 : Int32), (110 : Int32), (105 : Int32), (101 : Int32), (110 : Int32), (116 : Int32), cv, (7 : Int32)⟩ ⟨N1381, Z1384, F1386, CR1383, hS, hk1384, hZ, hown, F1385, ⟨own_c108, own_c101, own_c110, own_c105, own_c101, own_c110, own_c116, b_cv, own_ql7⟩⟩ (X1381.mono (by decide) (by decide)) e1381
      ·
        refine own_st (T' := T755) (g' := (mkF m 274 #[.val (.int p1), .val (.int p2), .val (.int p3), .val (.int p4), .val (.long p5), .second, .val (.int (p1 &&& (3 : Int32))), .val (.ref b716), .val (.int (p4 &&& (7 : Int32))), .unset, .unset] [(.int (p1 &&& (4 : Int32)))])) (fun _ kt => XS.icmpYes X755.here hx rfl (pc0 := 197) (pc' := 265) rfl (hb hby at_197) rfl (XT.ii_ne_t hc1250) (by decide) (by decide) (XS.iloadN X755.here hx rfl (hb hby at_265) rfl (XS.bipush X755.here hx rfl (hb hby at_266) (XS.iand X755.here hx rfl (hb hby at_268) rfl (XS.istore X755.here hx rfl (hb hby at_269) rfl (l' := #[.val (.int p1), .val (.int p2), .val (.int p3), .val (.int p4), .val (.long p5), .second, .val (.int (p1 &&& (3 : Int32))), .val (.ref b716), .val (.int (p4 &&& (7 : Int32))), .unset, .unset]) rfl (XS.iloadN X755.here hx rfl (hb hby at_271) rfl (XS.iconst X755.here hx rfl (hb hby at_272) (XS.iand X755.here hx rfl (hb hby at_273) rfl kt)))))))) ?_
        by_cases hc1387 : (p1 &&& (4 : Int32)) = 0
        ·
          refine own_st (T' := T755) (g' := (mkF m 290 #[.val (.int p1), .val (.int p2), .val (.int p3), .val (.int p4), .val (.long p5), .second, .val (.int (p1 &&& (3 : Int32))), .val (.ref b716), .val (.int (p4 &&& (7 : Int32))), .unset, .unset] [])) (fun _ kt => XS.ifYes X755.here hx rfl (pc0 := 274) (pc' := 290) rfl (hb hby at_274) rfl (XT.i0_eq_t hc1387) (by decide) (by decide) kt) ?_
          have F1388 : Old Z n0 h755 := (Old.wr (Old.wr (Old.wr (Old.wr (Old.wr (Old.wr (Old.wr (Old.wr (Old.ext pr1 E716) W721 ge_b716) W725 ge_b716) W730 ge_b716) W735 ge_b716) W740 ge_b716) W745 ge_b716) W750 ge_b716) W755 ge_b716)
          exact J760 _ _ _ _ _ ⟨c0, c1, c2, c3, c4, c5, c6, c7, (p4 &&& (7 : Int32))⟩ ⟨N755, Z758, F1388, CR757, hS, hk758, hZ, hown, F759, ⟨b_c0, b_c1, b_c2, b_c3, b_c4, b_c5, b_c6, b_c7, (own_and7 _)⟩⟩ (X755.mono (by decide) (by decide)) e755
        ·
          refine own_st (T' := T755) (g' := (mkF m 283 #[.val (.int p1), .val (.int p2), .val (.int p3), .val (.int p4), .val (.long p5), .second, .val (.int (p1 &&& (3 : Int32))), .val (.ref b716), .val (.int (p4 &&& (7 : Int32))), .unset, .unset] [(.int (p2 &&& (7 : Int32))), (.ref b716)])) (fun _ kt => XS.ifNo X755.here hx rfl (hb hby at_274) rfl (XT.i0_eq_f hc1387) (XS.aload X755.here hx rfl (hb hby at_277) rfl rfl (XS.iloadN X755.here hx rfl (hb hby at_279) rfl (XS.bipush X755.here hx rfl (hb hby at_280) (XS.iand X755.here hx rfl (hb hby at_282) rfl kt))))) ?_
          obtain ⟨ii, hii⟩ : ∃ z : Int32, z = (p2 &&& (7 : Int32)) := ⟨_, rfl⟩
          rw [← hii]
          rcases (hii ▸ own_and7 _ : own_q8 ii) with rfl | rfl | rfl | rfl | rfl | rfl | rfl | rfl
          ·
            refine own_st (T' := T755) (g' := (mkF m 289 #[.val (.int p1), .val (.int p2), .val (.int p3), .val (.int p4), .val (.long p5), .second, .val (.int (p1 &&& (3 : Int32))), .val (.ref b716), .val (.int (p4 &&& (7 : Int32))), .unset, .unset] [(.int ((p3 &&& (255 : Int32)).toUInt32.toUInt16.toUInt32.toInt32)), (.int 0), (.ref b716)])) (fun _ kt => XS.iloadN X755.here hx rfl (hb hby at_283) rfl (XS.sipush X755.here hx rfl (hb hby at_284) (XS.iand X755.here hx rfl (hb hby at_287) rfl (XT.i2c X755.here hx rfl (hb hby at_288) rfl kt)))) ?_
            obtain ⟨cv, hcv⟩ : ∃ z : Int32, z = ((p3 &&& (255 : Int32)).toUInt32.toUInt16.toUInt32.toInt32) := ⟨_, rfl⟩
            rw [← hcv]
            have b_cv : own_cc cv := hcv ▸ own_mkc _
            obtain ⟨T1389, h1389, X1389, e1389, W1389, V1389, st1389⟩ := own_cst X755 hx hZ e755 F759 ⟨by decide, by decide⟩ (i := 0) rfl (by simp) (y := cv) b_cv.2.2 (g := (mkF m 289 #[.val (.int p1), .val (.int p2), .val (.int p3), .val (.int p4), .val (.long p5), .second, .val (.int (p1 &&& (3 : Int32))), .val (.ref b716), .val (.int (p4 &&& (7 : Int32))), .unset, .unset] [(.int cv), (.int 0), (.ref b716)])) rfl rfl (hb hby at_289)
            have N1389 := Fr.snoc X1389 N755 ge_b716
            have F1390 : Safe Z own_EL s.vm h755 b716 := (Safe.wr W755 F756 CR752.1 F756)
            have CR1391 : CHr Z own_EL s.vm h0 s.vm h1389 := CHr.trans CR757 (CHr.wr W1389 F1390 CR757.1)
            have Z1392 : n0 ≤ h1389.size := Nat.le_trans Z758 (Nat.le_of_eq (Wr.size W1389).symm)
            have hk1392 := Nat.le_trans hk758 (Nat.le_of_eq (Wr.size W1389).symm)
            have F1393 : Arv Z h1389 b716 k716 .char (8 : Int32) [(.int cv), (.int c1), (.int c2), (.int c3), (.int c4), (.int c5), (.int c6), (.int c7)] (.int 0) := V1389
            refine own_st (T' := T1389) (g' := (mkF m 290 #[.val (.int p1), .val (.int p2), .val (.int p3), .val (.int p4), .val (.long p5), .second, .val (.int (p1 &&& (3 : Int32))), .val (.ref b716), .val (.int (p4 &&& (7 : Int32))), .unset, .unset] [])) st1389 ?_
            have F1394 : Old Z n0 h1389 := (Old.wr (Old.wr (Old.wr (Old.wr (Old.wr (Old.wr (Old.wr (Old.wr (Old.wr (Old.ext pr1 E716) W721 ge_b716) W725 ge_b716) W730 ge_b716) W735 ge_b716) W740 ge_b716) W745 ge_b716) W750 ge_b716) W755 ge_b716) W1389 ge_b716)
            exact J760 _ _ _ _ _ ⟨cv, c1, c2, c3, c4, c5, c6, c7, (p4 &&& (7 : Int32))⟩ ⟨N1389, Z1392, F1394, CR1391, hS, hk1392, hZ, hown, F1393, ⟨b_cv, b_c1, b_c2, b_c3, b_c4, b_c5, b_c6, b_c7, (own_and7 _)⟩⟩ (X1389.mono (by decide) (by decide)) e1389
          ·
            refine own_st (T' := T755) (g' := (mkF m 289 #[.val (.int p1), .val (.int p2), .val (.int p3), .val (.int p4), .val (.long p5), .second, .val (.int (p1 &&& (3 : Int32))), .val (.ref b716), .val (.int (p4 &&& (7 : Int32))), .unset, .unset] [(.int ((p3 &&& (255 : Int32)).toUInt32.toUInt16.toUInt32.toInt32)), (.int 1), (.ref b716)])) (fun _ kt => XS.iloadN X755.here hx rfl (hb hby at_283) rfl (XS.sipush X755.here hx rfl (hb hby at_284) (XS.iand X755.here hx rfl (hb hby at_287) rfl (XT.i2c X755.here hx rfl (hb hby at_288) rfl kt)))) ?_
            obtain ⟨cv, hcv⟩ : ∃ z : Int32, z = ((p3 &&& (255 : Int32)).toUInt32.toUInt16.toUInt32.toInt32) := ⟨_, rfl⟩
            rw [← hcv]
            have b_cv : own_cc cv := hcv ▸ own_mkc _
            obtain ⟨T1395, h1395, X1395, e1395, W1395, V1395, st1395⟩ := own_cst X755 hx hZ e755 F759 ⟨by decide, by decide⟩ (i := 1) rfl (by simp) (y := cv) b_cv.2.2 (g := (mkF m 289 #[.val (.int p1), .val (.int p2), .val (.int p3), .val (.int p4), .val (.long p5), .second, .val (.int (p1 &&& (3 : Int32))), .val (.ref b716), .val (.int (p4 &&& (7 : Int32))), .unset, .unset] [(.int cv), (.int 1), (.ref b716)])) rfl rfl (hb hby at_289)
            have N1395 := Fr.snoc X1395 N755 ge_b716
            have F1396 : Safe Z own_EL s.vm h755 b716 := (Safe.wr W755 F756 CR752.1 F756)
            have CR1397 : CHr Z own_EL s.vm h0 s.vm h1395 := CHr.trans CR757 (CHr.wr W1395 F1396 CR757.1)
            have Z1398 : n0 ≤ h1395.size := Nat.le_trans Z758 (Nat.le_of_eq (Wr.size W1395).symm)
            have hk1398 := Nat.le_trans hk758 (Nat.le_of_eq (Wr.size W1395).symm)
            have F1399 : Arv Z h1395 b716 k716 .char (8 : Int32) [(.int c0), (.int cv), (.int c2), (.int c3), (.int c4), (.int c5), (.int c6), (.int c7)] (.int 0) := V1395
            refine own_st (T' := T1395) (g' := (mkF m 290 #[.val (.int p1), .val (.int p2), .val (.int p3), .val (.int p4), .val (.long p5), .second, .val (.int (p1 &&& (3 : Int32))), .val (.ref b716), .val (.int (p4 &&& (7 : Int32))), .unset, .unset] [])) st1395 ?_
            have F1400 : Old Z n0 h1395 := (Old.wr (Old.wr (Old.wr (Old.wr (Old.wr (Old.wr (Old.wr (Old.wr (Old.wr (Old.ext pr1 E716) W721 ge_b716) W725 ge_b716) W730 ge_b716) W735 ge_b716) W740 ge_b716) W745 ge_b716) W750 ge_b716) W755 ge_b716) W1395 ge_b716)
            exact J760 _ _ _ _ _ ⟨c0, cv, c2, c3, c4, c5, c6, c7, (p4 &&& (7 : Int32))⟩ ⟨N1395, Z1398, F1400, CR1397, hS, hk1398, hZ, hown, F1399, ⟨b_c0, b_cv, b_c2, b_c3, b_c4, b_c5, b_c6, b_c7, (own_and7 _)⟩⟩ (X1395.mono (by decide) (by decide)) e1395
          ·
            refine own_st (T' := T755) (g' := (mkF m 289 #[.val (.int p1), .val (.int p2), .val (.int p3), .val (.int p4), .val (.long p5), .second, .val (.int (p1 &&& (3 : Int32))), .val (.ref b716), .val (.int (p4 &&& (7 : Int32))), .unset, .unset] [(.int ((p3 &&& (255 : Int32)).toUInt32.toUInt16.toUInt32.toInt32)), (.int 2), (.ref b716)])) (fun _ kt => XS.iloadN X755.here hx rfl (hb hby at_283) rfl (XS.sipush X755.here hx rfl (hb hby at_284) (XS.iand X755.here hx rfl (hb hby at_287) rfl (XT.i2c X755.here hx rfl (hb hby at_288) rfl kt)))) ?_
            obtain ⟨cv, hcv⟩ : ∃ z : Int32, z = ((p3 &&& (255 : Int32)).toUInt32.toUInt16.toUInt32.toInt32) := ⟨_, rfl⟩
            rw [← hcv]
            have b_cv : own_cc cv := hcv ▸ own_mkc _
            obtain ⟨T1401, h1401, X1401, e1401, W1401, V1401, st1401⟩ := own_cst X755 hx hZ e755 F759 ⟨by decide, by decide⟩ (i := 2) rfl (by simp) (y := cv) b_cv.2.2 (g := (mkF m 289 #[.val (.int p1), .val (.int p2), .val (.int p3), .val (.int p4), .val (.long p5), .second, .val (.int (p1 &&& (3 : Int32))), .val (.ref b716), .val (.int (p4 &&& (7 : Int32))), .unset, .unset] [(.int cv), (.int 2), (.ref b716)])) rfl rfl (hb hby at_289)
            have N1401 := Fr.snoc X1401 N755 ge_b716
            have F1402 : Safe Z own_EL s.vm h755 b716 := (Safe.wr W755 F756 CR752.1 F756)
            have CR1403 : CHr Z own_EL s.vm h0 s.vm h1401 := CHr.trans CR757 (CHr.wr W1401 F1402 CR757.1)
            have Z1404 : n0 ≤ h1401.size := Nat.le_trans Z758 (Nat.le_of_eq (Wr.size W1401).symm)
            have hk1404 := Nat.le_trans hk758 (Nat.le_of_eq (Wr.size W1401).symm)
            have F1405 : Arv Z h1401 b716 k716 .char (8 : Int32) [(.int c0), (.int c1), (.int cv), (.int c3), (.int c4), (.int c5), (.int c6), (.int c7)] (.int 0) := V1401
            refine own_st (T' := T1401) (g' := (mkF m 290 #[.val (.int p1), .val (.int p2), .val (.int p3), .val (.int p4), .val (.long p5), .second, .val (.int (p1 &&& (3 : Int32))), .val (.ref b716), .val (.int (p4 &&& (7 : Int32))), .unset, .unset] [])) st1401 ?_
            have F1406 : Old Z n0 h1401 := (Old.wr (Old.wr (Old.wr (Old.wr (Old.wr (Old.wr (Old.wr (Old.wr (Old.wr (Old.ext pr1 E716) W721 ge_b716) W725 ge_b716) W730 ge_b716) W735 ge_b716) W740 ge_b716) W745 ge_b716) W750 ge_b716) W755 ge_b716) W1401 ge_b716)
            exact J760 _ _ _ _ _ ⟨c0, c1, cv, c3, c4, c5, c6, c7, (p4 &&& (7 : Int32))⟩ ⟨N1401, Z1404, F1406, CR1403, hS, hk1404, hZ, hown, F1405, ⟨b_c0, b_c1, b_cv, b_c3, b_c4, b_c5, b_c6, b_c7, (own_and7 _)⟩⟩ (X1401.mono (by decide) (by decide)) e1401
          ·
            refine own_st (T' := T755) (g' := (mkF m 289 #[.val (.int p1), .val (.int p2), .val (.int p3), .val (.int p4), .val (.long p5), .second, .val (.int (p1 &&& (3 : Int32))), .val (.ref b716), .val (.int (p4 &&& (7 : Int32))), .unset, .unset] [(.int ((p3 &&& (255 : Int32)).toUInt32.toUInt16.toUInt32.toInt32)), (.int 3), (.ref b716)])) (fun _ kt => XS.iloadN X755.here hx rfl (hb hby at_283) rfl (XS.sipush X755.here hx rfl (hb hby at_284) (XS.iand X755.here hx rfl (hb hby at_287) rfl (XT.i2c X755.here hx rfl (hb hby at_288) rfl kt)))) ?_
            obtain ⟨cv, hcv⟩ : ∃ z : Int32, z = ((p3 &&& (255 : Int32)).toUInt32.toUInt16.toUInt32.toInt32) := ⟨_, rfl⟩
            rw [← hcv]
            have b_cv : own_cc cv := hcv ▸ own_mkc _
            obtain ⟨T1407, h1407, X1407, e1407, W1407, V1407, st1407⟩ := own_cst X755 hx hZ e755 F759 ⟨by decide, by decide⟩ (i := 3) rfl (by simp) (y := cv) b_cv.2.2 (g := (mkF m 289 #[.val (.int p1), .val (.int p2), .val (.int p3), .val (.int p4), .val (.long p5), .second, .val (.int (p1 &&& (3 : Int32))), .val (.ref b716), .val (.int (p4 &&& (7 : Int32))), .unset, .unset] [(.int cv), (.int 3), (.ref b716)])) rfl rfl (hb hby at_289)
            have N1407 := Fr.snoc X1407 N755 ge_b716
            have F1408 : Safe Z own_EL s.vm h755 b716 := (Safe.wr W755 F756 CR752.1 F756)
            have CR1409 : CHr Z own_EL s.vm h0 s.vm h1407 := CHr.trans CR757 (CHr.wr W1407 F1408 CR757.1)
            have Z1410 : n0 ≤ h1407.size := Nat.le_trans Z758 (Nat.le_of_eq (Wr.size W1407).symm)
            have hk1410 := Nat.le_trans hk758 (Nat.le_of_eq (Wr.size W1407).symm)
            have F1411 : Arv Z h1407 b716 k716 .char (8 : Int32) [(.int c0), (.int c1), (.int c2), (.int cv), (.int c4), (.int c5), (.int c6), (.int c7)] (.int 0) := V1407
            refine own_st (T' := T1407) (g' := (mkF m 290 #[.val (.int p1), .val (.int p2), .val (.int p3), .val (.int p4), .val (.long p5), .second, .val (.int (p1 &&& (3 : Int32))), .val (.ref b716), .val (.int (p4 &&& (7 : Int32))), .unset, .unset] [])) st1407 ?_
            have F1412 : Old Z n0 h1407 := (Old.wr (Old.wr (Old.wr (Old.wr (Old.wr (Old.wr (Old.wr (Old.wr (Old.wr (Old.ext pr1 E716) W721 ge_b716) W725 ge_b716) W730 ge_b716) W735 ge_b716) W740 ge_b716) W745 ge_b716) W750 ge_b716) W755 ge_b716) W1407 ge_b716)
            exact J760 _ _ _ _ _ ⟨c0, c1, c2, cv, c4, c5, c6, c7, (p4 &&& (7 : Int32))⟩ ⟨N1407, Z1410, F1412, CR1409, hS, hk1410, hZ, hown, F1411, ⟨b_c0, b_c1, b_c2, b_cv, b_c4, b_c5, b_c6, b_c7, (own_and7 _)⟩⟩ (X1407.mono (by decide) (by decide)) e1407
          ·
            refine own_st (T' := T755) (g' := (mkF m 289 #[.val (.int p1), .val (.int p2), .val (.int p3), .val (.int p4), .val (.long p5), .second, .val (.int (p1 &&& (3 : Int32))), .val (.ref b716), .val (.int (p4 &&& (7 : Int32))), .unset, .unset] [(.int ((p3 &&& (255 : Int32)).toUInt32.toUInt16.toUInt32.toInt32)), (.int 4), (.ref b716)])) (fun _ kt => XS.iloadN X755.here hx rfl (hb hby at_283) rfl (XS.sipush X755.here hx rfl (hb hby at_284) (XS.iand X755.here hx rfl (hb hby at_287) rfl (XT.i2c X755.here hx rfl (hb hby at_288) rfl kt)))) ?_
            obtain ⟨cv, hcv⟩ : ∃ z : Int32, z = ((p3 &&& (255 : Int32)).toUInt32.toUInt16.toUInt32.toInt32) := ⟨_, rfl⟩
            rw [← hcv]
            have b_cv : own_cc cv := hcv ▸ own_mkc _
            obtain ⟨T1413, h1413, X1413, e1413, W1413, V1413, st1413⟩ := own_cst X755 hx hZ e755 F759 ⟨by decide, by decide⟩ (i := 4) rfl (by simp) (y := cv) b_cv.2.2 (g := (mkF m 289 #[.val (.int p1), .val (.int p2), .val (.int p3), .val (.int p4), .val (.long p5), .second, .val (.int (p1 &&& (3 : Int32))), .val (.ref b716), .val (.int (p4 &&& (7 : Int32))), .unset, .unset] [(.int cv), (.int 4), (.ref b716)])) rfl rfl (hb hby at_289)
            have N1413 := Fr.snoc X1413 N755 ge_b716
            have F1414 : Safe Z own_EL s.vm h755 b716 := (Safe.wr W755 F756 CR752.1 F756)
            have CR1415 : CHr Z own_EL s.vm h0 s.vm h1413 := CHr.trans CR757 (CHr.wr W1413 F1414 CR757.1)
            have Z1416 : n0 ≤ h1413.size := Nat.le_trans Z758 (Nat.le_of_eq (Wr.size W1413).symm)
            have hk1416 := Nat.le_trans hk758 (Nat.le_of_eq (Wr.size W1413).symm)
            have F1417 : Arv Z h1413 b716 k716 .char (8 : Int32) [(.int c0), (.int c1), (.int c2), (.int c3), (.int cv), (.int c5), (.int c6), (.int c7)] (.int 0) := V1413
            refine own_st (T' := T1413) (g' := (mkF m 290 #[.val (.int p1), .val (.int p2), .val (.int p3), .val (.int p4), .val (.long p5), .second, .val (.int (p1 &&& (3 : Int32))), .val (.ref b716), .val (.int (p4 &&& (7 : Int32))), .unset, .unset] [])) st1413 ?_
            have F1418 : Old Z n0 h1413 := (Old.wr (Old.wr (Old.wr (Old.wr (Old.wr (Old.wr (Old.wr (Old.wr (Old.wr (Old.ext pr1 E716) W721 ge_b716) W725 ge_b716) W730 ge_b716) W735 ge_b716) W740 ge_b716) W745 ge_b716) W750 ge_b716) W755 ge_b716) W1413 ge_b716)
            exact J760 _ _ _ _ _ ⟨c0, c1, c2, c3, cv, c5, c6, c7, (p4 &&& (7 : Int32))⟩ ⟨N1413, Z1416, F1418, CR1415, hS, hk1416, hZ, hown, F1417, ⟨b_c0, b_c1, b_c2, b_c3, b_cv, b_c5, b_c6, b_c7, (own_and7 _)⟩⟩ (X1413.mono (by decide) (by decide)) e1413
          ·
            refine own_st (T' := T755) (g' := (mkF m 289 #[.val (.int p1), .val (.int p2), .val (.int p3), .val (.int p4), .val (.long p5), .second, .val (.int (p1 &&& (3 : Int32))), .val (.ref b716), .val (.int (p4 &&& (7 : Int32))), .unset, .unset] [(.int ((p3 &&& (255 : Int32)).toUInt32.toUInt16.toUInt32.toInt32)), (.int 5), (.ref b716)])) (fun _ kt => XS.iloadN X755.here hx rfl (hb hby at_283) rfl (XS.sipush X755.here hx rfl (hb hby at_284) (XS.iand X755.here hx rfl (hb hby at_287) rfl (XT.i2c X755.here hx rfl (hb hby at_288) rfl kt)))) ?_
            obtain ⟨cv, hcv⟩ : ∃ z : Int32, z = ((p3 &&& (255 : Int32)).toUInt32.toUInt16.toUInt32.toInt32) := ⟨_, rfl⟩
            rw [← hcv]
            have b_cv : own_cc cv := hcv ▸ own_mkc _
            obtain ⟨T1419, h1419, X1419, e1419, W1419, V1419, st1419⟩ := own_cst X755 hx hZ e755 F759 ⟨by decide, by decide⟩ (i := 5) rfl (by simp) (y := cv) b_cv.2.2 (g := (mkF m 289 #[.val (.int p1), .val (.int p2), .val (.int p3), .val (.int p4), .val (.long p5), .second, .val (.int (p1 &&& (3 : Int32))), .val (.ref b716), .val (.int (p4 &&& (7 : Int32))), .unset, .unset] [(.int cv), (.int 5), (.ref b716)])) rfl rfl (hb hby at_289)
            have N1419 := Fr.snoc X1419 N755 ge_b716
            have F1420 : Safe Z own_EL s.vm h755 b716 := (Safe.wr W755 F756 CR752.1 F756)
            have CR1421 : CHr Z own_EL s.vm h0 s.vm h1419 := CHr.trans CR757 (CHr.wr W1419 F1420 CR757.1)
            have Z1422 : n0 ≤ h1419.size := Nat.le_trans Z758 (Nat.le_of_eq (Wr.size W1419).symm)
            have hk1422 := Nat.le_trans hk758 (Nat.le_of_eq (Wr.size W1419).symm)
            have F1423 : Arv Z h1419 b716 k716 .char (8 : Int32) [(.int c0), (.int c1), (.int c2), (.int c3), (.int c4), (.int cv), (.int c6), (.int c7)] (.int 0) := V1419
            refine own_st (T' := T1419) (g' := (mkF m 290 #[.val (.int p1), .val (.int p2), .val (.int p3), .val (.int p4), .val (.long p5), .second, .val (.int (p1 &&& (3 : Int32))), .val (.ref b716), .val (.int (p4 &&& (7 : Int32))), .unset, .unset] [])) st1419 ?_
            have F1424 : Old Z n0 h1419 := (Old.wr (Old.wr (Old.wr (Old.wr (Old.wr (Old.wr (Old.wr (Old.wr (Old.wr (Old.ext pr1 E716) W721 ge_b716) W725 ge_b716) W730 ge_b716) W735 ge_b716) W740 ge_b716) W745 ge_b716) W750 ge_b716) W755 ge_b716) W1419 ge_b716)
            exact J760 _ _ _ _ _ ⟨c0, c1, c2, c3, c4, cv, c6, c7, (p4 &&& (7 : Int32))⟩ ⟨N1419, Z1422, F1424, CR1421, hS, hk1422, hZ, hown, F1423, ⟨b_c0, b_c1, b_c2, b_c3, b_c4, b_cv, b_c6, b_c7, (own_and7 _)⟩⟩ (X1419.mono (by decide) (by decide)) e1419
          ·
            refine own_st (T' := T755) (g' := (mkF m 289 #[.val (.int p1), .val (.int p2), .val (.int p3), .val (.int p4), .val (.long p5), .second, .val (.int (p1 &&& (3 : Int32))), .val (.ref b716), .val (.int (p4 &&& (7 : Int32))), .unset, .unset] [(.int ((p3 &&& (255 : Int32)).toUInt32.toUInt16.toUInt32.toInt32)), (.int 6), (.ref b716)])) (fun _ kt => XS.iloadN X755.here hx rfl (hb hby at_283) rfl (XS.sipush X755.here hx rfl (hb hby at_284) (XS.iand X755.here hx rfl (hb hby at_287) rfl (XT.i2c X755.here hx rfl (hb hby at_288) rfl kt)))) ?_
            obtain ⟨cv, hcv⟩ : ∃ z : Int32, z = ((p3 &&& (255 : Int32)).toUInt32.toUInt16.toUInt32.toInt32) := ⟨_, rfl⟩
            rw [← hcv]
            have b_cv : own_cc cv := hcv ▸ own_mkc _
            obtain ⟨T1425, h1425, X1425, e1425, W1425, V1425, st1425⟩ := own_cst X755 hx hZ e755 F759 ⟨by decide, by decide⟩ (i := 6) rfl (by simp) (y := cv) b_cv.2.2 (g := (mkF m 289 #[.val (.int p1), .val (.int p2), .val (.int p3), .val (.int p4), .val (.long p5), .second, .val (.int (p1 &&& (3 : Int32))), .val (.ref b716), .val (.int (p4 &&& (7 : Int32))), .unset, .unset] [(.int cv), (.int 6), (.ref b716)])) rfl rfl (hb hby at_289)
            have N1425 := Fr.snoc X1425 N755 ge_b716
            have F1426 : Safe Z own_EL s.vm h755 b716 := (Safe.wr W755 F756 CR752.1 F756)
            have CR1427 : CHr Z own_EL s.vm h0 s.vm h1425 := CHr.trans CR757 (CHr.wr W1425 F1426 CR757.1)
            have Z1428 : n0 ≤ h1425.size := Nat.le_trans Z758 (Nat.le_of_eq (Wr.size W1425).symm)
            have hk1428 := Nat.le_trans hk758 (Nat.le_of_eq (Wr.size W1425).symm)
            have F1429 : Arv Z h1425 b716 k716 .char (8 : Int32) [(.int c0), (.int c1), (.int c2), (.int c3), (.int c4), (.int c5), (.int cv), (.int c7)] (.int 0) := V1425
            refine own_st (T' := T1425) (g' := (mkF m 290 #[.val (.int p1), .val (.int p2), .val (.int p3), .val (.int p4), .val (.long p5), .second, .val (.int (p1 &&& (3 : Int32))), .val (.ref b716), .val (.int (p4 &&& (7 : Int32))), .unset, .unset] [])) st1425 ?_
            have F1430 : Old Z n0 h1425 := (Old.wr (Old.wr (Old.wr (Old.wr (Old.wr (Old.wr (Old.wr (Old.wr (Old.wr (Old.ext pr1 E716) W721 ge_b716) W725 ge_b716) W730 ge_b716) W735 ge_b716) W740 ge_b716) W745 ge_b716) W750 ge_b716) W755 ge_b716) W1425 ge_b716)
            exact J760 _ _ _ _ _ ⟨c0, c1, c2, c3, c4, c5, cv, c7, (p4 &&& (7 : Int32))⟩ ⟨N1425, Z1428, F1430, CR1427, hS, hk1428, hZ, hown, F1429, ⟨b_c0, b_c1, b_c2, b_c3, b_c4, b_c5, b_cv, b_c7, (own_and7 _)⟩⟩ (X1425.mono (by decide) (by decide)) e1425
          ·
            refine own_st (T' := T755) (g' := (mkF m 289 #[.val (.int p1), .val (.int p2), .val (.int p3), .val (.int p4), .val (.long p5), .second, .val (.int (p1 &&& (3 : Int32))), .val (.ref b716), .val (.int (p4 &&& (7 : Int32))), .unset, .unset] [(.int ((p3 &&& (255 : Int32)).toUInt32.toUInt16.toUInt32.toInt32)), (.int 7), (.ref b716)])) (fun _ kt => XS.iloadN X755.here hx rfl (hb hby at_283) rfl (XS.sipush X755.here hx rfl (hb hby at_284) (XS.iand X755.here hx rfl (hb hby at_287) rfl (XT.i2c X755.here hx rfl (hb hby at_288) rfl kt)))) ?_
            obtain ⟨cv, hcv⟩ : ∃ z : Int32, z = ((p3 &&& (255 : Int32)).toUInt32.toUInt16.toUInt32.toInt32) := ⟨_, rfl⟩
            rw [← hcv]
            have b_cv : own_cc cv := hcv ▸ own_mkc _
            obtain ⟨T1431, h1431, X1431, e1431, W1431, V1431, st1431⟩ := own_cst X755 hx hZ e755 F759 ⟨by decide, by decide⟩ (i := 7) rfl (by simp) (y := cv) b_cv.2.2 (g := (mkF m 289 #[.val (.int p1), .val (.int p2), .val (.int p3), .val (.int p4), .val (.long p5), .second, .val (.int (p1 &&& (3 : Int32))), .val (.ref b716), .val (.int (p4 &&& (7 : Int32))), .unset, .unset] [(.int cv), (.int 7), (.ref b716)])) rfl rfl (hb hby at_289)
            have N1431 := Fr.snoc X1431 N755 ge_b716
            have F1432 : Safe Z own_EL s.vm h755 b716 := (Safe.wr W755 F756 CR752.1 F756)
            have CR1433 : CHr Z own_EL s.vm h0 s.vm h1431 := CHr.trans CR757 (CHr.wr W1431 F1432 CR757.1)
            have Z1434 : n0 ≤ h1431.size := Nat.le_trans Z758 (Nat.le_of_eq (Wr.size W1431).symm)
            have hk1434 := Nat.le_trans hk758 (Nat.le_of_eq (Wr.size W1431).symm)
            have F1435 : Arv Z h1431 b716 k716 .char (8 : Int32) [(.int c0), (.int c1), (.int c2), (.int c3), (.int c4), (.int c5), (.int c6), (.int cv)] (.int 0) := V1431
            refine own_st (T' := T1431) (g' := (mkF m 290 #[.val (.int p1), .val (.int p2), .val (.int p3), .val (.int p4), .val (.long p5), .second, .val (.int (p1 &&& (3 : Int32))), .val (.ref b716), .val (.int (p4 &&& (7 : Int32))), .unset, .unset] [])) st1431 ?_
            have F1436 : Old Z n0 h1431 := (Old.wr (Old.wr (Old.wr (Old.wr (Old.wr (Old.wr (Old.wr (Old.wr (Old.wr (Old.ext pr1 E716) W721 ge_b716) W725 ge_b716) W730 ge_b716) W735 ge_b716) W740 ge_b716) W745 ge_b716) W750 ge_b716) W755 ge_b716) W1431 ge_b716)
            exact J760 _ _ _ _ _ ⟨c0, c1, c2, c3, c4, c5, c6, cv, (p4 &&& (7 : Int32))⟩ ⟨N1431, Z1434, F1436, CR1433, hS, hk1434, hZ, hown, F1435, ⟨b_c0, b_c1, b_c2, b_c3, b_c4, b_c5, b_c6, b_cv, (own_and7 _)⟩⟩ (X1431.mono (by decide) (by decide)) e1431
theorem own_eqr {Z : State} {args : Array Value} {X F : Term} {y : Addr} (hF : F.eval args Z none [] Z = some (.ref y)) (h : (Cond.eq X F).value args Z none Z [] = some true) : X.eval args Z none [] Z = some (.ref y) := by
  obtain ⟨x, y', e1, e2, -, -⟩ := cmp_v (Or.inl h)
  simp only [Cond.value] at h
  rw [e1, hF] at h
  rw [e1]
  cases x <;> simp_all
theorem own_lenq {Z : State} {args : Array Value} {t : Term} {a : Addr} {cl : Cell} {ty : FieldType} {z : Int32} (et : t.eval args Z none [] Z = some (.ref a)) (A : Arr Z Z.heap a cl ty) (h : (Term.length t).eval args Z none [] Z = some (.int z)) : cl.slots.size < 2 ^ 31 ∧ cl.slots.size.toInt32 = z := by
  simp only [Term.eval, Option.bind_eq_bind, et, Option.bind_some] at h
  obtain ⟨cell, hcell, h⟩ := Option.bind_eq_some_iff.mp h
  obtain ⟨h1, -⟩ := State.arrayAt?_spec hcell
  cases A.1.symm.trans h1
  by_cases hn : cl.slots.size < 2 ^ 31
  · rw [if_pos hn] at h; cases h; exact ⟨hn, rfl⟩
  · rw [if_neg hn] at h; cases h
theorem own_elq {Z : State} {args : Array Value} {t : Term} {a : Addr} {cl : Cell} {ty : FieldType} {j : Int32} {v : Value} {n : Nat} (et : t.eval args Z none [] Z = some (.ref a)) (A : Arr Z Z.heap a cl ty) (h : (Term.elem t (.int j)).eval args Z none [] Z = some v) (hn : j.toNatClampNeg = n) : cl.slots[n]? = some v := by
  obtain ⟨a', j', cell, h1, h2, h3, -, h5⟩ := Term.elem_spec h
  cases et.symm.trans h1
  cases (Term.int_eval j).symm.trans h2
  obtain ⟨h4, -⟩ := State.arrayAt?_spec h3
  cases A.1.symm.trans h4
  rw [← hn]; exact h5
theorem comes_1 {Post : Tables → Env → Array Value → State → Outcome → State → Prop} (hpost : ∀ tb e args s v u, (limb_1_1.after args s (.returned v) u = true ∧ limb_1_2.after args s (.returned v) u = true ∧ True) → ReturnedEndW s (.returned v) u (Jvm.fieldLocs frame_1_writes args s ++ Jvm.arrayLocs frame_1_arrays args s ++ Jvm.staticLocs frame_1_statics s) 24 3264 → Post tb e args s (.returned v) u) :
    ArmFor flags0 classFile x code maxLocals ret World_1 tables_1 room_1 Calls_1 rest_1 Pre_1 Post := by
  intro l hfl _ _ p e ha hc hk s m args below hf hA hF happ hP
  obtain ⟨hcalls, hrest, hpre⟩ := hP
  obtain ⟨-, -, -, hnamed, -, -, -, hat⟩ := (Spec.applies_iff hf).mp happ
  obtain ⟨hg, hn⟩ := and_e (Cond.before_iff.mp (show (Jvm.Cond.and given_1 narrow_1).before args s = true from hpre))
  obtain ⟨g0, hg⟩ := and_e hg
  obtain ⟨g1, hg⟩ := and_e hg
  obtain ⟨g2, hg⟩ := and_e hg
  obtain ⟨g3, hg⟩ := and_e hg
  obtain ⟨g4, hg⟩ := and_e hg
  obtain ⟨w0, w1, w2, w3, w4, rfl⟩ : ∃ w0 w1 w2 w3 w4 : Value, args = #[w0, w1, w2, w3, w4] := by
    have hs : args.size = 5 := by simpa [Cond.value, given_1] using g0
    obtain ⟨L⟩ := args
    match L, hs with
    | [w0, w1, w2, w3, w4], _ => exact ⟨w0, w1, w2, w3, w4, rfl⟩
  have hw := fun d (hd : d ∈ tables_1) => atoms_spec (ws := Jvm.Cond.code x code maxLocals ret :: tables_1) hat d (List.mem_cons_of_mem _ hd)
  have hfit : Fit s := fun {y c} hc i hi => by
    obtain ⟨ha, rfl⟩ := Array.getElem?_eq_some_iff.mp hc
    have q := List.all_eq_true.mp ((Array.all_eq_true_iff_forall_mem.mp hF) _ (Array.getElem_mem ha)) i (List.mem_range.mpr hi)
    simpa [Array.getElem?_eq_getElem hi] using q
  obtain ⟨i0, e0⟩ := is_v g1
  obtain rfl : w0 = (.int i0) := Option.some.inj e0
  obtain ⟨i1, e1⟩ := is_v g2
  obtain rfl : w1 = (.int i1) := Option.some.inj e1
  obtain ⟨i2, e2⟩ := is_v g3
  obtain rfl : w2 = (.int i2) := Option.some.inj e2
  obtain ⟨i3, e3⟩ := is_v g4
  obtain rfl : w3 = (.int i3) := Option.some.inj e3
  obtain ⟨i4, e4⟩ := isL_v hg
  obtain rfl : w4 = (.long i4) := Option.some.inj e4
  obtain ⟨hsets, hown0⟩ := atoms_of _ (rest_1_c_eq ▸ (show rest_1_c.before _ s = true from hrest))
  have n5 := not_v (Cond.before_iff.mp (hsets _ (List.mem_of_getElem? (i := 2) rfl)))
  obtain ⟨zc, ez⟩ := is_v (Cond.before_iff.mp (hsets _ (List.mem_of_getElem? (i := 1) rfl)))
  have S1 : Sta s s.heap "java/lang/String" "COMPACT_STRINGS" "Z" (.int zc) := Sta.start ez (Or.inl (hsets _ (List.mem_of_getElem? (i := 0) rfl)))
  have hz : ¬ (zc = (0 : Int32)) := gotF (Cond.eq_ints ez (Term.int_eval (0))) n5
  have hCH : CHv s own_EL s.vm s.heap := CHv.start (own_EW hw) (fun p hp => hcalls.1 p hp) (hsets _ (List.mem_of_getElem? (i := 2) rfl)) (own_k hw 54 rfl) (own_k hw 38 rfl)
  obtain ⟨fmt, e8f, r8⟩ := isR_v (Cond.before_iff.mp (hsets _ (List.mem_of_getElem? (i := 8) rfl)))
  have S2 : Sta s s.heap "jdk/internal/util/Preconditions" "SIOOBE_FORMATTER" "Ljava/util/function/BiFunction;" fmt := Sta.start e8f (Or.inl (hsets _ (List.mem_of_getElem? (i := 7) rfl)))
  obtain ⟨y1, hn⟩ := and_e hn
  obtain ⟨y2, hn⟩ := and_e hn
  obtain ⟨y3, hn⟩ := and_e hn
  obtain ⟨y4, hn⟩ := and_e hn
  obtain ⟨y5, hn⟩ := and_e hn
  obtain ⟨y6, hn⟩ := and_e hn
  obtain ⟨y7, hn⟩ := and_e hn
  obtain ⟨y8, hn⟩ := and_e hn
  obtain ⟨y9, hn⟩ := and_e hn
  obtain ⟨y10, hn⟩ := and_e hn
  obtain ⟨y11, hn⟩ := and_e hn
  obtain ⟨y12, hn⟩ := and_e hn
  obtain ⟨y13, hn⟩ := and_e hn
  obtain ⟨y14, hn⟩ := and_e hn
  obtain ⟨y15, hn⟩ := and_e hn
  obtain ⟨y16, hn⟩ := and_e hn
  obtain ⟨y17, hn⟩ := and_e hn
  obtain ⟨y18, hn⟩ := and_e hn
  obtain ⟨y19, hn⟩ := and_e hn
  obtain ⟨y20, hn⟩ := and_e hn
  obtain ⟨y21, hn⟩ := and_e hn
  obtain ⟨y22, hn⟩ := and_e hn
  obtain ⟨y23, hn⟩ := and_e hn
  obtain ⟨y24, hn⟩ := and_e hn
  obtain ⟨y25, hn⟩ := and_e hn
  obtain ⟨y26, hn⟩ := and_e hn
  obtain ⟨y27, y28⟩ := and_e hn
  obtain ⟨sc, e1⟩ := exa_v y1
  obtain ⟨sv, e2⟩ := exa_v y2
  obtain ⟨va, e3⟩ := arr_v y3
  obtain ⟨cv, A3⟩ := Arr.start e3 y3
  have l3 := own_lenq e3 A3 (eqv_i (Term.int_eval (2)) y5)
  obtain ⟨le, e7⟩ := exa_v y7
  have AV : Arv s s.heap va cv.cls (.object "com/example/lotd/lotd/ProcessingMode") (2 : Int32) [(.ref sc), (.ref le)] .null := Arv.start hfit A3 l3.1 l3.2 (by decide) rfl ⟨own_elq e3 A3 (own_eqr e1 y6) rfl, own_elq e3 A3 (own_eqr e7 y8) rfl, trivial⟩
  have SV : Sta s s.heap "com/example/lotd/lotd/ProcessingMode" "$VALUES" "[Lcom/example/lotd/lotd/ProcessingMode;" (.ref va) := Sta.start e3 (Or.inr ⟨(own_k hw 3 rfl), (own_k hw 15 rfl)⟩)
  have SS : Sta s s.heap "com/example/lotd/lotd/ProcessingMode" "STRICT" "Lcom/example/lotd/lotd/ProcessingMode;" (.ref sc) := Sta.start e1 (Or.inr ⟨(own_k hw 3 rfl), (own_k hw 4 rfl)⟩)
  have SL : Sta s s.heap "com/example/lotd/lotd/ProcessingMode" "LENIENT" "Lcom/example/lotd/lotd/ProcessingMode;" (.ref le) := Sta.start e7 (Or.inr ⟨(own_k hw 3 rfl), (own_k hw 23 rfl)⟩)
  have F1 : Fld s s.heap sc "com/example/lotd/lotd/ProcessingMode" "value" "Ljava/lang/String;" (.ref sv) := Fld.start ((fld_at e1).symm.trans e2)
  obtain ⟨ts, e10⟩ := arr_v y10
  obtain ⟨c10, A10⟩ := Arr.start e10 y10
  have l10 := own_lenq e10 A10 (eqv_i (Term.int_eval (6)) y11)
  have AS : Arv s s.heap ts c10.cls .byte (6 : Int32) [(.int 115), (.int 116), (.int 114), (.int 105), (.int 99), (.int 116)] (.int 0) := Arv.start hfit A10 l10.1 l10.2 (by decide) rfl ⟨own_elq e10 A10 (eqv_i (Term.int_eval (115)) y16) rfl, own_elq e10 A10 (eqv_i (Term.int_eval (116)) y17) rfl, own_elq e10 A10 (eqv_i (Term.int_eval (114)) y18) rfl, own_elq e10 A10 (eqv_i (Term.int_eval (105)) y19) rfl, own_elq e10 A10 (eqv_i (Term.int_eval (99)) y20) rfl, own_elq e10 A10 (eqv_i (Term.int_eval (116)) y21) rfl, trivial⟩
  have G1 : Fld s s.heap sv "java/lang/String" "coder" "B" (.int 0) := Fld.start ((fld_at e2).symm.trans (eqv_i (Term.int_eval (0)) y9))
  have G2 : Fld s s.heap sv "java/lang/String" "value" "[B" (.ref ts) := Fld.start ((fld_at e2).symm.trans e10)
  obtain ⟨lv, e12⟩ := exa_v y12
  have F7 : Fld s s.heap le "com/example/lotd/lotd/ProcessingMode" "value" "Ljava/lang/String;" (.ref lv) := Fld.start ((fld_at e7).symm.trans e12)
  obtain ⟨tl, e14⟩ := arr_v y14
  obtain ⟨c14, A14⟩ := Arr.start e14 y14
  have l14 := own_lenq e14 A14 (eqv_i (Term.int_eval (7)) y15)
  have AL : Arv s s.heap tl c14.cls .byte (7 : Int32) [(.int 108), (.int 101), (.int 110), (.int 105), (.int 101), (.int 110), (.int 116)] (.int 0) := Arv.start hfit A14 l14.1 l14.2 (by decide) rfl ⟨own_elq e14 A14 (eqv_i (Term.int_eval (108)) y22) rfl, own_elq e14 A14 (eqv_i (Term.int_eval (101)) y23) rfl, own_elq e14 A14 (eqv_i (Term.int_eval (110)) y24) rfl, own_elq e14 A14 (eqv_i (Term.int_eval (105)) y25) rfl, own_elq e14 A14 (eqv_i (Term.int_eval (101)) y26) rfl, own_elq e14 A14 (eqv_i (Term.int_eval (110)) y27) rfl, own_elq e14 A14 (eqv_i (Term.int_eval (116)) y28) rfl, trivial⟩
  have H1 : Fld s s.heap lv "java/lang/String" "coder" "B" (.int 0) := Fld.start ((fld_at e12).symm.trans (eqv_i (Term.int_eval (0)) y13))
  have H2 : Fld s s.heap lv "java/lang/String" "value" "[B" (.ref tl) := Fld.start ((fld_at e12).symm.trans e14)
  obtain ⟨n, o, h1, h2, h3, _, L, rfl, ⟨rfl, N⟩, -, hq⟩ := own_law l s _ hw tables_1 i0 i1 i2 i3 i4 fmt va _ sc le zc sv lv ts tl _ _ s.heap s.heap.size (Nat.le_refl _) (Old.start s) SV (Exa.start e3 y4) AV S1 hz SS (Exa.start e1 y1) (Exa.start e7 y7) F1 F7 (Exa.start e2 y2) G1 G2 AS (Exa.start e12 y12) H1 H2 AL SL S2 r8 p e ha hc hk s m _ below hf ((Spec.applies_iff_loose hf).mp happ).1 ⟨rfl, State.Warmed39.refl s, rfl, hCH⟩ trivial
  refine ⟨n, _, h1, h2, h3, hpost _ _ _ _ _ _ ⟨Cond.after_iff.mpr rfl, Cond.after_iff.mpr (eq_i res_at (Term.int_eval (1)) rfl), trivial⟩ ⟨hq.1, hq.2.1, hq.2.2.1, (hq.2.2.2.sift fun y hy => Or.inr (N y hy)).mono (by decide) (by decide)⟩⟩
theorem main_1_1 : Claimed_1_1 := comes_1 fun _ _ _ _ _ _ h hF => ⟨h.1, hF⟩
theorem main_1_2 : Claimed_1_2 := comes_1 fun _ _ _ _ _ _ h hF => ⟨h.2.1, hF⟩
end Jvm.Pilot.@@N@@
namespace Jvm.Pilot.@@N@@
open Jvm Jvm.ClassFile Sem Op Lib Jvm.Free Jvm.Stand Jvm.Pilot.@@N@@.Jvm.D
/-! MADE BY PROGRAM (witnessworld.py) out of the Statement's table words and the real class files: 22 classes; the members and pool entries that the words name. The judged class is class 1, her method 1. -/
namespace start1
open Jvm.ClassFile
def u (s : String) : CpInfo := .utf8 (stringToUtf16 s)
/-- a pool by its gaps: so many unusable entries, then the entry; so many at the end -/
def gap : Nat → List CpInfo → List CpInfo
  | 0, r => r
  | n + 1, r => .unusable :: gap n r
def poolList (es : List (Nat × CpInfo)) (last : Nat) : List CpInfo := es.foldr (fun e r => gap e.1 (e.2 :: r)) (gap last [])
def pool (es : List (Nat × CpInfo)) (last : Nat) : Array CpInfo := ⟨poolList es last⟩
def fileOf (pool : Array CpInfo) (this : Nat) (attrs : Array Attribute := #[]) (ms : Array MethodInfo := #[]) (fl : Nat := 33) (sup : Nat := 0) (ifs : Array Nat := #[]) (fds : Array FieldInfo := #[]) : ClassFile where
  minorVersion := 0
  majorVersion := 65
  constantPool := pool
  accessFlags := fl
  thisClass := this
  superClass := sup
  interfaces := ifs
  fields := fds
  methods := ms
  attributes := attrs
def plain (name : String) (sup : Option ClassId) : Class where
  name := name
  kind := .ordinary
  loader := none
  accessFlags := 33
  super := sup
  interfaces := #[]
  cf := none
  fields := #[]
  methods := #[]
  instanceTypes := #[]
  staticTypes := #[]
  resolved := #[]
  callSites := []
  init := .initialized
  statics := none
  mirror := none

def pool0 : Array CpInfo := pool [(5, u "<init>"), (0, u "()V"), (1, .class_ 10), (1, u "java/lang/Object"), (85, u "clone"), (0, u "()Ljava/lang/Object;")] 26

def k0c0 : Code := { maxStack := 0, maxLocals := 1, code := object_method_1_code, exceptionTable := #[], attributes := #[] }
def k0m0 : Method := { name := "<init>", desc := "()V", sig := { parameters := [], returnType := none }, accessFlags := 1, code := some k0c0 }
def k0m1 : Method := { name := "clone", desc := "()Ljava/lang/Object;", sig := { parameters := [], returnType := some (.object "java/lang/Object") }, accessFlags := 260, code := none }
/-- java/lang/Object -/
def k0 : Class := { plain "java/lang/Object" none with
  accessFlags := 33
  interfaces := #[]
  cf := some (fileOf pool0 8 #[] #[{ accessFlags := 1, nameIndex := 5, descriptorIndex := 6, attributes := #[] }, { accessFlags := 260, nameIndex := 96, descriptorIndex := 97, attributes := #[] }] 33 0 #[] #[])
  fields := #[]
  methods := #[k0m0, k0m1]
  instanceTypes := #[]
  staticTypes := #[]
  resolved := Array.replicate 124 none
  statics := none }

def pool1 : Array CpInfo := pool [(2, .class_ 4), (1, u "java/lang/Object"), (0, u "<init>"), (0, u "()V"), (0, .long 255), (1, .methodref 10 11), (0, .class_ 12), (0, .nameAndType 13 14), (0, u "com/example/lotd/lotd/ProcessingModeOfPinLaw"), (0, u "str"), (0, u "([CI)Ljava/lang/String;"), (0, .fieldref 16 17), (0, .class_ 18), (0, .nameAndType 19 20), (0, u "com/example/lotd/lotd/ProcessingMode"), (0, u "STRICT"), (0, u "Lcom/example/lotd/lotd/ProcessingMode;"), (0, .string 22), (0, u "strict"), (0, .methodref 10 24), (0, .nameAndType 25 26), (0, u "eq"), (0, u "([CILjava/lang/String;)Z"), (0, .string 28), (0, u "lenient"), (0, .fieldref 16 30), (0, .nameAndType 31 20), (0, u "LENIENT"), (0, .methodref 16 33), (0, .nameAndType 34 35), (0, u "of"), (0, u "(Ljava/lang/String;)Lcom/example/lotd/lotd/ProcessingMode;"), (0, .methodref 37 38), (0, .class_ 39), (0, .nameAndType 40 41), (0, u "java/lang/String"), (0, u "length"), (0, u "()I"), (0, .methodref 37 43), (0, .nameAndType 44 45), (0, u "charAt"), (0, u "(I)C"), (0, .methodref 37 47), (0, .nameAndType 5 48), (0, u "([C)V"), (2, u "law"), (0, u "(IIIIJ)Z")] 5

def k1m0 : Method := { name := "<init>", desc := "()V", sig := { parameters := [], returnType := none }, accessFlags := 1, code := none }
def k1c1 : Code := { maxStack := 6, maxLocals := 11, code := code, exceptionTable := #[], attributes := #[] }
def k1m1 : Method := { name := "law", desc := "(IIIIJ)Z", sig := { parameters := [.int, .int, .int, .int, .long], returnType := some .boolean }, accessFlags := 9, code := some k1c1 }
def k1c2 : Code := { maxStack := 3, maxLocals := 3, code := method_3_code, exceptionTable := #[], attributes := #[] }
def k1m2 : Method := { name := "eq", desc := "([CILjava/lang/String;)Z", sig := { parameters := [(.array .char), .int, (.object "java/lang/String")], returnType := some .boolean }, accessFlags := 10, code := some k1c2 }
def k1c3 : Code := { maxStack := 7, maxLocals := 2, code := method_4_code, exceptionTable := #[], attributes := #[] }
def k1m3 : Method := { name := "str", desc := "([CI)Ljava/lang/String;", sig := { parameters := [(.array .char), .int], returnType := some (.object "java/lang/String") }, accessFlags := 10, code := some k1c3 }
/-- com/example/lotd/lotd/ProcessingModeOfPinLaw -/
def k1 : Class := { plain "com/example/lotd/lotd/ProcessingModeOfPinLaw" (some 0) with
  accessFlags := 49
  interfaces := #[]
  cf := some (fileOf pool1 10 #[] #[{ accessFlags := 1, nameIndex := 5, descriptorIndex := 6, attributes := #[] }, { accessFlags := 9, nameIndex := 51, descriptorIndex := 52, attributes := #[] }, { accessFlags := 10, nameIndex := 25, descriptorIndex := 26, attributes := #[] }, { accessFlags := 10, nameIndex := 13, descriptorIndex := 14, attributes := #[] }] 49 2 #[] #[])
  fields := #[]
  methods := #[k1m0, k1m1, k1m2, k1m3]
  instanceTypes := #[]
  staticTypes := #[]
  resolved := Array.replicate 58 none
  statics := none }

def pool2 : Array CpInfo := pool [(1, .class_ 2), (0, u "java/lang/constant/Constable"), (0, .class_ 4), (0, u "java/lang/Object")] 6

/-- java/lang/constant/Constable -/
def k2 : Class := { plain "java/lang/constant/Constable" (some 0) with
  accessFlags := 1537
  interfaces := #[]
  cf := some (fileOf pool2 1 #[] #[] 1537 3 #[] #[])
  fields := #[]
  methods := #[]
  instanceTypes := #[]
  staticTypes := #[]
  resolved := Array.replicate 11 none
  statics := none }

def pool3 : Array CpInfo := pool [(1, .class_ 2), (0, u "java/lang/Comparable"), (0, .class_ 4), (0, u "java/lang/Object")] 7

/-- java/lang/Comparable -/
def k3 : Class := { plain "java/lang/Comparable" (some 0) with
  accessFlags := 1537
  interfaces := #[]
  cf := some (fileOf pool3 1 #[] #[] 1537 3 #[] #[])
  fields := #[]
  methods := #[]
  instanceTypes := #[]
  staticTypes := #[]
  resolved := Array.replicate 12 none
  statics := none }

def pool4 : Array CpInfo := pool [(1, .class_ 2), (0, u "java/io/Serializable"), (0, .class_ 4), (0, u "java/lang/Object")] 2

/-- java/io/Serializable -/
def k4 : Class := { plain "java/io/Serializable" (some 0) with
  accessFlags := 1537
  interfaces := #[]
  cf := some (fileOf pool4 1 #[] #[] 1537 3 #[] #[])
  fields := #[]
  methods := #[]
  instanceTypes := #[]
  staticTypes := #[]
  resolved := Array.replicate 7 none
  statics := none }

def pool5 : Array CpInfo := pool [(2, .class_ 4), (1, u "java/lang/Enum"), (0, u "name"), (0, u "Ljava/lang/String;"), (2, u "ordinal"), (0, u "I"), (1, .class_ 14), (1, u "java/lang/Object"), (4, u "hash"), (86, .class_ 108), (1, u "java/lang/Enum$EnumDesc"), (2, .class_ 112), (0, u "java/lang/constant/Constable"), (0, .class_ 114), (0, u "java/lang/Comparable"), (0, .class_ 116), (0, u "java/io/Serializable")] 87

/-- java/lang/Enum -/
def k5 : Class := { plain "java/lang/Enum" (some 0) with
  accessFlags := 1057
  interfaces := #[2, 3, 4]
  cf := some (fileOf pool5 2 #[.nestMembers #[106]] #[] 1057 12 #[111, 113, 115] #[{ accessFlags := 18, nameIndex := 5, descriptorIndex := 6, attributes := #[] }, { accessFlags := 18, nameIndex := 9, descriptorIndex := 10, attributes := #[] }, { accessFlags := 2, nameIndex := 19, descriptorIndex := 10, attributes := #[] }])
  fields := #[{ name := "name", type := (.object "java/lang/String"), accessFlags := 18, slot := 0, constantValue := 0 }, { name := "ordinal", type := .int, accessFlags := 18, slot := 1, constantValue := 0 }, { name := "hash", type := .int, accessFlags := 2, slot := 2, constantValue := 0 }]
  methods := #[]
  instanceTypes := #[(.object "java/lang/String"), .int, .int]
  staticTypes := #[]
  resolved := Array.replicate 204 none
  statics := none }

def pool6 : Array CpInfo := pool [(1, .class_ 2), (0, u "com/example/lotd/lotd/ProcessingMode"), (0, .fieldref 1 4), (0, .nameAndType 5 6), (0, u "STRICT"), (0, u "Lcom/example/lotd/lotd/ProcessingMode;"), (2, u "LENIENT"), (0, .fieldref 1 11), (0, .nameAndType 12 13), (0, u "$VALUES"), (0, u "[Lcom/example/lotd/lotd/ProcessingMode;"), (0, .methodref 15 16), (0, .class_ 13), (0, .nameAndType 17 18), (0, u "clone"), (0, u "()Ljava/lang/Object;"), (1, .class_ 22), (1, u "java/lang/Enum"), (6, .fieldref 1 30), (0, .nameAndType 31 32), (0, u "value"), (0, u "Ljava/lang/String;"), (0, .methodref 1 34), (0, .nameAndType 35 36), (0, u "values"), (0, u "()[Lcom/example/lotd/lotd/ProcessingMode;"), (0, .methodref 38 39), (0, .class_ 40), (0, .nameAndType 41 42), (0, u "java/lang/String"), (0, u "equals"), (0, u "(Ljava/lang/Object;)Z"), (14, u "(Ljava/lang/String;)Lcom/example/lotd/lotd/ProcessingMode;"), (3, u "of")] 7

def k6c0 : Code := { maxStack := 1, maxLocals := 0, code := prog_10_method_1_code, exceptionTable := #[], attributes := #[] }
def k6m0 : Method := { name := "values", desc := "()[Lcom/example/lotd/lotd/ProcessingMode;", sig := { parameters := [], returnType := some (.array (.object "com/example/lotd/lotd/ProcessingMode")) }, accessFlags := 9, code := some k6c0 }
def k6c1 : Code := { maxStack := 2, maxLocals := 6, code := prog_10_method_4_code, exceptionTable := #[], attributes := #[] }
def k6m1 : Method := { name := "of", desc := "(Ljava/lang/String;)Lcom/example/lotd/lotd/ProcessingMode;", sig := { parameters := [(.object "java/lang/String")], returnType := some (.object "com/example/lotd/lotd/ProcessingMode") }, accessFlags := 8, code := some k6c1 }
/-- com/example/lotd/lotd/ProcessingMode -/
def k6 : Class := { plain "com/example/lotd/lotd/ProcessingMode" (some 5) with
  accessFlags := 16432
  interfaces := #[]
  cf := some (fileOf pool6 1 #[] #[{ accessFlags := 9, nameIndex := 35, descriptorIndex := 36, attributes := #[] }, { accessFlags := 8, nameIndex := 61, descriptorIndex := 57, attributes := #[] }] 16432 20 #[] #[{ accessFlags := 16409, nameIndex := 5, descriptorIndex := 6, attributes := #[] }, { accessFlags := 16409, nameIndex := 9, descriptorIndex := 6, attributes := #[] }, { accessFlags := 18, nameIndex := 31, descriptorIndex := 32, attributes := #[] }, { accessFlags := 4122, nameIndex := 12, descriptorIndex := 13, attributes := #[] }])
  fields := #[{ name := "STRICT", type := (.object "com/example/lotd/lotd/ProcessingMode"), accessFlags := 16409, slot := 0, constantValue := 0 }, { name := "LENIENT", type := (.object "com/example/lotd/lotd/ProcessingMode"), accessFlags := 16409, slot := 1, constantValue := 0 }, { name := "value", type := (.object "java/lang/String"), accessFlags := 18, slot := 3, constantValue := 0 }, { name := "$VALUES", type := (.array (.object "com/example/lotd/lotd/ProcessingMode")), accessFlags := 4122, slot := 2, constantValue := 0 }]
  methods := #[k6m0, k6m1]
  instanceTypes := #[(.object "java/lang/String"), .int, .int, (.object "java/lang/String")]
  staticTypes := #[(.object "com/example/lotd/lotd/ProcessingMode"), (.object "com/example/lotd/lotd/ProcessingMode"), (.array (.object "com/example/lotd/lotd/ProcessingMode"))]
  resolved := Array.replicate 69 none
  statics := some 0 }

def pool7 : Array CpInfo := pool [(1, .class_ 2), (0, u "java/lang/Cloneable"), (0, .class_ 4), (0, u "java/lang/Object")] 2

/-- java/lang/Cloneable -/
def k7 : Class := { plain "java/lang/Cloneable" (some 0) with
  accessFlags := 1537
  interfaces := #[]
  cf := some (fileOf pool7 1 #[] #[] 1537 3 #[] #[])
  fields := #[]
  methods := #[]
  instanceTypes := #[]
  staticTypes := #[]
  resolved := Array.replicate 7 none
  statics := none }

def pool8 : Array CpInfo := pool [(2, .class_ 4), (1, u "java/lang/CharSequence"), (42, .class_ 48), (0, u "java/lang/CharSequence$1CodePointIterator"), (10, .class_ 60), (0, u "java/lang/CharSequence$1CharIterator"), (5, .class_ 67), (0, u "java/lang/Object")] 63

/-- java/lang/CharSequence -/
def k8 : Class := { plain "java/lang/CharSequence" (some 0) with
  accessFlags := 1537
  interfaces := #[]
  cf := some (fileOf pool8 2 #[.nestMembers #[47, 59]] #[] 1537 66 #[] #[])
  fields := #[]
  methods := #[]
  instanceTypes := #[]
  staticTypes := #[]
  resolved := Array.replicate 131 none
  statics := none }

def pool9 : Array CpInfo := pool [(1, .class_ 2), (0, u "java/lang/constant/ConstantDesc"), (0, .class_ 4), (0, u "java/lang/Object")] 32

/-- java/lang/constant/ConstantDesc -/
def k9 : Class := { plain "java/lang/constant/ConstantDesc" (some 0) with
  accessFlags := 1537
  interfaces := #[]
  cf := some (fileOf pool9 1 #[] #[] 1537 3 #[] #[])
  fields := #[]
  methods := #[]
  instanceTypes := #[]
  staticTypes := #[]
  resolved := Array.replicate 37 none
  statics := none }

def pool10 : Array CpInfo := pool [(1, .methodref 2 3), (0, .class_ 4), (0, .nameAndType 5 6), (0, u "java/lang/Object"), (0, u "<init>"), (0, u "()V"), (0, .string 8), (0, u ""), (0, .fieldref 10 11), (0, .class_ 12), (0, .nameAndType 13 14), (0, u "java/lang/String"), (0, u "value"), (0, u "[B"), (0, .fieldref 10 16), (0, .nameAndType 17 18), (0, u "coder"), (0, u "B"), (2, u "hash"), (0, u "I"), (2, u "hashIsZero"), (0, u "Z"), (0, .methodref 10 28), (0, .nameAndType 5 29), (0, u "([CIILjava/lang/Void;)V"), (8, .fieldref 10 39), (0, .nameAndType 40 26), (0, u "COMPACT_STRINGS"), (1, .class_ 44), (1, u "java/lang/StringUTF16"), (0, u "compress"), (1, .methodref 42 48), (0, .nameAndType 49 50), (0, u "coderFromArrayLen"), (0, u "([BI)B"), (56, .class_ 109), (1, u "java/lang/StringLatin1"), (32, u "()Z"), (34, .methodref 42 178), (0, .nameAndType 45 179), (0, u "([CII)[B"), (154, u "()I"), (0, .methodref 10 336), (0, .nameAndType 17 337), (0, u "()B"), (25, u "([BI)C"), (27, u "(II)V"), (35, u "(I)C"), (64, .methodref 10 493), (0, .nameAndType 494 142), (0, u "isLatin1"), (0, .methodref 107 496), (0, .nameAndType 497 363), (0, u "charAt"), (3, u "checkIndex"), (5, u "length"), (33, .methodref 107 542), (0, .nameAndType 543 544), (0, u "equals"), (0, u "([B[B)Z"), (28, u "(Ljava/lang/Object;)Z"), (1, .class_ 576), (0, u "java/lang/CharSequence"), (22, u "CASE_INSENSITIVE_ORDER"), (0, u "Ljava/util/Comparator;"), (409, u "([C)V"), (42, .fieldref 1054 1055), (0, .class_ 1056), (0, .nameAndType 1057 1058), (0, u "jdk/internal/util/Preconditions"), (0, u "SIOOBE_FORMATTER"), (0, u "Ljava/util/function/BiFunction;"), (0, .methodref 1054 1060), (0, .nameAndType 501 1061), (0, u "(IILjava/util/function/BiFunction;)I"), (39, u "serialPersistentFields"), (0, u "[Ljava/io/ObjectStreamField;"), (0, .class_ 1104), (0, u "java/lang/String$CaseInsensitiveComparator"), (1, .class_ 1107), (0, u "java/io/Serializable"), (0, .class_ 1109), (0, u "java/lang/Comparable"), (0, .class_ 1111), (0, u "java/lang/constant/Constable"), (0, .class_ 1113), (0, u "java/lang/constant/ConstantDesc"), (2, u "serialVersionUID"), (0, u "J"), (3, u "REPL"), (0, u "C"), (2, u "LATIN1"), (1, u "UTF16")] 323

def k10m0 : Method := { name := "<init>", desc := "()V", sig := { parameters := [], returnType := none }, accessFlags := 1, code := none }
def k10c1 : Code := { maxStack := 5, maxLocals := 2, code := jdk_42_method_3_code, exceptionTable := #[], attributes := #[] }
def k10m1 : Method := { name := "<init>", desc := "([C)V", sig := { parameters := [(.array .char)], returnType := none }, accessFlags := 1, code := some k10c1 }
def k10c2 : Code := { maxStack := 2, maxLocals := 1, code := jdk_42_method_54_code, exceptionTable := #[], attributes := #[] }
def k10m2 : Method := { name := "length", desc := "()I", sig := { parameters := [], returnType := some .int }, accessFlags := 1, code := some k10c2 }
def k10c3 : Code := { maxStack := 2, maxLocals := 2, code := jdk_42_method_56_code, exceptionTable := #[], attributes := #[] }
def k10m3 : Method := { name := "charAt", desc := "(I)C", sig := { parameters := [.int], returnType := some .char }, accessFlags := 1, code := some k10c3 }
def k10c4 : Code := { maxStack := 2, maxLocals := 3, code := jdk_42_method_66_code, exceptionTable := #[], attributes := #[] }
def k10m4 : Method := { name := "equals", desc := "(Ljava/lang/Object;)Z", sig := { parameters := [(.object "java/lang/Object")], returnType := some .boolean }, accessFlags := 1, code := some k10c4 }
def k10c5 : Code := { maxStack := 4, maxLocals := 6, code := jdk_42_method_149_code, exceptionTable := #[], attributes := #[] }
def k10m5 : Method := { name := "<init>", desc := "([CIILjava/lang/Void;)V", sig := { parameters := [(.array .char), .int, .int, (.object "java/lang/Void")], returnType := none }, accessFlags := 2, code := some k10c5 }
def k10c6 : Code := { maxStack := 1, maxLocals := 1, code := jdk_42_method_152_code, exceptionTable := #[], attributes := #[] }
def k10m6 : Method := { name := "coder", desc := "()B", sig := { parameters := [], returnType := some .byte }, accessFlags := 0, code := some k10c6 }
def k10c7 : Code := { maxStack := 1, maxLocals := 1, code := jdk_42_method_154_code, exceptionTable := #[], attributes := #[] }
def k10m7 : Method := { name := "isLatin1", desc := "()Z", sig := { parameters := [], returnType := some .boolean }, accessFlags := 0, code := some k10c7 }
def k10c8 : Code := { maxStack := 3, maxLocals := 2, code := jdk_42_method_155_code, exceptionTable := #[], attributes := #[] }
def k10m8 : Method := { name := "checkIndex", desc := "(II)V", sig := { parameters := [.int, .int], returnType := none }, accessFlags := 8, code := some k10c8 }
/-- java/lang/String -/
def k10 : Class := { plain "java/lang/String" (some 0) with
  accessFlags := 49
  interfaces := #[4, 3, 8, 2, 9]
  cf := some (fileOf pool10 10 #[.nestMembers #[1103]] #[{ accessFlags := 1, nameIndex := 5, descriptorIndex := 6, attributes := #[] }, { accessFlags := 1, nameIndex := 5, descriptorIndex := 1010, attributes := #[] }, { accessFlags := 1, nameIndex := 507, descriptorIndex := 334, attributes := #[] }, { accessFlags := 1, nameIndex := 497, descriptorIndex := 427, attributes := #[] }, { accessFlags := 1, nameIndex := 543, descriptorIndex := 573, attributes := #[] }, { accessFlags := 2, nameIndex := 5, descriptorIndex := 29, attributes := #[] }, { accessFlags := 0, nameIndex := 17, descriptorIndex := 337, attributes := #[] }, { accessFlags := 0, nameIndex := 494, descriptorIndex := 142, attributes := #[] }, { accessFlags := 8, nameIndex := 501, descriptorIndex := 391, attributes := #[] }] 49 2 #[1106, 1108, 575, 1110, 1112] #[{ accessFlags := 18, nameIndex := 13, descriptorIndex := 14, attributes := #[] }, { accessFlags := 18, nameIndex := 17, descriptorIndex := 18, attributes := #[] }, { accessFlags := 2, nameIndex := 21, descriptorIndex := 22, attributes := #[] }, { accessFlags := 2, nameIndex := 25, descriptorIndex := 26, attributes := #[] }, { accessFlags := 26, nameIndex := 1116, descriptorIndex := 1117, attributes := #[] }, { accessFlags := 24, nameIndex := 40, descriptorIndex := 26, attributes := #[] }, { accessFlags := 26, nameIndex := 1101, descriptorIndex := 1102, attributes := #[] }, { accessFlags := 26, nameIndex := 1121, descriptorIndex := 1122, attributes := #[] }, { accessFlags := 25, nameIndex := 599, descriptorIndex := 600, attributes := #[] }, { accessFlags := 24, nameIndex := 1125, descriptorIndex := 18, attributes := #[] }, { accessFlags := 24, nameIndex := 1127, descriptorIndex := 18, attributes := #[] }])
  fields := #[{ name := "value", type := (.array .byte), accessFlags := 18, slot := 0, constantValue := 0 }, { name := "coder", type := .byte, accessFlags := 18, slot := 1, constantValue := 0 }, { name := "hash", type := .int, accessFlags := 2, slot := 2, constantValue := 0 }, { name := "hashIsZero", type := .boolean, accessFlags := 2, slot := 3, constantValue := 0 }, { name := "serialVersionUID", type := .long, accessFlags := 26, slot := 0, constantValue := 0 }, { name := "COMPACT_STRINGS", type := .boolean, accessFlags := 24, slot := 1, constantValue := 0 }, { name := "serialPersistentFields", type := (.array (.object "java/io/ObjectStreamField")), accessFlags := 26, slot := 2, constantValue := 0 }, { name := "REPL", type := .char, accessFlags := 26, slot := 3, constantValue := 0 }, { name := "CASE_INSENSITIVE_ORDER", type := (.object "java/util/Comparator"), accessFlags := 25, slot := 4, constantValue := 0 }, { name := "LATIN1", type := .byte, accessFlags := 24, slot := 5, constantValue := 0 }, { name := "UTF16", type := .byte, accessFlags := 24, slot := 6, constantValue := 0 }]
  methods := #[k10m0, k10m1, k10m2, k10m3, k10m4, k10m5, k10m6, k10m7, k10m8]
  instanceTypes := #[(.array .byte), .byte, .int, .boolean]
  staticTypes := #[.long, .boolean, (.array (.object "java/io/ObjectStreamField")), .char, (.object "java/util/Comparator"), .byte, .byte]
  resolved := Array.replicate 1451 none
  statics := some 1 }

def pool11 : Array CpInfo := pool [(6, .class_ 8), (1, u "java/lang/Object"), (0, u "<init>"), (0, u "()V"), (1, .class_ 14), (1, u "java/lang/StringUTF16"), (31, u "$assertionsDisabled"), (0, u "Z"), (13, u "HI_BYTE_SHIFT"), (0, u "I"), (2, u "LO_BYTE_SHIFT"), (49, .methodref 12 116), (0, .nameAndType 117 118), (0, u "compress"), (0, u "([CI[BII)I"), (3, u "([CII)[B"), (138, u "coderFromArrayLen"), (0, u "([BI)B"), (106, .class_ 371), (1, u "java/lang/StringUTF16$LinesSpliterator"), (58, u "MAX_LENGTH"), (196, .class_ 628), (0, u "java/lang/StringUTF16$CodePointsSpliterator"), (0, .class_ 630), (0, u "java/lang/StringUTF16$CharsSpliterator")] 4

def k11m0 : Method := { name := "<init>", desc := "()V", sig := { parameters := [], returnType := none }, accessFlags := 0, code := none }
def k11c1 : Code := { maxStack := 2, maxLocals := 2, code := jdk_52_method_15_code, exceptionTable := #[], attributes := #[] }
def k11m1 : Method := { name := "coderFromArrayLen", desc := "([BI)B", sig := { parameters := [(.array .byte), .int], returnType := some .byte }, accessFlags := 8, code := some k11c1 }
def k11c2 : Code := { maxStack := 5, maxLocals := 6, code := jdk_52_method_16_code, exceptionTable := #[], attributes := #[] }
def k11m2 : Method := { name := "compress", desc := "([CII)[B", sig := { parameters := [(.array .char), .int, .int], returnType := some (.array .byte) }, accessFlags := 9, code := some k11c2 }
def k11c3 : Code := { maxStack := 3, maxLocals := 7, code := jdk_52_method_21_code, exceptionTable := #[], attributes := #[] }
def k11m3 : Method := { name := "compress", desc := "([CI[BII)I", sig := { parameters := [(.array .char), .int, (.array .byte), .int, .int], returnType := some .int }, accessFlags := 9, code := some k11c3 }
/-- java/lang/StringUTF16 -/
def k11 : Class := { plain "java/lang/StringUTF16" (some 0) with
  accessFlags := 48
  interfaces := #[]
  cf := some (fileOf pool11 12 #[.nestMembers #[627, 629, 369]] #[{ accessFlags := 0, nameIndex := 9, descriptorIndex := 10, attributes := #[] }, { accessFlags := 8, nameIndex := 261, descriptorIndex := 262, attributes := #[] }, { accessFlags := 9, nameIndex := 117, descriptorIndex := 122, attributes := #[] }, { accessFlags := 9, nameIndex := 117, descriptorIndex := 118, attributes := #[] }] 48 6 #[] #[{ accessFlags := 26, nameIndex := 61, descriptorIndex := 62, attributes := #[] }, { accessFlags := 26, nameIndex := 65, descriptorIndex := 62, attributes := #[] }, { accessFlags := 24, nameIndex := 430, descriptorIndex := 62, attributes := #[] }, { accessFlags := 4120, nameIndex := 46, descriptorIndex := 47, attributes := #[] }])
  fields := #[{ name := "HI_BYTE_SHIFT", type := .int, accessFlags := 26, slot := 0, constantValue := 0 }, { name := "LO_BYTE_SHIFT", type := .int, accessFlags := 26, slot := 1, constantValue := 0 }, { name := "MAX_LENGTH", type := .int, accessFlags := 24, slot := 2, constantValue := 0 }, { name := "$assertionsDisabled", type := .boolean, accessFlags := 4120, slot := 3, constantValue := 0 }]
  methods := #[k11m0, k11m1, k11m2, k11m3]
  instanceTypes := #[]
  staticTypes := #[.int, .int, .int, .boolean]
  resolved := Array.replicate 635 none
  statics := none }

def pool12 : Array CpInfo := pool [(1, .class_ 2), (0, u "java/lang/String"), (1, .class_ 6), (1, u "java/lang/Object"), (0, u "<init>"), (0, u "()V"), (0, .methodref 1 10), (0, .nameAndType 11 12), (0, u "checkIndex"), (0, u "(II)V"), (1, .class_ 16), (1, u "java/lang/StringLatin1"), (36, u "([BI)C"), (67, u "$assertionsDisabled"), (0, u "Z"), (98, .class_ 223), (1, u "java/lang/StringLatin1$LinesSpliterator"), (28, u "charAt"), (28, u "equals"), (0, u "([B[B)Z"), (107, .class_ 391), (0, u "java/lang/StringLatin1$CharsSpliterator")] 3

def k12m0 : Method := { name := "<init>", desc := "()V", sig := { parameters := [], returnType := none }, accessFlags := 0, code := none }
def k12c1 : Code := { maxStack := 2, maxLocals := 2, code := jdk_43_method_2_code, exceptionTable := #[], attributes := #[] }
def k12m1 : Method := { name := "charAt", desc := "([BI)C", sig := { parameters := [(.array .byte), .int], returnType := some .char }, accessFlags := 9, code := some k12c1 }
def k12c2 : Code := { maxStack := 3, maxLocals := 3, code := jdk_43_method_13_code, exceptionTable := #[], attributes := #[] }
def k12m2 : Method := { name := "equals", desc := "([B[B)Z", sig := { parameters := [(.array .byte), (.array .byte)], returnType := some .boolean }, accessFlags := 9, code := some k12c2 }
/-- java/lang/StringLatin1 -/
def k12 : Class := { plain "java/lang/StringLatin1" (some 0) with
  accessFlags := 48
  interfaces := #[]
  cf := some (fileOf pool12 14 #[.nestMembers #[390, 221]] #[{ accessFlags := 0, nameIndex := 7, descriptorIndex := 8, attributes := #[] }, { accessFlags := 9, nameIndex := 252, descriptorIndex := 53, attributes := #[] }, { accessFlags := 9, nameIndex := 281, descriptorIndex := 282, attributes := #[] }] 48 4 #[] #[{ accessFlags := 4120, nameIndex := 121, descriptorIndex := 122, attributes := #[] }])
  fields := #[{ name := "$assertionsDisabled", type := .boolean, accessFlags := 4120, slot := 0, constantValue := 0 }]
  methods := #[k12m0, k12m1, k12m2]
  instanceTypes := #[]
  staticTypes := #[.boolean]
  resolved := Array.replicate 395 none
  statics := none }

def pool13 : Array CpInfo := pool [(2, .class_ 4), (1, u "java/lang/Object"), (0, u "<init>"), (0, u "()V"), (17, .class_ 26), (1, u "jdk/internal/util/Preconditions"), (6, u "checkIndex"), (21, .class_ 56), (0, u "jdk/internal/util/Preconditions$4"), (57, .class_ 115), (0, u "jdk/internal/util/Preconditions$1"), (7, u "SIOOBE_FORMATTER"), (0, u "Ljava/util/function/BiFunction;"), (0, .class_ 126), (0, u "jdk/internal/util/Preconditions$2"), (3, u "AIOOBE_FORMATTER"), (0, .class_ 132), (0, u "jdk/internal/util/Preconditions$3"), (3, u "IOOBE_FORMATTER"), (41, u "(IILjava/util/function/BiFunction;)I")] 15

def k13m0 : Method := { name := "<init>", desc := "()V", sig := { parameters := [], returnType := none }, accessFlags := 1, code := none }
def k13c1 : Code := { maxStack := 3, maxLocals := 3, code := jdk_41_method_11_code, exceptionTable := #[], attributes := #[] }
def k13m1 : Method := { name := "checkIndex", desc := "(IILjava/util/function/BiFunction;)I", sig := { parameters := [.int, .int, (.object "java/util/function/BiFunction")], returnType := some .int }, accessFlags := 9, code := some k13c1 }
/-- jdk/internal/util/Preconditions -/
def k13 : Class := { plain "jdk/internal/util/Preconditions" (some 0) with
  accessFlags := 33
  interfaces := #[]
  cf := some (fileOf pool13 24 #[.nestMembers #[55, 131, 125, 114]] #[{ accessFlags := 1, nameIndex := 5, descriptorIndex := 6, attributes := #[] }, { accessFlags := 9, nameIndex := 33, descriptorIndex := 178, attributes := #[] }] 33 2 #[] #[{ accessFlags := 25, nameIndex := 123, descriptorIndex := 124, attributes := #[] }, { accessFlags := 25, nameIndex := 130, descriptorIndex := 124, attributes := #[] }, { accessFlags := 25, nameIndex := 136, descriptorIndex := 124, attributes := #[] }])
  fields := #[{ name := "SIOOBE_FORMATTER", type := (.object "java/util/function/BiFunction"), accessFlags := 25, slot := 0, constantValue := 0 }, { name := "AIOOBE_FORMATTER", type := (.object "java/util/function/BiFunction"), accessFlags := 25, slot := 1, constantValue := 0 }, { name := "IOOBE_FORMATTER", type := (.object "java/util/function/BiFunction"), accessFlags := 25, slot := 2, constantValue := 0 }]
  methods := #[k13m0, k13m1]
  instanceTypes := #[]
  staticTypes := #[(.object "java/util/function/BiFunction"), (.object "java/util/function/BiFunction"), (.object "java/util/function/BiFunction")]
  resolved := Array.replicate 194 none
  statics := some 2 }

def pool14 : Array CpInfo := pool [(9, u "<init>"), (6, .class_ 18), (1, u "java/lang/Object"), (0, u "()V"), (1, .class_ 23), (1, u "jdk/internal/util/ArraysSupport"), (0, u "LOG2_ARRAY_LONG_INDEX_SCALE"), (0, u "I"), (2, u "U"), (0, u "Ljdk/internal/misc/Unsafe;"), (8, u "BIG_ENDIAN"), (0, u "Z"), (8, u "LOG2_BYTE_BIT_SIZE"), (4, u "LOG2_ARRAY_INT_INDEX_SCALE"), (54, u "JLA"), (0, u "Ljdk/internal/access/JavaLangAccess;"), (11, u "LOG2_ARRAY_BOOLEAN_INDEX_SCALE"), (9, u "LOG2_ARRAY_BYTE_INDEX_SCALE"), (5, u "LOG2_ARRAY_CHAR_INDEX_SCALE"), (5, u "LOG2_ARRAY_SHORT_INDEX_SCALE"), (18, u "LOG2_ARRAY_FLOAT_INDEX_SCALE"), (24, u "LOG2_ARRAY_DOUBLE_INDEX_SCALE"), (89, u "T_BOOLEAN"), (2, u "T_CHAR"), (1, u "T_FLOAT"), (1, u "T_DOUBLE"), (1, u "T_BYTE"), (1, u "T_SHORT"), (1, u "T_INT"), (1, u "T_LONG"), (1, u "SOFT_MAX_ARRAY_LENGTH")] 83

def k14m0 : Method := { name := "<init>", desc := "()V", sig := { parameters := [], returnType := none }, accessFlags := 2, code := none }
/-- jdk/internal/util/ArraysSupport -/
def k14 : Class := { plain "jdk/internal/util/ArraysSupport" (some 0) with
  accessFlags := 33
  interfaces := #[]
  cf := some (fileOf pool14 21 #[] #[{ accessFlags := 2, nameIndex := 9, descriptorIndex := 19, attributes := #[] }] 33 16 #[] #[{ accessFlags := 24, nameIndex := 28, descriptorIndex := 29, attributes := #[] }, { accessFlags := 26, nameIndex := 38, descriptorIndex := 39, attributes := #[] }, { accessFlags := 25, nameIndex := 121, descriptorIndex := 25, attributes := #[] }, { accessFlags := 25, nameIndex := 131, descriptorIndex := 25, attributes := #[] }, { accessFlags := 25, nameIndex := 137, descriptorIndex := 25, attributes := #[] }, { accessFlags := 25, nameIndex := 143, descriptorIndex := 25, attributes := #[] }, { accessFlags := 25, nameIndex := 53, descriptorIndex := 25, attributes := #[] }, { accessFlags := 25, nameIndex := 24, descriptorIndex := 25, attributes := #[] }, { accessFlags := 25, nameIndex := 162, descriptorIndex := 25, attributes := #[] }, { accessFlags := 25, nameIndex := 187, descriptorIndex := 25, attributes := #[] }, { accessFlags := 26, nameIndex := 48, descriptorIndex := 25, attributes := #[] }, { accessFlags := 25, nameIndex := 277, descriptorIndex := 25, attributes := #[] }, { accessFlags := 25, nameIndex := 280, descriptorIndex := 25, attributes := #[] }, { accessFlags := 25, nameIndex := 282, descriptorIndex := 25, attributes := #[] }, { accessFlags := 25, nameIndex := 284, descriptorIndex := 25, attributes := #[] }, { accessFlags := 25, nameIndex := 286, descriptorIndex := 25, attributes := #[] }, { accessFlags := 25, nameIndex := 288, descriptorIndex := 25, attributes := #[] }, { accessFlags := 25, nameIndex := 290, descriptorIndex := 25, attributes := #[] }, { accessFlags := 25, nameIndex := 292, descriptorIndex := 25, attributes := #[] }, { accessFlags := 26, nameIndex := 108, descriptorIndex := 109, attributes := #[] }, { accessFlags := 25, nameIndex := 294, descriptorIndex := 25, attributes := #[] }])
  fields := #[{ name := "U", type := (.object "jdk/internal/misc/Unsafe"), accessFlags := 24, slot := 0, constantValue := 0 }, { name := "BIG_ENDIAN", type := .boolean, accessFlags := 26, slot := 1, constantValue := 0 }, { name := "LOG2_ARRAY_BOOLEAN_INDEX_SCALE", type := .int, accessFlags := 25, slot := 2, constantValue := 0 }, { name := "LOG2_ARRAY_BYTE_INDEX_SCALE", type := .int, accessFlags := 25, slot := 3, constantValue := 0 }, { name := "LOG2_ARRAY_CHAR_INDEX_SCALE", type := .int, accessFlags := 25, slot := 4, constantValue := 0 }, { name := "LOG2_ARRAY_SHORT_INDEX_SCALE", type := .int, accessFlags := 25, slot := 5, constantValue := 0 }, { name := "LOG2_ARRAY_INT_INDEX_SCALE", type := .int, accessFlags := 25, slot := 6, constantValue := 0 }, { name := "LOG2_ARRAY_LONG_INDEX_SCALE", type := .int, accessFlags := 25, slot := 7, constantValue := 0 }, { name := "LOG2_ARRAY_FLOAT_INDEX_SCALE", type := .int, accessFlags := 25, slot := 8, constantValue := 0 }, { name := "LOG2_ARRAY_DOUBLE_INDEX_SCALE", type := .int, accessFlags := 25, slot := 9, constantValue := 0 }, { name := "LOG2_BYTE_BIT_SIZE", type := .int, accessFlags := 26, slot := 10, constantValue := 0 }, { name := "T_BOOLEAN", type := .int, accessFlags := 25, slot := 11, constantValue := 0 }, { name := "T_CHAR", type := .int, accessFlags := 25, slot := 12, constantValue := 0 }, { name := "T_FLOAT", type := .int, accessFlags := 25, slot := 13, constantValue := 0 }, { name := "T_DOUBLE", type := .int, accessFlags := 25, slot := 14, constantValue := 0 }, { name := "T_BYTE", type := .int, accessFlags := 25, slot := 15, constantValue := 0 }, { name := "T_SHORT", type := .int, accessFlags := 25, slot := 16, constantValue := 0 }, { name := "T_INT", type := .int, accessFlags := 25, slot := 17, constantValue := 0 }, { name := "T_LONG", type := .int, accessFlags := 25, slot := 18, constantValue := 0 }, { name := "JLA", type := (.object "jdk/internal/access/JavaLangAccess"), accessFlags := 26, slot := 19, constantValue := 0 }, { name := "SOFT_MAX_ARRAY_LENGTH", type := .int, accessFlags := 25, slot := 20, constantValue := 0 }]
  methods := #[k14m0]
  instanceTypes := #[]
  staticTypes := #[(.object "jdk/internal/misc/Unsafe"), .boolean, .int, .int, .int, .int, .int, .int, .int, .int, .int, .int, .int, .int, .int, .int, .int, .int, .int, (.object "jdk/internal/access/JavaLangAccess"), .int]
  resolved := Array.replicate 378 none
  statics := none }

/-- the primitive byte -/
def k15 : Class := { plain "byte" none with kind := .primitive 'B', accessFlags := 0x411 }
/-- [B -/
def k16 : Class := { plain "[B" (some 0) with kind := .array 15 .byte, interfaces := #[7, 4], accessFlags := 1041 }

/-- the primitive char -/
def k17 : Class := { plain "char" none with kind := .primitive 'C', accessFlags := 0x411 }
/-- [C -/
def k18 : Class := { plain "[C" (some 0) with kind := .array 17 .char, interfaces := #[7, 4], accessFlags := 1041 }

/-- the primitive int -/
def k19 : Class := { plain "int" none with kind := .primitive 'I', accessFlags := 0x411 }
/-- [I -/
def k20 : Class := { plain "[I" (some 0) with kind := .array 19 .int, interfaces := #[7, 4], accessFlags := 1041 }

/-- [Lcom/example/lotd/lotd/ProcessingMode; -/
def k21 : Class := { plain "[Lcom/example/lotd/lotd/ProcessingMode;" (some 0) with kind := .array 6 (.object "com/example/lotd/lotd/ProcessingMode"), interfaces := #[7, 4], accessFlags := 1041 }

def heap : Heap := #[{ cls := 6, slots := #[.ref 4, .ref 5, .ref 3], vm := .statics 6 },
  { cls := 10, slots := #[.long 0, .int 1, .null, .int 0, .null, .int 0, .int 0], vm := .statics 10 },
  { cls := 13, slots := #[.null, .null, .null], vm := .statics 13 },
  { cls := 21, slots := #[.ref 4, .ref 5], vm := .none },
  { cls := 6, slots := #[.null, .int 0, .int 0, .ref 6], vm := .none },
  { cls := 6, slots := #[.null, .int 1, .int 0, .ref 7], vm := .none },
  { cls := 10, slots := #[.ref 8, .int 0, .int 0, .int 0], vm := .none },
  { cls := 10, slots := #[.ref 9, .int 0, .int 0, .int 0], vm := .none },
  { cls := 16, slots := #[.int 115, .int 116, .int 114, .int 105, .int 99, .int 116], vm := .none },
  { cls := 16, slots := #[.int 108, .int 101, .int 110, .int 105, .int 101, .int 110, .int 116], vm := .none }]
def classes : Array Class := #[k0, k1, k2, k3, k4, k5, k6, k7, k8, k9, k10, k11, k12, k13, k14, k15, k16, k17, k18, k19, k20, k21]
def interned : List (Array UInt16 × Addr) := []
def slotsUsed : Nat := 44
def theMethod : MethodId := ⟨1, 1⟩
def args0 : Array Value := #[.int 5, .int 5, .int 5, .int 5, .long 5]
def aboutOver (below : List Frame) : State where
  vm := { classes := classes, interned := interned.toArray }
  heap := heap
  slotsUsed := slotsUsed
  threads := #[{ frames := .invoking theMethod args0 :: below }]
def below0 : List Frame := [.native { method := ⟨0, 0⟩, args := #[] }]
def about1 : State := aboutOver below0
def p0 : Program := .bare "" "" ""
def e0 : Env := launch0.env 0 0 0
theorem w_frames : about1.frames = Frame.invoking theMethod args0 :: below0 := rfl
set_option maxRecDepth 65536 in
theorem w_args : argsFit about1.vm theMethod args0 = true := by decide +kernel
set_option maxRecDepth 65536 in
theorem w_heap : heapFits about1 = true := by decide +kernel
set_option maxRecDepth 65536 in
theorem w_runnable : about1.curStatus? = some .runnable := by decide +kernel
set_option maxRecDepth 65536 in
theorem w_alone : about1.alone = true := by decide +kernel
set_option maxRecDepth 65536 in
theorem w_named : about1.methodNamed? x = some theMethod := by decide +kernel
set_option maxRecDepth 65536 in
theorem w_hears : about1.hears theMethod below0 = true := by decide +kernel
set_option maxRecDepth 65536 in
theorem w_ripe : about1.ripe theMethod args0 below0 = true := by decide +kernel
theorem w_running : about1.status = .running := rfl
set_option maxRecDepth 65536 in
theorem w_room : about1.hasRoom e0.platform room_1 = true :=
  launch0.hasRoom_least _ room_1 (by decide +kernel) (by decide +kernel) (by decide +kernel) (by decide +kernel) (by decide +kernel) (by decide +kernel)
theorem allAtoms_all (ts : List Jvm.Cond) (a : Array Jvm.Value) (st : Jvm.State) : (allAtoms ts).before a st = ts.all (fun c => c.before a st) := by
  induction ts with
  | nil => rfl
  | cons c t ih =>
    show (Jvm.Cond.and c (allAtoms t)).before a st = _
    rw [Jvm.Cond.before_and, ih, List.all_cons]
def words1 : List Jvm.Cond := Jvm.Cond.code x code maxLocals ret :: tables_1
/-- a 'code' word, met by the world's own term for the bytes: nothing is compared byte by byte -/
theorem code_word {y : MethodName} {bytes : ByteArray} {mx : Nat} {rt : Option FieldType} {a : Array Value} {s : State} {m : MethodId} {meth : Method} {c : Code} (h1 : s.methodNamed? y = some m) (h2 : s.vm.method? m = some meth) (h3 : meth.code = some c) (h4 : c.code = bytes)
    (h5 : (c.maxLocals == mx && c.exceptionTable.isEmpty && decide (c.maxStack ≤ mostOperands) && decide (meth.sig.returnType = rt) && !meth.locks && decide (parseMethodDescriptor y.desc = some meth.sig)) = true) : (Jvm.Cond.code y bytes mx rt).before a s = true := by
  simp only [Bool.and_eq_true, beq_iff_eq, Bool.not_eq_true', decide_eq_true_eq] at h5
  obtain ⟨⟨⟨⟨⟨g1, g2⟩, g3⟩, g4⟩, g5⟩, g6⟩ := h5
  simp [Cond.before, Cond.holds, Cond.value, h1, h2, h3, h4, g1, g2, g3, g4, g5, g6]
def isCode : Jvm.Cond → Bool
  | .code _ _ _ _ => true
  | _ => false
theorem all_split {L : List Jvm.Cond} {P : Jvm.Cond → Bool} (h1 : L.all (fun c => isCode c || P c) = true) (h2 : ∀ c ∈ L.filter isCode, P c = true) : L.all P = true := by
  refine List.all_eq_true.mpr fun c hc => ?_
  have h := List.all_eq_true.mp h1 c hc
  rcases Bool.eq_false_or_eq_true (isCode c) with hi | hi
  · exact h2 c (List.mem_filter.mpr ⟨hc, hi⟩)
  · simpa [hi] using h
set_option maxRecDepth 65536 in
theorem w_c0 : (Jvm.Cond.code x code maxLocals ret).before args0 about1 = true := code_word (m := ⟨1, 1⟩) (meth := k1m1) (c := k1c1) (by decide +kernel) rfl rfl rfl (by decide +kernel)
set_option maxRecDepth 65536 in
theorem w_c1 : (Jvm.Cond.code ({ cls := "com/example/lotd/lotd/ProcessingMode", name := "of", desc := "(Ljava/lang/String;)Lcom/example/lotd/lotd/ProcessingMode;" } : Jvm.MethodName) prog_10_method_4_code (6 : Nat) (Option.some (Jvm.ClassFile.FieldType.object "com/example/lotd/lotd/ProcessingMode"))).before args0 about1 = true := code_word (m := ⟨6, 1⟩) (meth := k6m1) (c := k6c1) (by decide +kernel) rfl rfl rfl (by decide +kernel)
set_option maxRecDepth 65536 in
theorem w_c2 : (Jvm.Cond.code ({ cls := "com/example/lotd/lotd/ProcessingMode", name := "values", desc := "()[Lcom/example/lotd/lotd/ProcessingMode;" } : Jvm.MethodName) prog_10_method_1_code (0 : Nat) (Option.some (Jvm.ClassFile.FieldType.array (Jvm.ClassFile.FieldType.object "com/example/lotd/lotd/ProcessingMode")))).before args0 about1 = true := code_word (m := ⟨6, 0⟩) (meth := k6m0) (c := k6c0) (by decide +kernel) rfl rfl rfl (by decide +kernel)
set_option maxRecDepth 65536 in
theorem w_c3 : (Jvm.Cond.code ({ cls := "java/lang/String", name := "equals", desc := "(Ljava/lang/Object;)Z" } : Jvm.MethodName) jdk_42_method_66_code (3 : Nat) (Option.some Jvm.ClassFile.FieldType.boolean)).before args0 about1 = true := code_word (m := ⟨10, 4⟩) (meth := k10m4) (c := k10c4) (by decide +kernel) rfl rfl rfl (by decide +kernel)
set_option maxRecDepth 65536 in
theorem w_c4 : (Jvm.Cond.code ({ cls := "com/example/lotd/lotd/ProcessingModeOfPinLaw", name := "str", desc := "([CI)Ljava/lang/String;" } : Jvm.MethodName) method_4_code (2 : Nat) (Option.some (Jvm.ClassFile.FieldType.object "java/lang/String"))).before args0 about1 = true := code_word (m := ⟨1, 3⟩) (meth := k1m3) (c := k1c3) (by decide +kernel) rfl rfl rfl (by decide +kernel)
set_option maxRecDepth 65536 in
theorem w_c5 : (Jvm.Cond.code ({ cls := "java/lang/String", name := "<init>", desc := "([C)V" } : Jvm.MethodName) jdk_42_method_3_code (2 : Nat) (Option.none : Option Jvm.ClassFile.FieldType)).before args0 about1 = true := code_word (m := ⟨10, 1⟩) (meth := k10m1) (c := k10c1) (by decide +kernel) rfl rfl rfl (by decide +kernel)
set_option maxRecDepth 65536 in
theorem w_c6 : (Jvm.Cond.code ({ cls := "java/lang/String", name := "<init>", desc := "([CIILjava/lang/Void;)V" } : Jvm.MethodName) jdk_42_method_149_code (6 : Nat) (Option.none : Option Jvm.ClassFile.FieldType)).before args0 about1 = true := code_word (m := ⟨10, 5⟩) (meth := k10m5) (c := k10c5) (by decide +kernel) rfl rfl rfl (by decide +kernel)
set_option maxRecDepth 65536 in
theorem w_c7 : (Jvm.Cond.code ({ cls := "java/lang/Object", name := "<init>", desc := "()V" } : Jvm.MethodName) object_method_1_code (1 : Nat) (Option.none : Option Jvm.ClassFile.FieldType)).before args0 about1 = true := code_word (m := ⟨0, 0⟩) (meth := k0m0) (c := k0c0) (by decide +kernel) rfl rfl rfl (by decide +kernel)
set_option maxRecDepth 65536 in
theorem w_c8 : (Jvm.Cond.code ({ cls := "java/lang/StringUTF16", name := "compress", desc := "([CII)[B" } : Jvm.MethodName) jdk_52_method_16_code (6 : Nat) (Option.some (Jvm.ClassFile.FieldType.array Jvm.ClassFile.FieldType.byte))).before args0 about1 = true := code_word (m := ⟨11, 2⟩) (meth := k11m2) (c := k11c2) (by decide +kernel) rfl rfl rfl (by decide +kernel)
set_option maxRecDepth 65536 in
theorem w_c9 : (Jvm.Cond.code ({ cls := "java/lang/StringUTF16", name := "compress", desc := "([CI[BII)I" } : Jvm.MethodName) jdk_52_method_21_code (7 : Nat) (Option.some Jvm.ClassFile.FieldType.int)).before args0 about1 = true := code_word (m := ⟨11, 3⟩) (meth := k11m3) (c := k11c3) (by decide +kernel) rfl rfl rfl (by decide +kernel)
set_option maxRecDepth 65536 in
theorem w_c10 : (Jvm.Cond.code ({ cls := "java/lang/StringUTF16", name := "coderFromArrayLen", desc := "([BI)B" } : Jvm.MethodName) jdk_52_method_15_code (2 : Nat) (Option.some Jvm.ClassFile.FieldType.byte)).before args0 about1 = true := code_word (m := ⟨11, 1⟩) (meth := k11m1) (c := k11c1) (by decide +kernel) rfl rfl rfl (by decide +kernel)
set_option maxRecDepth 65536 in
theorem w_c11 : (Jvm.Cond.code ({ cls := "com/example/lotd/lotd/ProcessingModeOfPinLaw", name := "eq", desc := "([CILjava/lang/String;)Z" } : Jvm.MethodName) method_3_code (3 : Nat) (Option.some Jvm.ClassFile.FieldType.boolean)).before args0 about1 = true := code_word (m := ⟨1, 2⟩) (meth := k1m2) (c := k1c2) (by decide +kernel) rfl rfl rfl (by decide +kernel)
set_option maxRecDepth 65536 in
theorem w_c12 : (Jvm.Cond.code ({ cls := "java/lang/String", name := "length", desc := "()I" } : Jvm.MethodName) jdk_42_method_54_code (1 : Nat) (Option.some Jvm.ClassFile.FieldType.int)).before args0 about1 = true := code_word (m := ⟨10, 2⟩) (meth := k10m2) (c := k10c2) (by decide +kernel) rfl rfl rfl (by decide +kernel)
set_option maxRecDepth 65536 in
theorem w_c13 : (Jvm.Cond.code ({ cls := "java/lang/String", name := "coder", desc := "()B" } : Jvm.MethodName) jdk_42_method_152_code (1 : Nat) (Option.some Jvm.ClassFile.FieldType.byte)).before args0 about1 = true := code_word (m := ⟨10, 6⟩) (meth := k10m6) (c := k10c6) (by decide +kernel) rfl rfl rfl (by decide +kernel)
set_option maxRecDepth 65536 in
theorem w_c14 : (Jvm.Cond.code ({ cls := "java/lang/StringLatin1", name := "equals", desc := "([B[B)Z" } : Jvm.MethodName) jdk_43_method_13_code (3 : Nat) (Option.some Jvm.ClassFile.FieldType.boolean)).before args0 about1 = true := code_word (m := ⟨12, 2⟩) (meth := k12m2) (c := k12c2) (by decide +kernel) rfl rfl rfl (by decide +kernel)
set_option maxRecDepth 65536 in
theorem w_c15 : (Jvm.Cond.code ({ cls := "java/lang/String", name := "charAt", desc := "(I)C" } : Jvm.MethodName) jdk_42_method_56_code (2 : Nat) (Option.some Jvm.ClassFile.FieldType.char)).before args0 about1 = true := code_word (m := ⟨10, 3⟩) (meth := k10m3) (c := k10c3) (by decide +kernel) rfl rfl rfl (by decide +kernel)
set_option maxRecDepth 65536 in
theorem w_c16 : (Jvm.Cond.code ({ cls := "java/lang/String", name := "isLatin1", desc := "()Z" } : Jvm.MethodName) jdk_42_method_154_code (1 : Nat) (Option.some Jvm.ClassFile.FieldType.boolean)).before args0 about1 = true := code_word (m := ⟨10, 7⟩) (meth := k10m7) (c := k10c7) (by decide +kernel) rfl rfl rfl (by decide +kernel)
set_option maxRecDepth 65536 in
theorem w_c17 : (Jvm.Cond.code ({ cls := "java/lang/StringLatin1", name := "charAt", desc := "([BI)C" } : Jvm.MethodName) jdk_43_method_2_code (2 : Nat) (Option.some Jvm.ClassFile.FieldType.char)).before args0 about1 = true := code_word (m := ⟨12, 1⟩) (meth := k12m1) (c := k12c1) (by decide +kernel) rfl rfl rfl (by decide +kernel)
set_option maxRecDepth 65536 in
theorem w_c18 : (Jvm.Cond.code ({ cls := "java/lang/String", name := "checkIndex", desc := "(II)V" } : Jvm.MethodName) jdk_42_method_155_code (2 : Nat) (Option.none : Option Jvm.ClassFile.FieldType)).before args0 about1 = true := code_word (m := ⟨10, 8⟩) (meth := k10m8) (c := k10c8) (by decide +kernel) rfl rfl rfl (by decide +kernel)
set_option maxRecDepth 65536 in
theorem w_c19 : (Jvm.Cond.code ({ cls := "jdk/internal/util/Preconditions", name := "checkIndex", desc := "(IILjava/util/function/BiFunction;)I" } : Jvm.MethodName) jdk_41_method_11_code (3 : Nat) (Option.some Jvm.ClassFile.FieldType.int)).before args0 about1 = true := code_word (m := ⟨13, 1⟩) (meth := k13m1) (c := k13c1) (by decide +kernel) rfl rfl rfl (by decide +kernel)
def codes1 : List Jvm.Cond := [Jvm.Cond.code x code maxLocals ret, Jvm.Cond.code ({ cls := "com/example/lotd/lotd/ProcessingMode", name := "of", desc := "(Ljava/lang/String;)Lcom/example/lotd/lotd/ProcessingMode;" } : Jvm.MethodName) prog_10_method_4_code (6 : Nat) (Option.some (Jvm.ClassFile.FieldType.object "com/example/lotd/lotd/ProcessingMode")), Jvm.Cond.code ({ cls := "com/example/lotd/lotd/ProcessingMode", name := "values", desc := "()[Lcom/example/lotd/lotd/ProcessingMode;" } : Jvm.MethodName) prog_10_method_1_code (0 : Nat) (Option.some (Jvm.ClassFile.FieldType.array (Jvm.ClassFile.FieldType.object "com/example/lotd/lotd/ProcessingMode"))), Jvm.Cond.code ({ cls := "java/lang/String", name := "equals", desc := "(Ljava/lang/Object;)Z" } : Jvm.MethodName) jdk_42_method_66_code (3 : Nat) (Option.some Jvm.ClassFile.FieldType.boolean), Jvm.Cond.code ({ cls := "com/example/lotd/lotd/ProcessingModeOfPinLaw", name := "str", desc := "([CI)Ljava/lang/String;" } : Jvm.MethodName) method_4_code (2 : Nat) (Option.some (Jvm.ClassFile.FieldType.object "java/lang/String")), Jvm.Cond.code ({ cls := "java/lang/String", name := "<init>", desc := "([C)V" } : Jvm.MethodName) jdk_42_method_3_code (2 : Nat) (Option.none : Option Jvm.ClassFile.FieldType), Jvm.Cond.code ({ cls := "java/lang/String", name := "<init>", desc := "([CIILjava/lang/Void;)V" } : Jvm.MethodName) jdk_42_method_149_code (6 : Nat) (Option.none : Option Jvm.ClassFile.FieldType), Jvm.Cond.code ({ cls := "java/lang/Object", name := "<init>", desc := "()V" } : Jvm.MethodName) object_method_1_code (1 : Nat) (Option.none : Option Jvm.ClassFile.FieldType), Jvm.Cond.code ({ cls := "java/lang/StringUTF16", name := "compress", desc := "([CII)[B" } : Jvm.MethodName) jdk_52_method_16_code (6 : Nat) (Option.some (Jvm.ClassFile.FieldType.array Jvm.ClassFile.FieldType.byte)), Jvm.Cond.code ({ cls := "java/lang/StringUTF16", name := "compress", desc := "([CI[BII)I" } : Jvm.MethodName) jdk_52_method_21_code (7 : Nat) (Option.some Jvm.ClassFile.FieldType.int), Jvm.Cond.code ({ cls := "java/lang/StringUTF16", name := "coderFromArrayLen", desc := "([BI)B" } : Jvm.MethodName) jdk_52_method_15_code (2 : Nat) (Option.some Jvm.ClassFile.FieldType.byte), Jvm.Cond.code ({ cls := "com/example/lotd/lotd/ProcessingModeOfPinLaw", name := "eq", desc := "([CILjava/lang/String;)Z" } : Jvm.MethodName) method_3_code (3 : Nat) (Option.some Jvm.ClassFile.FieldType.boolean), Jvm.Cond.code ({ cls := "java/lang/String", name := "length", desc := "()I" } : Jvm.MethodName) jdk_42_method_54_code (1 : Nat) (Option.some Jvm.ClassFile.FieldType.int), Jvm.Cond.code ({ cls := "java/lang/String", name := "coder", desc := "()B" } : Jvm.MethodName) jdk_42_method_152_code (1 : Nat) (Option.some Jvm.ClassFile.FieldType.byte), Jvm.Cond.code ({ cls := "java/lang/StringLatin1", name := "equals", desc := "([B[B)Z" } : Jvm.MethodName) jdk_43_method_13_code (3 : Nat) (Option.some Jvm.ClassFile.FieldType.boolean), Jvm.Cond.code ({ cls := "java/lang/String", name := "charAt", desc := "(I)C" } : Jvm.MethodName) jdk_42_method_56_code (2 : Nat) (Option.some Jvm.ClassFile.FieldType.char), Jvm.Cond.code ({ cls := "java/lang/String", name := "isLatin1", desc := "()Z" } : Jvm.MethodName) jdk_42_method_154_code (1 : Nat) (Option.some Jvm.ClassFile.FieldType.boolean), Jvm.Cond.code ({ cls := "java/lang/StringLatin1", name := "charAt", desc := "([BI)C" } : Jvm.MethodName) jdk_43_method_2_code (2 : Nat) (Option.some Jvm.ClassFile.FieldType.char), Jvm.Cond.code ({ cls := "java/lang/String", name := "checkIndex", desc := "(II)V" } : Jvm.MethodName) jdk_42_method_155_code (2 : Nat) (Option.none : Option Jvm.ClassFile.FieldType), Jvm.Cond.code ({ cls := "jdk/internal/util/Preconditions", name := "checkIndex", desc := "(IILjava/util/function/BiFunction;)I" } : Jvm.MethodName) jdk_41_method_11_code (3 : Nat) (Option.some Jvm.ClassFile.FieldType.int)]
set_option maxRecDepth 65536 in
theorem codes_eq : words1.filter isCode = codes1 := rfl
theorem w_codes : ∀ c ∈ words1.filter isCode, c.before args0 about1 = true := by
  rw [codes_eq]
  intro c hc
  simp only [codes1, List.mem_cons, List.not_mem_nil, or_false] at hc
  rcases hc with rfl | rfl | rfl | rfl | rfl | rfl | rfl | rfl | rfl | rfl | rfl | rfl | rfl | rfl | rfl | rfl | rfl | rfl | rfl | rfl
  · exact w_c0
  · exact w_c1
  · exact w_c2
  · exact w_c3
  · exact w_c4
  · exact w_c5
  · exact w_c6
  · exact w_c7
  · exact w_c8
  · exact w_c9
  · exact w_c10
  · exact w_c11
  · exact w_c12
  · exact w_c13
  · exact w_c14
  · exact w_c15
  · exact w_c16
  · exact w_c17
  · exact w_c18
  · exact w_c19
set_option maxRecDepth 65536 in
theorem w_t1 : (words1.take 24).all (fun c => isCode c || c.before args0 about1) = true := by decide +kernel
set_option maxRecDepth 65536 in
theorem w_t2 : ((words1.drop 24).take 24).all (fun c => isCode c || c.before args0 about1) = true := by decide +kernel
set_option maxRecDepth 65536 in
theorem w_t3 : (((words1.drop 24).drop 24).take 24).all (fun c => isCode c || c.before args0 about1) = true := by decide +kernel
set_option maxRecDepth 65536 in
theorem w_t4 : ((((words1.drop 24).drop 24).drop 24).take 24).all (fun c => isCode c || c.before args0 about1) = true := by decide +kernel
set_option maxRecDepth 65536 in
theorem w_t5 : ((((words1.drop 24).drop 24).drop 24).drop 24).all (fun c => isCode c || c.before args0 about1) = true := by decide +kernel
theorem w_tables : (allAtoms (Jvm.Cond.code x code maxLocals ret :: tables_1)).before args0 about1 = true := by
  rw [allAtoms_all]
  show words1.all (fun c => c.before args0 about1) = true
  refine all_split ?_ w_codes
  rw [← List.take_append_drop 24 words1, List.all_append, w_t1, ← List.take_append_drop 24 (words1.drop 24), List.all_append, w_t2, ← List.take_append_drop 24 ((words1.drop 24).drop 24), List.all_append, w_t3, ← List.take_append_drop 24 (((words1.drop 24).drop 24).drop 24), List.all_append, w_t4, w_t5]
  rfl
set_option maxRecDepth 65536 in
theorem w_rest : rest_1_c.before args0 about1 = true := by decide +kernel
set_option maxRecDepth 65536 in
theorem w_case : (Jvm.Cond.and given_1 narrow_1).before args0 about1 = true := by decide +kernel
set_option maxRecDepth 65536 in
theorem w_consts : constsHeld consts_1 about1 := Jvm.Lit.constsHeldB_iff.mp (by decide +kernel)
theorem w_applies : (headSpec (Jvm.Cond.code x code maxLocals ret :: tables_1) room_1).applies x e0.platform about1 = true :=
  (Spec.applies_iff w_frames).mpr ⟨w_running, w_runnable, w_alone, w_named, w_hears, w_ripe, w_room, w_tables⟩
theorem atStart : AtStart classFile x code maxLocals ret World_1 tables_1 room_1 Calls_1 rest_1 Pre_1 launch0 p0 e0 about1 theMethod args0 below0 :=
  ⟨lists_1, trivial, launch0.admits_env _ _ _, launch0.least_env, fairChoices_fair.cas, fairChoices_fair.clock, w_frames, w_args, w_heap, w_applies, ⟨w_consts, trivial⟩, w_rest, w_case⟩
end start1
theorem witness_1 : WitnessClaimed_1 := ⟨start1.p0, start1.e0, start1.about1, start1.theMethod, start1.args0, start1.below0, start1.atStart⟩
end Jvm.Pilot.@@N@@
