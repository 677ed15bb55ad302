import JvmDerived
import JvmDerived.Pilot.@@N@@Statement
import JvmDerived.Pilot.@@N@@Code
set_option linter.unusedVariables false
set_option linter.unusedSimpArgs false
@@BLOCK:NumsL.lean.txt@@
/- laws to paste: Road.backV (cut by pick.py; bodies as the Statement names them) -/
namespace Jvm.Pilot.@@N@@
namespace StrChars
open Jvm Sem ClassFile Op Lib Jvm.Stand Jvm.Free.XT Jvm.Free.ALB Jvm.Free.JM Jvm.Free
open Jvm.Lib.Cold (StaticIs)
/-- a char array whose places are chars -/
def Ch (a : Addr) (A : Cell) (U : State) : Prop := Arr .char a A U ∧ Typed .char A
theorem Ch.mv {a : Addr} {A : Cell} {U U' : State} (h : Ch a A U) (hal : U.vm.Alike U'.vm) (hh : U'.heap = U.heap) : Ch a A U' := ⟨h.1.mv hal hh, h.2⟩
theorem Ch.keep {a : Addr} {A : Cell} {U U' : State} (h : Ch a A U) (hal : U.vm.Alike U'.vm) (hk : U'.heap[a]? = some A) : Ch a A U' := ⟨h.1.keep hal hk, h.2⟩
/-- what place i of a char[]'s cell holds -/
def cv (A : Cell) (i : Nat) : Int32 := match A.slots[i]? with | some (.int x) => x | _ => 0
theorem Ch.get {a : Addr} {A : Cell} {U : State} (h : Ch a A U) {i : Nat} (hi : i < A.slots.size) : A.slots[i]? = some (.int (cv A i)) := by
  have e := Array.getElem?_eq_getElem hi
  have f := h.2 i _ e
  unfold cv; rw [e]
  generalize A.slots[i] = v at f
  cases v <;> simp [fits] at f ⊢
/-- the byte that i2b leaves of a char -/
def lo8 (x : Int32) : Int32 := x.toInt8.toInt32
theorem fits_lo8 (y : Int32) : fits .byte (.int (lo8 y)) = true := by
  have h1 := y.toInt8.le_toInt
  have h2 := y.toInt8.toInt_lt
  simp only [lo8, fits, Bool.and_eq_true, decide_eq_true_eq, Int32.le_iff_toInt_le, Int8.toInt_toInt32, show (-128 : Int32).toInt = -128 from by decide, show (127 : Int32).toInt = 127 from by decide]
  omega
/-- A' is A but that each place j of lo .. hi - 1 holds f j -/
def Laid (A A' : Cell) (lo hi : Nat) (f : Nat → Value) : Prop := A'.cls = A.cls ∧ A'.vm = A.vm ∧ A'.slots.size = A.slots.size ∧ ∀ i, A'.slots[i]? = if lo ≤ i ∧ i < hi then some (f i) else A.slots[i]?
theorem Laid.zero (A : Cell) (lo : Nat) (f : Nat → Value) : Laid A A lo (lo + 0) f := ⟨rfl, rfl, rfl, fun i => by rw [if_neg (by omega)]⟩
theorem Laid.step {A Ak : Cell} {lo k : Nat} {f : Nat → Value} {v : Value} (h : Laid A Ak lo k f) (hlo : lo ≤ k) (hk : k < Ak.slots.size) (hv : v = f k) : Laid A (Ak.setSlot k v) lo (k + 1) f := by
  refine ⟨h.1, h.2.1, by simpa [Cell.setSlot] using h.2.2.1, fun i => ?_⟩
  by_cases e : k = i
  · subst e; rw [Cell.slots_setSlot_self v hk, if_pos (by omega), hv]
  · rw [Cell.slots_setSlot_ne v e, h.2.2.2 i]
    by_cases q : lo ≤ i ∧ i < k
    · rw [if_pos q, if_pos (by omega)]
    · rw [if_neg q, if_neg (by omega)]
def U16 : String := "java/lang/StringUTF16"
namespace Cmp5
def yN : MethodName := ⟨"java/lang/StringUTF16", "compress", "([CI[BII)I"⟩
abbrev yB : ByteArray := jdk_52_method_21_code
theorem d0 : decode yB 0 = .ok (.iconst 0, 1) := by decide +kernel
theorem d1 : decode yB 1 = .ok (.istore 5, 2) := by decide +kernel
theorem d3 : decode yB 3 = .ok (.iload 5, 2) := by decide +kernel
theorem d5 : decode yB 5 = .ok (.iload 4, 2) := by decide +kernel
theorem d7 : decode yB 7 = .ok (.if_icmp (.ge) 37, 3) := by decide +kernel
theorem d10 : decode yB 10 = .ok (.aload_n 0, 1) := by decide +kernel
theorem d11 : decode yB 11 = .ok (.iload_n 1, 1) := by decide +kernel
theorem d12 : decode yB 12 = .ok (.caload, 1) := by decide +kernel
theorem d13 : decode yB 13 = .ok (.istore 6, 2) := by decide +kernel
theorem d15 : decode yB 15 = .ok (.iload 6, 2) := by decide +kernel
theorem d17 : decode yB 17 = .ok (.sipush 255, 3) := by decide +kernel
theorem d20 : decode yB 20 = .ok (.if_icmp (.le) 6, 3) := by decide +kernel
theorem d26 : decode yB 26 = .ok (.aload_n 2, 1) := by decide +kernel
theorem d27 : decode yB 27 = .ok (.iload_n 3, 1) := by decide +kernel
theorem d28 : decode yB 28 = .ok (.iload 6, 2) := by decide +kernel
theorem d30 : decode yB 30 = .ok (.i2b, 1) := by decide +kernel
theorem d31 : decode yB 31 = .ok (.bastore, 1) := by decide +kernel
theorem d32 : decode yB 32 = .ok (.iinc 1 1, 3) := by decide +kernel
theorem d35 : decode yB 35 = .ok (.iinc 3 1, 3) := by decide +kernel
theorem d38 : decode yB 38 = .ok (.iinc 5 1, 3) := by decide +kernel
theorem d41 : decode yB 41 = .ok (.goto (-38), 3) := by decide +kernel
theorem d44 : decode yB 44 = .ok (.iload 4, 2) := by decide +kernel
theorem d46 : decode yB 46 = .ok (.ireturn, 1) := by decide +kernel
def site : List Cond := []
def tab : Cond := tabOf yN yB 7 (some .int) site
def P (b : Addr) (A : Cell) (d : Addr) (B : Cell) (o q len : Nat) (args : Array Value) (s : State) : Prop := args = #[.ref b, .int (Int32.ofNat o), .ref d, .int (Int32.ofNat q), .int (Int32.ofNat len)] ∧ Ch b A s ∧ Arr .byte d B s ∧ b ≠ d ∧ o + len ≤ A.slots.size ∧ q + len ≤ B.slots.size ∧ ∀ i, i < len → ¬ 255 < cv A (o + i)
def E (b : Addr) (A : Cell) (d : Addr) (B : Cell) (o q len : Nat) (r : Option Value) (s u : State) : Prop := r = some (.int (Int32.ofNat len)) ∧ ∃ B', Put d B' s u ∧ Laid B B' q (q + len) (fun j => Value.int (lo8 (cv A (o + (j - q)))))
/-- no char of the range above 255: len; the places written hold each char's low byte -/
theorem law (l : Launch) (b : Addr) (A : Cell) (d : Addr) (B : Cell) (o q len : Nat) : Law l yN 5 5 0 0 yB 7 (some .int) site (P b A d B o q len) (E b A d B o q len) (copyLocs d q len) 0 0 := by
  refine Law.of_walk (plainFor_of_name (by decide +kernel)) (by decide +kernel) (by decide +kernel) (by decide) (fun _ _ h => by rw [h.1]; rfl) (fun _ U U' hal hh h => ⟨h.1, h.2.1.mv hal hh, h.2.2.1.mv hal hh, h.2.2.2⟩) (fun r U U' V V' h1 hal h2 h => ⟨h.1, h.2.elim fun B' q => ⟨B', q.1.mv h1 h2, q.2⟩⟩) ?_
  intro p e s m args below meth c s₁ X0 hexec hbytes hml hret hlk hnm hown hh0 W hP
  obtain ⟨rfl, hA, hB, hne, l1, l2, hp⟩ := hP
  have c1 : Steps p.tables e below (s₁.setTop (entryFrame m #[.ref b, .int (Int32.ofNat o), .ref d, .int (Int32.ofNat q), .int (Int32.ofNat len)] 7)) (s₁.setTop (mkF m 0 #[.val (.ref b), .val (.int (Int32.ofNat o)), .val (.ref d), .val (.int (Int32.ofNat q)), .val (.int (Int32.ofNat len)), .unset, .unset] [])) := entry rfl
  have hA0 := hA.1.mv X0.warmed.alike hh0
  have hB0 := hB.mv X0.warmed.alike hh0
  have a31 := hA.1.2.2.2
  have c2 : Steps p.tables e below (s₁.setTop (entryFrame m #[.ref b, .int (Int32.ofNat o), .ref d, .int (Int32.ofNat q), .int (Int32.ofNat len)] 7)) (s₁.setTop (mkF m 3 #[.val (.ref b), .val (.int (Int32.ofNat o)), .val (.ref d), .val (.int (Int32.ofNat q)), .val (.int (Int32.ofNat len)), .val (.int 0), .unset] [])) := c1.trans (by
    refine iconstV X0.here hexec rfl 0 (hb hbytes d0) (by decide) ?_
    refine XS.istore X0.here hexec rfl (hb hbytes d1) rfl rfl ?_
    exact Steps.refl _)
  have loop : ∀ (r i : Nat), i + r = len → ∀ (z : Slot), (z = .unset ∨ ∃ w, z = .val w ∧ w.category = 1) → ∀ (Tl : State) (Bk : Cell), Stand p l e { frames := 0, locals := 0, cells := 0, slots := 0 } s m #[.ref b, .int (Int32.ofNat o), .ref d, .int (Int32.ofNat q), .int (Int32.ofNat len)] below meth c Tl ([] ++ copyLocs d q i) 0 0 → Put d Bk s₁ Tl → Laid B Bk q (q + i) (fun j => Value.int (lo8 (cv A (o + (j - q))))) →
      Steps p.tables e below (s₁.setTop (entryFrame m #[.ref b, .int (Int32.ofNat o), .ref d, .int (Int32.ofNat q), .int (Int32.ofNat len)] 7)) (Tl.setTop (mkF m 3 #[.val (.ref b), .val (.int (Int32.ofNat (o + i))), .val (.ref d), .val (.int (Int32.ofNat (q + i))), .val (.int (Int32.ofNat len)), .val (.int (Int32.ofNat i)), z] [])) → ∃ (T' : State) (B' : Cell) (z' : Slot), Stand p l e { frames := 0, locals := 0, cells := 0, slots := 0 } s m #[.ref b, .int (Int32.ofNat o), .ref d, .int (Int32.ofNat q), .int (Int32.ofNat len)] below meth c T' ([] ++ copyLocs d q len) 0 0 ∧ Put d B' s₁ T' ∧ Laid B B' q (q + len) (fun j => Value.int (lo8 (cv A (o + (j - q))))) ∧
      Steps p.tables e below (s₁.setTop (entryFrame m #[.ref b, .int (Int32.ofNat o), .ref d, .int (Int32.ofNat q), .int (Int32.ofNat len)] 7)) (T'.setTop (mkF m 3 #[.val (.ref b), .val (.int (Int32.ofNat (o + len))), .val (.ref d), .val (.int (Int32.ofNat (q + len))), .val (.int (Int32.ofNat len)), .val (.int (Int32.ofNat len)), z'] [])) := by
    intro r
    induction r with
    | zero =>
      intro i hi z hz Tl Bk Xl pl fl cl
      have hil : i = len := by omega
      rw [hil] at Xl fl cl
      exact ⟨Tl, Bk, z, Xl, pl, fl, cl⟩
    | succ r ih =>
      intro i hi z hz Tl Bk Xl pl fl cl
      have all := X0.warmed.alike.symm.trans Xl.warmed.alike
      have hAl := hA0.keep all (pl.other hne hA0.1)
      have hBk := hB0.like all pl.1 fl.1 fl.2.1 fl.2.2.1
      have hlt : q + i < Bk.slots.size := by rw [fl.2.2.1]; omega
      have c3 : Steps p.tables e below (s₁.setTop (entryFrame m #[.ref b, .int (Int32.ofNat o), .ref d, .int (Int32.ofNat q), .int (Int32.ofNat len)] 7)) (Tl.setTop (mkF m 12 #[.val (.ref b), .val (.int (Int32.ofNat (o + i))), .val (.ref d), .val (.int (Int32.ofNat (q + i))), .val (.int (Int32.ofNat len)), .val (.int (Int32.ofNat i)), z] [.int (Int32.ofNat (o + i)), .ref b])) := cl.trans (by
        refine XS.iload Xl.here hexec rfl (hb hbytes d3) rfl ?_
        refine XS.iload Xl.here hexec rfl (hb hbytes d5) rfl ?_
        refine XS.icmpNo Xl.here hexec rfl (hb hbytes d7) rfl (ii_ge_f (lt32 (by omega) (by omega))) ?_
        refine XS.aloadN Xl.here hexec rfl (hb hbytes d10) rfl rfl ?_
        refine XS.iloadN Xl.here hexec rfl (hb hbytes d11) rfl ?_
        exact Steps.refl _)
      have c4 : Steps p.tables e below (s₁.setTop (entryFrame m #[.ref b, .int (Int32.ofNat o), .ref d, .int (Int32.ofNat q), .int (Int32.ofNat len)] 7)) (Tl.setTop (mkF m 13 #[.val (.ref b), .val (.int (Int32.ofNat (o + i))), .val (.ref d), .val (.int (Int32.ofNat (q + i))), .val (.int (Int32.ofNat len)), .val (.int (Int32.ofNat i)), z] [.int (cv A (o + i))])) := c3.trans (by
        refine Xl.aget hexec hAl rfl (hA.get (i := o + i) (by omega)) rfl rfl (hb hbytes d12) ?_
        exact Steps.refl _)
      have c5 : Steps p.tables e below (s₁.setTop (entryFrame m #[.ref b, .int (Int32.ofNat o), .ref d, .int (Int32.ofNat q), .int (Int32.ofNat len)] 7)) (Tl.setTop (mkF m 15 #[.val (.ref b), .val (.int (Int32.ofNat (o + i))), .val (.ref d), .val (.int (Int32.ofNat (q + i))), .val (.int (Int32.ofNat len)), .val (.int (Int32.ofNat i)), .val (.int (cv A (o + i)))] [])) := c4.trans (by
        refine XS.istoreS Xl.here hexec rfl (hb hbytes d13) rfl rfl hz ?_
        exact Steps.refl _)
      have c6 : Steps p.tables e below (s₁.setTop (entryFrame m #[.ref b, .int (Int32.ofNat o), .ref d, .int (Int32.ofNat q), .int (Int32.ofNat len)] 7)) (Tl.setTop (mkF m 31 #[.val (.ref b), .val (.int (Int32.ofNat (o + i))), .val (.ref d), .val (.int (Int32.ofNat (q + i))), .val (.int (Int32.ofNat len)), .val (.int (Int32.ofNat i)), .val (.int (cv A (o + i)))] [.int (lo8 (cv A (o + i))), .int (Int32.ofNat (q + i)), .ref d])) := c5.trans (by
        refine XS.iload Xl.here hexec rfl (hb hbytes d15) rfl ?_
        refine sipushV Xl.here hexec rfl 255 (hb hbytes d17) (by decide) ?_
        refine XS.icmpYes Xl.here hexec rfl (pc0 := 20) rfl (hb hbytes d20) rfl (ii_le_t (hp i (by omega))) (by decide) rfl ?_
        refine XS.aloadN Xl.here hexec rfl (hb hbytes d26) rfl rfl ?_
        refine XS.iloadN Xl.here hexec rfl (hb hbytes d27) rfl ?_
        refine XS.iload Xl.here hexec rfl (hb hbytes d28) rfl ?_
        refine i2b Xl.here hexec rfl (hb hbytes d30) rfl ?_
        exact Steps.refl _)
      obtain ⟨T7, X7, p7, st7⟩ := Xl.aput hexec hBk rfl hlt rfl (fits_lo8 (cv A (o + i))) (g := (mkF m 31 #[.val (.ref b), .val (.int (Int32.ofNat (o + i))), .val (.ref d), .val (.int (Int32.ofNat (q + i))), .val (.int (Int32.ofNat len)), .val (.int (Int32.ofNat i)), .val (.int (cv A (o + i)))] [.int (lo8 (cv A (o + i))), .int (Int32.ofNat (q + i)), .ref d])) rfl (rest := []) rfl (hb hbytes d31)
      have c8 : Steps p.tables e below (s₁.setTop (entryFrame m #[.ref b, .int (Int32.ofNat o), .ref d, .int (Int32.ofNat q), .int (Int32.ofNat len)] 7)) (T7.setTop (mkF m 32 #[.val (.ref b), .val (.int (Int32.ofNat (o + i))), .val (.ref d), .val (.int (Int32.ofNat (q + i))), .val (.int (Int32.ofNat len)), .val (.int (Int32.ofNat i)), .val (.int (cv A (o + i)))] [])) := c6.trans (st7 _ (Steps.refl _))
      have c9 : Steps p.tables e below (s₁.setTop (entryFrame m #[.ref b, .int (Int32.ofNat o), .ref d, .int (Int32.ofNat q), .int (Int32.ofNat len)] 7)) (T7.setTop (mkF m 3 #[.val (.ref b), .val (.int (Int32.ofNat (o + i) + 1)), .val (.ref d), .val (.int (Int32.ofNat (q + i) + 1)), .val (.int (Int32.ofNat len)), .val (.int (Int32.ofNat i + 1)), .val (.int (cv A (o + i)))] [])) := c8.trans (by
        refine iincV X7.here hexec rfl 1 (hb hbytes d32) (by decide) rfl rfl ?_
        refine iincV X7.here hexec rfl 1 (hb hbytes d35) (by decide) rfl rfl ?_
        refine iincV X7.here hexec rfl 1 (hb hbytes d38) (by decide) rfl rfl ?_
        refine XS.goto X7.here hexec rfl (pc0 := 41) rfl (hb hbytes d41) (by decide) rfl ?_
        exact Steps.refl _)
      have c10 : Steps p.tables e below (s₁.setTop (entryFrame m #[.ref b, .int (Int32.ofNat o), .ref d, .int (Int32.ofNat q), .int (Int32.ofNat len)] 7)) (T7.setTop (mkF m 3 #[.val (.ref b), .val (.int (Int32.ofNat (o + (i + 1)))), .val (.ref d), .val (.int (Int32.ofNat (q + (i + 1)))), .val (.int (Int32.ofNat len)), .val (.int (Int32.ofNat (i + 1))), .val (.int (cv A (o + i)))] [])) := by
        have := c9
        rw [succ32, succ32, succ32] at this
        exact this
      exact ih (i + 1) (by omega) _ (Or.inr ⟨_, rfl, rfl⟩) T7 _ (by rw [copyLocs_step, ← List.append_assoc]; exact X7) (pl.trans p7) (fl.step (by omega) hlt (by simp)) c10
  obtain ⟨T9, B9, z9, X9, p9, f9, g9⟩ := loop len 0 (by omega) .unset (Or.inl rfl) s₁ B (by simpa [copyLocs] using X0) ⟨hB0.1, fun _ _ => rfl, rfl⟩ (Laid.zero _ _ _) c2
  have c11 : Steps p.tables e below (s₁.setTop (entryFrame m #[.ref b, .int (Int32.ofNat o), .ref d, .int (Int32.ofNat q), .int (Int32.ofNat len)] 7)) (T9.setTop (mkF m 46 #[.val (.ref b), .val (.int (Int32.ofNat (o + len))), .val (.ref d), .val (.int (Int32.ofNat (q + len))), .val (.int (Int32.ofNat len)), .val (.int (Int32.ofNat len)), z9] [.int (Int32.ofNat len)])) := g9.trans (by
    refine XS.iload X9.here hexec rfl (hb hbytes d3) rfl ?_
    refine XS.iload X9.here hexec rfl (hb hbytes d5) rfl ?_
    refine XS.icmpYes X9.here hexec rfl (pc0 := 7) rfl (hb hbytes d7) rfl (ii_ge_t (nlt32 (by omega) (Nat.le_refl _))) (by decide) rfl ?_
    refine XS.iload X9.here hexec rfl (hb hbytes d44) rfl ?_
    exact Steps.refl _)
  exact ⟨T9, some (.int (Int32.ofNat len)), _, _, _, X9, by simp, rfl, rfl, (fun h => by cases h), ⟨rfl, B9, p9.from hh0, f9⟩, fun fs hl => c11.trans (X9.ireturnOut hexec hret rfl (Or.inl rfl) (hb hbytes d46) hl)⟩
end Cmp5
namespace Cmp3
def yN : MethodName := ⟨"java/lang/StringUTF16", "compress", "([CII)[B"⟩
abbrev yB : ByteArray := jdk_52_method_16_code
theorem d0 : decode yB 0 = .ok (.iload_n 2, 1) := by decide +kernel
theorem d1 : decode yB 1 = .ok (.newarray .byte, 2) := by decide +kernel
theorem d3 : decode yB 3 = .ok (.astore_n 3, 1) := by decide +kernel
theorem d4 : decode yB 4 = .ok (.aload_n 0, 1) := by decide +kernel
theorem d5 : decode yB 5 = .ok (.iload_n 1, 1) := by decide +kernel
theorem d6 : decode yB 6 = .ok (.aload_n 3, 1) := by decide +kernel
theorem d7 : decode yB 7 = .ok (.iconst 0, 1) := by decide +kernel
theorem d8 : decode yB 8 = .ok (.iload_n 2, 1) := by decide +kernel
theorem d9 : decode yB 9 = .ok (.invokestatic 115, 3) := by decide +kernel
theorem d12 : decode yB 12 = .ok (.istore 4, 2) := by decide +kernel
theorem d14 : decode yB 14 = .ok (.iload 4, 2) := by decide +kernel
theorem d16 : decode yB 16 = .ok (.iload_n 2, 1) := by decide +kernel
theorem d17 : decode yB 17 = .ok (.if_icmp (.eq) 40, 3) := by decide +kernel
theorem d57 : decode yB 57 = .ok (.aload_n 3, 1) := by decide +kernel
theorem d58 : decode yB 58 = .ok (.areturn, 1) := by decide +kernel
def site : List Cond := [.arrayClass .byte, Cmp5.tab] ++ staticW U16 115 Cmp5.yN
def tab : Cond := tabOf yN yB 6 (some (.array .byte)) site
def P (b : Addr) (A : Cell) (o len : Nat) (args : Array Value) (s : State) : Prop := args = #[.ref b, .int (Int32.ofNat o), .int (Int32.ofNat len)] ∧ Ch b A s ∧ o + len ≤ A.slots.size ∧ len ≤ 536870912 ∧ ∀ i, i < len → ¬ 255 < cv A (o + i)
def E (b : Addr) (A : Cell) (o len : Nat) (r : Option Value) (s u : State) : Prop := NewArr .byte "[B" len (fun j => .int (lo8 (cv A (o + j)))) r s u ∧ u.heap.size = s.heap.size + 1
/-- no char of the range above 255: a new byte[] of their low bytes -/
theorem law (l : Launch) (b : Addr) (A : Cell) (o len : Nat) : Law l yN 3 3 1 18 yB 6 (some (.array .byte)) site (P b A o len) (E b A o len) [] 1 len := by
  refine Law.of_walk (plainFor_of_name (by decide +kernel)) (by decide +kernel) (by decide +kernel) (by decide) (fun _ _ h => by rw [h.1]; rfl) (fun _ U U' hal hh h => ⟨h.1, h.2.1.mv hal hh, h.2.2⟩) (fun r U U' V V' h1 hal h2 h => ⟨NewArr.mv r U U' V V' h1 hal h2 h.1, by rw [h1, h2]; exact h.2⟩) ?_
  intro p e s m args below meth c s₁ X0 hexec hbytes hml hret hlk hnm hown hh0 W hP
  obtain ⟨rfl, hA, l1, l2, hp⟩ := hP
  have a31 := hA.1.2.2.2
  have c1 : Steps p.tables e below (s₁.setTop (entryFrame m #[.ref b, .int (Int32.ofNat o), .int (Int32.ofNat len)] 6)) (s₁.setTop (mkF m 0 #[.val (.ref b), .val (.int (Int32.ofNat o)), .val (.int (Int32.ofNat len)), .unset, .unset, .unset] [])) := entry rfl
  have c2 : Steps p.tables e below (s₁.setTop (entryFrame m #[.ref b, .int (Int32.ofNat o), .int (Int32.ofNat len)] 6)) (s₁.setTop (mkF m 1 #[.val (.ref b), .val (.int (Int32.ofNat o)), .val (.int (Int32.ofNat len)), .unset, .unset, .unset] [.int (Int32.ofNat len)])) := c1.trans (by
    refine XS.iloadN X0.here hexec rfl (hb hbytes d0) rfl ?_
    exact Steps.refl _)
  obtain ⟨T3, B3, X3, ba3, bs3, bv3, bh3, bf3, st3⟩ := X0.anew hexec (atype := .byte) (wk W (.arrayClass .byte)) rfl (by show len * 1 ≤ _; omega) (by omega) (g := (mkF m 1 #[.val (.ref b), .val (.int (Int32.ofNat o)), .val (.int (Int32.ofNat len)), .unset, .unset, .unset] [.int (Int32.ofNat len)])) rfl (hb hbytes d1) (rest := []) rfl (Nat.le_refl _) (by show 0 + len ≤ len; omega)
  rw [hh0] at ba3 st3
  have kp3 : XT.Kept s T3 := (XT.Kept.of_eq hh0).push bh3
  have hA3 := hA.keep X3.warmed.alike (kp3 _ _ hA.1.1)
  have hne : b ≠ s.heap.size := hA.1.ne
  have c4 : Steps p.tables e below (s₁.setTop (entryFrame m #[.ref b, .int (Int32.ofNat o), .int (Int32.ofNat len)] 6)) (T3.setTop (mkF m 3 #[.val (.ref b), .val (.int (Int32.ofNat o)), .val (.int (Int32.ofNat len)), .unset, .unset, .unset] [.ref s.heap.size])) := c2.trans (st3 _ (Steps.refl _))
  have c5 : Steps p.tables e below (s₁.setTop (entryFrame m #[.ref b, .int (Int32.ofNat o), .int (Int32.ofNat len)] 6)) (T3.setTop (mkF m 9 #[.val (.ref b), .val (.int (Int32.ofNat o)), .val (.int (Int32.ofNat len)), .val (.ref s.heap.size), .unset, .unset] [.int (Int32.ofNat len), .int 0, .ref s.heap.size, .int (Int32.ofNat o), .ref b])) := c4.trans (by
    refine XS.astoreN X3.here hexec rfl (hb hbytes d3) rfl rfl rfl ?_
    refine XS.aloadN X3.here hexec rfl (hb hbytes d4) rfl rfl ?_
    refine XS.iloadN X3.here hexec rfl (hb hbytes d5) rfl ?_
    refine XS.aloadN X3.here hexec rfl (hb hbytes d6) rfl rfl ?_
    refine iconstV X3.here hexec rfl 0 (hb hbytes d7) (by decide) ?_
    refine XS.iloadN X3.here hexec rfl (hb hbytes d8) rfl ?_
    exact Steps.refl _)
  obtain ⟨v6, T6, X6, E6, g6⟩ := X3.callS hexec (Cmp5.law l b A s.heap.size B3 o 0 len) hown (wks W (staticW U16 115 Cmp5.yN)) (wk W Cmp5.tab) (W := 0) (Nat.le_of_ble_eq_true rfl) (Nat.le_of_ble_eq_true rfl) (Nat.le_refl _) (by show 0 + len + 0 ≤ len; omega) (g := (mkF m 9 #[.val (.ref b), .val (.int (Int32.ofNat o)), .val (.int (Int32.ofNat len)), .val (.ref s.heap.size), .unset, .unset] [.int (Int32.ofNat len), .int (Int32.ofNat 0), .ref s.heap.size, .int (Int32.ofNat o), .ref b])) rfl (by rw [hml]; rfl) c5 (argsL := [.ref b, .int (Int32.ofNat o), .ref s.heap.size, .int (Int32.ofNat 0), .int (Int32.ofNat len)]) (rest := []) rfl rfl (by show 2 * 0 + 0 ≤ _; decide) (hb hbytes d9) (⟨rfl, hA3, ba3, hne, l1, by rw [bs3]; simp, hp⟩)
  obtain ⟨rfl, B6, p6, f6⟩ := E6
  have c7 : Steps p.tables e below (s₁.setTop (entryFrame m #[.ref b, .int (Int32.ofNat o), .int (Int32.ofNat len)] 6)) (T6.setTop (mkF m 12 #[.val (.ref b), .val (.int (Int32.ofNat o)), .val (.int (Int32.ofNat len)), .val (.ref s.heap.size), .unset, .unset] [.int (Int32.ofNat len)])) := g6
  have c8 : Steps p.tables e below (s₁.setTop (entryFrame m #[.ref b, .int (Int32.ofNat o), .int (Int32.ofNat len)] 6)) (T6.setTop (mkF m 58 #[.val (.ref b), .val (.int (Int32.ofNat o)), .val (.int (Int32.ofNat len)), .val (.ref s.heap.size), .val (.int (Int32.ofNat len)), .unset] [.ref s.heap.size])) := c7.trans (by
    refine XS.istore X6.here hexec rfl (hb hbytes d12) rfl rfl ?_
    refine XS.iload X6.here hexec rfl (hb hbytes d14) rfl ?_
    refine XS.iloadN X6.here hexec rfl (hb hbytes d16) rfl ?_
    refine XS.icmpYes X6.here hexec rfl (pc0 := 17) rfl (hb hbytes d17) rfl (ii_eq_t rfl) (by decide) rfl ?_
    refine XS.aloadN X6.here hexec rfl (hb hbytes d57) rfl rfl ?_
    exact Steps.refl _)
  have X8 := X6.wide (L' := []) (cells' := 1) (slots' := len) (fun x hx hlt => by
    simp only [List.nil_append, copyLocs, List.mem_map, List.mem_range] at hx
    obtain ⟨i, -, rfl⟩ := hx
    exact absurd hlt (Nat.lt_irrefl _)) (Nat.le_refl _) (by omega)
  exact ⟨T6, some (.ref s.heap.size), _, _, _, X8, rfl, rfl, rfl, (fun h => by cases h), ⟨⟨rfl, B6, ba3.like (X3.warmed.alike.symm.trans X6.warmed.alike) p6.1 f6.1 f6.2.1 f6.2.2.1, f6.2.1.trans bv3, by rw [X6.warmed.alike.findClass, f6.1]; exact bf3, by rw [f6.2.2.1, bs3]; simp, fun j hj => by rw [f6.2.2.2 j, if_pos (by omega)]; rfl, kp3.put p6 (Nat.le_refl _)⟩, by rw [p6.2.2, bh3, hh0]; simp⟩, fun fs hl => c8.trans (X8.areturnOut hexec rfl hret rfl (hb hbytes d58) hl)⟩
end Cmp3
namespace CodL
def yN : MethodName := ⟨"java/lang/StringUTF16", "coderFromArrayLen", "([BI)B"⟩
abbrev yB : ByteArray := jdk_52_method_15_code
theorem d0 : decode yB 0 = .ok (.iload_n 1, 1) := by decide +kernel
theorem d1 : decode yB 1 = .ok (.aload_n 0, 1) := by decide +kernel
theorem d2 : decode yB 2 = .ok (.arraylength, 1) := by decide +kernel
theorem d3 : decode yB 3 = .ok (.isub, 1) := by decide +kernel
theorem d4 : decode yB 4 = .ok (.bipush 31, 2) := by decide +kernel
theorem d6 : decode yB 6 = .ok (.iushr, 1) := by decide +kernel
theorem d7 : decode yB 7 = .ok (.i2b, 1) := by decide +kernel
theorem d8 : decode yB 8 = .ok (.ireturn, 1) := by decide +kernel
def site : List Cond := []
def tab : Cond := tabOf yN yB 2 (some .byte) site
def P (d : Addr) (B : Cell) (args : Array Value) (s : State) : Prop := args = #[.ref d, .int (Int32.ofNat B.slots.size)] ∧ Arr .byte d B s
def E (r : Option Value) (s u : State) : Prop := XT.PureE (some (.int 0)) r s u
/-- an array as long as the number of chars: LATIN1 -/
theorem law (l : Launch) (d : Addr) (B : Cell) : Law l yN 2 2 0 0 yB 2 (some .byte) site (P d B) E [] 0 0 := by
  refine Law.of_walk (plainFor_of_name (by decide +kernel)) (by decide +kernel) (by decide +kernel) (by decide) (fun _ _ h => by rw [h.1]; rfl) (fun _ U U' hal hh h => ⟨h.1, h.2.mv hal hh⟩) (fun r U U' V V' h1 hal h2 h => XT.PureE.mv r U U' V V' h1 hal h2 h) ?_
  intro p e s m args below meth c s₁ X0 hexec hbytes hml hret hlk hnm hown hh0 W hP
  obtain ⟨rfl, hB⟩ := hP
  have hB0 := hB.mv X0.warmed.alike hh0
  have c1 : Steps p.tables e below (s₁.setTop (entryFrame m #[.ref d, .int (Int32.ofNat B.slots.size)] 2)) (s₁.setTop (mkF m 0 #[.val (.ref d), .val (.int (Int32.ofNat B.slots.size))] [])) := entry rfl
  have c2 : Steps p.tables e below (s₁.setTop (entryFrame m #[.ref d, .int (Int32.ofNat B.slots.size)] 2)) (s₁.setTop (mkF m 2 #[.val (.ref d), .val (.int (Int32.ofNat B.slots.size))] [.ref d, .int (Int32.ofNat B.slots.size)])) := c1.trans (by
    refine XS.iloadN X0.here hexec rfl (hb hbytes d0) rfl ?_
    refine XS.aloadN X0.here hexec rfl (hb hbytes d1) rfl rfl ?_
    exact Steps.refl _)
  have c3 : Steps p.tables e below (s₁.setTop (entryFrame m #[.ref d, .int (Int32.ofNat B.slots.size)] 2)) (s₁.setTop (mkF m 8 #[.val (.ref d), .val (.int (Int32.ofNat B.slots.size))] [.int (lo8 (ushr (Int32.ofNat B.slots.size - Int32.ofNat B.slots.size) 31))])) := c2.trans (by
    refine X0.alen hexec hB0 rfl rfl (hb hbytes d2) ?_
    refine XS.isub X0.here hexec rfl (hb hbytes d3) rfl ?_
    refine bipushV X0.here hexec rfl 31 (hb hbytes d4) (by decide) ?_
    refine iushr X0.here hexec rfl (hb hbytes d6) rfl ?_
    refine i2b X0.here hexec rfl (hb hbytes d7) rfl ?_
    exact Steps.refl _)
  have e0 : lo8 (ushr (Int32.ofNat B.slots.size - Int32.ofNat B.slots.size) 31) = 0 := by rw [Int32.sub_self]; decide
  rw [e0] at c3
  exact ⟨s₁, some (.int 0), _, _, _, X0, rfl, rfl, rfl, (fun h => by cases h), ⟨rfl, hh0⟩, fun fs hl => c3.trans (X0.ireturnOut hexec hret rfl (Or.inr (Or.inr (Or.inl rfl))) (hb hbytes d8) hl)⟩
end CodL
/-- the String at a is Latin-1 over a new byte[] (the heap's one new cell): the low bytes of the len chars of A from o on; every cell but a is kept -/
def Got (a : Addr) (D : Cell) (fV fC : Field) (A : Cell) (o len : Nat) (r : Option Value) (s u : State) : Prop := r = none ∧ ∃ D' V : Cell, Blank "java/lang/String" a D' u ∧ Same D D' [fV.slot, fC.slot] ∧ D'.slots[fV.slot]? = some (.ref s.heap.size) ∧ D'.slots[fC.slot]? = some (.int 0) ∧ Arr .byte s.heap.size V u ∧ V.vm = .none ∧ u.vm.findClass "[B" = some V.cls ∧ V.slots.size = len ∧ (∀ j, j < len → V.slots[j]? = some (.int (lo8 (cv A (o + j))))) ∧ (∀ (y : Addr) (c : Cell), y ≠ a → s.heap[y]? = some c → u.heap[y]? = some c) ∧ u.heap.size = s.heap.size + 1
theorem Got.mv {a : Addr} {D A : Cell} {fV fC : Field} {o len : Nat} : ∀ r (U U' V V' : State), U'.heap = U.heap → V.vm.Alike V'.vm → V'.heap = V.heap → Got a D fV fC A o len r U V → Got a D fV fC A o len r U' V' :=
  fun r U U' V V' h1 hal h2 ⟨e0, D', X, a1, a2, a3, a4, a5, a6, a7, a8, a9, a10, a11⟩ => ⟨e0, D', X, a1.mv hal h2, a2, by rw [h1]; exact a3, a4, by rw [h1]; exact a5.mv hal h2, a6, by rw [hal.findClass]; exact a7, a8, a9, by rw [h1, h2]; exact a10, by rw [h1, h2]; exact a11⟩
namespace New4
def yN : MethodName := ⟨"java/lang/String", "<init>", "([CIILjava/lang/Void;)V"⟩
abbrev yB : ByteArray := jdk_42_method_149_code
theorem d0 : decode yB 0 = .ok (.aload_n 0, 1) := by decide +kernel
theorem d1 : decode yB 1 = .ok (.invokespecial 1, 3) := by decide +kernel
theorem d4 : decode yB 4 = .ok (.iload_n 3, 1) := by decide +kernel
theorem d5 : decode yB 5 = .ok (.ifCond (.ne) 22, 3) := by decide +kernel
theorem d27 : decode yB 27 = .ok (.getstatic 38, 3) := by decide +kernel
theorem d30 : decode yB 30 = .ok (.ifCond (.eq) 28, 3) := by decide +kernel
theorem d33 : decode yB 33 = .ok (.aload_n 1, 1) := by decide +kernel
theorem d34 : decode yB 34 = .ok (.iload_n 2, 1) := by decide +kernel
theorem d35 : decode yB 35 = .ok (.iload_n 3, 1) := by decide +kernel
theorem d36 : decode yB 36 = .ok (.invokestatic 177, 3) := by decide +kernel
theorem d39 : decode yB 39 = .ok (.astore 5, 2) := by decide +kernel
theorem d41 : decode yB 41 = .ok (.aload_n 0, 1) := by decide +kernel
theorem d42 : decode yB 42 = .ok (.aload 5, 2) := by decide +kernel
theorem d44 : decode yB 44 = .ok (.iload_n 3, 1) := by decide +kernel
theorem d45 : decode yB 45 = .ok (.invokestatic 47, 3) := by decide +kernel
theorem d48 : decode yB 48 = .ok (.putfield 15, 3) := by decide +kernel
theorem d51 : decode yB 51 = .ok (.aload_n 0, 1) := by decide +kernel
theorem d52 : decode yB 52 = .ok (.aload 5, 2) := by decide +kernel
theorem d54 : decode yB 54 = .ok (.putfield 9, 3) := by decide +kernel
theorem d57 : decode yB 57 = .ok (.return_, 1) := by decide +kernel
def site : List Cond := [.fieldLink "java/lang/String" 38 "java/lang/String" "COMPACT_STRINGS" "Z", Cmp3.tab, CodL.tab, .laysFinal "java/lang/String" "java/lang/String" "value" "[B", .fieldLink "java/lang/String" 9 "java/lang/String" "value" "[B", .laysFinal "java/lang/String" "java/lang/String" "coder" "B", .fieldLink "java/lang/String" 15 "java/lang/String" "coder" "B"] ++ objW "java/lang/String" 1 ++ staticW "java/lang/String" 177 Cmp3.yN ++ staticW "java/lang/String" 47 CodL.yN
def tab : Cond := tabOf yN yB 6 none site
def P (a : Addr) (D : Cell) (fV fC : Field) (b : Addr) (A : Cell) (z : Int32) (o len : Nat) (args : Array Value) (s : State) : Prop := args = #[.ref a, .ref b, .int (Int32.ofNat o), .int (Int32.ofNat len), .null] ∧ Blank "java/lang/String" a D s ∧ Found "java/lang/String" "value" "[B" fV s ∧ Found "java/lang/String" "coder" "B" fC s ∧ Ch b A s ∧ StaticIs s "java/lang/String" "COMPACT_STRINGS" "Z" (.int z) ∧ ¬ z = 0 ∧ 0 < len ∧ o + len ≤ A.slots.size ∧ len ≤ 536870912 ∧ ∀ i, i < len → ¬ 255 < cv A (o + i)
def E (a : Addr) (D : Cell) (fV fC : Field) (A : Cell) (o len : Nat) (r : Option Value) (s u : State) : Prop := Got a D fV fC A o len r s u
/-- len > 0, no char of the range above 255: a Latin-1 String of their low bytes -/
theorem law (l : Launch) (a : Addr) (D : Cell) (fV fC : Field) (b : Addr) (A : Cell) (z : Int32) (o len : Nat) : Law l yN 5 4 2 35 yB 6 none site (P a D fV fC b A z o len) (E a D fV fC A o len) [⟨a, fC.slot⟩, ⟨a, fV.slot⟩] 1 len := by
  refine Law.of_walk (plainFor_of_name (by decide +kernel)) (by decide +kernel) (by decide +kernel) (by decide) (fun _ _ h => by rw [h.1]; rfl) (fun _ U U' hal hh h => ⟨h.1, h.2.1.mv hal hh, h.2.2.1.al hal, h.2.2.2.1.al hal, h.2.2.2.2.1.mv hal hh, h.2.2.2.2.2.1.there hal hh, h.2.2.2.2.2.2⟩) (fun r U U' V V' h1 hal h2 h => Got.mv r U U' V V' h1 hal h2 h) ?_
  intro p e s m args below meth c s₁ X0 hexec hbytes hml hret hlk hnm hown hh0 W hP
  obtain ⟨rfl, hB, f1, f2, hA, s1, hz, l0, l1, l2, hp⟩ := hP
  have a31 := hA.1.2.2.2
  have c1 : Steps p.tables e below (s₁.setTop (entryFrame m #[.ref a, .ref b, .int (Int32.ofNat o), .int (Int32.ofNat len), .null] 6)) (s₁.setTop (mkF m 0 #[.val (.ref a), .val (.ref b), .val (.int (Int32.ofNat o)), .val (.int (Int32.ofNat len)), .val .null, .unset] [])) := entry rfl
  have c2 : Steps p.tables e below (s₁.setTop (entryFrame m #[.ref a, .ref b, .int (Int32.ofNat o), .int (Int32.ofNat len), .null] 6)) (s₁.setTop (mkF m 1 #[.val (.ref a), .val (.ref b), .val (.int (Int32.ofNat o)), .val (.int (Int32.ofNat len)), .val .null, .unset] [.ref a])) := c1.trans (by
    refine XS.aloadN X0.here hexec rfl (hb hbytes d0) rfl rfl ?_
    exact Steps.refl _)
  obtain ⟨T3, X3, q3, st3⟩ := X0.oinit hexec hown (wks W (objW "java/lang/String" 1)) (g := (mkF m 1 #[.val (.ref a), .val (.ref b), .val (.int (Int32.ofNat o)), .val (.int (Int32.ofNat len)), .val .null, .unset] [.ref a])) rfl (by rw [hml]; rfl) (rest := []) rfl (hb hbytes d1) (W := 0) (by show 2 * 0 + 0 ≤ _; decide) (Nat.le_of_ble_eq_true rfl) (Nat.le_of_ble_eq_true rfl)
  have hh3 := q3.trans hh0
  have c4 : Steps p.tables e below (s₁.setTop (entryFrame m #[.ref a, .ref b, .int (Int32.ofNat o), .int (Int32.ofNat len), .null] 6)) (T3.setTop (mkF m 27 #[.val (.ref a), .val (.ref b), .val (.int (Int32.ofNat o)), .val (.int (Int32.ofNat len)), .val .null, .unset] [])) := (c2.trans (st3 _ (Steps.refl _))).trans (by
    refine XS.iloadN X3.here hexec rfl (hb hbytes d4) rfl ?_
    refine XS.ifYes X3.here hexec rfl (pc0 := 5) rfl (hb hbytes d5) rfl (i0_ne_t (nz32 (by omega) l0)) (by decide) rfl ?_
    exact Steps.refl _)
  obtain ⟨T5, X5, q5, st5⟩ := X3.sget hexec hown (wk W (.fieldLink "java/lang/String" 38 "java/lang/String" "COMPACT_STRINGS" "Z")) s1 (fun _ _ h => by rw [hh3]; exact h) (g := (mkF m 27 #[.val (.ref a), .val (.ref b), .val (.int (Int32.ofNat o)), .val (.int (Int32.ofNat len)), .val .null, .unset] [])) rfl (hb hbytes d27)
  have hh5 := q5.trans hh3
  have c6 : Steps p.tables e below (s₁.setTop (entryFrame m #[.ref a, .ref b, .int (Int32.ofNat o), .int (Int32.ofNat len), .null] 6)) (T5.setTop (mkF m 30 #[.val (.ref a), .val (.ref b), .val (.int (Int32.ofNat o)), .val (.int (Int32.ofNat len)), .val .null, .unset] [.int z])) := c4.trans (st5 _ (Steps.refl _))
  have c7 : Steps p.tables e below (s₁.setTop (entryFrame m #[.ref a, .ref b, .int (Int32.ofNat o), .int (Int32.ofNat len), .null] 6)) (T5.setTop (mkF m 36 #[.val (.ref a), .val (.ref b), .val (.int (Int32.ofNat o)), .val (.int (Int32.ofNat len)), .val .null, .unset] [.int (Int32.ofNat len), .int (Int32.ofNat o), .ref b])) := c6.trans (by
    refine XS.ifNo X5.here hexec rfl (hb hbytes d30) rfl (i0_eq_f hz) ?_
    refine XS.aloadN X5.here hexec rfl (hb hbytes d33) rfl rfl ?_
    refine XS.iloadN X5.here hexec rfl (hb hbytes d34) rfl ?_
    refine XS.iloadN X5.here hexec rfl (hb hbytes d35) rfl ?_
    exact Steps.refl _)
  obtain ⟨v8, T8, X8, E8, g8⟩ := X5.callS hexec (Cmp3.law l b A o len) hown (wks W (staticW "java/lang/String" 177 Cmp3.yN)) (wk W Cmp3.tab) (W := 0) (Nat.le_of_ble_eq_true rfl) (Nat.le_of_ble_eq_true rfl) (Nat.le_refl _) (by show 0 + len ≤ len; omega) (g := (mkF m 36 #[.val (.ref a), .val (.ref b), .val (.int (Int32.ofNat o)), .val (.int (Int32.ofNat len)), .val .null, .unset] [.int (Int32.ofNat len), .int (Int32.ofNat o), .ref b])) rfl (by rw [hml]; rfl) c7 (argsL := [.ref b, .int (Int32.ofNat o), .int (Int32.ofNat len)]) (rest := []) rfl rfl (by show 2 * 0 + 0 ≤ _; decide) (hb hbytes d36) (⟨rfl, hA.mv X5.warmed.alike hh5, l1, l2, hp⟩)
  obtain ⟨e8, z8⟩ := E8
  obtain ⟨rfl, N, n1, n2, n3, n4, n5, n6⟩ := NewArr.mv _ T5 s _ _ hh5.symm (Vm.Alike.refl _) rfl e8
  rw [hh5] at z8
  have hB1 := hB.keep X8.warmed.alike (n6 _ _ hB.1)
  have hne : s.heap.size ≠ a := (Nat.ne_of_lt (Array.getElem?_eq_some_iff.mp hB.1).1).symm
  have c9 : Steps p.tables e below (s₁.setTop (entryFrame m #[.ref a, .ref b, .int (Int32.ofNat o), .int (Int32.ofNat len), .null] 6)) (T8.setTop (mkF m 39 #[.val (.ref a), .val (.ref b), .val (.int (Int32.ofNat o)), .val (.int (Int32.ofNat len)), .val .null, .unset] [.ref s.heap.size])) := g8
  have c10 : Steps p.tables e below (s₁.setTop (entryFrame m #[.ref a, .ref b, .int (Int32.ofNat o), .int (Int32.ofNat len), .null] 6)) (T8.setTop (mkF m 45 #[.val (.ref a), .val (.ref b), .val (.int (Int32.ofNat o)), .val (.int (Int32.ofNat len)), .val .null, .val (.ref s.heap.size)] [.int (Int32.ofNat N.slots.size), .ref s.heap.size, .ref a])) := by
    have hc : Steps p.tables e below (s₁.setTop (entryFrame m #[.ref a, .ref b, .int (Int32.ofNat o), .int (Int32.ofNat len), .null] 6)) (T8.setTop (mkF m 45 #[.val (.ref a), .val (.ref b), .val (.int (Int32.ofNat o)), .val (.int (Int32.ofNat len)), .val .null, .val (.ref s.heap.size)] [.int (Int32.ofNat len), .ref s.heap.size, .ref a])) := c9.trans (by
      refine XS.astore X8.here hexec rfl (hb hbytes d39) rfl rfl rfl ?_
      refine XS.aloadN X8.here hexec rfl (hb hbytes d41) rfl rfl ?_
      refine XS.aload X8.here hexec rfl (hb hbytes d42) rfl rfl ?_
      refine XS.iloadN X8.here hexec rfl (hb hbytes d44) rfl ?_
      exact Steps.refl _)
    rw [n4]; exact hc
  obtain ⟨v11, T11, X11, E11, g11⟩ := X8.callS hexec (CodL.law l s.heap.size N) hown (wks W (staticW "java/lang/String" 47 CodL.yN)) (wk W CodL.tab) (W := 1) (Nat.le_of_ble_eq_true rfl) (Nat.le_of_ble_eq_true rfl) (Nat.le_refl _) (by show 0 + len + 0 ≤ len; omega) (g := (mkF m 45 #[.val (.ref a), .val (.ref b), .val (.int (Int32.ofNat o)), .val (.int (Int32.ofNat len)), .val .null, .val (.ref s.heap.size)] [.int (Int32.ofNat N.slots.size), .ref s.heap.size, .ref a])) rfl (by rw [hml]; rfl) c10 (argsL := [.ref s.heap.size, .int (Int32.ofNat N.slots.size)]) (rest := [.ref a]) rfl rfl (by show 2 * 0 + (1 + 0) ≤ _; decide) (hb hbytes d45) (⟨rfl, n1⟩)
  obtain ⟨rfl, q11⟩ := E11
  have hB11 := hB1.mv (X8.warmed.alike.symm.trans X11.warmed.alike) q11
  have c12 : Steps p.tables e below (s₁.setTop (entryFrame m #[.ref a, .ref b, .int (Int32.ofNat o), .int (Int32.ofNat len), .null] 6)) (T11.setTop (mkF m 48 #[.val (.ref a), .val (.ref b), .val (.int (Int32.ofNat o)), .val (.int (Int32.ofNat len)), .val .null, .val (.ref s.heap.size)] [.int 0, .ref a])) := g11
  obtain ⟨T13, X13, p13, bl13, sl13, st13⟩ := X11.finit hexec hown (wk W (.fieldLink "java/lang/String" 15 "java/lang/String" "coder" "B")) (Or.inr ⟨_, (wk W (.laysFinal "java/lang/String" "java/lang/String" "coder" "B"))⟩) (Or.inl ⟨rfl, hnm⟩) f2 (Or.inl rfl) hB11 (t := .byte) (by decide +kernel) rfl (g := (mkF m 48 #[.val (.ref a), .val (.ref b), .val (.int (Int32.ofNat o)), .val (.int (Int32.ofNat len)), .val .null, .val (.ref s.heap.size)] [.int 0, .ref a])) rfl (rest := []) rfl (hb hbytes d48)
  have c14 : Steps p.tables e below (s₁.setTop (entryFrame m #[.ref a, .ref b, .int (Int32.ofNat o), .int (Int32.ofNat len), .null] 6)) (T13.setTop (mkF m 54 #[.val (.ref a), .val (.ref b), .val (.int (Int32.ofNat o)), .val (.int (Int32.ofNat len)), .val .null, .val (.ref s.heap.size)] [.ref s.heap.size, .ref a])) := (c12.trans (st13 _ (Steps.refl _))).trans (by
    refine XS.aloadN X13.here hexec rfl (hb hbytes d51) rfl rfl ?_
    refine XS.aload X13.here hexec rfl (hb hbytes d52) rfl rfl ?_
    exact Steps.refl _)
  obtain ⟨T15, X15, p15, bl15, sl15, st15⟩ := X13.finit hexec hown (wk W (.fieldLink "java/lang/String" 9 "java/lang/String" "value" "[B")) (Or.inr ⟨_, (wk W (.laysFinal "java/lang/String" "java/lang/String" "value" "[B"))⟩) (Or.inl ⟨rfl, hnm⟩) f1 (Or.inl rfl) bl13 (t := (.array .byte)) (by decide +kernel) rfl (g := (mkF m 54 #[.val (.ref a), .val (.ref b), .val (.int (Int32.ofNat o)), .val (.int (Int32.ofNat len)), .val .null, .val (.ref s.heap.size)] [.ref s.heap.size, .ref a])) rfl (rest := []) rfl (hb hbytes d54)
  have c16 : Steps p.tables e below (s₁.setTop (entryFrame m #[.ref a, .ref b, .int (Int32.ofNat o), .int (Int32.ofNat len), .null] 6)) (T15.setTop (mkF m 57 #[.val (.ref a), .val (.ref b), .val (.int (Int32.ofNat o)), .val (.int (Int32.ofNat len)), .val .null, .val (.ref s.heap.size)] [])) := c14.trans (st15 _ (Steps.refl _))
  have ap := apart (Or.inr ⟨_, (wk W (.laysFinal "java/lang/String" "java/lang/String" "value" "[B"))⟩) (Or.inr ⟨_, (wk W (.laysFinal "java/lang/String" "java/lang/String" "coder" "B"))⟩) f1 f2 (t₁ := .array .byte) (t₂ := .byte) (by decide +kernel) (by decide +kernel) (by decide)
  have al := X8.warmed.alike.symm.trans X15.warmed.alike
  have n7 : T11.heap[s.heap.size]? = some N := by rw [q11]; exact n1.1
  exact ⟨T15, none, _, _, _, X15, by simp, rfl, by omega, (fun _ => rfl), ⟨rfl, _, N, bl15, ((Same.refl D _).set _ (by simp)).set _ (by simp), sl15, (Cell.slots_setSlot_ne _ ap).trans sl13, n1.keep al (p15.other hne (p13.other hne n7)), n2, by rw [al.findClass]; exact n3, n4, n5, fun y c h1 h2 => p15.other h1 (p13.other h1 (by rw [q11]; exact n6 y c h2)), by rw [p15.2.2, p13.2.2, q11]; exact z8⟩, fun fs hl => c16.trans (X15.returnOut hexec hret (hb hbytes d57) hl)⟩
end New4
namespace New1
def yN : MethodName := ⟨"java/lang/String", "<init>", "([C)V"⟩
abbrev yB : ByteArray := jdk_42_method_3_code
theorem d0 : decode yB 0 = .ok (.aload_n 0, 1) := by decide +kernel
theorem d1 : decode yB 1 = .ok (.aload_n 1, 1) := by decide +kernel
theorem d2 : decode yB 2 = .ok (.iconst 0, 1) := by decide +kernel
theorem d3 : decode yB 3 = .ok (.aload_n 1, 1) := by decide +kernel
theorem d4 : decode yB 4 = .ok (.arraylength, 1) := by decide +kernel
theorem d5 : decode yB 5 = .ok (.aconst_null, 1) := by decide +kernel
theorem d6 : decode yB 6 = .ok (.invokespecial 27, 3) := by decide +kernel
theorem d9 : decode yB 9 = .ok (.return_, 1) := by decide +kernel
def site : List Cond := [New4.tab] ++ initW "java/lang/String" 27 New4.yN
def tab : Cond := tabOf yN yB 2 none site
def P (a : Addr) (D : Cell) (fV fC : Field) (b : Addr) (A : Cell) (z : Int32) (args : Array Value) (s : State) : Prop := args = #[.ref a, .ref b] ∧ Blank "java/lang/String" a D s ∧ Found "java/lang/String" "value" "[B" fV s ∧ Found "java/lang/String" "coder" "B" fC s ∧ Ch b A s ∧ StaticIs s "java/lang/String" "COMPACT_STRINGS" "Z" (.int z) ∧ ¬ z = 0 ∧ 0 < A.slots.size ∧ A.slots.size ≤ 536870912 ∧ ∀ i, i < A.slots.size → ¬ 255 < cv A i
def E (a : Addr) (D : Cell) (fV fC : Field) (A : Cell) (r : Option Value) (s u : State) : Prop := Got a D fV fC A 0 A.slots.size r s u
/-- new String(chars), not empty, no char above 255: a Latin-1 String of their low bytes -/
theorem law (l : Launch) (a : Addr) (D : Cell) (fV fC : Field) (b : Addr) (A : Cell) (z : Int32) : Law l yN 2 1 3 52 yB 2 none site (P a D fV fC b A z) (E a D fV fC A) [⟨a, fC.slot⟩, ⟨a, fV.slot⟩] 1 A.slots.size := by
  refine Law.of_walk (plainFor_of_name (by decide +kernel)) (by decide +kernel) (by decide +kernel) (by decide) (fun _ _ h => by rw [h.1]; rfl) (fun _ U U' hal hh h => ⟨h.1, h.2.1.mv hal hh, h.2.2.1.al hal, h.2.2.2.1.al hal, h.2.2.2.2.1.mv hal hh, h.2.2.2.2.2.1.there hal hh, h.2.2.2.2.2.2⟩) (fun r U U' V V' h1 hal h2 h => Got.mv r U U' V V' h1 hal h2 h) ?_
  intro p e s m args below meth c s₁ X0 hexec hbytes hml hret hlk hnm hown hh0 W hP
  obtain ⟨rfl, hB, f1, f2, hA, s1, hz, l0, l2, hp⟩ := hP
  have c1 : Steps p.tables e below (s₁.setTop (entryFrame m #[.ref a, .ref b] 2)) (s₁.setTop (mkF m 0 #[.val (.ref a), .val (.ref b)] [])) := entry rfl
  have c2 : Steps p.tables e below (s₁.setTop (entryFrame m #[.ref a, .ref b] 2)) (s₁.setTop (mkF m 6 #[.val (.ref a), .val (.ref b)] [.null, .int (Int32.ofNat A.slots.size), .int 0, .ref b, .ref a])) := c1.trans (by
    refine XS.aloadN X0.here hexec rfl (hb hbytes d0) rfl rfl ?_
    refine XS.aloadN X0.here hexec rfl (hb hbytes d1) rfl rfl ?_
    refine iconstV X0.here hexec rfl 0 (hb hbytes d2) (by decide) ?_
    refine XS.aloadN X0.here hexec rfl (hb hbytes d3) rfl rfl ?_
    refine X0.alen hexec (hA.1.mv X0.warmed.alike hh0) rfl rfl (hb hbytes d4) ?_
    refine XS.aconstNull X0.here hexec rfl (hb hbytes d5) ?_
    exact Steps.refl _)
  obtain ⟨v3, T3, X3, E3, g3⟩ := X0.callN hexec (New4.law l a D fV fC b A z 0 A.slots.size) rfl hown (wks W (initW "java/lang/String" 27 New4.yN)) (W New4.tab (by simp only [site, List.mem_cons, List.mem_append, true_or, or_true])) (W := 0) (Nat.le_of_ble_eq_true rfl) (Nat.le_of_ble_eq_true rfl) (Nat.le_refl _) (by show 0 + A.slots.size ≤ A.slots.size; omega) (g := (mkF m 6 #[.val (.ref a), .val (.ref b)] [.null, .int (Int32.ofNat A.slots.size), .int (Int32.ofNat 0), .ref b, .ref a])) rfl (by rw [hml]; rfl) c2 (argsL := [.ref b, .int (Int32.ofNat 0), .int (Int32.ofNat A.slots.size), .null]) (rest := []) rfl rfl (by show 2 * 0 + 0 ≤ _; decide) (hb hbytes d6) (⟨rfl, hB.mv X0.warmed.alike hh0, f1.al X0.warmed.alike, f2.al X0.warmed.alike, hA.mv X0.warmed.alike hh0, s1.there X0.warmed.alike hh0, hz, l0, by omega, l2, fun i hi => by rw [Nat.zero_add]; exact hp i hi⟩)
  have e0 := Got.mv _ s₁ s _ _ hh0.symm (Vm.Alike.refl _) rfl E3
  obtain rfl := e0.1
  have c4 : Steps p.tables e below (s₁.setTop (entryFrame m #[.ref a, .ref b] 2)) (T3.setTop (mkF m 9 #[.val (.ref a), .val (.ref b)] [])) := g3
  exact ⟨T3, none, _, _, _, X3, by simp, rfl, by omega, (fun _ => rfl), e0, fun fs hl => c4.trans (X3.returnOut hexec hret (hb hbytes d9) hl)⟩
theorem pays {l : Launch} {R : Room} {p : Program} {e : Env} {below : List Frame} {s : State} {sargs : Array Value} {len W : Nat} (a : Addr) (D : Cell) (fV fC : Field) (b : Addr) (A : Cell) (z : Int32) (htab : tab.before sargs s = true) (hfr : 4 ≤ R.frames) (hlo : W + 65 ≤ R.locals) :
    Back l R p e below s sargs yN len W (fun A₁ a₁ => A₁.cells + 1 ≤ R.cells ∧ A₁.slots + A.slots.size ≤ R.slots ∧ P a D fV fC b A z a₁ A₁.U) (fun A₁ _ v₁ B₁ => E a D fV fC A v₁ A₁.U B₁.U ∧ B₁.locs = A₁.locs ++ [⟨a, fC.slot⟩, ⟨a, fV.slot⟩] ∧ B₁.cells = A₁.cells + 1 ∧ B₁.slots = A₁.slots + A.slots.size) :=
  (law l a D fV fC b A z).pays htab hfr (by omega)
end New1
end StrChars
namespace StrChars.Road
open Jvm Sem ClassFile Op Lib Jvm.Stand Jvm.Free Jvm.Free.XT
open Jvm.Lib.Cold (StaticIs)
abbrev ST : String := "java/lang/String"
/-- every table word that New1's law asks, flat -/
abbrev words : List Jvm.Cond := [.code New1.yN New1.yB 2 none, .initialized ST, .methodLink ST 27 New4.yN, .instanceMethod New4.yN,
  .code New4.yN New4.yB 6 none, .fieldLink ST 38 ST "COMPACT_STRINGS" "Z", .laysFinal ST ST "value" "[B", .fieldLink ST 9 ST "value" "[B", .laysFinal ST ST "coder" "B", .fieldLink ST 15 ST "coder" "B",
  .methodLink ST 1 Lib.objectInit, .instanceMethod Lib.objectInit, .code Lib.objectInit ⟨#[0xb1]⟩ 1 none, .methodLink ST 177 Cmp3.yN, .static Cmp3.yN, .methodLink ST 47 CodL.yN, .static CodL.yN,
  .code Cmp3.yN Cmp3.yB 6 (some (.array .byte)), .initialized U16, .arrayClass .byte, .methodLink U16 115 Cmp5.yN, .static Cmp5.yN, .code Cmp5.yN Cmp5.yB 7 (some .int), .code CodL.yN CodL.yB 2 (some .byte)]
theorem tab_of {a : Array Value} {s : State} (h : ∀ w ∈ words, w.before a s = true) : New1.tab.before a s = true := by
  have h5 : Cmp5.tab.before a s = true := unparts (wk h (.code Cmp5.yN Cmp5.yB 7 (some .int))) (wks h (.initialized Cmp5.yN.cls :: Cmp5.site))
  have hc : CodL.tab.before a s = true := unparts (wk h (.code CodL.yN CodL.yB 2 (some .byte))) (wks h (.initialized CodL.yN.cls :: CodL.site))
  have q5 : ∀ w ∈ Cmp5.tab :: words, w.before a s = true := fun w hw => (List.mem_cons.mp hw).elim (fun e => e ▸ h5) (h w)
  have h3 : Cmp3.tab.before a s = true := unparts (wk q5 (.code Cmp3.yN Cmp3.yB 6 (some (.array .byte)))) (wks q5 (.initialized Cmp3.yN.cls :: Cmp3.site))
  have q3 : ∀ w ∈ Cmp3.tab :: CodL.tab :: words, w.before a s = true := fun w hw => (List.mem_cons.mp hw).elim (fun e => e ▸ h3) fun hw => (List.mem_cons.mp hw).elim (fun e => e ▸ hc) (h w)
  have h4 : New4.tab.before a s = true := unparts (wk q3 (.code New4.yN New4.yB 6 none)) (wks q3 (.initialized New4.yN.cls :: New4.site))
  have q4 : ∀ w ∈ New4.tab :: words, w.before a s = true := fun w hw => (List.mem_cons.mp hw).elim (fun e => e ▸ h4) (h w)
  exact unparts (wk q4 (.code New1.yN New1.yB 2 none)) (wks q4 (.initialized New1.yN.cls :: New1.site))
/-- the words ride from the start Z to the walk's own state -/
theorem moved {Z s : State} {a0 args : Array Value} (hZ : Z.Warmed39 s.vm) (hw : ∀ d ∈ words, d.before a0 Z = true) : ∀ d ∈ words, d.before args s = true := fun d hd => by
  have q := hw d hd
  have t : ∀ d ∈ words, d = .arrayClass .byte ∨ (d.onTables && d.keepsFace) = true := by decide +kernel
  rcases t d hd with rfl | t
  · exact RoadKit.mvA hZ q
  · exact RoadKit.mv hZ q t
/-- WHAT COMES BACK, over the tables of the start Z: h the heap at the call, h' behind it -/
def Q (Z : State) (x : Addr) (A : Cell) (h : Heap) (v : Option Value) (h' : Heap) (L : List Loc) : Prop := v = none ∧ (∀ y ∈ L, y.base = x) ∧ RoadKit.Keep h h' [x] ∧ h'.size = h.size + 1 ∧ RoadKit.Exa Z h' x ST ∧ RoadKit.Fld Z h' x ST "value" "[B" (.ref h.size) ∧ RoadKit.Fld Z h' x ST "coder" "B" (.int 0) ∧
  (∃ V : Cell, RoadKit.Arr Z h' h.size V .byte ∧ V.vm = .none ∧ Z.vm.findClass "[B" = some V.cls ∧ V.slots.size = A.slots.size ∧ ∀ j, j < A.slots.size → V.slots[j]? = some (.int (lo8 (cv A j)))) ∧
  ∀ (O n d : String) (w : Value), RoadKit.Fld Z h x O n d w → RoadKit.slotOf Z O n d ≠ RoadKit.slotOf Z ST "value" "[B" → RoadKit.slotOf Z O n d ≠ RoadKit.slotOf Z ST "coder" "B" → RoadKit.Fld Z h' x O n d w
/-- **new String(chars) AT A CALL, IN THE ROAD'S FORM**: for specialBack behind newO: x the fresh String, b the char[] with the cell A -/
theorem back {p : Program} {l : Launch} {e : Env} {R : Room} {s : State} {args : Array Value} {below : List Frame} {len W : Nat} {Z : State} {a0 : Array Value} {h : Heap} (hZ : Z.Warmed39 s.vm) (hw : ∀ d ∈ words, d.before a0 Z = true) {kI : Nat} (wi : (Jvm.Cond.instantiable ST kI).before a0 Z = true)
    {x b : Addr} {A : Cell} {z : Int32} {v0 c0 : Value} (E : RoadKit.Exa Z h x ST) (V : RoadKit.Fld Z h x ST "value" "[B" v0) (C : RoadKit.Fld Z h x ST "coder" "B" c0) (K : RoadKit.Arr Z h b A .char) (hty : Typed .char A) (S : RoadKit.Sta Z h ST "COMPACT_STRINGS" "Z" (.int z)) (hz : ¬ z = 0)
    (l0 : 0 < A.slots.size) (l2 : A.slots.size ≤ 536870912) (hp : ∀ i, i < A.slots.size → ¬ 255 < cv A i) (hfr : 4 ≤ R.frames) (hlo : W + 65 ≤ R.locals) :
    Back l R p e below s args New1.yN len W (fun P a => a = #[.ref x, .ref b] ∧ P.U.heap = h ∧ P.cells + 1 ≤ R.cells ∧ P.slots + A.slots.size ≤ R.slots)
      (fun P _ v B => ∃ L, Q Z x A h v B.U.heap L ∧ B.locs = P.locs ++ L ∧ B.cells = P.cells + 1 ∧ B.slots = P.slots + A.slots.size) := by
  intro m meth c P g ig mk a X hg hsize hdg hW hn hp'
  obtain ⟨rfl, rfl, r1, r2⟩ := hp'
  have al : Z.vm.Alike P.U.vm := hZ.alike.trans X.warmed.alike
  obtain ⟨D, cfV, kV, iV, fV, hD, gV, stV, knV, obV, asV, slV⟩ := id V
  obtain ⟨D', cfC, kC, iC, fC, hD', gC, stC, -, -, asC, slC⟩ := id C
  cases hD.symm.trans hD'
  obtain ⟨D2, kD, e1, e2, e3, e4, e5⟩ := id E
  cases hD.symm.trans e1
  obtain ⟨c2, k2, i1, i2, i3, -⟩ := Cond.instantiable_spec wi
  cases e2.symm.trans i1
  cases e3.symm.trans i2
  obtain ⟨kU, u1, u2⟩ := al.2.2 _ _ e3
  have hB : Blank ST x D P.U := ⟨hD, ⟨knV, fun q hq => by rw [hq] at obV; cases obV⟩, by rw [al.findClass]; exact e2, kU, u1, by rw [u2]; exact i3, by rw [u2]; exact e5 i3⟩
  have F1 : Found ST "value" "[B" fV P.U := ⟨SBG.found_only al ⟨cfV, kV, iV, gV⟩, stV⟩
  have F2 : Found ST "coder" "B" fC P.U := ⟨SBG.found_only al ⟨cfC, kC, iC, gC⟩, stC⟩
  have hA : Ch b A P.U := ⟨⟨K.1, State.isArrayOf_alike al K.2.1, K.2.2, by omega⟩, hty⟩
  have hS : StaticIs P.U ST "COMPACT_STRINGS" "Z" (.int z) := by
    obtain ⟨cfS, iS, kS, fS, st, cS, t1, t2, t3, t4, t5, t6, t7⟩ := S
    exact StaticIs.there (s := { Z with heap := P.U.heap }) ⟨cfS, iS, kS, fS, st, cS, t1, t2, t3, t4, t5, (fun q => by rw [q] at t6; cases t6), t7⟩ al rfl
  obtain ⟨v, B, X', ⟨⟨hv, E', V', q1, q2, q3, q4, q5, q6, q7, q8, q9, q10, q11⟩, hl, hc, hs⟩, st⟩ := New1.pays x D fV fC b A z (tab_of (moved hZ hw)) hfr hlo m meth c P g ig mk _ X hg hsize hdg hW hn ⟨r1, r2, rfl, hB, F1, F2, hA, hS, hz, l0, l2, hp⟩
  have al' : Z.vm.Alike B.U.vm := hZ.alike.trans X'.warmed.alike
  have hsz : E'.slots.size = D.slots.size := by
    obtain ⟨-, -, -, kB, w1, w2, w3⟩ := q1
    obtain ⟨kB', y1, y2⟩ := al'.2.2 _ _ e3
    rw [q2.2.1] at w1
    cases w1.symm.trans y1
    rw [w3, e5 i3, y2]
  refine ⟨v, B, X', ⟨_, ⟨hv, ?_, ⟨by omega, fun y cy hy hn' => q10 y cy (by simpa using hn') hy, fun y cy hy => ?_⟩, q11, ⟨E', _, q1.1, by rw [q2.2.1]; exact e2, by rw [q2.2.1]; exact e3, by rw [q2.1]; exact obV, fun _ => by rw [hsz]; exact e5 i3⟩,
    ⟨E', cfV, kV, iV, fV, q1.1, gV, stV, by rw [q2.1]; exact knV, by rw [q2.1]; exact obV, by rw [q2.2.1]; exact asV, q3⟩, ⟨E', cfC, kC, iC, fC, q1.1, gC, stC, by rw [q2.1]; exact knV, by rw [q2.1]; exact obV, by rw [q2.2.1]; exact asC, q4⟩,
    ⟨V', ⟨q5.1, State.isArrayOf_alike al'.symm q5.2.1, q5.2.2.1⟩, q6, by rw [← al'.findClass]; exact q7, q8, fun j hj => by have := q9 j hj; rwa [Nat.zero_add] at this⟩, fun O n d w F n1 n2 => ?_⟩, hl, hc, hs⟩, st⟩
  · intro y hy
    simp only [List.mem_cons, List.not_mem_nil, or_false] at hy
    rcases hy with rfl | rfl <;> rfl
  · by_cases q : y = x
    · subst q
      cases hD.symm.trans hy
      exact ⟨E', q1.1, q2.2.1, q2.1, hsz⟩
    · exact ⟨cy, q10 y cy q hy, rfl, rfl, rfl⟩
  · obtain ⟨D3, cf, k, i, f, g1, g2, g3, g4, g5, g6, g7⟩ := F
    cases hD.symm.trans g1
    simp only [RoadKit.slotOf, g2, gV, gC, Option.map_some, Option.getD_some] at n1 n2
    exact ⟨E', cf, k, i, f, q1.1, g2, g3, by rw [q2.1]; exact g4, by rw [q2.1]; exact g5, by rw [q2.2.1]; exact g6, by rw [q2.2.2 f.slot (by simp [n1, n2])]; exact g7⟩
end StrChars.Road
namespace StrChars.Road
open Jvm Sem ClassFile Op Lib Jvm.Stand Jvm.Free Jvm.Free.XT
/-- WHAT COMES BACK, the byte[] as a list of values -/
def QA (Z : State) (x : Addr) (zn : Int32) (cs : List Int32) (h : Heap) (v : Option Value) (h' : Heap) (L : List Loc) : Prop := v = none ∧ (∀ y ∈ L, y.base = x) ∧ RoadKit.Keep h h' [x] ∧ h'.size = h.size + 1 ∧ RoadKit.Exa Z h' x ST ∧ RoadKit.Fld Z h' x ST "value" "[B" (.ref h.size) ∧ RoadKit.Fld Z h' x ST "coder" "B" (.int 0) ∧
  (∃ kb, Z.vm.findClass "[B" = some kb ∧ RoadKit.Arv Z h' h.size kb .byte zn (cs.map fun c => .int (lo8 c)) (.int 0)) ∧
  ∀ (O n d : String) (w : Value), RoadKit.Fld Z h x O n d w → RoadKit.slotOf Z O n d ≠ RoadKit.slotOf Z ST "value" "[B" → RoadKit.slotOf Z O n d ≠ RoadKit.slotOf Z ST "coder" "B" → RoadKit.Fld Z h' x O n d w
/-- **new String(chars) AT A CALL, THE ARRAYS AS LISTS**: the char[] at b holds cs, not empty, no char above 255 -/
theorem backArv {p : Program} {l : Launch} {e : Env} {R : Room} {s : State} {args : Array Value} {below : List Frame} {len W : Nat} {Z : State} {a0 : Array Value} {h : Heap} (hZ : Z.Warmed39 s.vm) (hw : ∀ d ∈ words, d.before a0 Z = true) {kI : Nat} (wi : (Jvm.Cond.instantiable ST kI).before a0 Z = true)
    {x b : Addr} {k : ClassId} {zn z : Int32} {cs : List Int32} {dv v0 c0 : Value} (E : RoadKit.Exa Z h x ST) (V : RoadKit.Fld Z h x ST "value" "[B" v0) (C : RoadKit.Fld Z h x ST "coder" "B" c0) (K : RoadKit.Arv Z h b k .char zn (cs.map Value.int) dv) (S : RoadKit.Sta Z h ST "COMPACT_STRINGS" "Z" (.int z)) (hz : ¬ z = 0)
    (hlen : zn.toNatClampNeg = cs.length) (h0 : 0 < cs.length) (hbig : cs.length ≤ 536870912) (hall : ∀ c ∈ cs, ¬ 255 < c) (hfr : 4 ≤ R.frames) (hlo : W + 65 ≤ R.locals) :
    Back l R p e below s args New1.yN len W (fun P a => a = #[.ref x, .ref b] ∧ P.U.heap = h ∧ P.cells + 1 ≤ R.cells ∧ P.slots + cs.length ≤ R.slots)
      (fun P _ v B => ∃ L, QA Z x zn cs h v B.U.heap L ∧ B.locs = P.locs ++ L ∧ B.cells = P.cells + 1 ∧ B.slots = P.slots + cs.length) := by
  obtain ⟨A, K1, K2, K3, K4, K5, K6⟩ := K
  have e : A.slots.size = cs.length := K3.trans hlen
  have hat : ∀ (i : Nat) (hi : i < cs.length), A.slots[i]? = some (.int cs[i]) := fun i hi => by rw [K5 i (by omega)]; simp [List.getD_eq_getElem?_getD, hi]
  have hcv : ∀ (i : Nat) (hi : i < cs.length), cv A i = cs[i] := fun i hi => by unfold cv; rw [hat i hi]
  have hty : Typed .char A := fun i v hv => by
    have hi : i < A.slots.size := (Array.getElem?_eq_some_iff.mp hv).1
    have q := K5 i hi
    rw [hv] at q
    rw [Option.some.inj q]
    exact K6 i hi
  refine Back.mono (back hZ hw wi E V C K1 hty S hz (by omega) (by omega) (fun i hi => by rw [hcv i (by omega)]; exact hall _ (List.getElem_mem _)) hfr hlo) (fun P a hp => ⟨hp.1, hp.2.1, hp.2.2.1, by rw [e]; exact hp.2.2.2⟩) (fun P a v B hp hq => ?_)
  obtain ⟨L, ⟨q1, q2, q3, q4, q5, q6, q7, ⟨V', v1, v2, v3, v4, v5⟩, q9⟩, hl, hc, hs⟩ := hq
  refine ⟨L, ⟨q1, q2, q3, q4, q5, q6, q7, ⟨V'.cls, v3, V', v1, rfl, by rw [v4, e, hlen], K4, fun i hi => ?_, fun i hi => ?_⟩, q9⟩, hl, hc, by rw [hs, e]⟩
  · have hi' : i < cs.length := by omega
    rw [v5 i (by omega), hcv i hi']; simp [List.getD_eq_getElem?_getD, hi']
  · have hi' : i < cs.length := by omega
    simp only [List.getD_eq_getElem?_getD, List.getElem?_map, List.getElem?_eq_getElem hi', Option.map_some, Option.getD_some]
    exact fits_lo8 _
end StrChars.Road
namespace StrChars.Road
open Jvm Sem ClassFile Op Lib Jvm.Stand Jvm.Free Jvm.Free.XT
/-- WHAT COMES BACK, in the writer's own shape -/
def QV (Z : State) (x : Addr) (N : Int32) (bs : List Int32) (h : Heap) (n0 : Nat) (v : Option Value) (h' : Heap) (L : List Loc) : Prop := v = none ∧ RoadKit.Fr n0 L ∧ RoadKit.Keep h h' [x] ∧ RoadKit.Exa Z h' x ST ∧ RoadKit.Fld Z h' x ST "coder" "B" (.int 0) ∧
  ∃ (t : Addr) (kb : ClassId), n0 ≤ t ∧ h.size ≤ t ∧ ¬ t = x ∧ RoadKit.Fld Z h' x ST "value" "[B" (.ref t) ∧ RoadKit.Arv Z h' t kb .byte N (bs.map Value.int) (.int 0)
/-- **new String(chars) AT A CALL, FOR THE WRITER**: a char[] of n known ints, each 0 to 255 -/
theorem backV {p : Program} {l : Launch} {e : Env} {R : Room} {s : State} {args : Array Value} {below : List Frame} {len W : Nat} {Z : State} {a0 : Array Value} {h : Heap} (hZ : Z.Warmed39 s.vm) (hw : ∀ d ∈ words, d.before a0 Z = true) {kI : Nat} (wi : (Jvm.Cond.instantiable ST kI).before a0 Z = true)
    {x b : Addr} {kC : ClassId} {cs bs : List Int32} {d v0 c0 : Value} {z N : Int32} {n n0 : Nat} (hx0 : n0 ≤ x) (hh0 : n0 ≤ h.size) (E : RoadKit.Exa Z h x ST) (V : RoadKit.Fld Z h x ST "value" "[B" v0) (C : RoadKit.Fld Z h x ST "coder" "B" c0) (K : RoadKit.Arv Z h b kC .char N (cs.map Value.int) d) (S : RoadKit.Sta Z h ST "COMPACT_STRINGS" "Z" (.int z)) (hz : ¬ z = 0)
    (hn : cs.length = n) (hN : N = Int32.ofNat n) (l0 : 0 < n) (l2 : n ≤ 4000) (hp : ∀ c ∈ cs, ¬ c < 0 ∧ ¬ (255 : Int32) < c) (hb : bs = cs.map (fun c => c.toInt8.toInt32)) (hfr : 4 ≤ R.frames) (hlo : W + 65 ≤ R.locals) :
    Back l R p e below s args (⟨"java/lang/String", "<init>", "([C)V"⟩ : MethodName) len W (fun P a => a = #[.ref x, .ref b] ∧ P.U.heap = h ∧ P.cells + 1 ≤ R.cells ∧ P.slots + n ≤ R.slots)
      (fun P _ v B => ∃ L, QV Z x N bs h n0 v B.U.heap L ∧ B.locs = P.locs ++ L ∧ B.cells = P.cells + 1 ∧ B.slots = P.slots + n) := by
  subst hn hN hb
  refine Back.mono (backArv hZ hw wi E V C K S hz (n32 (by omega)) l0 (by omega) (fun c hc => (hp c hc).2) hfr hlo) (fun P a hp => hp) (fun P a v B hp hq => ?_)
  obtain ⟨L, ⟨q1, q2, q3, q4, q5, q6, q7, ⟨kb, v1, v2⟩, q9⟩, hl, hc, hs⟩ := hq
  exact ⟨L, ⟨q1, fun y hy => by rw [q2 y hy]; exact hx0, q3, q5, q7, h.size, kb, hh0, Nat.le_refl _, Nat.ne_of_gt E.lt, q6, by rw [List.map_map]; exact v2⟩, hl, hc, hs⟩
end StrChars.Road
end Jvm.Pilot.@@N@@
namespace Jvm.Pilot.@@N@@
open Jvm Jvm.ClassFile Sem Op Lib Jvm.Free Jvm.Stand Jvm.LawKit Jvm.RoadKit Bundle Jvm.Pilot.@@N@@.Jvm.D
theorem own_k {Z : State} {a0 : Array Value} (hw : ∀ d ∈ tables_1, d.before a0 Z = true) {d : Jvm.Cond} (i : Nat) (h : tables_1[i]? = some d) : d.before a0 Z = true := hw d (List.mem_of_getElem? h)
theorem own_nn32 {n : Nat} (h : n < 2147483648) : ¬ Int32.ofNat n < 0 := by
  rw [Int32.lt_iff_toInt_lt, Int32.toInt_ofNat_of_lt (by omega), show (0 : Int32).toInt = 0 from rfl]
  omega
/-- from here the run ends as F says -/
def own_G (p : Program) (e : Env) (below : List Frame) (T : State) (g : JFrame) (F : State → Prop) : Prop := ∃ s₂, Steps p.tables e below (T.setTop g) s₂ ∧ F s₂
theorem own_st {p : Program} {e : Env} {below : List Frame} {T T' : State} {g g' : JFrame} {F : State → Prop} (h : ∀ target, Steps p.tables e below (T'.setTop g') target → Steps p.tables e below (T.setTop g) target) (k : own_G p e below T' g' F) : own_G p e below T g F := by
  obtain ⟨s2, a, b⟩ := k
  exact ⟨s2, h _ a, b⟩
theorem own_tr {p : Program} {e : Env} {below : List Frame} {T T' : State} {g g' : JFrame} {F : State → Prop} (h : Steps p.tables e below (T.setTop g) (T'.setTop g')) (k : own_G p e below T' g' F) : own_G p e below T g F := by
  obtain ⟨s2, a, b⟩ := k
  exact ⟨s2, h.trans a, b⟩
theorem own_end {p : Program} {e : Env} {below : List Frame} {T s2 : State} {g : JFrame} {F : State → Prop} (h : Steps p.tables e below (T.setTop g) s2) (k : F s2) : own_G p e below T g F := ⟨s2, h, k⟩
theorem own_join {α : Type} {p : Program} {e : Env} {below : List Frame} {T : State} {g : JFrame} {gj : α → JFrame} {P : α → Prop} {F : State → Prop} (k : ∀ q, P q → own_G p e below T (gj q) F) (h : (∀ q, P q → own_G p e below T (gj q) F) → own_G p e below T g F) : own_G p e below T g F := h k
abbrev own_E (s : State) (below : List Frame) (R : Room) (Q : Option Value → Heap → List Loc → Prop) : State → Prop := fun s₂ => ∃ o, s₂.status = .running ∧ Ended s₂ below o ∧ ∃ v L, o = .returned v ∧ Q v s₂.heap L ∧ FrameEnd s o s₂ L R.cells R.slots
abbrev own_EndW (s : State) (below : List Frame) (R : Room) (Q : Option Value → Heap → List Loc → Prop) : State → Prop := fun s₂ => ∃ o, s₂.status = .running ∧ Ended s₂ below o ∧ ∃ v L, o = .returned v ∧ Q v s₂.heap L ∧ ReturnedEndW s o s₂ L R.cells R.slots
abbrev own_EndH (Z : State) (EL : List (String × Nat)) (s : State) (below : List Frame) (R : Room) (Q : Option Value → Heap → List Loc → Prop) : State → Prop := fun s₂ => ∃ o, s₂.status = .running ∧ Ended s₂ below o ∧ ∃ v L, o = .returned v ∧ Q v s₂.heap L ∧ CHr Z EL s.vm s.heap s₂.vm s₂.heap ∧ ReturnedEndW s o s₂ L R.cells R.slots
abbrev own_M (l : Launch) (y : MethodName) (bs : ByteArray) (ml : Nat) (rt : Option FieldType) (ws : List Jvm.Cond) (R : Room) (as' : Array Value) (Z : State) (h0 : Heap) (Q : Option Value → Heap → List Loc → Prop) : Prop :=
  MetFree l y (head1 (Jvm.Cond.code y bs ml rt :: ws) R) (fun av U => av = as' ∧ Z.Warmed39 U.vm ∧ U.heap = h0) (fun _ _ _ _ _ => True) (fun _ U o U' => ∃ v L, o = .returned v ∧ Q v U'.heap L ∧ FrameEnd U o U' L R.cells R.slots)
abbrev own_MW (l : Launch) (y : MethodName) (bs : ByteArray) (ml : Nat) (rt : Option FieldType) (ws : List Jvm.Cond) (R : Room) (as' : Array Value) (Z : State) (h0 : Heap) (Q : Option Value → Heap → List Loc → Prop) : Prop :=
  MetFree l y (head1 (Jvm.Cond.code y bs ml rt :: ws) R) (fun av U => av = as' ∧ Z.Warmed39 U.vm ∧ U.heap = h0) (fun _ _ _ _ _ => True) (fun _ U o U' => ∃ v L, o = .returned v ∧ Q v U'.heap L ∧ ReturnedEndW U o U' L R.cells R.slots)
abbrev own_MH (EL : List (String × Nat)) (l : Launch) (y : MethodName) (bs : ByteArray) (ml : Nat) (rt : Option FieldType) (ws : List Jvm.Cond) (R : Room) (as' : Array Value) (Z : State) (h0 : Heap) (Q : Option Value → Heap → List Loc → Prop) : Prop :=
  MetFree l y (head1 (Jvm.Cond.code y bs ml rt :: ws) R) (fun av U => av = as' ∧ Z.Warmed39 U.vm ∧ U.heap = h0 ∧ CHv Z EL U.vm h0) (fun _ _ _ _ _ => True) (fun _ U o U' => ∃ v L, o = .returned v ∧ Q v U'.heap L ∧ CHr Z EL U.vm U.heap U'.vm U'.heap ∧ ReturnedEndW U o U' L R.cells R.slots)
theorem own_go {l : Launch} {y : MethodName} {bs : ByteArray} {ml : Nat} {rt : Option FieldType} {ws : List Jvm.Cond} {R : Room} {as' : Array Value} {Z : State} {h0 : Heap} {Q : Option Value → Heap → List Loc → Prop} (hpn : plainFor y = true) {ff : MethodId → JFrame} (hff : ∀ m, entryFrame m as' ml = ff m)
    (body : ∀ p e s m below meth c s₁, BodyLoose p l y (head1 (Jvm.Cond.code y bs ml rt :: ws) R) bs ml rt e s m as' below meth c s₁ → p.tables.exec = Jvm.exec → c.code = bs → c.maxLocals = ml → Z.Warmed39 s.vm → s.heap = h0 → s.vm.findClass y.cls = some m.cls → meth.name = y.name → Stand p l e R s m as' below meth c s₁ [] 0 0 → s₁.heap = h0 → own_G p e below s₁ (ff m) (own_E s below R Q)) : own_M l y bs ml rt ws R as' Z h0 Q := by
  refine MetFree.of_bodySF hpn hisR ?_
  intro p e s m args below meth c s₁ Bd hml0 hP hK
  obtain ⟨rfl, hZ, hh⟩ := hP
  obtain ⟨s2, g1, o, g2⟩ := body p e s m below meth c s₁ Bd Bd.exec Bd.bytes hml0 hZ hh (findClass_of_methodNamed Bd.named) (name_of_methodNamed Bd.named Bd.method).1 (Stand.of_body Bd) (by rw [← hh, Bd.state]; rfl)
  exact ⟨s2, o, castTop (hff m) g1, g2⟩
theorem own_goW {l : Launch} {y : MethodName} {bs : ByteArray} {ml : Nat} {rt : Option FieldType} {ws : List Jvm.Cond} {R : Room} {as' : Array Value} {Z : State} {h0 : Heap} {Q : Option Value → Heap → List Loc → Prop} (hpn : plainFor y = true) {ff : MethodId → JFrame} (hff : ∀ m, entryFrame m as' ml = ff m)
    (body : ∀ p e s m below meth c s₁, BodyLoose p l y (head1 (Jvm.Cond.code y bs ml rt :: ws) R) bs ml rt e s m as' below meth c s₁ → p.tables.exec = Jvm.exec → c.code = bs → c.maxLocals = ml → Z.Warmed39 s.vm → s.heap = h0 → s.vm.findClass y.cls = some m.cls → meth.name = y.name → Stand p l e R (s.setVm s.vm) m as' below meth c s₁ [] 0 0 → s₁.heap = h0 → s.Since s.vm h0.size → own_G p e below s₁ (ff m) (own_EndW s below R Q)) : own_MW l y bs ml rt ws R as' Z h0 Q := by
  refine MetFree.of_bodySF hpn hisR ?_
  intro p e s m args below meth c s₁ Bd hml0 hP hK
  obtain ⟨rfl, hZ, hh⟩ := hP
  obtain ⟨s2, g1, o, g2⟩ := body p e s m below meth c s₁ Bd Bd.exec Bd.bytes hml0 hZ hh (findClass_of_methodNamed Bd.named) (name_of_methodNamed Bd.named Bd.method).1 (Stand.of_body Bd) (by rw [← hh, Bd.state]; rfl) ((State.WarmedH.refl s).since _)
  exact ⟨s2, o, castTop (hff m) g1, g2⟩
theorem own_goH {EL : List (String × Nat)} {l : Launch} {y : MethodName} {bs : ByteArray} {ml : Nat} {rt : Option FieldType} {ws : List Jvm.Cond} {R : Room} {as' : Array Value} {Z : State} {h0 : Heap} {Q : Option Value → Heap → List Loc → Prop} (hpn : plainFor y = true) {ff : MethodId → JFrame} (hff : ∀ m, entryFrame m as' ml = ff m)
    (body : ∀ p e s m below meth c s₁, BodyLoose p l y (head1 (Jvm.Cond.code y bs ml rt :: ws) R) bs ml rt e s m as' below meth c s₁ → p.tables.exec = Jvm.exec → c.code = bs → c.maxLocals = ml → Z.Warmed39 s.vm → s.heap = h0 → s.vm.findClass y.cls = some m.cls → meth.name = y.name → Stand p l e R (s.setVm s.vm) m as' below meth c s₁ [] 0 0 → s₁.heap = h0 → s.Since s.vm h0.size → CHr Z EL s.vm h0 s.vm h0 → own_G p e below s₁ (ff m) (own_EndH Z EL s below R Q)) : own_MH EL l y bs ml rt ws R as' Z h0 Q := by
  refine MetFree.of_bodySF hpn hisR ?_
  intro p e s m args below meth c s₁ Bd hml0 hP hK
  obtain ⟨rfl, hZ, hh, hCH⟩ := hP
  obtain ⟨s2, g1, o, g2⟩ := body p e s m below meth c s₁ Bd Bd.exec Bd.bytes hml0 hZ hh (findClass_of_methodNamed Bd.named) (name_of_methodNamed Bd.named Bd.method).1 (Stand.of_body Bd) (by rw [← hh, Bd.state]; rfl) ((State.WarmedH.refl s).since _) (CHr.refl hCH)
  exact ⟨s2, o, castTop (hff m) g1, g2⟩
theorem own_pop2 {tb : Tables} [Ours tb] {e : Env} {below : List Frame} {T target : State} {m : MethodId} {c : Code} {g : JFrame} (h : At T m c below) (hx : tb.exec = Jvm.exec) (hg : g.method = m) {x : Value} {rest : List Value} (hd : decode c.code g.pc = .ok (.pop2, 1)) (hs : g.stack = x :: rest) (hc : x.category = 2)
    (hr : Steps tb e below (T.setTop { g with pc := g.pc + 1, stack := rest }) target) : Steps tb e below (T.setTop g) target := by
  subst hg
  jvm_step h [h.top, hx, hd, hs, hc]
  exact hr
theorem own_w0 {g : JFrame} {rest : List Value} {W : Nat} (h : g.monitorRoom = 0) (k : (rest.map fun v => v.category).sum = W) : 2 * g.monitorRoom + (rest.map fun v => v.category).sum ≤ W := by
  rw [h, k]; omega
section Own
variable {p : Program} {l : Launch} {e : Env} {R : Room} {s : State} {m : MethodId} {args : Array Value} {below : List Frame} {meth : Method} {c : Code} {T : State} {locs : List Loc} {cells slots : Nat} {Z : State} {h h' : Heap} {a : Addr} {k : ClassId} {ty : FieldType} {z j : Int32} {vs : List Value} {d v : Value} {g : JFrame} {rest : List Value}
theorem own_joinT {α : Type} {gj : α → JFrame} {P : α → Prop} {F : State → Prop} (X : Stand p l e R s m args below meth c T locs cells slots) (eT : T.heap = h)
    (k : ∀ T' q, P q → Stand p l e R s m args below meth c T' locs cells slots → T'.heap = h → own_G p e below T' (gj q) F) (r : (∀ T' q, P q → Stand p l e R s m args below meth c T' locs cells slots → T'.heap = h → own_G p e below T' (gj q) F) → own_G p e below T g F) : own_G p e below T g F := r k
theorem own_loop {α : Type} {gj : α → JFrame} {P : Nat → α → Prop} {F : State → Prop} (X : Stand p l e R s m args below meth c T locs cells slots) (eT : T.heap = h)
    (k : ∀ n, (∀ i, i < n → ∀ T' q, P i q → Stand p l e R s m args below meth c T' locs cells slots → T'.heap = h → own_G p e below T' (gj q) F) → ∀ T' q, P n q → Stand p l e R s m args below meth c T' locs cells slots → T'.heap = h → own_G p e below T' (gj q) F)
    (r : (∀ n T' q, P n q → Stand p l e R s m args below meth c T' locs cells slots → T'.heap = h → own_G p e below T' (gj q) F) → own_G p e below T g F) : own_G p e below T g F :=
  r fun n => Nat.strongRecOn n fun n ih => k n ih
theorem own_joinH {α : Type} {gj : α → JFrame} {P : List Loc → Heap → α → Prop} {F : State → Prop} {cells' slots' : Nat} (X : Stand p l e R s m args below meth c T locs cells slots)
    (k : ∀ T' L h' q, P L h' q → Stand p l e R s m args below meth c T' L cells' slots' → T'.heap = h' → own_G p e below T' (gj q) F) (r : (∀ T' L h' q, P L h' q → Stand p l e R s m args below meth c T' L cells' slots' → T'.heap = h' → own_G p e below T' (gj q) F) → own_G p e below T g F) : own_G p e below T g F := r k
theorem own_joinHV {α : Type} {gj : α → JFrame} {P : Vm → Nat → List Loc → Heap → α → Prop} {F : State → Prop} {cells' slots' : Nat} {vm0 : Vm} (X : Stand p l e R (s.setVm vm0) m args below meth c T locs cells slots)
    (k : ∀ vm1 k1 T' L h' q, P vm1 k1 L h' q → Stand p l e R (s.setVm vm1) m args below meth c T' L cells' slots' → T'.heap = h' → own_G p e below T' (gj q) F) (r : (∀ vm1 k1 T' L h' q, P vm1 k1 L h' q → Stand p l e R (s.setVm vm1) m args below meth c T' L cells' slots' → T'.heap = h' → own_G p e below T' (gj q) F) → own_G p e below T g F) : own_G p e below T g F := r k
theorem own_alen (X : Stand p l e R s m args below meth c T locs cells slots) (hx : p.tables.exec = Jvm.exec) (hZ : Z.Warmed39 s.vm) (eT : T.heap = h) (F : Arv Z h a k ty z vs d) (hg : g.method = m) (hs : g.stack = .ref a :: rest) (hd : decode c.code g.pc = .ok (.arraylength, 1)) :
    ∀ target, Steps p.tables e below (T.setTop { g with pc := g.pc + 1, stack := .int z :: rest }) target → Steps p.tables e below (T.setTop g) target := by
  obtain ⟨cl, A, -, S, M, -⟩ := F
  intro target hr
  refine X.arraylength hx (cell := cl) (by rw [eT]; exact A.1) (State.isArrayOf_alike hZ.alike A.2.1) hg hs hd target ?_
  rw [len_of S M]; exact hr
theorem own_ial (X : Stand p l e R s m args below meth c T locs cells slots) (hx : p.tables.exec = Jvm.exec) (hZ : Z.Warmed39 s.vm) (eT : T.heap = h) (F : Arv Z h a k .int z vs d) (hj : ¬ j < 0 ∧ j < z) (hv : vs.getD j.toNatClampNeg d = v) (hg : g.method = m) (hs : g.stack = .int j :: .ref a :: rest) (hd : decode c.code g.pc = .ok (.iaload, 1)) :
    ∀ target, Steps p.tables e below (T.setTop { g with pc := g.pc + 1, stack := v :: rest }) target → Steps p.tables e below (T.setTop g) target := by
  obtain ⟨cl, A, -, S, M, H, -⟩ := F
  intro target hr
  exact X.iaload hx (by rw [eT]; exact A.1) (State.isArrayOf_alike hZ.alike A.2.1) A.2.2 (inb_of S hj) (H.at (inb_of S hj) hv) hg hs hd target hr
theorem own_cal (X : Stand p l e R s m args below meth c T locs cells slots) (hx : p.tables.exec = Jvm.exec) (hZ : Z.Warmed39 s.vm) (eT : T.heap = h) (F : Arv Z h a k .char z vs d) (hj : ¬ j < 0 ∧ j < z) (hv : vs.getD j.toNatClampNeg d = v) (hg : g.method = m) (hs : g.stack = .int j :: .ref a :: rest) (hd : decode c.code g.pc = .ok (.caload, 1)) :
    ∀ target, Steps p.tables e below (T.setTop { g with pc := g.pc + 1, stack := v :: rest }) target → Steps p.tables e below (T.setTop g) target := by
  obtain ⟨cl, A, -, S, M, H, -⟩ := F
  intro target hr
  exact X.caload hx (by rw [eT]; exact A.1) (State.isArrayOf_alike hZ.alike A.2.1) A.2.2 (inb_of S hj) (H.at (inb_of S hj) hv) hg hs hd target hr
theorem own_bal (X : Stand p l e R s m args below meth c T locs cells slots) (hx : p.tables.exec = Jvm.exec) (hZ : Z.Warmed39 s.vm) (eT : T.heap = h) (F : Arv Z h a k .byte z vs d) (hj : ¬ j < 0 ∧ j < z) (hv : vs.getD j.toNatClampNeg d = v) (hg : g.method = m) (hs : g.stack = .int j :: .ref a :: rest) (hd : decode c.code g.pc = .ok (.baload, 1)) :
    ∀ target, Steps p.tables e below (T.setTop { g with pc := g.pc + 1, stack := v :: rest }) target → Steps p.tables e below (T.setTop g) target := by
  obtain ⟨cl, A, -, S, M, H, -⟩ := F
  intro target hr
  exact X.baloadBytes hx (by rw [eT]; exact A.1) (State.isArrayOf_alike hZ.alike A.2.1) A.2.2 (inb_of S hj) (H.at (inb_of S hj) hv) hg hs hd target hr
theorem own_lal (X : Stand p l e R s m args below meth c T locs cells slots) (hx : p.tables.exec = Jvm.exec) (hZ : Z.Warmed39 s.vm) (eT : T.heap = h) (F : Arv Z h a k .long z vs d) (hj : ¬ j < 0 ∧ j < z) (hv : vs.getD j.toNatClampNeg d = v) (hg : g.method = m) (hs : g.stack = .int j :: .ref a :: rest) (hd : decode c.code g.pc = .ok (.laload, 1)) :
    ∀ target, Steps p.tables e below (T.setTop { g with pc := g.pc + 1, stack := v :: rest }) target → Steps p.tables e below (T.setTop g) target := by
  obtain ⟨cl, A, -, S, M, H, -⟩ := F
  intro target hr
  exact X.laload hx (by rw [eT]; exact A.1) (State.isArrayOf_alike hZ.alike A.2.1) A.2.2 (inb_of S hj) (H.at (inb_of S hj) hv) hg hs hd target hr
theorem own_dal (X : Stand p l e R s m args below meth c T locs cells slots) (hx : p.tables.exec = Jvm.exec) (hZ : Z.Warmed39 s.vm) (eT : T.heap = h) (F : Arv Z h a k .double z vs d) (hj : ¬ j < 0 ∧ j < z) (hv : vs.getD j.toNatClampNeg d = v) (hg : g.method = m) (hs : g.stack = .int j :: .ref a :: rest) (hd : decode c.code g.pc = .ok (.daload, 1)) :
    ∀ target, Steps p.tables e below (T.setTop { g with pc := g.pc + 1, stack := v :: rest }) target → Steps p.tables e below (T.setTop g) target := by
  obtain ⟨cl, A, -, S, M, H, -⟩ := F
  intro target hr
  exact X.daload hx (by rw [eT]; exact A.1) (State.isArrayOf_alike hZ.alike A.2.1) A.2.2 (inb_of S hj) (H.at (inb_of S hj) hv) hg hs hd target hr
theorem own_aal (X : Stand p l e R s m args below meth c T locs cells slots) (hx : p.tables.exec = Jvm.exec) (hZ : Z.Warmed39 s.vm) (eT : T.heap = h) (F : Arv Z h a k ty z vs d) (hty : ty.isReference = true) (hj : ¬ j < 0 ∧ j < z) (hv : vs.getD j.toNatClampNeg d = v) (hg : g.method = m) (hs : g.stack = .int j :: .ref a :: rest) (hd : decode c.code g.pc = .ok (.aaload, 1)) :
    ∀ target, Steps p.tables e below (T.setTop { g with pc := g.pc + 1, stack := v :: rest }) target → Steps p.tables e below (T.setTop g) target := by
  obtain ⟨cl, A, -, S, M, H, -⟩ := F
  intro target hr
  exact X.aaload hx (by rw [eT]; exact A.1) (State.isArrayOf_alike hZ.alike A.2.1) hty A.2.2 (inb_of S hj) (H.at (inb_of S hj) hv) hg hs hd target hr
theorem own_ist (X : Stand p l e R s m args below meth c T locs cells slots) (hx : p.tables.exec = Jvm.exec) (hZ : Z.Warmed39 s.vm) (eT : T.heap = h) (F : Arv Z h a k .int z vs d) (hj : ¬ j < 0 ∧ j < z) {i : Nat} (hi : j.toNatClampNeg = i) (hl : i < vs.length) {x : Int32} (hg : g.method = m) (hs : g.stack = .int x :: .int j :: .ref a :: rest) (hd : decode c.code g.pc = .ok (.iastore, 1)) :
    ∃ T' h', Stand p l e R s m args below meth c T' (locs ++ [⟨a, j.toNatClampNeg⟩]) cells slots ∧ T'.heap = h' ∧ Wr h h' a j.toNatClampNeg (.int x) ∧ Arv Z h' a k .int z (vs.set i (.int x)) d ∧ ∀ target, Steps p.tables e below (T'.setTop { g with pc := g.pc + 1, stack := rest }) target → Steps p.tables e below (T.setTop g) target := by
  obtain ⟨cl, A, q, S, M, H, G⟩ := F
  obtain ⟨T', h', X', e', W, st⟩ := stI X hx hZ eT A (inb_of S hj) hg hs hd
  exact ⟨T', h', X', e', W, Arv.set A q S M H G rfl W i hi hl, st⟩
theorem own_lst (X : Stand p l e R s m args below meth c T locs cells slots) (hx : p.tables.exec = Jvm.exec) (hZ : Z.Warmed39 s.vm) (eT : T.heap = h) (F : Arv Z h a k .long z vs d) (hj : ¬ j < 0 ∧ j < z) {i : Nat} (hi : j.toNatClampNeg = i) (hl : i < vs.length) {x : Int64} (hg : g.method = m) (hs : g.stack = .long x :: .int j :: .ref a :: rest) (hd : decode c.code g.pc = .ok (.lastore, 1)) :
    ∃ T' h', Stand p l e R s m args below meth c T' (locs ++ [⟨a, j.toNatClampNeg⟩]) cells slots ∧ T'.heap = h' ∧ Wr h h' a j.toNatClampNeg (.long x) ∧ Arv Z h' a k .long z (vs.set i (.long x)) d ∧ ∀ target, Steps p.tables e below (T'.setTop { g with pc := g.pc + 1, stack := rest }) target → Steps p.tables e below (T.setTop g) target := by
  obtain ⟨cl, A, q, S, M, H, G⟩ := F
  obtain ⟨T', h', X', e', W, st⟩ := stJ X hx hZ eT A (inb_of S hj) hg hs hd
  exact ⟨T', h', X', e', W, Arv.set A q S M H G rfl W i hi hl, st⟩
theorem own_dst (X : Stand p l e R s m args below meth c T locs cells slots) (hx : p.tables.exec = Jvm.exec) (hZ : Z.Warmed39 s.vm) (eT : T.heap = h) (F : Arv Z h a k .double z vs d) (hj : ¬ j < 0 ∧ j < z) {i : Nat} (hi : j.toNatClampNeg = i) (hl : i < vs.length) {x : UInt64} (hg : g.method = m) (hs : g.stack = .double x :: .int j :: .ref a :: rest) (hd : decode c.code g.pc = .ok (.dastore, 1)) :
    ∃ T' h', Stand p l e R s m args below meth c T' (locs ++ [⟨a, j.toNatClampNeg⟩]) cells slots ∧ T'.heap = h' ∧ Wr h h' a j.toNatClampNeg (.double x) ∧ Arv Z h' a k .double z (vs.set i (.double x)) d ∧ ∀ target, Steps p.tables e below (T'.setTop { g with pc := g.pc + 1, stack := rest }) target → Steps p.tables e below (T.setTop g) target := by
  obtain ⟨cl, A, q, S, M, H, G⟩ := F
  obtain ⟨T', h', X', e', W, st⟩ := stD X hx hZ eT A (inb_of S hj) hg hs hd
  exact ⟨T', h', X', e', W, Arv.set A q S M H G rfl W i hi hl, st⟩
theorem own_cst (X : Stand p l e R s m args below meth c T locs cells slots) (hx : p.tables.exec = Jvm.exec) (hZ : Z.Warmed39 s.vm) (eT : T.heap = h) (F : Arv Z h a k .char z vs d) (hj : ¬ j < 0 ∧ j < z) {i : Nat} (hi : j.toNatClampNeg = i) (hl : i < vs.length) {x y : Int32} (hn : nar .char x = y) (hg : g.method = m) (hs : g.stack = .int x :: .int j :: .ref a :: rest) (hd : decode c.code g.pc = .ok (.castore, 1)) :
    ∃ T' h', Stand p l e R s m args below meth c T' (locs ++ [⟨a, j.toNatClampNeg⟩]) cells slots ∧ T'.heap = h' ∧ Wr h h' a j.toNatClampNeg (.int y) ∧ Arv Z h' a k .char z (vs.set i (.int y)) d ∧ ∀ target, Steps p.tables e below (T'.setTop { g with pc := g.pc + 1, stack := rest }) target → Steps p.tables e below (T.setTop g) target := by
  obtain ⟨cl, A, q, S, M, H, G⟩ := F
  obtain ⟨T', h', X', e', W, st⟩ := stC X hx hZ eT A (inb_of S hj) hg hs hd
  rw [hn] at W
  exact ⟨T', h', X', e', W, Arv.set A q S M H G (by rw [← hn]; exact fits_nar_char x) W i hi hl, st⟩
theorem own_bst (X : Stand p l e R s m args below meth c T locs cells slots) (hx : p.tables.exec = Jvm.exec) (hZ : Z.Warmed39 s.vm) (eT : T.heap = h) (F : Arv Z h a k .byte z vs d) (hj : ¬ j < 0 ∧ j < z) {i : Nat} (hi : j.toNatClampNeg = i) (hl : i < vs.length) {x y : Int32} (hn : nar .byte x = y) (hg : g.method = m) (hs : g.stack = .int x :: .int j :: .ref a :: rest) (hd : decode c.code g.pc = .ok (.bastore, 1)) :
    ∃ T' h', Stand p l e R s m args below meth c T' (locs ++ [⟨a, j.toNatClampNeg⟩]) cells slots ∧ T'.heap = h' ∧ Wr h h' a j.toNatClampNeg (.int y) ∧ Arv Z h' a k .byte z (vs.set i (.int y)) d ∧ ∀ target, Steps p.tables e below (T'.setTop { g with pc := g.pc + 1, stack := rest }) target → Steps p.tables e below (T.setTop g) target := by
  obtain ⟨cl, A, q, S, M, H, G⟩ := F
  obtain ⟨T', h', X', e', W, st⟩ := stB X hx hZ eT A (inb_of S hj) hg hs hd
  rw [hn] at W
  exact ⟨T', h', X', e', W, Arv.set A q S M H G (by rw [← hn]; exact fits_nar_byte x) W i hi hl, st⟩
theorem own_ast (X : Stand p l e R s m args below meth c T locs cells slots) (hx : p.tables.exec = Jvm.exec) (hZ : Z.Warmed39 s.vm) (eT : T.heap = h) (F : Arv Z h a k ty z vs d) (hty : ty.isReference = true) (hj : ¬ j < 0 ∧ j < z) {i : Nat} (hi : j.toNatClampNeg = i) (hl : i < vs.length) (hv : fits ty v = true) (Q : Sto Z h a v) (hg : g.method = m) (hs : g.stack = v :: .int j :: .ref a :: rest) (hd : decode c.code g.pc = .ok (.aastore, 1)) :
    ∃ T' h', Stand p l e R s m args below meth c T' (locs ++ [⟨a, j.toNatClampNeg⟩]) cells slots ∧ T'.heap = h' ∧ Wr h h' a j.toNatClampNeg v ∧ Arv Z h' a k ty z (vs.set i v) d ∧ ∀ target, Steps p.tables e below (T'.setTop { g with pc := g.pc + 1, stack := rest }) target → Steps p.tables e below (T.setTop g) target := by
  obtain ⟨cl, A, q, S, M, H, G⟩ := F
  obtain ⟨T', h', X', e', W, st⟩ := stR X hx hZ eT A (inb_of S hj) hty Q hg hs hd
  exact ⟨T', h', X', e', W, Arv.set A q S M H G hv W i hi hl, st⟩
theorem own_retJ (X : Stand p l e R s m args below meth c T locs cells slots) (hx : p.tables.exec = Jvm.exec) {pc : Nat} {Ls : Array Slot} {w : Int64} (hret : meth.sig.returnType = some .long) (hd : decode c.code pc = .ok (.lreturn, 1)) {fs : List Frame}
    (hl : ∀ (f : JFrame) (acts : List Action), f.method = m → f.locked = none → f.entered = [] → (doReturn e (T.setTop f) acts (some (.long w))).1 = T.setFrames fs) : Steps p.tables e below (T.setTop (mkF m pc Ls (.long w :: rest))) (T.setFrames fs) :=
  retOut X hx hret rfl (Or.inr (Or.inl ⟨rfl, rfl, w, rfl⟩)) hd hl
theorem own_retD (X : Stand p l e R s m args below meth c T locs cells slots) (hx : p.tables.exec = Jvm.exec) {pc : Nat} {Ls : Array Slot} {w : UInt64} (hret : meth.sig.returnType = some .double) (hd : decode c.code pc = .ok (.dreturn, 1)) {fs : List Frame}
    (hl : ∀ (f : JFrame) (acts : List Action), f.method = m → f.locked = none → f.entered = [] → (doReturn e (T.setTop f) acts (some (.double w))).1 = T.setFrames fs) : Steps p.tables e below (T.setTop (mkF m pc Ls (.double w :: rest))) (T.setFrames fs) :=
  retOut X hx hret rfl (Or.inr (Or.inr (Or.inl ⟨rfl, rfl, w, rfl⟩))) hd hl
theorem own_retI (X : Stand p l e R s m args below meth c T locs cells slots) (hx : p.tables.exec = Jvm.exec) {pc : Nat} {Ls : Array Slot} {w : Int32} (hret : meth.sig.returnType = some .int) (hd : decode c.code pc = .ok (.ireturn, 1)) {fs : List Frame}
    (hl : ∀ (f : JFrame) (acts : List Action), f.method = m → f.locked = none → f.entered = [] → (doReturn e (T.setTop f) acts (some (.int w))).1 = T.setFrames fs) : Steps p.tables e below (T.setTop (mkF m pc Ls (.int w :: rest))) (T.setFrames fs) :=
  retOut X hx hret rfl (Or.inl ⟨rfl, Or.inl rfl, w, rfl⟩) hd hl
theorem own_retA (X : Stand p l e R s m args below meth c T locs cells slots) (hx : p.tables.exec = Jvm.exec) {pc : Nat} {Ls : Array Slot} {w : Value} {t : FieldType} (hret : meth.sig.returnType = some t) (ht : t.isReference = true) (hn : narrow t w = w) (hw : w.isRef = true) (hd : decode c.code pc = .ok (.areturn, 1)) {fs : List Frame}
    (hl : ∀ (f : JFrame) (acts : List Action), f.method = m → f.locked = none → f.entered = [] → (doReturn e (T.setTop f) acts (some w)).1 = T.setFrames fs) : Steps p.tables e below (T.setTop (mkF m pc Ls (w :: rest))) (T.setFrames fs) :=
  retOut X hx hret hn (Or.inr (Or.inr (Or.inr (Or.inr ⟨rfl, ht, hw⟩)))) hd hl
end Own
set_option maxRecDepth 65536
set_option maxHeartbeats 40000000
abbrev yN0 : MethodName := ⟨"java/lang/String", "charAt", "(I)C"⟩
abbrev yN1 : MethodName := ⟨"java/util/ArrayList", "add", "(Ljava/lang/Object;)Z"⟩
abbrev yN2 : MethodName := ⟨"java/lang/String", "equals", "(Ljava/lang/Object;)Z"⟩
abbrev yN3 : MethodName := ⟨"com/example/tourwerk/tourwerk/problem/SolomonReader", "recognises", "(Ljava/util/List;)Z"⟩
abbrev yN4 : MethodName := ⟨"java/lang/StringLatin1", "equals", "([B[B)Z"⟩
abbrev yN5 : MethodName := ⟨"java/util/ArrayList", "add", "(Ljava/lang/Object;[Ljava/lang/Object;I)V"⟩
abbrev yN6 : MethodName := ⟨"java/util/ArrayList", "size", "()I"⟩
abbrev yN7 : MethodName := ⟨"jdk/internal/util/Preconditions", "checkIndex", "(IILjava/util/function/BiFunction;)I"⟩
abbrev yN8 : MethodName := ⟨"java/util/ArrayList", "get", "(I)Ljava/lang/Object;"⟩
abbrev yN9 : MethodName := ⟨"java/util/List", "size", "()I"⟩
theorem own_wS {Z : State} {a0 : Array Value} (hw : ∀ d ∈ tables_1, d.before a0 Z = true) : ∀ d ∈ Bundle.stringAtoms, d.before a0 Z = true := by
  intro d hd
  simp only [Bundle.stringAtoms, Bundle.sN, List.mem_cons, List.not_mem_nil, or_false] at hd
  rcases hd with rfl | rfl | rfl | rfl | rfl | rfl | rfl
  · exact own_k hw 4 rfl
  · exact own_k hw 3 rfl
  · exact own_k hw 20 rfl
  · exact own_k hw 30 rfl
  · exact own_k hw 28 rfl
  · exact own_k hw 70 rfl
  · exact own_k hw 71 rfl
def own_EL : List (String × Nat) := [("com/example/tourwerk/tourwerk/problem/SolomonReader", 37), ("com/example/tourwerk/tourwerk/problem/SolomonReaderRecognisesPinLaw", 13), ("com/example/tourwerk/tourwerk/problem/SolomonReaderRecognisesPinLaw", 15)]
theorem own_EW {Z : State} {a0 : Array Value} (hw : ∀ d ∈ tables_1, d.before a0 Z = true) : EW Z a0 own_EL := (EW.cons (own_k hw 156 rfl) (by decide +kernel) (EW.cons (own_k hw 165 rfl) (by decide +kernel) (EW.cons (own_k hw 69 rfl) (by decide +kernel) EW.nil)))
theorem own_safeStr {Z : State} {EL : List (String × Nat)} {vm : Vm} {h : Heap} {x : Addr} (hal : Z.vm.Alike vm) (E : Exa Z h x "java/lang/String") (V : Fld Z h x "java/lang/String" "value" "[B" .null) : Safe Z EL vm h x := fun B => by
  obtain ⟨p, hp, u, a, hb, q, qa, S, hy⟩ := B
  obtain ⟨cS, ⟨⟨s1, s2, s3, ⟨cv, kv, iv, s4, s4'⟩, ⟨cc, kc, ic, s5, s5'⟩, s6, s7, s8, s9, s10, s11, s12, s13, s14, s15, s16⟩, hfS, hcS⟩, -, hB, -⟩ := S
  rcases hy with rfl | rfl
  · obtain ⟨cell, cf, k, i, f, h1, h2, -, -, -, -, h7⟩ := V
    obtain ⟨kv', z4⟩ := ff_back hal s4
    have s1' : h[q.sa]? = some q.sC := s1
    cases h1.symm.trans s1'
    cases h2.symm.trans z4
    cases h7.symm.trans s8
  · obtain ⟨cell, k, h1, h2, h3, -, -⟩ := E
    have s10' : h[q.sd]? = some q.SA := s10
    cases h1.symm.trans s10'
    have hB' : Z.vm.findClass "[B" = some q.SA.cls := by rw [← hal.findClass]; exact hB
    obtain ⟨k1, a1, a2⟩ := Vm.findClass_spec h2
    obtain ⟨k2, b1, b2⟩ := Vm.findClass_spec hB'
    cases a1.symm.trans b1
    exact absurd (a2.symm.trans b2) (by decide)
theorem own_and255 (x : Int32) : ∃ n : Nat, n ≤ 255 ∧ x &&& 255 = Int32.ofNat n := by
  refine ⟨(x &&& 255).toBitVec.toNat, ?_, ?_⟩
  · simp only [Int32.toBitVec_and, BitVec.toNat_and]
    exact Nat.and_le_right
  · apply Int32.toBitVec_inj.mp
    show _ = BitVec.ofNat 32 _
    rw [BitVec.ofNat_toNat]; simp
theorem own_ch (x : Int32) : ¬ (x &&& (255 : Int32)).toUInt32.toUInt16.toUInt32.toInt32 < 0 ∧ ¬ (255 : Int32) < (x &&& (255 : Int32)).toUInt32.toUInt16.toUInt32.toInt32 := by
  rw [i2c_mask]
  obtain ⟨n, h, e⟩ := own_and255 x
  rw [e]
  simp only [Int32.lt_iff_toInt_lt, Int32.toInt_ofNat_of_lt (show n < 2 ^ 31 by omega)]
  have : (255 : Int32).toInt = 255 := rfl; have : (0 : Int32).toInt = 0 := rfl
  omega
theorem own_and3 (x : Int32) : x &&& 3 = 0 ∨ x &&& 3 = 1 ∨ x &&& 3 = 2 ∨ x &&& 3 = 3 := by
  have h : (x &&& 3).toBitVec.toNat ≤ 3 := by
    simp only [Int32.toBitVec_and, BitVec.toNat_and]
    exact Nat.and_le_right
  have e : x &&& 3 = Int32.ofNat (x &&& 3).toBitVec.toNat := by
    apply Int32.toBitVec_inj.mp
    show _ = BitVec.ofNat 32 _
    rw [BitVec.ofNat_toNat]; simp
  rw [e]
  generalize (x &&& 3).toBitVec.toNat = n at h
  match n, h with
  | 0, _ => exact Or.inl rfl
  | 1, _ => exact Or.inr (Or.inl rfl)
  | 2, _ => exact Or.inr (Or.inr (Or.inl rfl))
  | 3, _ => exact Or.inr (Or.inr (Or.inr rfl))
theorem own_three {x : Int32} (h0 : ¬ x &&& 3 = 0) (h1 : ¬ x &&& 3 = 1) (h2 : ¬ x &&& 3 = 2) : x &&& 3 = 3 := by
  rcases own_and3 x with h | h | h | h
  · exact absurd h h0
  · exact absurd h h1
  · exact absurd h h2
  · exact h
theorem own_hws {Z : State} {a0 : Array Value} (hw : ∀ d ∈ tables_1, d.before a0 Z = true) : ∀ d ∈ StrChars.Road.words, d.before a0 Z = true := fun d hd => hw d ((by decide +kernel : ∀ d ∈ StrChars.Road.words, d ∈ tables_1) d hd)
def own_cc (x : Int32) : Prop := ¬ x < 0 ∧ ¬ (255 : Int32) < x ∧ nar .char x = x
theorem own_nar (x : Int32) : nar .char (x &&& (255 : Int32)).toUInt32.toUInt16.toUInt32.toInt32 = (x &&& (255 : Int32)).toUInt32.toUInt16.toUInt32.toInt32 := by simp only [nar, UInt32.toUInt32_toInt32, UInt16.toUInt16_toUInt32]
theorem own_mkc (x : Int32) : own_cc (x &&& (255 : Int32)).toUInt32.toUInt16.toUInt32.toInt32 := ⟨(own_ch x).1, (own_ch x).2, own_nar x⟩
theorem own_b8 : ∀ m : Fin 256, (Int8.ofNat m.val).toInt32 &&& 255 = Int32.ofNat m.val := by decide +kernel
theorem own_i8 (n : Nat) : (Int32.ofNat n).toInt8 = Int8.ofNat (n % 256) := by
  apply Int8.toBitVec_inj.mp
  rw [Int32.toBitVec_toInt8, BitVec.signExtend_eq_setWidth_of_le _ (by decide)]
  apply BitVec.eq_of_toNat_eq
  show ((BitVec.ofNat 32 n).setWidth 8).toNat = (BitVec.ofNat 8 (n % 256)).toNat
  rw [BitVec.toNat_setWidth, BitVec.toNat_ofNat, BitVec.toNat_ofNat]
  omega
theorem own_rt {x : Int32} (h : own_cc x) : x.toInt8.toInt32 &&& 255 = x := by
  obtain ⟨h1, h2, -⟩ := h
  rw [Int32.lt_iff_toInt_lt, show (0 : Int32).toInt = 0 from rfl] at h1
  rw [Int32.lt_iff_toInt_lt, show (255 : Int32).toInt = 255 from rfl] at h2
  have e : x = Int32.ofNat x.toInt.toNat := by
    rw [← Int32.toInt_inj, Int32.toInt_ofNat_of_lt (by omega)]; omega
  rw [e, own_i8, Nat.mod_eq_of_lt (by omega)]
  exact own_b8 ⟨x.toInt.toNat, by omega⟩
theorem own_eqb {x k : Int32} (h : own_cc x) (e : k = x.toInt8.toInt32) (hk : k &&& 255 = k) : x = k := by
  have := own_rt h
  rw [← e, hk] at this; exact this.symm
def own_q8 (x : Int32) : Prop := x = 0 ∨ x = 1 ∨ x = 2 ∨ x = 3 ∨ x = 4 ∨ x = 5 ∨ x = 6 ∨ x = 7
theorem own_and7 (x : Int32) : own_q8 (x &&& (7 : Int32)) := by
  have h : (x &&& 7).toBitVec.toNat ≤ 7 := by
    simp only [Int32.toBitVec_and, BitVec.toNat_and]
    exact Nat.and_le_right
  have e : x &&& 7 = Int32.ofNat (x &&& 7).toBitVec.toNat := by
    apply Int32.toBitVec_inj.mp
    show _ = BitVec.ofNat 32 _
    rw [BitVec.ofNat_toNat]; simp
  rw [e]
  generalize (x &&& 7).toBitVec.toNat = n at h
  unfold own_q8
  match n, h with
  | 0, _ => decide
  | 1, _ => decide
  | 2, _ => decide
  | 3, _ => decide
  | 4, _ => decide
  | 5, _ => decide
  | 6, _ => decide
  | 7, _ => decide
theorem d18_0 : decode jdk_41_method_11_code 0 = .ok (.iload_n 0, 1) := by decide +kernel
theorem d18_1 : decode jdk_41_method_11_code 1 = .ok (.ifCond .lt 8, 3) := by decide +kernel
theorem d18_4 : decode jdk_41_method_11_code 4 = .ok (.iload_n 0, 1) := by decide +kernel
theorem d18_5 : decode jdk_41_method_11_code 5 = .ok (.iload_n 1, 1) := by decide +kernel
theorem d18_6 : decode jdk_41_method_11_code 6 = .ok (.if_icmp .lt 10, 3) := by decide +kernel
theorem d18_16 : decode jdk_41_method_11_code 16 = .ok (.iload_n 0, 1) := by decide +kernel
theorem d18_17 : decode jdk_41_method_11_code 17 = .ok (.ireturn, 1) := by decide +kernel
theorem own_ef1 (m : MethodId) (x0 : Int32) (x1 : Int32) (x2 : Value) (hx2 : x2.isRef = true) : entryFrame m #[(.int x0), (.int x1), x2] 3 = mkF m 0 #[.val (.int x0), .val (.int x1), .val x2] [] := by rcases ref_cases hx2 with rfl | ⟨_, rfl⟩ <;> first | (simp [entryFrame, mkF, argsToLocals, Value.category]; done) | rfl
def own_pciQ (Z : State) (u1 : Int32) (u2 : Int32) (fmt : Value) (h0 : Heap) (n0 : Nat) (v : Option Value) (h : Heap) (L : List Loc) : Prop := v = some (.int u1) ∧ Fr n0 L ∧ h = h0
theorem own_pn1 : plainName "jdk/internal/util/Preconditions" = true := by first | (simp [plainName, overriddenIn]; done) | decide +kernel
abbrev own_pciR : Room := { frames := 0, cells := 0, slots := 0, locals := 0 }
theorem own_pci (l : Launch) (Z : State) (a0 : Array Value) (hw : ∀ d ∈ tables_1, d.before a0 Z = true) (ws : List Jvm.Cond) (u1 : Int32) (u2 : Int32) (fmt : Value) (h0 : Heap) (n0 : Nat) (Z0 : n0 ≤ h0.size) (pr1 : ¬ u1 < 0) (pr2 : u1 < u2) (pr3 : fmt.isRef = true) :
    own_M l yN7 jdk_41_method_11_code 3 (some .int) ws own_pciR #[(.int u1), (.int u2), fmt] Z h0 (own_pciQ Z u1 u2 fmt h0 n0) := by
  refine own_go (plainFor_of_name own_pn1) (fun m => own_ef1 m u1 u2 fmt pr3) ?_
  intro p e s m below meth c s₁ Bd hx hby hml hZ hh hown hnm X0 e0
  have N0 := Fr.nil n0
  refine own_st (T' := s₁) (g' := (mkF m 17 #[.val (.int u1), .val (.int u2), .val fmt] [(.int u1)])) (fun _ kt => XS.iloadN X0.here hx rfl (hb hby d18_0) rfl (XS.ifNo X0.here hx rfl (hb hby d18_1) rfl (XT.i0_lt_f pr1) (XS.iloadN X0.here hx rfl (hb hby d18_4) rfl (XS.iloadN X0.here hx rfl (hb hby d18_5) rfl (XS.icmpYes X0.here hx rfl (pc0 := 6) (pc' := 16) rfl (hb hby d18_6) rfl (XT.ii_lt_t pr2) (by decide) (by decide) (XS.iloadN X0.here hx rfl (hb hby d18_16) rfl kt)))))) ?_
  obtain ⟨fs, hr, hrun, hended, hW, hsame⟩ := X0.leave (v := some (.int u1)) (fun h => by rw [Bd.returns] at h; cases h)
  refine own_end (own_retI X0 hx Bd.returns (hb hby d18_17) hr) ⟨_, hrun, hended, _, _, rfl, ?_, ⟨_, rfl⟩, hW, hsame.mono (by decide) (by decide)⟩
  show own_pciQ Z _ _ _ h0 n0 _ s₁.heap _
  rw [e0]
  exact ⟨rfl, N0, rfl⟩
theorem d17_0 : decode jdk_42_method_155_code 0 = .ok (.iload_n 0, 1) := by decide +kernel
theorem d17_1 : decode jdk_42_method_155_code 1 = .ok (.iload_n 1, 1) := by decide +kernel
theorem d17_2 : decode jdk_42_method_155_code 2 = .ok (.getstatic 1053, 3) := by decide +kernel
theorem d17_5 : decode jdk_42_method_155_code 5 = .ok (.invokestatic 1059, 3) := by decide +kernel
theorem own_pd1 : parseMethodDescriptor "(IILjava/util/function/BiFunction;)I" = some ⟨[.int, .int, (.object "java/util/function/BiFunction")], some .int⟩ := by decide +kernel
theorem d17_8 : decode jdk_42_method_155_code 8 = .ok (.pop, 1) := by decide +kernel
theorem d17_9 : decode jdk_42_method_155_code 9 = .ok (.return_, 1) := by decide +kernel
theorem own_ef2 (m : MethodId) (x0 : Int32) (x1 : Int32) : entryFrame m #[(.int x0), (.int x1)] 2 = mkF m 0 #[.val (.int x0), .val (.int x1)] [] := by first | (simp [entryFrame, mkF, argsToLocals, Value.category]; done) | rfl
def own_ciQ (Z : State) (u1 : Int32) (u2 : Int32) (fmt : Value) (h0 : Heap) (n0 : Nat) (v : Option Value) (h : Heap) (L : List Loc) : Prop := v = none ∧ Fr n0 L ∧ h = h0
theorem own_pn2 : plainName "java/lang/String" = true := by first | (simp [plainName, overriddenIn]; done) | decide +kernel
abbrev own_ciR : Room := { frames := 1, cells := 0, slots := 0, locals := 14 }
theorem own_ci (l : Launch) (Z : State) (a0 : Array Value) (hw : ∀ d ∈ tables_1, d.before a0 Z = true) (ws : List Jvm.Cond) (u1 : Int32) (u2 : Int32) (fmt : Value) (h0 : Heap) (n0 : Nat) (Z0 : n0 ≤ h0.size) (pr1 : Old Z n0 h0) (pr2 : Sta Z Z.heap "jdk/internal/util/Preconditions" "SIOOBE_FORMATTER" "Ljava/util/function/BiFunction;" fmt) (pr3 : ¬ u1 < 0) (pr4 : u1 < u2) (pr5 : fmt.isRef = true) :
    own_M l (⟨"java/lang/String", "checkIndex", "(II)V"⟩ : MethodName) jdk_42_method_155_code 2 none ws own_ciR #[(.int u1), (.int u2)] Z h0 (own_ciQ Z u1 u2 fmt h0 n0) := by
  refine own_go (plainFor_of_name own_pn2) (fun m => own_ef2 m u1 u2 ) ?_
  intro p e s m below meth c s₁ Bd hx hby hml hZ hh hown hnm X0 e0
  have N0 := Fr.nil n0
  refine own_st (T' := s₁) (g' := (mkF m 2 #[.val (.int u1), .val (.int u2)] [(.int u2), (.int u1)])) (fun _ kt => XS.iloadN X0.here hx rfl (hb hby d17_0) rfl (XS.iloadN X0.here hx rfl (hb hby d17_1) rfl kt)) ?_
  obtain ⟨T1, X1, e1, st1⟩ := getS2 X0 hx hZ hown (host := "") (Or.inl (own_k hw 88 rfl)) Via.refl e0 (Sta.ext pr1.2 pr2) (g := (mkF m 2 #[.val (.int u1), .val (.int u2)] [(.int u2), (.int u1)])) rfl (hb hby d17_2)
  refine own_st (T' := T1) (g' := (mkF m 5 #[.val (.int u1), .val (.int u2)] [fmt, (.int u2), (.int u1)])) st1 ?_
  obtain ⟨_, _, ⟨T2, L2, k2, n2⟩, -, X2, ⟨Lc2, hQ2, l2, y2, z2⟩, st2⟩ := Jvm.LawKit.callS X1 hx (y := yN7) hown (mvT hZ (own_k hw 90 rfl)) (mvT hZ (own_k hw 91 rfl)) (mvT hZ (own_k hw 89 rfl)) (mvT hZ (own_k hw 92 rfl)) (by decide) (backOf (W := 0) (own_pci l Z a0 hw [] u1 u2 fmt h0 n0 Z0 pr3 pr4 pr5) hZ (own_k hw 92 rfl) (own_k hw 89 rfl) (by decide) (by decide)) (g := (mkF m 5 #[.val (.int u1), .val (.int u2)] [fmt, (.int u2), (.int u1)])) rfl hml.symm  (argsL := [(.int u1), (.int u2), fmt]) (rest := []) (lenOf own_pd1 rfl) rfl (own_w0 rfl rfl) (hb hby d17_5) (fun _ _ => ⟨rfl, e1, (by decide : 0 + 0 ≤ 0), (by decide : 0 + 0 ≤ 0)⟩)
  dsimp only [Pt.U, Pt.locs, Pt.cells, Pt.slots] at X2 l2 y2 z2 st2 hQ2
  subst l2 y2 z2
  obtain ⟨rfl, N2, e2⟩ := hQ2
  have N3 := Fr.app N0 N2
  refine own_st (T' := T2) (g' := (mkF m 8 #[.val (.int u1), .val (.int u2)] [(.int u1)])) st2 ?_
  refine own_st (T' := T2) (g' := (mkF m 9 #[.val (.int u1), .val (.int u2)] [])) (fun _ kt => XT.pop X2.here hx rfl (hb hby d17_8) rfl rfl kt) ?_
  obtain ⟨fs, hr, hrun, hended, hW, hsame⟩ := X2.leave (v := none) (fun _ => rfl)
  refine own_end (X2.returnOut hx Bd.returns (hb hby d17_9) hr) ⟨_, hrun, hended, _, _, rfl, ?_, ⟨_, rfl⟩, hW, hsame.mono (by decide) (by decide)⟩
  show own_ciQ Z _ _ _ h0 n0 _ T2.heap _
  rw [e2]
  exact ⟨rfl, N3, rfl⟩
theorem d15_0 : decode jdk_42_method_154_code 0 = .ok (.getstatic 38, 3) := by decide +kernel
theorem d15_3 : decode jdk_42_method_154_code 3 = .ok (.ifCond .eq 14, 3) := by decide +kernel
theorem d15_6 : decode jdk_42_method_154_code 6 = .ok (.aload_n 0, 1) := by decide +kernel
theorem d15_7 : decode jdk_42_method_154_code 7 = .ok (.getfield 15, 3) := by decide +kernel
theorem d15_10 : decode jdk_42_method_154_code 10 = .ok (.ifCond .ne 7, 3) := by decide +kernel
theorem d15_13 : decode jdk_42_method_154_code 13 = .ok (.iconst 1, 1) := by decide +kernel
theorem d15_14 : decode jdk_42_method_154_code 14 = .ok (.goto 4, 3) := by decide +kernel
theorem d15_18 : decode jdk_42_method_154_code 18 = .ok (.ireturn, 1) := by decide +kernel
theorem own_ef3 (m : MethodId) (x0 : Addr) : entryFrame m #[(.ref x0)] 1 = mkF m 0 #[.val (.ref x0)] [] := by first | (simp [entryFrame, mkF, argsToLocals, Value.category]; done) | rfl
def own_ilQ (Z : State) (x0 : Addr) (zc : Int32) (h0 : Heap) (n0 : Nat) (v : Option Value) (h : Heap) (L : List Loc) : Prop := v = some (.int 1) ∧ Fr n0 L ∧ h = h0
abbrev own_ilR : Room := { frames := 0, cells := 0, slots := 0, locals := 0 }
theorem own_il (l : Launch) (Z : State) (a0 : Array Value) (hw : ∀ d ∈ tables_1, d.before a0 Z = true) (ws : List Jvm.Cond) (x0 : Addr) (zc : Int32) (h0 : Heap) (n0 : Nat) (Z0 : n0 ≤ h0.size) (pr1 : Old Z n0 h0) (pr2 : Sta Z Z.heap "java/lang/String" "COMPACT_STRINGS" "Z" (.int zc)) (pr3 : ¬ zc = 0) (pr4 : Fld Z h0 x0 "java/lang/String" "coder" "B" (.int 0)) :
    own_M l (⟨"java/lang/String", "isLatin1", "()Z"⟩ : MethodName) jdk_42_method_154_code 1 (some .boolean) ws own_ilR #[(.ref x0)] Z h0 (own_ilQ Z x0 zc h0 n0) := by
  refine own_go (plainFor_of_name own_pn2) (fun m => own_ef3 m x0 ) ?_
  intro p e s m below meth c s₁ Bd hx hby hml hZ hh hown hnm X0 e0
  have N0 := Fr.nil n0
  obtain ⟨T4, X4, e4, st4⟩ := getS2 X0 hx hZ hown (host := "") (Or.inl (own_k hw 15 rfl)) Via.refl e0 (Sta.ext pr1.2 pr2) (g := (mkF m 0 #[.val (.ref x0)] [])) rfl (hb hby d15_0)
  refine own_st (T' := T4) (g' := (mkF m 3 #[.val (.ref x0)] [(.int zc)])) st4 ?_
  refine own_st (T' := T4) (g' := (mkF m 7 #[.val (.ref x0)] [(.ref x0)])) (fun _ kt => XS.ifNo X4.here hx rfl (hb hby d15_3) rfl (XT.i0_eq_f pr3) (XS.aloadN X4.here hx rfl (hb hby d15_6) rfl rfl kt)) ?_
  obtain ⟨T5, X5, e5, st5⟩ := getF X4 hx hZ hown (host := "") (Or.inl (own_k hw 27 rfl)) Via.refl e4 pr4 (g := (mkF m 7 #[.val (.ref x0)] [(.ref x0)])) rfl rfl (hb hby d15_7)
  refine own_st (T' := T5) (g' := (mkF m 10 #[.val (.ref x0)] [(.int 0)])) st5 ?_
  refine own_st (T' := T5) (g' := (mkF m 18 #[.val (.ref x0)] [(.int 1)])) (fun _ kt => XS.ifNo X5.here hx rfl (hb hby d15_10) rfl (XT.i0_ne_f (by decide)) (XS.iconst X5.here hx rfl (hb hby d15_13) (XS.goto X5.here hx rfl (pc0 := 14) (pc' := 18) rfl (hb hby d15_14) (by decide) (by decide) kt))) ?_
  obtain ⟨fs, hr, hrun, hended, hW, hsame⟩ := X5.leave (v := some (.int 1)) (fun h => by rw [Bd.returns] at h; cases h)
  refine own_end (retN X5 hx (t := .boolean) Bd.returns (by simp) (hb hby d15_18) hr) ⟨_, hrun, hended, _, _, rfl, ?_, ⟨_, rfl⟩, hW, hsame.mono (by decide) (by decide)⟩
  show own_ilQ Z _ _ h0 n0 _ T5.heap _
  rw [e5]
  exact ⟨rfl, N0, rfl⟩
theorem d16_0 : decode jdk_43_method_2_code 0 = .ok (.iload_n 1, 1) := by decide +kernel
theorem d16_1 : decode jdk_43_method_2_code 1 = .ok (.aload_n 0, 1) := by decide +kernel
theorem d16_2 : decode jdk_43_method_2_code 2 = .ok (.arraylength, 1) := by decide +kernel
theorem d16_3 : decode jdk_43_method_2_code 3 = .ok (.invokestatic 9, 3) := by decide +kernel
theorem own_pd2 : parseMethodDescriptor "(II)V" = some ⟨[.int, .int], none⟩ := by decide +kernel
theorem d16_6 : decode jdk_43_method_2_code 6 = .ok (.aload_n 0, 1) := by decide +kernel
theorem d16_7 : decode jdk_43_method_2_code 7 = .ok (.iload_n 1, 1) := by decide +kernel
theorem d16_8 : decode jdk_43_method_2_code 8 = .ok (.baload, 1) := by decide +kernel
theorem d16_9 : decode jdk_43_method_2_code 9 = .ok (.sipush 255, 3) := by decide +kernel
theorem d16_12 : decode jdk_43_method_2_code 12 = .ok (.iand, 1) := by decide +kernel
theorem d16_13 : decode jdk_43_method_2_code 13 = .ok (.i2c, 1) := by decide +kernel
theorem d16_14 : decode jdk_43_method_2_code 14 = .ok (.ireturn, 1) := by decide +kernel
theorem own_ef4 (m : MethodId) (x0 : Addr) (x1 : Int32) : entryFrame m #[(.ref x0), (.int x1)] 2 = mkF m 0 #[.val (.ref x0), .val (.int x1)] [] := by first | (simp [entryFrame, mkF, argsToLocals, Value.category]; done) | rfl
def own_lcQ (Z : State) (t : Addr) (ii : Int32) (fmt : Value) (kb : ClassId) (zz : Int32) (vl : List Value) (bb : Int32) (cc : Int32) (h0 : Heap) (n0 : Nat) (v : Option Value) (h : Heap) (L : List Loc) : Prop := v = some (.int cc) ∧ Fr n0 L ∧ h = h0
theorem own_pn3 : plainName "java/lang/StringLatin1" = true := by first | (simp [plainName, overriddenIn]; done) | decide +kernel
abbrev own_lcR : Room := { frames := 2, cells := 0, slots := 0, locals := 27 }
theorem own_lc (l : Launch) (Z : State) (a0 : Array Value) (hw : ∀ d ∈ tables_1, d.before a0 Z = true) (ws : List Jvm.Cond) (t : Addr) (ii : Int32) (fmt : Value) (kb : ClassId) (zz : Int32) (vl : List Value) (bb : Int32) (cc : Int32) (h0 : Heap) (n0 : Nat) (Z0 : n0 ≤ h0.size) (pr1 : Old Z n0 h0) (pr2 : Sta Z Z.heap "jdk/internal/util/Preconditions" "SIOOBE_FORMATTER" "Ljava/util/function/BiFunction;" fmt) (pr3 : fmt.isRef = true) (pr4 : Arv Z h0 t kb .byte zz vl (.int 0)) (pr5 : ¬ ii < 0 ∧ ii < zz) (pr6 : vl.getD ii.toNatClampNeg (.int 0) = .int bb) (pr7 : nar .char ((bb &&& (255 : Int32)).toUInt32.toUInt16.toUInt32.toInt32) = cc) :
    own_M l (⟨"java/lang/StringLatin1", "charAt", "([BI)C"⟩ : MethodName) jdk_43_method_2_code 2 (some .char) ws own_lcR #[(.ref t), (.int ii)] Z h0 (own_lcQ Z t ii fmt kb zz vl bb cc h0 n0) := by
  refine own_go (plainFor_of_name own_pn3) (fun m => own_ef4 m t ii ) ?_
  intro p e s m below meth c s₁ Bd hx hby hml hZ hh hown hnm X0 e0
  have N0 := Fr.nil n0
  refine own_st (T' := s₁) (g' := (mkF m 2 #[.val (.ref t), .val (.int ii)] [(.ref t), (.int ii)])) (fun _ kt => XS.iloadN X0.here hx rfl (hb hby d16_0) rfl (XS.aloadN X0.here hx rfl (hb hby d16_1) rfl rfl kt)) ?_
  refine own_st (T' := s₁) (g' := (mkF m 3 #[.val (.ref t), .val (.int ii)] [(.int zz), (.int ii)])) (own_alen X0 hx hZ e0 pr4 (g := (mkF m 2 #[.val (.ref t), .val (.int ii)] [(.ref t), (.int ii)])) rfl rfl (hb hby d16_2)) ?_
  obtain ⟨_, _, ⟨T6, L6, k6, n6⟩, -, X6, ⟨Lc6, hQ6, l6, y6, z6⟩, st6⟩ := Jvm.LawKit.callS X0 hx (y := (⟨"java/lang/String", "checkIndex", "(II)V"⟩ : MethodName)) hown (mvT hZ (own_k hw 85 rfl)) (mvT hZ (own_k hw 86 rfl)) (mvT hZ (own_k hw 4 rfl)) (mvT hZ (own_k hw 87 rfl)) (by decide) (backOf (W := 0) (own_ci l Z a0 hw [] ii zz fmt h0 n0 Z0 pr1 pr2 (show ¬ ii < 0 from pr5.1) (show ii < zz from pr5.2) pr3) hZ (own_k hw 87 rfl) (own_k hw 4 rfl) (by decide) (by decide)) (g := (mkF m 3 #[.val (.ref t), .val (.int ii)] [(.int zz), (.int ii)])) rfl hml.symm  (argsL := [(.int ii), (.int zz)]) (rest := []) (lenOf own_pd2 rfl) rfl (own_w0 rfl rfl) (hb hby d16_3) (fun _ _ => ⟨rfl, e0, (by decide : 0 + 0 ≤ 0), (by decide : 0 + 0 ≤ 0)⟩)
  dsimp only [Pt.U, Pt.locs, Pt.cells, Pt.slots] at X6 l6 y6 z6 st6 hQ6
  subst l6 y6 z6
  obtain ⟨rfl, N6, e6⟩ := hQ6
  have N7 := Fr.app N0 N6
  refine own_st (T' := T6) (g' := (mkF m 6 #[.val (.ref t), .val (.int ii)] [])) st6 ?_
  refine own_st (T' := T6) (g' := (mkF m 8 #[.val (.ref t), .val (.int ii)] [(.int ii), (.ref t)])) (fun _ kt => XS.aloadN X6.here hx rfl (hb hby d16_6) rfl rfl (XS.iloadN X6.here hx rfl (hb hby d16_7) rfl kt)) ?_
  refine own_st (T' := T6) (g' := (mkF m 9 #[.val (.ref t), .val (.int ii)] [(.int bb)])) (own_bal X6 hx hZ e6 pr4 pr5 pr6 (g := (mkF m 8 #[.val (.ref t), .val (.int ii)] [(.int ii), (.ref t)])) rfl rfl (hb hby d16_8)) ?_
  refine own_st (T' := T6) (g' := (mkF m 14 #[.val (.ref t), .val (.int ii)] [(.int ((bb &&& (255 : Int32)).toUInt32.toUInt16.toUInt32.toInt32))])) (fun _ kt => XS.sipush X6.here hx rfl (hb hby d16_9) (XS.iand X6.here hx rfl (hb hby d16_12) rfl (XT.i2c X6.here hx rfl (hb hby d16_13) rfl kt))) ?_
  obtain ⟨fs, hr, hrun, hended, hW, hsame⟩ := X6.leave (v := some (.int (nar .char ((bb &&& (255 : Int32)).toUInt32.toUInt16.toUInt32.toInt32)))) (fun h => by rw [Bd.returns] at h; cases h)
  refine own_end (retN X6 hx (t := .char) Bd.returns (by simp) (hb hby d16_14) hr) ⟨_, hrun, hended, _, _, rfl, ?_, ⟨_, rfl⟩, hW, hsame.mono (by decide) (by decide)⟩
  show own_lcQ Z _ _ _ _ _ _ _ _ h0 n0 _ T6.heap _
  rw [e6]
  exact ⟨(by rw [pr7]), N7, rfl⟩
theorem d14_0 : decode jdk_42_method_56_code 0 = .ok (.aload_n 0, 1) := by decide +kernel
theorem d14_1 : decode jdk_42_method_56_code 1 = .ok (.invokevirtual 492, 3) := by decide +kernel
theorem own_pd3 : parseMethodDescriptor "()Z" = some ⟨[], some .boolean⟩ := by decide +kernel
theorem d14_4 : decode jdk_42_method_56_code 4 = .ok (.ifCond .eq 12, 3) := by decide +kernel
theorem d14_7 : decode jdk_42_method_56_code 7 = .ok (.aload_n 0, 1) := by decide +kernel
theorem d14_8 : decode jdk_42_method_56_code 8 = .ok (.getfield 9, 3) := by decide +kernel
theorem d14_11 : decode jdk_42_method_56_code 11 = .ok (.iload_n 1, 1) := by decide +kernel
theorem d14_12 : decode jdk_42_method_56_code 12 = .ok (.invokestatic 495, 3) := by decide +kernel
theorem own_pd4 : parseMethodDescriptor "([BI)C" = some ⟨[(.array .byte), .int], some .char⟩ := by decide +kernel
theorem d14_15 : decode jdk_42_method_56_code 15 = .ok (.ireturn, 1) := by decide +kernel
def own_caQ (Z : State) (x0 : Addr) (zc : Int32) (t : Addr) (ii : Int32) (fmt : Value) (kb : ClassId) (zz : Int32) (vl : List Value) (bb : Int32) (cc : Int32) (h0 : Heap) (n0 : Nat) (v : Option Value) (h : Heap) (L : List Loc) : Prop := v = some (.int cc) ∧ Fr n0 L ∧ h = h0
abbrev own_caR : Room := { frames := 3, cells := 0, slots := 0, locals := 40 }
theorem own_ca (l : Launch) (Z : State) (a0 : Array Value) (hw : ∀ d ∈ tables_1, d.before a0 Z = true) (ws : List Jvm.Cond) (x0 : Addr) (zc : Int32) (t : Addr) (ii : Int32) (fmt : Value) (kb : ClassId) (zz : Int32) (vl : List Value) (bb : Int32) (cc : Int32) (h0 : Heap) (n0 : Nat) (Z0 : n0 ≤ h0.size) (pr1 : Old Z n0 h0) (pr2 : Sta Z Z.heap "java/lang/String" "COMPACT_STRINGS" "Z" (.int zc)) (pr3 : ¬ zc = 0) (pr4 : Sta Z Z.heap "jdk/internal/util/Preconditions" "SIOOBE_FORMATTER" "Ljava/util/function/BiFunction;" fmt) (pr5 : fmt.isRef = true) (pr6 : Exa Z h0 x0 "java/lang/String") (pr7 : Fld Z h0 x0 "java/lang/String" "coder" "B" (.int 0)) (pr8 : Fld Z h0 x0 "java/lang/String" "value" "[B" (.ref t)) (pr9 : Arv Z h0 t kb .byte zz vl (.int 0)) (pr10 : ¬ ii < 0 ∧ ii < zz) (pr11 : vl.getD ii.toNatClampNeg (.int 0) = .int bb) (pr12 : nar .char ((bb &&& (255 : Int32)).toUInt32.toUInt16.toUInt32.toInt32) = cc) (pr13 : nar .char cc = cc) :
    own_M l yN0 jdk_42_method_56_code 2 (some .char) ws own_caR #[(.ref x0), (.int ii)] Z h0 (own_caQ Z x0 zc t ii fmt kb zz vl bb cc h0 n0) := by
  refine own_go (plainFor_of_name own_pn2) (fun m => own_ef4 m x0 ii ) ?_
  intro p e s m below meth c s₁ Bd hx hby hml hZ hh hown hnm X0 e0
  have N0 := Fr.nil n0
  refine own_st (T' := s₁) (g' := (mkF m 1 #[.val (.ref x0), .val (.int ii)] [(.ref x0)])) (fun _ kt => XS.aloadN X0.here hx rfl (hb hby d14_0) rfl rfl kt) ?_
  obtain ⟨cq9, kq9, qa9, qb9, qc9⟩ := isOf hZ e0 pr6
  obtain ⟨_, _, ⟨T8, L8, k8, n8⟩, -, X8, ⟨Lc8, hQ8, l8, y8, z8⟩, st8⟩ := X0.virtualBack hx (y := (⟨"java/lang/String", "isLatin1", "()Z"⟩ : MethodName)) (z := (⟨"java/lang/String", "isLatin1", "()Z"⟩ : MethodName)) hown (mvT hZ (own_k hw 77 rfl)) (mvT hZ (own_k hw 78 rfl)) (notFace_of_selects (args := #[]) (mvT hZ (own_k hw 80 rfl))) (mvT hZ (own_k hw 80 rfl)) (mvT hZ (own_k hw 79 rfl)) (by decide) (backOf (W := 0) (own_il l Z a0 hw [] x0 zc h0 n0 Z0 pr1 pr2 pr3 pr7) hZ (own_k hw 81 rfl) (own_k hw 4 rfl) (by decide) (by decide)) qa9 qc9 (g := (mkF m 1 #[.val (.ref x0), .val (.int ii)] [(.ref x0)])) rfl hml.symm (Steps.refl _) (argsL := []) (rest := []) (lenOf own_pd3 rfl) rfl (own_w0 rfl rfl) (hb hby d14_1) (fun _ _ => ⟨rfl, e0, (by decide : 0 + 0 ≤ 0), (by decide : 0 + 0 ≤ 0)⟩)
  dsimp only [Pt.U, Pt.locs, Pt.cells, Pt.slots] at X8 l8 y8 z8 st8 hQ8
  subst l8 y8 z8
  obtain ⟨rfl, N8, e8⟩ := hQ8
  have N10 := Fr.app N0 N8
  refine own_tr (T' := T8) (g' := (mkF m 4 #[.val (.ref x0), .val (.int ii)] [(.int 1)])) st8 ?_
  refine own_st (T' := T8) (g' := (mkF m 8 #[.val (.ref x0), .val (.int ii)] [(.ref x0)])) (fun _ kt => XS.ifNo X8.here hx rfl (hb hby d14_4) rfl (XT.i0_eq_f (by decide)) (XS.aloadN X8.here hx rfl (hb hby d14_7) rfl rfl kt)) ?_
  obtain ⟨T11, X11, e11, st11⟩ := getF X8 hx hZ hown (host := "") (Or.inl (own_k hw 29 rfl)) Via.refl e8 pr8 (g := (mkF m 8 #[.val (.ref x0), .val (.int ii)] [(.ref x0)])) rfl rfl (hb hby d14_8)
  refine own_st (T' := T11) (g' := (mkF m 11 #[.val (.ref x0), .val (.int ii)] [(.ref t)])) st11 ?_
  refine own_st (T' := T11) (g' := (mkF m 12 #[.val (.ref x0), .val (.int ii)] [(.int ii), (.ref t)])) (fun _ kt => XS.iloadN X11.here hx rfl (hb hby d14_11) rfl kt) ?_
  obtain ⟨_, _, ⟨T12, L12, k12, n12⟩, -, X12, ⟨Lc12, hQ12, l12, y12, z12⟩, st12⟩ := Jvm.LawKit.callS X11 hx (y := (⟨"java/lang/StringLatin1", "charAt", "([BI)C"⟩ : MethodName)) hown (mvT hZ (own_k hw 82 rfl)) (mvT hZ (own_k hw 83 rfl)) (mvT hZ (own_k hw 36 rfl)) (mvT hZ (own_k hw 84 rfl)) (by decide) (backOf (W := 0) (own_lc l Z a0 hw [] t ii fmt kb zz vl bb cc h0 n0 Z0 pr1 pr4 pr5 pr9 pr10 pr11 pr12) hZ (own_k hw 84 rfl) (own_k hw 36 rfl) (by decide) (by decide)) (g := (mkF m 12 #[.val (.ref x0), .val (.int ii)] [(.int ii), (.ref t)])) rfl hml.symm  (argsL := [(.ref t), (.int ii)]) (rest := []) (lenOf own_pd4 rfl) rfl (own_w0 rfl rfl) (hb hby d14_12) (fun _ _ => ⟨rfl, e11, (by decide : 0 + 0 ≤ 0), (by decide : 0 + 0 ≤ 0)⟩)
  dsimp only [Pt.U, Pt.locs, Pt.cells, Pt.slots] at X12 l12 y12 z12 st12 hQ12
  subst l12 y12 z12
  obtain ⟨rfl, N12, e12⟩ := hQ12
  have N13 := Fr.app N10 N12
  refine own_st (T' := T12) (g' := (mkF m 15 #[.val (.ref x0), .val (.int ii)] [(.int cc)])) st12 ?_
  obtain ⟨fs, hr, hrun, hended, hW, hsame⟩ := X12.leave (v := some (.int (nar .char cc))) (fun h => by rw [Bd.returns] at h; cases h)
  refine own_end (retN X12 hx (t := .char) Bd.returns (by simp) (hb hby d14_15) hr) ⟨_, hrun, hended, _, _, rfl, ?_, ⟨_, rfl⟩, hW, hsame.mono (by decide) (by decide)⟩
  show own_caQ Z _ _ _ _ _ _ _ _ _ _ h0 n0 _ T12.heap _
  rw [e12]
  exact ⟨(by rw [pr13]), N13, rfl⟩
def own_m7 (x0 x1 x2 x3 x4 x5 x6 : Int32) : Int32 := if x0 = 86 ∧ x1 = 69 ∧ x2 = 72 ∧ x3 = 73 ∧ x4 = 67 ∧ x5 = 76 ∧ x6 = 69 then 1 else 0
theorem own_mt7 {x0 x1 x2 x3 x4 x5 x6 : Int32} (h : x0 = 86 ∧ x1 = 69 ∧ x2 = 72 ∧ x3 = 73 ∧ x4 = 67 ∧ x5 = 76 ∧ x6 = 69) : (1 : Int32) = own_m7 x0 x1 x2 x3 x4 x5 x6 := (if_pos h).symm
theorem own_mf7 {x0 x1 x2 x3 x4 x5 x6 : Int32} (h : ¬ (x0 = 86 ∧ x1 = 69 ∧ x2 = 72 ∧ x3 = 73 ∧ x4 = 67 ∧ x5 = 76 ∧ x6 = 69)) : (0 : Int32) = own_m7 x0 x1 x2 x3 x4 x5 x6 := (if_neg h).symm
theorem own_mz7 {x0 x1 x2 x3 x4 x5 x6 : Int32} (h : ¬ own_m7 x0 x1 x2 x3 x4 x5 x6 = 0) : (1 : Int32) = own_m7 x0 x1 x2 x3 x4 x5 x6 := by
  unfold own_m7 at h ⊢
  by_cases q : x0 = 86 ∧ x1 = 69 ∧ x2 = 72 ∧ x3 = 73 ∧ x4 = 67 ∧ x5 = 76 ∧ x6 = 69
  · rw [if_pos q]
  · rw [if_neg q] at h; exact absurd rfl h
theorem own_arvs {Z : State} {h : Heap} {a : Addr} {k k' : ClassId} {ty ty' : FieldType} {z z' : Int32} {l l' : List Value} {d : Value} (F : Arv Z h a k ty z l d) (G : Arv Z h a k' ty' z' l' d) : z = z' ∧ ∀ i, i < z.toNatClampNeg → l.getD i d = l'.getD i d := by
  obtain ⟨c, A, -, S, M, H, -⟩ := F
  obtain ⟨c', A', -, S', M', H', -⟩ := G
  cases A.1.symm.trans A'.1
  refine ⟨(len_of S M).symm.trans (len_of S' M'), fun i hi => ?_⟩
  have := (H i (by rw [S]; exact hi)).symm.trans (H' i (by rw [S]; exact hi))
  exact Option.some.inj this
theorem own_flds {Z : State} {h : Heap} {a : Addr} {C n d : String} {v w : Value} (F : Fld Z h a C n d v) (G : Fld Z h a C n d w) : v = w := Classical.byContradiction fun q => Fld.ne F G q rfl
theorem own_strs {Z : State} {h : Heap} {x y tx ty : Addr} {kt ky : ClassId} {z1 z2 : Int32} {l1 l2 : List Value} {d : Value} (V : Fld Z h x "java/lang/String" "value" "[B" (.ref tx)) (W : Fld Z h y "java/lang/String" "value" "[B" (.ref ty)) (F : Arv Z h tx kt .byte z1 l1 d) (G : Arv Z h ty ky .byte z2 l2 d) (e : x = y) : z1 = z2 ∧ ∀ i, i < z1.toNatClampNeg → l1.getD i d = l2.getD i d := by
  subst e
  have q := own_flds V W
  cases q
  exact own_arvs F G
theorem d30_0 : decode jdk_43_method_13_code 0 = .ok (.aload_n 0, 1) := by decide +kernel
theorem d30_1 : decode jdk_43_method_13_code 1 = .ok (.arraylength, 1) := by decide +kernel
theorem d30_2 : decode jdk_43_method_13_code 2 = .ok (.aload_n 1, 1) := by decide +kernel
theorem d30_3 : decode jdk_43_method_13_code 3 = .ok (.arraylength, 1) := by decide +kernel
theorem d30_4 : decode jdk_43_method_13_code 4 = .ok (.if_icmp .ne 30, 3) := by decide +kernel
theorem d30_34 : decode jdk_43_method_13_code 34 = .ok (.iconst 0, 1) := by decide +kernel
theorem d30_35 : decode jdk_43_method_13_code 35 = .ok (.ireturn, 1) := by decide +kernel
theorem own_ef5 (m : MethodId) (x0 : Addr) (x1 : Addr) : entryFrame m #[(.ref x0), (.ref x1)] 3 = mkF m 0 #[.val (.ref x0), .val (.ref x1), .unset] [] := by first | (simp [entryFrame, mkF, argsToLocals, Value.category]; done) | rfl
def own_ledQ (Z : State) (t : Addr) (y : Addr) (kt : ClassId) (ky : ClassId) (z1 : Int32) (z2 : Int32) (vt : List Value) (vy : List Value) (h0 : Heap) (n0 : Nat) (v : Option Value) (h : Heap) (L : List Loc) : Prop := v = some (.int 0) ∧ Fr n0 L ∧ h = h0
abbrev own_ledR : Room := { frames := 0, cells := 0, slots := 0, locals := 0 }
theorem own_led (l : Launch) (Z : State) (a0 : Array Value) (hw : ∀ d ∈ tables_1, d.before a0 Z = true) (ws : List Jvm.Cond) (t : Addr) (y : Addr) (kt : ClassId) (ky : ClassId) (z1 : Int32) (z2 : Int32) (vt : List Value) (vy : List Value) (h0 : Heap) (n0 : Nat) (Z0 : n0 ≤ h0.size) (pr1 : Arv Z h0 t kt .byte z1 vt (.int 0)) (pr2 : Arv Z h0 y ky .byte z2 vy (.int 0)) (pr3 : ¬ z1 = z2) :
    own_M l yN4 jdk_43_method_13_code 3 (some .boolean) ws own_ledR #[(.ref t), (.ref y)] Z h0 (own_ledQ Z t y kt ky z1 z2 vt vy h0 n0) := by
  refine own_go (plainFor_of_name own_pn3) (fun m => own_ef5 m t y ) ?_
  intro p e s m below meth c s₁ Bd hx hby hml hZ hh hown hnm X0 e0
  have N0 := Fr.nil n0
  refine own_st (T' := s₁) (g' := (mkF m 1 #[.val (.ref t), .val (.ref y), .unset] [(.ref t)])) (fun _ kt => XS.aloadN X0.here hx rfl (hb hby d30_0) rfl rfl kt) ?_
  refine own_st (T' := s₁) (g' := (mkF m 2 #[.val (.ref t), .val (.ref y), .unset] [(.int z1)])) (own_alen X0 hx hZ e0 pr1 (g := (mkF m 1 #[.val (.ref t), .val (.ref y), .unset] [(.ref t)])) rfl rfl (hb hby d30_1)) ?_
  refine own_st (T' := s₁) (g' := (mkF m 3 #[.val (.ref t), .val (.ref y), .unset] [(.ref y), (.int z1)])) (fun _ kt => XS.aloadN X0.here hx rfl (hb hby d30_2) rfl rfl kt) ?_
  refine own_st (T' := s₁) (g' := (mkF m 4 #[.val (.ref t), .val (.ref y), .unset] [(.int z2), (.int z1)])) (own_alen X0 hx hZ e0 pr2 (g := (mkF m 3 #[.val (.ref t), .val (.ref y), .unset] [(.ref y), (.int z1)])) rfl rfl (hb hby d30_3)) ?_
  refine own_st (T' := s₁) (g' := (mkF m 35 #[.val (.ref t), .val (.ref y), .unset] [(.int 0)])) (fun _ kt => XS.icmpYes X0.here hx rfl (pc0 := 4) (pc' := 34) rfl (hb hby d30_4) rfl (XT.ii_ne_t pr3) (by decide) (by decide) (XS.iconst X0.here hx rfl (hb hby d30_34) kt)) ?_
  obtain ⟨fs, hr, hrun, hended, hW, hsame⟩ := X0.leave (v := some (.int 0)) (fun h => by rw [Bd.returns] at h; cases h)
  refine own_end (retN X0 hx (t := .boolean) Bd.returns (by simp) (hb hby d30_35) hr) ⟨_, hrun, hended, _, _, rfl, ?_, ⟨_, rfl⟩, hW, hsame.mono (by decide) (by decide)⟩
  show own_ledQ Z _ _ _ _ _ _ _ _ h0 n0 _ s₁.heap _
  rw [e0]
  exact ⟨rfl, N0, rfl⟩
theorem d30_7 : decode jdk_43_method_13_code 7 = .ok (.iconst 0, 1) := by decide +kernel
theorem d30_8 : decode jdk_43_method_13_code 8 = .ok (.istore_n 2, 1) := by decide +kernel
theorem d30_9 : decode jdk_43_method_13_code 9 = .ok (.iload_n 2, 1) := by decide +kernel
theorem d30_10 : decode jdk_43_method_13_code 10 = .ok (.aload_n 0, 1) := by decide +kernel
theorem d30_11 : decode jdk_43_method_13_code 11 = .ok (.arraylength, 1) := by decide +kernel
theorem d30_12 : decode jdk_43_method_13_code 12 = .ok (.if_icmp .ge 20, 3) := by decide +kernel
theorem d30_15 : decode jdk_43_method_13_code 15 = .ok (.aload_n 0, 1) := by decide +kernel
theorem d30_16 : decode jdk_43_method_13_code 16 = .ok (.iload_n 2, 1) := by decide +kernel
theorem d30_17 : decode jdk_43_method_13_code 17 = .ok (.baload, 1) := by decide +kernel
theorem d30_18 : decode jdk_43_method_13_code 18 = .ok (.aload_n 1, 1) := by decide +kernel
theorem d30_19 : decode jdk_43_method_13_code 19 = .ok (.iload_n 2, 1) := by decide +kernel
theorem d30_20 : decode jdk_43_method_13_code 20 = .ok (.baload, 1) := by decide +kernel
theorem d30_21 : decode jdk_43_method_13_code 21 = .ok (.if_icmp .eq 5, 3) := by decide +kernel
theorem d30_24 : decode jdk_43_method_13_code 24 = .ok (.iconst 0, 1) := by decide +kernel
theorem d30_25 : decode jdk_43_method_13_code 25 = .ok (.ireturn, 1) := by decide +kernel
def own_levQ (Z : State) (t : Addr) (y : Addr) (kt : ClassId) (ky : ClassId) (h0 : Heap) (n0 : Nat) (v : Option Value) (h : Heap) (L : List Loc) : Prop := v = some (.int 0) ∧ Fr n0 L ∧ h = h0
abbrev own_levR : Room := { frames := 0, cells := 0, slots := 0, locals := 0 }
theorem own_lev (l : Launch) (Z : State) (a0 : Array Value) (hw : ∀ d ∈ tables_1, d.before a0 Z = true) (ws : List Jvm.Cond) (t : Addr) (y : Addr) (kt : ClassId) (ky : ClassId) (h0 : Heap) (n0 : Nat) (Z0 : n0 ≤ h0.size) (pr1 : Arv Z h0 t kt .byte (7 : Int32) [(.int 118), (.int 101), (.int 104), (.int 105), (.int 99), (.int 108), (.int 101)] (.int 0)) (pr2 : Arv Z h0 y ky .byte (7 : Int32) [(.int 86), (.int 69), (.int 72), (.int 73), (.int 67), (.int 76), (.int 69)] (.int 0)) :
    own_M l yN4 jdk_43_method_13_code 3 (some .boolean) ws own_levR #[(.ref t), (.ref y)] Z h0 (own_levQ Z t y kt ky h0 n0) := by
  refine own_go (plainFor_of_name own_pn3) (fun m => own_ef5 m t y ) ?_
  intro p e s m below meth c s₁ Bd hx hby hml hZ hh hown hnm X0 e0
  have N0 := Fr.nil n0
  refine own_st (T' := s₁) (g' := (mkF m 1 #[.val (.ref t), .val (.ref y), .unset] [(.ref t)])) (fun _ kt => XS.aloadN X0.here hx rfl (hb hby d30_0) rfl rfl kt) ?_
  refine own_st (T' := s₁) (g' := (mkF m 2 #[.val (.ref t), .val (.ref y), .unset] [(.int 7)])) (own_alen X0 hx hZ e0 pr1 (g := (mkF m 1 #[.val (.ref t), .val (.ref y), .unset] [(.ref t)])) rfl rfl (hb hby d30_1)) ?_
  refine own_st (T' := s₁) (g' := (mkF m 3 #[.val (.ref t), .val (.ref y), .unset] [(.ref y), (.int 7)])) (fun _ kt => XS.aloadN X0.here hx rfl (hb hby d30_2) rfl rfl kt) ?_
  refine own_st (T' := s₁) (g' := (mkF m 4 #[.val (.ref t), .val (.ref y), .unset] [(.int 7), (.int 7)])) (own_alen X0 hx hZ e0 pr2 (g := (mkF m 3 #[.val (.ref t), .val (.ref y), .unset] [(.ref y), (.int 7)])) rfl rfl (hb hby d30_3)) ?_
  refine own_st (T' := s₁) (g' := (mkF m 11 #[.val (.ref t), .val (.ref y), .val (.int 0)] [(.ref t), (.int 0)])) (fun _ kt => XS.icmpNo X0.here hx rfl (hb hby d30_4) rfl (XT.ii_ne_f (by decide)) (XS.iconst X0.here hx rfl (hb hby d30_7) (XS.istoreN X0.here hx rfl (hb hby d30_8) rfl (l' := #[.val (.ref t), .val (.ref y), .val (.int 0)]) rfl (XS.iloadN X0.here hx rfl (hb hby d30_9) rfl (XS.aloadN X0.here hx rfl (hb hby d30_10) rfl rfl kt))))) ?_
  refine own_st (T' := s₁) (g' := (mkF m 12 #[.val (.ref t), .val (.ref y), .val (.int 0)] [(.int 7), (.int 0)])) (own_alen X0 hx hZ e0 pr1 (g := (mkF m 11 #[.val (.ref t), .val (.ref y), .val (.int 0)] [(.ref t), (.int 0)])) rfl rfl (hb hby d30_11)) ?_
  refine own_st (T' := s₁) (g' := (mkF m 17 #[.val (.ref t), .val (.ref y), .val (.int 0)] [(.int 0), (.ref t)])) (fun _ kt => XS.icmpNo X0.here hx rfl (hb hby d30_12) rfl (XT.ii_ge_f (by decide)) (XS.aloadN X0.here hx rfl (hb hby d30_15) rfl rfl (XS.iloadN X0.here hx rfl (hb hby d30_16) rfl kt))) ?_
  refine own_st (T' := s₁) (g' := (mkF m 18 #[.val (.ref t), .val (.ref y), .val (.int 0)] [(.int 118)])) (own_bal X0 hx hZ e0 pr1 ⟨by decide, by decide⟩ rfl (g := (mkF m 17 #[.val (.ref t), .val (.ref y), .val (.int 0)] [(.int 0), (.ref t)])) rfl rfl (hb hby d30_17)) ?_
  refine own_st (T' := s₁) (g' := (mkF m 20 #[.val (.ref t), .val (.ref y), .val (.int 0)] [(.int 0), (.ref y), (.int 118)])) (fun _ kt => XS.aloadN X0.here hx rfl (hb hby d30_18) rfl rfl (XS.iloadN X0.here hx rfl (hb hby d30_19) rfl kt)) ?_
  refine own_st (T' := s₁) (g' := (mkF m 21 #[.val (.ref t), .val (.ref y), .val (.int 0)] [(.int 86), (.int 118)])) (own_bal X0 hx hZ e0 pr2 ⟨by decide, by decide⟩ rfl (g := (mkF m 20 #[.val (.ref t), .val (.ref y), .val (.int 0)] [(.int 0), (.ref y), (.int 118)])) rfl rfl (hb hby d30_20)) ?_
  refine own_st (T' := s₁) (g' := (mkF m 25 #[.val (.ref t), .val (.ref y), .val (.int 0)] [(.int 0)])) (fun _ kt => XS.icmpNo X0.here hx rfl (hb hby d30_21) rfl (XT.ii_eq_f (by decide)) (XS.iconst X0.here hx rfl (hb hby d30_24) kt)) ?_
  obtain ⟨fs, hr, hrun, hended, hW, hsame⟩ := X0.leave (v := some (.int 0)) (fun h => by rw [Bd.returns] at h; cases h)
  refine own_end (retN X0 hx (t := .boolean) Bd.returns (by simp) (hb hby d30_25) hr) ⟨_, hrun, hended, _, _, rfl, ?_, ⟨_, rfl⟩, hW, hsame.mono (by decide) (by decide)⟩
  show own_levQ Z _ _ _ _ h0 n0 _ s₁.heap _
  rw [e0]
  exact ⟨rfl, N0, rfl⟩
theorem d30_26 : decode jdk_43_method_13_code 26 = .ok (.iinc 2 1, 3) := by decide +kernel
theorem d30_29 : decode jdk_43_method_13_code 29 = .ok (.goto (-20), 3) := by decide +kernel
theorem d30_32 : decode jdk_43_method_13_code 32 = .ok (.iconst 1, 1) := by decide +kernel
theorem d30_33 : decode jdk_43_method_13_code 33 = .ok (.ireturn, 1) := by decide +kernel
def own_le7Q (Z : State) (t : Addr) (y : Addr) (kt : ClassId) (ky : ClassId) (x0 : Int32) (x1 : Int32) (x2 : Int32) (x3 : Int32) (x4 : Int32) (x5 : Int32) (x6 : Int32) (h0 : Heap) (n0 : Nat) (v : Option Value) (h : Heap) (L : List Loc) : Prop := v = some (.int (own_m7 x0 x1 x2 x3 x4 x5 x6)) ∧ Fr n0 L ∧ h = h0
abbrev own_le7R : Room := { frames := 0, cells := 0, slots := 0, locals := 0 }
theorem own_le7 (l : Launch) (Z : State) (a0 : Array Value) (hw : ∀ d ∈ tables_1, d.before a0 Z = true) (ws : List Jvm.Cond) (t : Addr) (y : Addr) (kt : ClassId) (ky : ClassId) (x0 : Int32) (x1 : Int32) (x2 : Int32) (x3 : Int32) (x4 : Int32) (x5 : Int32) (x6 : Int32) (h0 : Heap) (n0 : Nat) (Z0 : n0 ≤ h0.size) (pr1 : Arv Z h0 t kt .byte (7 : Int32) [(.int x0.toInt8.toInt32), (.int x1.toInt8.toInt32), (.int x2.toInt8.toInt32), (.int x3.toInt8.toInt32), (.int x4.toInt8.toInt32), (.int x5.toInt8.toInt32), (.int x6.toInt8.toInt32)] (.int 0)) (pr2 : Arv Z h0 y ky .byte (7 : Int32) [(.int 86), (.int 69), (.int 72), (.int 73), (.int 67), (.int 76), (.int 69)] (.int 0)) (pr3 : own_cc x0) (pr4 : own_cc x1) (pr5 : own_cc x2) (pr6 : own_cc x3) (pr7 : own_cc x4) (pr8 : own_cc x5) (pr9 : own_cc x6) :
    own_M l yN4 jdk_43_method_13_code 3 (some .boolean) ws own_le7R #[(.ref t), (.ref y)] Z h0 (own_le7Q Z t y kt ky x0 x1 x2 x3 x4 x5 x6 h0 n0) := by
  refine own_go (plainFor_of_name own_pn3) (fun m => own_ef5 m t y ) ?_
  intro p e s m below meth c s₁ Bd hx hby hml hZ hh hown hnm X0 e0
  have N0 := Fr.nil n0
  refine own_st (T' := s₁) (g' := (mkF m 1 #[.val (.ref t), .val (.ref y), .unset] [(.ref t)])) (fun _ kt => XS.aloadN X0.here hx rfl (hb hby d30_0) rfl rfl kt) ?_
  refine own_st (T' := s₁) (g' := (mkF m 2 #[.val (.ref t), .val (.ref y), .unset] [(.int 7)])) (own_alen X0 hx hZ e0 pr1 (g := (mkF m 1 #[.val (.ref t), .val (.ref y), .unset] [(.ref t)])) rfl rfl (hb hby d30_1)) ?_
  refine own_st (T' := s₁) (g' := (mkF m 3 #[.val (.ref t), .val (.ref y), .unset] [(.ref y), (.int 7)])) (fun _ kt => XS.aloadN X0.here hx rfl (hb hby d30_2) rfl rfl kt) ?_
  refine own_st (T' := s₁) (g' := (mkF m 4 #[.val (.ref t), .val (.ref y), .unset] [(.int 7), (.int 7)])) (own_alen X0 hx hZ e0 pr2 (g := (mkF m 3 #[.val (.ref t), .val (.ref y), .unset] [(.ref y), (.int 7)])) rfl rfl (hb hby d30_3)) ?_
  refine own_st (T' := s₁) (g' := (mkF m 11 #[.val (.ref t), .val (.ref y), .val (.int 0)] [(.ref t), (.int 0)])) (fun _ kt => XS.icmpNo X0.here hx rfl (hb hby d30_4) rfl (XT.ii_ne_f (by decide)) (XS.iconst X0.here hx rfl (hb hby d30_7) (XS.istoreN X0.here hx rfl (hb hby d30_8) rfl (l' := #[.val (.ref t), .val (.ref y), .val (.int 0)]) rfl (XS.iloadN X0.here hx rfl (hb hby d30_9) rfl (XS.aloadN X0.here hx rfl (hb hby d30_10) rfl rfl kt))))) ?_
  refine own_st (T' := s₁) (g' := (mkF m 12 #[.val (.ref t), .val (.ref y), .val (.int 0)] [(.int 7), (.int 0)])) (own_alen X0 hx hZ e0 pr1 (g := (mkF m 11 #[.val (.ref t), .val (.ref y), .val (.int 0)] [(.ref t), (.int 0)])) rfl rfl (hb hby d30_11)) ?_
  refine own_st (T' := s₁) (g' := (mkF m 17 #[.val (.ref t), .val (.ref y), .val (.int 0)] [(.int 0), (.ref t)])) (fun _ kt => XS.icmpNo X0.here hx rfl (hb hby d30_12) rfl (XT.ii_ge_f (by decide)) (XS.aloadN X0.here hx rfl (hb hby d30_15) rfl rfl (XS.iloadN X0.here hx rfl (hb hby d30_16) rfl kt))) ?_
  refine own_st (T' := s₁) (g' := (mkF m 18 #[.val (.ref t), .val (.ref y), .val (.int 0)] [(.int x0.toInt8.toInt32)])) (own_bal X0 hx hZ e0 pr1 ⟨by decide, by decide⟩ rfl (g := (mkF m 17 #[.val (.ref t), .val (.ref y), .val (.int 0)] [(.int 0), (.ref t)])) rfl rfl (hb hby d30_17)) ?_
  refine own_st (T' := s₁) (g' := (mkF m 20 #[.val (.ref t), .val (.ref y), .val (.int 0)] [(.int 0), (.ref y), (.int x0.toInt8.toInt32)])) (fun _ kt => XS.aloadN X0.here hx rfl (hb hby d30_18) rfl rfl (XS.iloadN X0.here hx rfl (hb hby d30_19) rfl kt)) ?_
  refine own_st (T' := s₁) (g' := (mkF m 21 #[.val (.ref t), .val (.ref y), .val (.int 0)] [(.int 86), (.int x0.toInt8.toInt32)])) (own_bal X0 hx hZ e0 pr2 ⟨by decide, by decide⟩ rfl (g := (mkF m 20 #[.val (.ref t), .val (.ref y), .val (.int 0)] [(.int 0), (.ref y), (.int x0.toInt8.toInt32)])) rfl rfl (hb hby d30_20)) ?_
  by_cases hc14 : x0.toInt8.toInt32 = (86 : Int32)
  ·
    refine own_st (T' := s₁) (g' := (mkF m 11 #[.val (.ref t), .val (.ref y), .val (.int 1)] [(.ref t), (.int 1)])) (fun _ kt => XS.icmpYes X0.here hx rfl (pc0 := 21) (pc' := 26) rfl (hb hby d30_21) rfl (XT.ii_eq_t hc14) (by decide) (by decide) (XS.iinc X0.here hx rfl (hb hby d30_26) rfl (l' := #[.val (.ref t), .val (.ref y), .val (.int 1)]) rfl (XS.goto X0.here hx rfl (pc0 := 29) (pc' := 9) rfl (hb hby d30_29) (by decide) (by decide) (XS.iloadN X0.here hx rfl (hb hby d30_9) rfl (XS.aloadN X0.here hx rfl (hb hby d30_10) rfl rfl kt))))) ?_
    refine own_st (T' := s₁) (g' := (mkF m 12 #[.val (.ref t), .val (.ref y), .val (.int 1)] [(.int 7), (.int 1)])) (own_alen X0 hx hZ e0 pr1 (g := (mkF m 11 #[.val (.ref t), .val (.ref y), .val (.int 1)] [(.ref t), (.int 1)])) rfl rfl (hb hby d30_11)) ?_
    refine own_st (T' := s₁) (g' := (mkF m 17 #[.val (.ref t), .val (.ref y), .val (.int 1)] [(.int 1), (.ref t)])) (fun _ kt => XS.icmpNo X0.here hx rfl (hb hby d30_12) rfl (XT.ii_ge_f (by decide)) (XS.aloadN X0.here hx rfl (hb hby d30_15) rfl rfl (XS.iloadN X0.here hx rfl (hb hby d30_16) rfl kt))) ?_
    refine own_st (T' := s₁) (g' := (mkF m 18 #[.val (.ref t), .val (.ref y), .val (.int 1)] [(.int x1.toInt8.toInt32)])) (own_bal X0 hx hZ e0 pr1 ⟨by decide, by decide⟩ rfl (g := (mkF m 17 #[.val (.ref t), .val (.ref y), .val (.int 1)] [(.int 1), (.ref t)])) rfl rfl (hb hby d30_17)) ?_
    refine own_st (T' := s₁) (g' := (mkF m 20 #[.val (.ref t), .val (.ref y), .val (.int 1)] [(.int 1), (.ref y), (.int x1.toInt8.toInt32)])) (fun _ kt => XS.aloadN X0.here hx rfl (hb hby d30_18) rfl rfl (XS.iloadN X0.here hx rfl (hb hby d30_19) rfl kt)) ?_
    refine own_st (T' := s₁) (g' := (mkF m 21 #[.val (.ref t), .val (.ref y), .val (.int 1)] [(.int 69), (.int x1.toInt8.toInt32)])) (own_bal X0 hx hZ e0 pr2 ⟨by decide, by decide⟩ rfl (g := (mkF m 20 #[.val (.ref t), .val (.ref y), .val (.int 1)] [(.int 1), (.ref y), (.int x1.toInt8.toInt32)])) rfl rfl (hb hby d30_20)) ?_
    by_cases hc15 : x1.toInt8.toInt32 = (69 : Int32)
    ·
      refine own_st (T' := s₁) (g' := (mkF m 11 #[.val (.ref t), .val (.ref y), .val (.int 2)] [(.ref t), (.int 2)])) (fun _ kt => XS.icmpYes X0.here hx rfl (pc0 := 21) (pc' := 26) rfl (hb hby d30_21) rfl (XT.ii_eq_t hc15) (by decide) (by decide) (XS.iinc X0.here hx rfl (hb hby d30_26) rfl (l' := #[.val (.ref t), .val (.ref y), .val (.int 2)]) rfl (XS.goto X0.here hx rfl (pc0 := 29) (pc' := 9) rfl (hb hby d30_29) (by decide) (by decide) (XS.iloadN X0.here hx rfl (hb hby d30_9) rfl (XS.aloadN X0.here hx rfl (hb hby d30_10) rfl rfl kt))))) ?_
      refine own_st (T' := s₁) (g' := (mkF m 12 #[.val (.ref t), .val (.ref y), .val (.int 2)] [(.int 7), (.int 2)])) (own_alen X0 hx hZ e0 pr1 (g := (mkF m 11 #[.val (.ref t), .val (.ref y), .val (.int 2)] [(.ref t), (.int 2)])) rfl rfl (hb hby d30_11)) ?_
      refine own_st (T' := s₁) (g' := (mkF m 17 #[.val (.ref t), .val (.ref y), .val (.int 2)] [(.int 2), (.ref t)])) (fun _ kt => XS.icmpNo X0.here hx rfl (hb hby d30_12) rfl (XT.ii_ge_f (by decide)) (XS.aloadN X0.here hx rfl (hb hby d30_15) rfl rfl (XS.iloadN X0.here hx rfl (hb hby d30_16) rfl kt))) ?_
      refine own_st (T' := s₁) (g' := (mkF m 18 #[.val (.ref t), .val (.ref y), .val (.int 2)] [(.int x2.toInt8.toInt32)])) (own_bal X0 hx hZ e0 pr1 ⟨by decide, by decide⟩ rfl (g := (mkF m 17 #[.val (.ref t), .val (.ref y), .val (.int 2)] [(.int 2), (.ref t)])) rfl rfl (hb hby d30_17)) ?_
      refine own_st (T' := s₁) (g' := (mkF m 20 #[.val (.ref t), .val (.ref y), .val (.int 2)] [(.int 2), (.ref y), (.int x2.toInt8.toInt32)])) (fun _ kt => XS.aloadN X0.here hx rfl (hb hby d30_18) rfl rfl (XS.iloadN X0.here hx rfl (hb hby d30_19) rfl kt)) ?_
      refine own_st (T' := s₁) (g' := (mkF m 21 #[.val (.ref t), .val (.ref y), .val (.int 2)] [(.int 72), (.int x2.toInt8.toInt32)])) (own_bal X0 hx hZ e0 pr2 ⟨by decide, by decide⟩ rfl (g := (mkF m 20 #[.val (.ref t), .val (.ref y), .val (.int 2)] [(.int 2), (.ref y), (.int x2.toInt8.toInt32)])) rfl rfl (hb hby d30_20)) ?_
      by_cases hc16 : x2.toInt8.toInt32 = (72 : Int32)
      ·
        refine own_st (T' := s₁) (g' := (mkF m 11 #[.val (.ref t), .val (.ref y), .val (.int 3)] [(.ref t), (.int 3)])) (fun _ kt => XS.icmpYes X0.here hx rfl (pc0 := 21) (pc' := 26) rfl (hb hby d30_21) rfl (XT.ii_eq_t hc16) (by decide) (by decide) (XS.iinc X0.here hx rfl (hb hby d30_26) rfl (l' := #[.val (.ref t), .val (.ref y), .val (.int 3)]) rfl (XS.goto X0.here hx rfl (pc0 := 29) (pc' := 9) rfl (hb hby d30_29) (by decide) (by decide) (XS.iloadN X0.here hx rfl (hb hby d30_9) rfl (XS.aloadN X0.here hx rfl (hb hby d30_10) rfl rfl kt))))) ?_
        refine own_st (T' := s₁) (g' := (mkF m 12 #[.val (.ref t), .val (.ref y), .val (.int 3)] [(.int 7), (.int 3)])) (own_alen X0 hx hZ e0 pr1 (g := (mkF m 11 #[.val (.ref t), .val (.ref y), .val (.int 3)] [(.ref t), (.int 3)])) rfl rfl (hb hby d30_11)) ?_
        refine own_st (T' := s₁) (g' := (mkF m 17 #[.val (.ref t), .val (.ref y), .val (.int 3)] [(.int 3), (.ref t)])) (fun _ kt => XS.icmpNo X0.here hx rfl (hb hby d30_12) rfl (XT.ii_ge_f (by decide)) (XS.aloadN X0.here hx rfl (hb hby d30_15) rfl rfl (XS.iloadN X0.here hx rfl (hb hby d30_16) rfl kt))) ?_
        refine own_st (T' := s₁) (g' := (mkF m 18 #[.val (.ref t), .val (.ref y), .val (.int 3)] [(.int x3.toInt8.toInt32)])) (own_bal X0 hx hZ e0 pr1 ⟨by decide, by decide⟩ rfl (g := (mkF m 17 #[.val (.ref t), .val (.ref y), .val (.int 3)] [(.int 3), (.ref t)])) rfl rfl (hb hby d30_17)) ?_
        refine own_st (T' := s₁) (g' := (mkF m 20 #[.val (.ref t), .val (.ref y), .val (.int 3)] [(.int 3), (.ref y), (.int x3.toInt8.toInt32)])) (fun _ kt => XS.aloadN X0.here hx rfl (hb hby d30_18) rfl rfl (XS.iloadN X0.here hx rfl (hb hby d30_19) rfl kt)) ?_
        refine own_st (T' := s₁) (g' := (mkF m 21 #[.val (.ref t), .val (.ref y), .val (.int 3)] [(.int 73), (.int x3.toInt8.toInt32)])) (own_bal X0 hx hZ e0 pr2 ⟨by decide, by decide⟩ rfl (g := (mkF m 20 #[.val (.ref t), .val (.ref y), .val (.int 3)] [(.int 3), (.ref y), (.int x3.toInt8.toInt32)])) rfl rfl (hb hby d30_20)) ?_
        by_cases hc17 : x3.toInt8.toInt32 = (73 : Int32)
        ·
          refine own_st (T' := s₁) (g' := (mkF m 11 #[.val (.ref t), .val (.ref y), .val (.int 4)] [(.ref t), (.int 4)])) (fun _ kt => XS.icmpYes X0.here hx rfl (pc0 := 21) (pc' := 26) rfl (hb hby d30_21) rfl (XT.ii_eq_t hc17) (by decide) (by decide) (XS.iinc X0.here hx rfl (hb hby d30_26) rfl (l' := #[.val (.ref t), .val (.ref y), .val (.int 4)]) rfl (XS.goto X0.here hx rfl (pc0 := 29) (pc' := 9) rfl (hb hby d30_29) (by decide) (by decide) (XS.iloadN X0.here hx rfl (hb hby d30_9) rfl (XS.aloadN X0.here hx rfl (hb hby d30_10) rfl rfl kt))))) ?_
          refine own_st (T' := s₁) (g' := (mkF m 12 #[.val (.ref t), .val (.ref y), .val (.int 4)] [(.int 7), (.int 4)])) (own_alen X0 hx hZ e0 pr1 (g := (mkF m 11 #[.val (.ref t), .val (.ref y), .val (.int 4)] [(.ref t), (.int 4)])) rfl rfl (hb hby d30_11)) ?_
          refine own_st (T' := s₁) (g' := (mkF m 17 #[.val (.ref t), .val (.ref y), .val (.int 4)] [(.int 4), (.ref t)])) (fun _ kt => XS.icmpNo X0.here hx rfl (hb hby d30_12) rfl (XT.ii_ge_f (by decide)) (XS.aloadN X0.here hx rfl (hb hby d30_15) rfl rfl (XS.iloadN X0.here hx rfl (hb hby d30_16) rfl kt))) ?_
          refine own_st (T' := s₁) (g' := (mkF m 18 #[.val (.ref t), .val (.ref y), .val (.int 4)] [(.int x4.toInt8.toInt32)])) (own_bal X0 hx hZ e0 pr1 ⟨by decide, by decide⟩ rfl (g := (mkF m 17 #[.val (.ref t), .val (.ref y), .val (.int 4)] [(.int 4), (.ref t)])) rfl rfl (hb hby d30_17)) ?_
          refine own_st (T' := s₁) (g' := (mkF m 20 #[.val (.ref t), .val (.ref y), .val (.int 4)] [(.int 4), (.ref y), (.int x4.toInt8.toInt32)])) (fun _ kt => XS.aloadN X0.here hx rfl (hb hby d30_18) rfl rfl (XS.iloadN X0.here hx rfl (hb hby d30_19) rfl kt)) ?_
          refine own_st (T' := s₁) (g' := (mkF m 21 #[.val (.ref t), .val (.ref y), .val (.int 4)] [(.int 67), (.int x4.toInt8.toInt32)])) (own_bal X0 hx hZ e0 pr2 ⟨by decide, by decide⟩ rfl (g := (mkF m 20 #[.val (.ref t), .val (.ref y), .val (.int 4)] [(.int 4), (.ref y), (.int x4.toInt8.toInt32)])) rfl rfl (hb hby d30_20)) ?_
          by_cases hc18 : x4.toInt8.toInt32 = (67 : Int32)
          ·
            refine own_st (T' := s₁) (g' := (mkF m 11 #[.val (.ref t), .val (.ref y), .val (.int 5)] [(.ref t), (.int 5)])) (fun _ kt => XS.icmpYes X0.here hx rfl (pc0 := 21) (pc' := 26) rfl (hb hby d30_21) rfl (XT.ii_eq_t hc18) (by decide) (by decide) (XS.iinc X0.here hx rfl (hb hby d30_26) rfl (l' := #[.val (.ref t), .val (.ref y), .val (.int 5)]) rfl (XS.goto X0.here hx rfl (pc0 := 29) (pc' := 9) rfl (hb hby d30_29) (by decide) (by decide) (XS.iloadN X0.here hx rfl (hb hby d30_9) rfl (XS.aloadN X0.here hx rfl (hb hby d30_10) rfl rfl kt))))) ?_
            refine own_st (T' := s₁) (g' := (mkF m 12 #[.val (.ref t), .val (.ref y), .val (.int 5)] [(.int 7), (.int 5)])) (own_alen X0 hx hZ e0 pr1 (g := (mkF m 11 #[.val (.ref t), .val (.ref y), .val (.int 5)] [(.ref t), (.int 5)])) rfl rfl (hb hby d30_11)) ?_
            refine own_st (T' := s₁) (g' := (mkF m 17 #[.val (.ref t), .val (.ref y), .val (.int 5)] [(.int 5), (.ref t)])) (fun _ kt => XS.icmpNo X0.here hx rfl (hb hby d30_12) rfl (XT.ii_ge_f (by decide)) (XS.aloadN X0.here hx rfl (hb hby d30_15) rfl rfl (XS.iloadN X0.here hx rfl (hb hby d30_16) rfl kt))) ?_
            refine own_st (T' := s₁) (g' := (mkF m 18 #[.val (.ref t), .val (.ref y), .val (.int 5)] [(.int x5.toInt8.toInt32)])) (own_bal X0 hx hZ e0 pr1 ⟨by decide, by decide⟩ rfl (g := (mkF m 17 #[.val (.ref t), .val (.ref y), .val (.int 5)] [(.int 5), (.ref t)])) rfl rfl (hb hby d30_17)) ?_
            refine own_st (T' := s₁) (g' := (mkF m 20 #[.val (.ref t), .val (.ref y), .val (.int 5)] [(.int 5), (.ref y), (.int x5.toInt8.toInt32)])) (fun _ kt => XS.aloadN X0.here hx rfl (hb hby d30_18) rfl rfl (XS.iloadN X0.here hx rfl (hb hby d30_19) rfl kt)) ?_
            refine own_st (T' := s₁) (g' := (mkF m 21 #[.val (.ref t), .val (.ref y), .val (.int 5)] [(.int 76), (.int x5.toInt8.toInt32)])) (own_bal X0 hx hZ e0 pr2 ⟨by decide, by decide⟩ rfl (g := (mkF m 20 #[.val (.ref t), .val (.ref y), .val (.int 5)] [(.int 5), (.ref y), (.int x5.toInt8.toInt32)])) rfl rfl (hb hby d30_20)) ?_
            by_cases hc19 : x5.toInt8.toInt32 = (76 : Int32)
            ·
              refine own_st (T' := s₁) (g' := (mkF m 11 #[.val (.ref t), .val (.ref y), .val (.int 6)] [(.ref t), (.int 6)])) (fun _ kt => XS.icmpYes X0.here hx rfl (pc0 := 21) (pc' := 26) rfl (hb hby d30_21) rfl (XT.ii_eq_t hc19) (by decide) (by decide) (XS.iinc X0.here hx rfl (hb hby d30_26) rfl (l' := #[.val (.ref t), .val (.ref y), .val (.int 6)]) rfl (XS.goto X0.here hx rfl (pc0 := 29) (pc' := 9) rfl (hb hby d30_29) (by decide) (by decide) (XS.iloadN X0.here hx rfl (hb hby d30_9) rfl (XS.aloadN X0.here hx rfl (hb hby d30_10) rfl rfl kt))))) ?_
              refine own_st (T' := s₁) (g' := (mkF m 12 #[.val (.ref t), .val (.ref y), .val (.int 6)] [(.int 7), (.int 6)])) (own_alen X0 hx hZ e0 pr1 (g := (mkF m 11 #[.val (.ref t), .val (.ref y), .val (.int 6)] [(.ref t), (.int 6)])) rfl rfl (hb hby d30_11)) ?_
              refine own_st (T' := s₁) (g' := (mkF m 17 #[.val (.ref t), .val (.ref y), .val (.int 6)] [(.int 6), (.ref t)])) (fun _ kt => XS.icmpNo X0.here hx rfl (hb hby d30_12) rfl (XT.ii_ge_f (by decide)) (XS.aloadN X0.here hx rfl (hb hby d30_15) rfl rfl (XS.iloadN X0.here hx rfl (hb hby d30_16) rfl kt))) ?_
              refine own_st (T' := s₁) (g' := (mkF m 18 #[.val (.ref t), .val (.ref y), .val (.int 6)] [(.int x6.toInt8.toInt32)])) (own_bal X0 hx hZ e0 pr1 ⟨by decide, by decide⟩ rfl (g := (mkF m 17 #[.val (.ref t), .val (.ref y), .val (.int 6)] [(.int 6), (.ref t)])) rfl rfl (hb hby d30_17)) ?_
              refine own_st (T' := s₁) (g' := (mkF m 20 #[.val (.ref t), .val (.ref y), .val (.int 6)] [(.int 6), (.ref y), (.int x6.toInt8.toInt32)])) (fun _ kt => XS.aloadN X0.here hx rfl (hb hby d30_18) rfl rfl (XS.iloadN X0.here hx rfl (hb hby d30_19) rfl kt)) ?_
              refine own_st (T' := s₁) (g' := (mkF m 21 #[.val (.ref t), .val (.ref y), .val (.int 6)] [(.int 69), (.int x6.toInt8.toInt32)])) (own_bal X0 hx hZ e0 pr2 ⟨by decide, by decide⟩ rfl (g := (mkF m 20 #[.val (.ref t), .val (.ref y), .val (.int 6)] [(.int 6), (.ref y), (.int x6.toInt8.toInt32)])) rfl rfl (hb hby d30_20)) ?_
              by_cases hc20 : x6.toInt8.toInt32 = (69 : Int32)
              ·
                refine own_st (T' := s₁) (g' := (mkF m 11 #[.val (.ref t), .val (.ref y), .val (.int 7)] [(.ref t), (.int 7)])) (fun _ kt => XS.icmpYes X0.here hx rfl (pc0 := 21) (pc' := 26) rfl (hb hby d30_21) rfl (XT.ii_eq_t hc20) (by decide) (by decide) (XS.iinc X0.here hx rfl (hb hby d30_26) rfl (l' := #[.val (.ref t), .val (.ref y), .val (.int 7)]) rfl (XS.goto X0.here hx rfl (pc0 := 29) (pc' := 9) rfl (hb hby d30_29) (by decide) (by decide) (XS.iloadN X0.here hx rfl (hb hby d30_9) rfl (XS.aloadN X0.here hx rfl (hb hby d30_10) rfl rfl kt))))) ?_
                refine own_st (T' := s₁) (g' := (mkF m 12 #[.val (.ref t), .val (.ref y), .val (.int 7)] [(.int 7), (.int 7)])) (own_alen X0 hx hZ e0 pr1 (g := (mkF m 11 #[.val (.ref t), .val (.ref y), .val (.int 7)] [(.ref t), (.int 7)])) rfl rfl (hb hby d30_11)) ?_
                refine own_st (T' := s₁) (g' := (mkF m 33 #[.val (.ref t), .val (.ref y), .val (.int 7)] [(.int 1)])) (fun _ kt => XS.icmpYes X0.here hx rfl (pc0 := 12) (pc' := 32) rfl (hb hby d30_12) rfl (XT.ii_ge_t (by decide)) (by decide) (by decide) (XS.iconst X0.here hx rfl (hb hby d30_32) kt)) ?_
                obtain ⟨fs, hr, hrun, hended, hW, hsame⟩ := X0.leave (v := some (.int 1)) (fun h => by rw [Bd.returns] at h; cases h)
                refine own_end (retN X0 hx (t := .boolean) Bd.returns (by simp) (hb hby d30_33) hr) ⟨_, hrun, hended, _, _, rfl, ?_, ⟨_, rfl⟩, hW, hsame.mono (by decide) (by decide)⟩
                show own_le7Q Z _ _ _ _ _ _ _ _ _ _ _ h0 n0 _ s₁.heap _
                rw [e0]
                exact ⟨(congrArg (fun z => some (Value.int z)) (own_mt7 ⟨own_eqb pr3 hc14.symm (by decide), own_eqb pr4 hc15.symm (by decide), own_eqb pr5 hc16.symm (by decide), own_eqb pr6 hc17.symm (by decide), own_eqb pr7 hc18.symm (by decide), own_eqb pr8 hc19.symm (by decide), own_eqb pr9 hc20.symm (by decide)⟩)), N0, rfl⟩
              ·
                refine own_st (T' := s₁) (g' := (mkF m 25 #[.val (.ref t), .val (.ref y), .val (.int 6)] [(.int 0)])) (fun _ kt => XS.icmpNo X0.here hx rfl (hb hby d30_21) rfl (XT.ii_eq_f hc20) (XS.iconst X0.here hx rfl (hb hby d30_24) kt)) ?_
                obtain ⟨fs, hr, hrun, hended, hW, hsame⟩ := X0.leave (v := some (.int 0)) (fun h => by rw [Bd.returns] at h; cases h)
                refine own_end (retN X0 hx (t := .boolean) Bd.returns (by simp) (hb hby d30_25) hr) ⟨_, hrun, hended, _, _, rfl, ?_, ⟨_, rfl⟩, hW, hsame.mono (by decide) (by decide)⟩
                show own_le7Q Z _ _ _ _ _ _ _ _ _ _ _ h0 n0 _ s₁.heap _
                rw [e0]
                exact ⟨(congrArg (fun z => some (Value.int z)) (own_mf7 (fun q => hc20 (by rw [q.2.2.2.2.2.2]; decide)))), N0, rfl⟩
            ·
              refine own_st (T' := s₁) (g' := (mkF m 25 #[.val (.ref t), .val (.ref y), .val (.int 5)] [(.int 0)])) (fun _ kt => XS.icmpNo X0.here hx rfl (hb hby d30_21) rfl (XT.ii_eq_f hc19) (XS.iconst X0.here hx rfl (hb hby d30_24) kt)) ?_
              obtain ⟨fs, hr, hrun, hended, hW, hsame⟩ := X0.leave (v := some (.int 0)) (fun h => by rw [Bd.returns] at h; cases h)
              refine own_end (retN X0 hx (t := .boolean) Bd.returns (by simp) (hb hby d30_25) hr) ⟨_, hrun, hended, _, _, rfl, ?_, ⟨_, rfl⟩, hW, hsame.mono (by decide) (by decide)⟩
              show own_le7Q Z _ _ _ _ _ _ _ _ _ _ _ h0 n0 _ s₁.heap _
              rw [e0]
              exact ⟨(congrArg (fun z => some (Value.int z)) (own_mf7 (fun q => hc19 (by rw [q.2.2.2.2.2.1]; decide)))), N0, rfl⟩
          ·
            refine own_st (T' := s₁) (g' := (mkF m 25 #[.val (.ref t), .val (.ref y), .val (.int 4)] [(.int 0)])) (fun _ kt => XS.icmpNo X0.here hx rfl (hb hby d30_21) rfl (XT.ii_eq_f hc18) (XS.iconst X0.here hx rfl (hb hby d30_24) kt)) ?_
            obtain ⟨fs, hr, hrun, hended, hW, hsame⟩ := X0.leave (v := some (.int 0)) (fun h => by rw [Bd.returns] at h; cases h)
            refine own_end (retN X0 hx (t := .boolean) Bd.returns (by simp) (hb hby d30_25) hr) ⟨_, hrun, hended, _, _, rfl, ?_, ⟨_, rfl⟩, hW, hsame.mono (by decide) (by decide)⟩
            show own_le7Q Z _ _ _ _ _ _ _ _ _ _ _ h0 n0 _ s₁.heap _
            rw [e0]
            exact ⟨(congrArg (fun z => some (Value.int z)) (own_mf7 (fun q => hc18 (by rw [q.2.2.2.2.1]; decide)))), N0, rfl⟩
        ·
          refine own_st (T' := s₁) (g' := (mkF m 25 #[.val (.ref t), .val (.ref y), .val (.int 3)] [(.int 0)])) (fun _ kt => XS.icmpNo X0.here hx rfl (hb hby d30_21) rfl (XT.ii_eq_f hc17) (XS.iconst X0.here hx rfl (hb hby d30_24) kt)) ?_
          obtain ⟨fs, hr, hrun, hended, hW, hsame⟩ := X0.leave (v := some (.int 0)) (fun h => by rw [Bd.returns] at h; cases h)
          refine own_end (retN X0 hx (t := .boolean) Bd.returns (by simp) (hb hby d30_25) hr) ⟨_, hrun, hended, _, _, rfl, ?_, ⟨_, rfl⟩, hW, hsame.mono (by decide) (by decide)⟩
          show own_le7Q Z _ _ _ _ _ _ _ _ _ _ _ h0 n0 _ s₁.heap _
          rw [e0]
          exact ⟨(congrArg (fun z => some (Value.int z)) (own_mf7 (fun q => hc17 (by rw [q.2.2.2.1]; decide)))), N0, rfl⟩
      ·
        refine own_st (T' := s₁) (g' := (mkF m 25 #[.val (.ref t), .val (.ref y), .val (.int 2)] [(.int 0)])) (fun _ kt => XS.icmpNo X0.here hx rfl (hb hby d30_21) rfl (XT.ii_eq_f hc16) (XS.iconst X0.here hx rfl (hb hby d30_24) kt)) ?_
        obtain ⟨fs, hr, hrun, hended, hW, hsame⟩ := X0.leave (v := some (.int 0)) (fun h => by rw [Bd.returns] at h; cases h)
        refine own_end (retN X0 hx (t := .boolean) Bd.returns (by simp) (hb hby d30_25) hr) ⟨_, hrun, hended, _, _, rfl, ?_, ⟨_, rfl⟩, hW, hsame.mono (by decide) (by decide)⟩
        show own_le7Q Z _ _ _ _ _ _ _ _ _ _ _ h0 n0 _ s₁.heap _
        rw [e0]
        exact ⟨(congrArg (fun z => some (Value.int z)) (own_mf7 (fun q => hc16 (by rw [q.2.2.1]; decide)))), N0, rfl⟩
    ·
      refine own_st (T' := s₁) (g' := (mkF m 25 #[.val (.ref t), .val (.ref y), .val (.int 1)] [(.int 0)])) (fun _ kt => XS.icmpNo X0.here hx rfl (hb hby d30_21) rfl (XT.ii_eq_f hc15) (XS.iconst X0.here hx rfl (hb hby d30_24) kt)) ?_
      obtain ⟨fs, hr, hrun, hended, hW, hsame⟩ := X0.leave (v := some (.int 0)) (fun h => by rw [Bd.returns] at h; cases h)
      refine own_end (retN X0 hx (t := .boolean) Bd.returns (by simp) (hb hby d30_25) hr) ⟨_, hrun, hended, _, _, rfl, ?_, ⟨_, rfl⟩, hW, hsame.mono (by decide) (by decide)⟩
      show own_le7Q Z _ _ _ _ _ _ _ _ _ _ _ h0 n0 _ s₁.heap _
      rw [e0]
      exact ⟨(congrArg (fun z => some (Value.int z)) (own_mf7 (fun q => hc15 (by rw [q.2.1]; decide)))), N0, rfl⟩
  ·
    refine own_st (T' := s₁) (g' := (mkF m 25 #[.val (.ref t), .val (.ref y), .val (.int 0)] [(.int 0)])) (fun _ kt => XS.icmpNo X0.here hx rfl (hb hby d30_21) rfl (XT.ii_eq_f hc14) (XS.iconst X0.here hx rfl (hb hby d30_24) kt)) ?_
    obtain ⟨fs, hr, hrun, hended, hW, hsame⟩ := X0.leave (v := some (.int 0)) (fun h => by rw [Bd.returns] at h; cases h)
    refine own_end (retN X0 hx (t := .boolean) Bd.returns (by simp) (hb hby d30_25) hr) ⟨_, hrun, hended, _, _, rfl, ?_, ⟨_, rfl⟩, hW, hsame.mono (by decide) (by decide)⟩
    show own_le7Q Z _ _ _ _ _ _ _ _ _ _ _ h0 n0 _ s₁.heap _
    rw [e0]
    exact ⟨(congrArg (fun z => some (Value.int z)) (own_mf7 (fun q => hc14 (by rw [q.1]; decide)))), N0, rfl⟩
theorem d29_0 : decode jdk_42_method_66_code 0 = .ok (.aload_n 0, 1) := by decide +kernel
theorem d29_1 : decode jdk_42_method_66_code 1 = .ok (.aload_n 1, 1) := by decide +kernel
theorem d29_2 : decode jdk_42_method_66_code 2 = .ok (.if_acmp .ne 5, 3) := by decide +kernel
theorem d29_7 : decode jdk_42_method_66_code 7 = .ok (.aload_n 1, 1) := by decide +kernel
theorem d29_8 : decode jdk_42_method_66_code 8 = .ok (.instanceof 10, 3) := by decide +kernel
theorem d29_11 : decode jdk_42_method_66_code 11 = .ok (.ifCond .eq 43, 3) := by decide +kernel
theorem d29_14 : decode jdk_42_method_66_code 14 = .ok (.aload_n 1, 1) := by decide +kernel
theorem d29_15 : decode jdk_42_method_66_code 15 = .ok (.checkcast 10, 3) := by decide +kernel
theorem d29_18 : decode jdk_42_method_66_code 18 = .ok (.astore_n 2, 1) := by decide +kernel
theorem d29_19 : decode jdk_42_method_66_code 19 = .ok (.getstatic 38, 3) := by decide +kernel
theorem d29_22 : decode jdk_42_method_66_code 22 = .ok (.ifCond .eq 14, 3) := by decide +kernel
theorem d29_25 : decode jdk_42_method_66_code 25 = .ok (.aload_n 0, 1) := by decide +kernel
theorem d29_26 : decode jdk_42_method_66_code 26 = .ok (.getfield 15, 3) := by decide +kernel
theorem d29_29 : decode jdk_42_method_66_code 29 = .ok (.aload_n 2, 1) := by decide +kernel
theorem d29_30 : decode jdk_42_method_66_code 30 = .ok (.getfield 15, 3) := by decide +kernel
theorem d29_33 : decode jdk_42_method_66_code 33 = .ok (.if_icmp .ne 21, 3) := by decide +kernel
theorem d29_36 : decode jdk_42_method_66_code 36 = .ok (.aload_n 0, 1) := by decide +kernel
theorem d29_37 : decode jdk_42_method_66_code 37 = .ok (.getfield 9, 3) := by decide +kernel
theorem d29_40 : decode jdk_42_method_66_code 40 = .ok (.aload_n 2, 1) := by decide +kernel
theorem d29_41 : decode jdk_42_method_66_code 41 = .ok (.getfield 9, 3) := by decide +kernel
theorem d29_44 : decode jdk_42_method_66_code 44 = .ok (.invokestatic 541, 3) := by decide +kernel
theorem own_pd5 : parseMethodDescriptor "([B[B)Z" = some ⟨[(.array .byte), (.array .byte)], some .boolean⟩ := by decide +kernel
theorem d29_47 : decode jdk_42_method_66_code 47 = .ok (.ifCond .eq 7, 3) := by decide +kernel
theorem d29_54 : decode jdk_42_method_66_code 54 = .ok (.iconst 0, 1) := by decide +kernel
theorem d29_55 : decode jdk_42_method_66_code 55 = .ok (.ireturn, 1) := by decide +kernel
def own_edQ (Z : State) (x : Addr) (y : Addr) (zc : Int32) (tx : Addr) (ty : Addr) (kt : ClassId) (ky : ClassId) (z1 : Int32) (vt : List Value) (h0 : Heap) (n0 : Nat) (v : Option Value) (h : Heap) (L : List Loc) : Prop := v = some (.int 0) ∧ Fr n0 L ∧ h = h0
abbrev own_edR : Room := { frames := 1, cells := 0, slots := 0, locals := 14 }
theorem own_ed (l : Launch) (Z : State) (a0 : Array Value) (hw : ∀ d ∈ tables_1, d.before a0 Z = true) (ws : List Jvm.Cond) (x : Addr) (y : Addr) (zc : Int32) (tx : Addr) (ty : Addr) (kt : ClassId) (ky : ClassId) (z1 : Int32) (vt : List Value) (h0 : Heap) (n0 : Nat) (Z0 : n0 ≤ h0.size) (pr1 : Old Z n0 h0) (pr2 : Sta Z Z.heap "java/lang/String" "COMPACT_STRINGS" "Z" (.int zc)) (pr3 : ¬ zc = 0) (pr4 : Exa Z h0 x "java/lang/String") (pr5 : Fld Z h0 x "java/lang/String" "coder" "B" (.int 0)) (pr6 : Fld Z h0 x "java/lang/String" "value" "[B" (.ref tx)) (pr7 : Arv Z h0 tx kt .byte z1 vt (.int 0)) (pr8 : Exa Z h0 y "java/lang/String") (pr9 : Fld Z h0 y "java/lang/String" "coder" "B" (.int 0)) (pr10 : Fld Z h0 y "java/lang/String" "value" "[B" (.ref ty)) (pr11 : Arv Z h0 ty ky .byte (7 : Int32) [(.int 86), (.int 69), (.int 72), (.int 73), (.int 67), (.int 76), (.int 69)] (.int 0)) (pr12 : ¬ z1 = (7 : Int32)) :
    own_M l yN2 jdk_42_method_66_code 3 (some .boolean) ws own_edR #[(.ref x), (.ref y)] Z h0 (own_edQ Z x y zc tx ty kt ky z1 vt h0 n0) := by
  refine own_go (plainFor_of_name own_pn2) (fun m => own_ef5 m x y ) ?_
  intro p e s m below meth c s₁ Bd hx hby hml hZ hh hown hnm X0 e0
  have N0 := Fr.nil n0
  have hne : x ≠ y := fun e => pr12 (own_strs pr6 pr10 pr7 pr11 e).1
  refine own_st (T' := s₁) (g' := (mkF m 8 #[.val (.ref x), .val (.ref y), .unset] [(.ref y)])) (fun _ kt => XS.aloadN X0.here hx rfl (hb hby d29_0) rfl rfl (XS.aloadN X0.here hx rfl (hb hby d29_1) rfl rfl (XT.acmpYes X0.here hx rfl (pc0 := 2) (pc' := 7) rfl (hb hby d29_2) rfl rfl rfl (XT.aa_ne_t (fun q => hne (by injection q))) (by decide) (by decide) (XS.aloadN X0.here hx rfl (hb hby d29_7) rfl rfl kt)))) ?_
  obtain ⟨T21, X21, e21, st21⟩ := instY X0 hx hZ hown (own_k hw 38 rfl) e0 (Ins.self pr8) (g := (mkF m 8 #[.val (.ref x), .val (.ref y), .unset] [(.ref y)])) rfl rfl (hb hby d29_8)
  refine own_st (T' := T21) (g' := (mkF m 11 #[.val (.ref x), .val (.ref y), .unset] [(.int 1)])) st21 ?_
  refine own_st (T' := T21) (g' := (mkF m 15 #[.val (.ref x), .val (.ref y), .unset] [(.ref y)])) (fun _ kt => XS.ifNo X21.here hx rfl (hb hby d29_11) rfl (XT.i0_eq_f (by decide)) (XS.aloadN X21.here hx rfl (hb hby d29_14) rfl rfl kt)) ?_
  obtain ⟨T22, X22, e22, st22⟩ := castY X21 hx hZ hown (own_k hw 38 rfl) e21 (Ins.self pr8) (g := (mkF m 15 #[.val (.ref x), .val (.ref y), .unset] [(.ref y)])) rfl rfl (hb hby d29_15)
  refine own_st (T' := T22) (g' := (mkF m 18 #[.val (.ref x), .val (.ref y), .unset] [(.ref y)])) st22 ?_
  refine own_st (T' := T22) (g' := (mkF m 19 #[.val (.ref x), .val (.ref y), .val (.ref y)] [])) (fun _ kt => XS.astoreN X22.here hx rfl (hb hby d29_18) rfl rfl (l' := #[.val (.ref x), .val (.ref y), .val (.ref y)]) rfl kt) ?_
  obtain ⟨T23, X23, e23, st23⟩ := getS2 X22 hx hZ hown (host := "") (Or.inl (own_k hw 15 rfl)) Via.refl e22 (Sta.ext pr1.2 pr2) (g := (mkF m 19 #[.val (.ref x), .val (.ref y), .val (.ref y)] [])) rfl (hb hby d29_19)
  refine own_st (T' := T23) (g' := (mkF m 22 #[.val (.ref x), .val (.ref y), .val (.ref y)] [(.int zc)])) st23 ?_
  refine own_st (T' := T23) (g' := (mkF m 26 #[.val (.ref x), .val (.ref y), .val (.ref y)] [(.ref x)])) (fun _ kt => XS.ifNo X23.here hx rfl (hb hby d29_22) rfl (XT.i0_eq_f pr3) (XS.aloadN X23.here hx rfl (hb hby d29_25) rfl rfl kt)) ?_
  obtain ⟨T24, X24, e24, st24⟩ := getF X23 hx hZ hown (host := "") (Or.inl (own_k hw 27 rfl)) Via.refl e23 pr5 (g := (mkF m 26 #[.val (.ref x), .val (.ref y), .val (.ref y)] [(.ref x)])) rfl rfl (hb hby d29_26)
  refine own_st (T' := T24) (g' := (mkF m 29 #[.val (.ref x), .val (.ref y), .val (.ref y)] [(.int 0)])) st24 ?_
  refine own_st (T' := T24) (g' := (mkF m 30 #[.val (.ref x), .val (.ref y), .val (.ref y)] [(.ref y), (.int 0)])) (fun _ kt => XS.aloadN X24.here hx rfl (hb hby d29_29) rfl rfl kt) ?_
  obtain ⟨T25, X25, e25, st25⟩ := getF X24 hx hZ hown (host := "") (Or.inl (own_k hw 27 rfl)) Via.refl e24 pr9 (g := (mkF m 30 #[.val (.ref x), .val (.ref y), .val (.ref y)] [(.ref y), (.int 0)])) rfl rfl (hb hby d29_30)
  refine own_st (T' := T25) (g' := (mkF m 33 #[.val (.ref x), .val (.ref y), .val (.ref y)] [(.int 0), (.int 0)])) st25 ?_
  refine own_st (T' := T25) (g' := (mkF m 37 #[.val (.ref x), .val (.ref y), .val (.ref y)] [(.ref x)])) (fun _ kt => XS.icmpNo X25.here hx rfl (hb hby d29_33) rfl (XT.ii_ne_f (by decide)) (XS.aloadN X25.here hx rfl (hb hby d29_36) rfl rfl kt)) ?_
  obtain ⟨T26, X26, e26, st26⟩ := getF X25 hx hZ hown (host := "") (Or.inl (own_k hw 29 rfl)) Via.refl e25 pr6 (g := (mkF m 37 #[.val (.ref x), .val (.ref y), .val (.ref y)] [(.ref x)])) rfl rfl (hb hby d29_37)
  refine own_st (T' := T26) (g' := (mkF m 40 #[.val (.ref x), .val (.ref y), .val (.ref y)] [(.ref tx)])) st26 ?_
  refine own_st (T' := T26) (g' := (mkF m 41 #[.val (.ref x), .val (.ref y), .val (.ref y)] [(.ref y), (.ref tx)])) (fun _ kt => XS.aloadN X26.here hx rfl (hb hby d29_40) rfl rfl kt) ?_
  obtain ⟨T27, X27, e27, st27⟩ := getF X26 hx hZ hown (host := "") (Or.inl (own_k hw 29 rfl)) Via.refl e26 pr10 (g := (mkF m 41 #[.val (.ref x), .val (.ref y), .val (.ref y)] [(.ref y), (.ref tx)])) rfl rfl (hb hby d29_41)
  refine own_st (T' := T27) (g' := (mkF m 44 #[.val (.ref x), .val (.ref y), .val (.ref y)] [(.ref ty), (.ref tx)])) st27 ?_
  obtain ⟨_, _, ⟨T28, L28, k28, n28⟩, -, X28, ⟨Lc28, hQ28, l28, y28, z28⟩, st28⟩ := Jvm.LawKit.callS X27 hx (y := yN4) hown (mvT hZ (own_k hw 162 rfl)) (mvT hZ (own_k hw 163 rfl)) (mvT hZ (own_k hw 36 rfl)) (mvT hZ (own_k hw 164 rfl)) (by decide) (backOf (W := 0) (own_led l Z a0 hw [] tx ty kt ky z1 (7 : Int32) vt [(.int 86), (.int 69), (.int 72), (.int 73), (.int 67), (.int 76), (.int 69)] h0 n0 Z0 pr7 pr11 pr12) hZ (own_k hw 164 rfl) (own_k hw 36 rfl) (by decide) (by decide)) (g := (mkF m 44 #[.val (.ref x), .val (.ref y), .val (.ref y)] [(.ref ty), (.ref tx)])) rfl hml.symm  (argsL := [(.ref tx), (.ref ty)]) (rest := []) (lenOf own_pd5 rfl) rfl (own_w0 rfl rfl) (hb hby d29_44) (fun _ _ => ⟨rfl, e27, (by decide : 0 + 0 ≤ 0), (by decide : 0 + 0 ≤ 0)⟩)
  dsimp only [Pt.U, Pt.locs, Pt.cells, Pt.slots] at X28 l28 y28 z28 st28 hQ28
  subst l28 y28 z28
  obtain ⟨rfl, N28, e28⟩ := hQ28
  have N29 := Fr.app N0 N28
  refine own_st (T' := T28) (g' := (mkF m 47 #[.val (.ref x), .val (.ref y), .val (.ref y)] [(.int 0)])) st28 ?_
  refine own_st (T' := T28) (g' := (mkF m 55 #[.val (.ref x), .val (.ref y), .val (.ref y)] [(.int 0)])) (fun _ kt => XS.ifYes X28.here hx rfl (pc0 := 47) (pc' := 54) rfl (hb hby d29_47) rfl (XT.i0_eq_t (by decide)) (by decide) (by decide) (XS.iconst X28.here hx rfl (hb hby d29_54) kt)) ?_
  obtain ⟨fs, hr, hrun, hended, hW, hsame⟩ := X28.leave (v := some (.int 0)) (fun h => by rw [Bd.returns] at h; cases h)
  refine own_end (retN X28 hx (t := .boolean) Bd.returns (by simp) (hb hby d29_55) hr) ⟨_, hrun, hended, _, _, rfl, ?_, ⟨_, rfl⟩, hW, hsame.mono (by decide) (by decide)⟩
  show own_edQ Z _ _ _ _ _ _ _ _ _ h0 n0 _ T28.heap _
  rw [e28]
  exact ⟨rfl, N29, rfl⟩
def own_evQ (Z : State) (x : Addr) (y : Addr) (zc : Int32) (tx : Addr) (ty : Addr) (kt : ClassId) (ky : ClassId) (h0 : Heap) (n0 : Nat) (v : Option Value) (h : Heap) (L : List Loc) : Prop := v = some (.int 0) ∧ Fr n0 L ∧ h = h0
abbrev own_evR : Room := { frames := 1, cells := 0, slots := 0, locals := 14 }
theorem own_ev (l : Launch) (Z : State) (a0 : Array Value) (hw : ∀ d ∈ tables_1, d.before a0 Z = true) (ws : List Jvm.Cond) (x : Addr) (y : Addr) (zc : Int32) (tx : Addr) (ty : Addr) (kt : ClassId) (ky : ClassId) (h0 : Heap) (n0 : Nat) (Z0 : n0 ≤ h0.size) (pr1 : Old Z n0 h0) (pr2 : Sta Z Z.heap "java/lang/String" "COMPACT_STRINGS" "Z" (.int zc)) (pr3 : ¬ zc = 0) (pr4 : Exa Z h0 x "java/lang/String") (pr5 : Fld Z h0 x "java/lang/String" "coder" "B" (.int 0)) (pr6 : Fld Z h0 x "java/lang/String" "value" "[B" (.ref tx)) (pr7 : Arv Z h0 tx kt .byte (7 : Int32) [(.int 118), (.int 101), (.int 104), (.int 105), (.int 99), (.int 108), (.int 101)] (.int 0)) (pr8 : Exa Z h0 y "java/lang/String") (pr9 : Fld Z h0 y "java/lang/String" "coder" "B" (.int 0)) (pr10 : Fld Z h0 y "java/lang/String" "value" "[B" (.ref ty)) (pr11 : Arv Z h0 ty ky .byte (7 : Int32) [(.int 86), (.int 69), (.int 72), (.int 73), (.int 67), (.int 76), (.int 69)] (.int 0)) :
    own_M l yN2 jdk_42_method_66_code 3 (some .boolean) ws own_evR #[(.ref x), (.ref y)] Z h0 (own_evQ Z x y zc tx ty kt ky h0 n0) := by
  refine own_go (plainFor_of_name own_pn2) (fun m => own_ef5 m x y ) ?_
  intro p e s m below meth c s₁ Bd hx hby hml hZ hh hown hnm X0 e0
  have N0 := Fr.nil n0
  have hne : x ≠ y := fun e => absurd ((own_strs pr6 pr10 pr7 pr11 e).2 0 (by decide)) (by decide)
  refine own_st (T' := s₁) (g' := (mkF m 8 #[.val (.ref x), .val (.ref y), .unset] [(.ref y)])) (fun _ kt => XS.aloadN X0.here hx rfl (hb hby d29_0) rfl rfl (XS.aloadN X0.here hx rfl (hb hby d29_1) rfl rfl (XT.acmpYes X0.here hx rfl (pc0 := 2) (pc' := 7) rfl (hb hby d29_2) rfl rfl rfl (XT.aa_ne_t (fun q => hne (by injection q))) (by decide) (by decide) (XS.aloadN X0.here hx rfl (hb hby d29_7) rfl rfl kt)))) ?_
  obtain ⟨T30, X30, e30, st30⟩ := instY X0 hx hZ hown (own_k hw 38 rfl) e0 (Ins.self pr8) (g := (mkF m 8 #[.val (.ref x), .val (.ref y), .unset] [(.ref y)])) rfl rfl (hb hby d29_8)
  refine own_st (T' := T30) (g' := (mkF m 11 #[.val (.ref x), .val (.ref y), .unset] [(.int 1)])) st30 ?_
  refine own_st (T' := T30) (g' := (mkF m 15 #[.val (.ref x), .val (.ref y), .unset] [(.ref y)])) (fun _ kt => XS.ifNo X30.here hx rfl (hb hby d29_11) rfl (XT.i0_eq_f (by decide)) (XS.aloadN X30.here hx rfl (hb hby d29_14) rfl rfl kt)) ?_
  obtain ⟨T31, X31, e31, st31⟩ := castY X30 hx hZ hown (own_k hw 38 rfl) e30 (Ins.self pr8) (g := (mkF m 15 #[.val (.ref x), .val (.ref y), .unset] [(.ref y)])) rfl rfl (hb hby d29_15)
  refine own_st (T' := T31) (g' := (mkF m 18 #[.val (.ref x), .val (.ref y), .unset] [(.ref y)])) st31 ?_
  refine own_st (T' := T31) (g' := (mkF m 19 #[.val (.ref x), .val (.ref y), .val (.ref y)] [])) (fun _ kt => XS.astoreN X31.here hx rfl (hb hby d29_18) rfl rfl (l' := #[.val (.ref x), .val (.ref y), .val (.ref y)]) rfl kt) ?_
  obtain ⟨T32, X32, e32, st32⟩ := getS2 X31 hx hZ hown (host := "") (Or.inl (own_k hw 15 rfl)) Via.refl e31 (Sta.ext pr1.2 pr2) (g := (mkF m 19 #[.val (.ref x), .val (.ref y), .val (.ref y)] [])) rfl (hb hby d29_19)
  refine own_st (T' := T32) (g' := (mkF m 22 #[.val (.ref x), .val (.ref y), .val (.ref y)] [(.int zc)])) st32 ?_
  refine own_st (T' := T32) (g' := (mkF m 26 #[.val (.ref x), .val (.ref y), .val (.ref y)] [(.ref x)])) (fun _ kt => XS.ifNo X32.here hx rfl (hb hby d29_22) rfl (XT.i0_eq_f pr3) (XS.aloadN X32.here hx rfl (hb hby d29_25) rfl rfl kt)) ?_
  obtain ⟨T33, X33, e33, st33⟩ := getF X32 hx hZ hown (host := "") (Or.inl (own_k hw 27 rfl)) Via.refl e32 pr5 (g := (mkF m 26 #[.val (.ref x), .val (.ref y), .val (.ref y)] [(.ref x)])) rfl rfl (hb hby d29_26)
  refine own_st (T' := T33) (g' := (mkF m 29 #[.val (.ref x), .val (.ref y), .val (.ref y)] [(.int 0)])) st33 ?_
  refine own_st (T' := T33) (g' := (mkF m 30 #[.val (.ref x), .val (.ref y), .val (.ref y)] [(.ref y), (.int 0)])) (fun _ kt => XS.aloadN X33.here hx rfl (hb hby d29_29) rfl rfl kt) ?_
  obtain ⟨T34, X34, e34, st34⟩ := getF X33 hx hZ hown (host := "") (Or.inl (own_k hw 27 rfl)) Via.refl e33 pr9 (g := (mkF m 30 #[.val (.ref x), .val (.ref y), .val (.ref y)] [(.ref y), (.int 0)])) rfl rfl (hb hby d29_30)
  refine own_st (T' := T34) (g' := (mkF m 33 #[.val (.ref x), .val (.ref y), .val (.ref y)] [(.int 0), (.int 0)])) st34 ?_
  refine own_st (T' := T34) (g' := (mkF m 37 #[.val (.ref x), .val (.ref y), .val (.ref y)] [(.ref x)])) (fun _ kt => XS.icmpNo X34.here hx rfl (hb hby d29_33) rfl (XT.ii_ne_f (by decide)) (XS.aloadN X34.here hx rfl (hb hby d29_36) rfl rfl kt)) ?_
  obtain ⟨T35, X35, e35, st35⟩ := getF X34 hx hZ hown (host := "") (Or.inl (own_k hw 29 rfl)) Via.refl e34 pr6 (g := (mkF m 37 #[.val (.ref x), .val (.ref y), .val (.ref y)] [(.ref x)])) rfl rfl (hb hby d29_37)
  refine own_st (T' := T35) (g' := (mkF m 40 #[.val (.ref x), .val (.ref y), .val (.ref y)] [(.ref tx)])) st35 ?_
  refine own_st (T' := T35) (g' := (mkF m 41 #[.val (.ref x), .val (.ref y), .val (.ref y)] [(.ref y), (.ref tx)])) (fun _ kt => XS.aloadN X35.here hx rfl (hb hby d29_40) rfl rfl kt) ?_
  obtain ⟨T36, X36, e36, st36⟩ := getF X35 hx hZ hown (host := "") (Or.inl (own_k hw 29 rfl)) Via.refl e35 pr10 (g := (mkF m 41 #[.val (.ref x), .val (.ref y), .val (.ref y)] [(.ref y), (.ref tx)])) rfl rfl (hb hby d29_41)
  refine own_st (T' := T36) (g' := (mkF m 44 #[.val (.ref x), .val (.ref y), .val (.ref y)] [(.ref ty), (.ref tx)])) st36 ?_
  obtain ⟨_, _, ⟨T37, L37, k37, n37⟩, -, X37, ⟨Lc37, hQ37, l37, y37, z37⟩, st37⟩ := Jvm.LawKit.callS X36 hx (y := yN4) hown (mvT hZ (own_k hw 162 rfl)) (mvT hZ (own_k hw 163 rfl)) (mvT hZ (own_k hw 36 rfl)) (mvT hZ (own_k hw 164 rfl)) (by decide) (backOf (W := 0) (own_lev l Z a0 hw [] tx ty kt ky h0 n0 Z0 pr7 pr11) hZ (own_k hw 164 rfl) (own_k hw 36 rfl) (by decide) (by decide)) (g := (mkF m 44 #[.val (.ref x), .val (.ref y), .val (.ref y)] [(.ref ty), (.ref tx)])) rfl hml.symm  (argsL := [(.ref tx), (.ref ty)]) (rest := []) (lenOf own_pd5 rfl) rfl (own_w0 rfl rfl) (hb hby d29_44) (fun _ _ => ⟨rfl, e36, (by decide : 0 + 0 ≤ 0), (by decide : 0 + 0 ≤ 0)⟩)
  dsimp only [Pt.U, Pt.locs, Pt.cells, Pt.slots] at X37 l37 y37 z37 st37 hQ37
  subst l37 y37 z37
  obtain ⟨rfl, N37, e37⟩ := hQ37
  have N38 := Fr.app N0 N37
  refine own_st (T' := T37) (g' := (mkF m 47 #[.val (.ref x), .val (.ref y), .val (.ref y)] [(.int 0)])) st37 ?_
  refine own_st (T' := T37) (g' := (mkF m 55 #[.val (.ref x), .val (.ref y), .val (.ref y)] [(.int 0)])) (fun _ kt => XS.ifYes X37.here hx rfl (pc0 := 47) (pc' := 54) rfl (hb hby d29_47) rfl (XT.i0_eq_t (by decide)) (by decide) (by decide) (XS.iconst X37.here hx rfl (hb hby d29_54) kt)) ?_
  obtain ⟨fs, hr, hrun, hended, hW, hsame⟩ := X37.leave (v := some (.int 0)) (fun h => by rw [Bd.returns] at h; cases h)
  refine own_end (retN X37 hx (t := .boolean) Bd.returns (by simp) (hb hby d29_55) hr) ⟨_, hrun, hended, _, _, rfl, ?_, ⟨_, rfl⟩, hW, hsame.mono (by decide) (by decide)⟩
  show own_evQ Z _ _ _ _ _ _ _ h0 n0 _ T37.heap _
  rw [e37]
  exact ⟨rfl, N38, rfl⟩
theorem d29_5 : decode jdk_42_method_66_code 5 = .ok (.iconst 1, 1) := by decide +kernel
theorem d29_6 : decode jdk_42_method_66_code 6 = .ok (.ireturn, 1) := by decide +kernel
theorem d29_50 : decode jdk_42_method_66_code 50 = .ok (.iconst 1, 1) := by decide +kernel
theorem d29_51 : decode jdk_42_method_66_code 51 = .ok (.goto 4, 3) := by decide +kernel
def own_eeQ (Z : State) (x : Addr) (y : Addr) (zc : Int32) (tx : Addr) (ty : Addr) (kt : ClassId) (ky : ClassId) (x0 : Int32) (x1 : Int32) (x2 : Int32) (x3 : Int32) (x4 : Int32) (x5 : Int32) (x6 : Int32) (h0 : Heap) (n0 : Nat) (v : Option Value) (h : Heap) (L : List Loc) : Prop := v = some (.int (own_m7 x0 x1 x2 x3 x4 x5 x6)) ∧ Fr n0 L ∧ h = h0
abbrev own_eeR : Room := { frames := 1, cells := 0, slots := 0, locals := 14 }
theorem own_ee (l : Launch) (Z : State) (a0 : Array Value) (hw : ∀ d ∈ tables_1, d.before a0 Z = true) (ws : List Jvm.Cond) (x : Addr) (y : Addr) (zc : Int32) (tx : Addr) (ty : Addr) (kt : ClassId) (ky : ClassId) (x0 : Int32) (x1 : Int32) (x2 : Int32) (x3 : Int32) (x4 : Int32) (x5 : Int32) (x6 : Int32) (h0 : Heap) (n0 : Nat) (Z0 : n0 ≤ h0.size) (pr1 : Old Z n0 h0) (pr2 : Sta Z Z.heap "java/lang/String" "COMPACT_STRINGS" "Z" (.int zc)) (pr3 : ¬ zc = 0) (pr4 : Exa Z h0 x "java/lang/String") (pr5 : Fld Z h0 x "java/lang/String" "coder" "B" (.int 0)) (pr6 : Fld Z h0 x "java/lang/String" "value" "[B" (.ref tx)) (pr7 : Arv Z h0 tx kt .byte (7 : Int32) [(.int x0.toInt8.toInt32), (.int x1.toInt8.toInt32), (.int x2.toInt8.toInt32), (.int x3.toInt8.toInt32), (.int x4.toInt8.toInt32), (.int x5.toInt8.toInt32), (.int x6.toInt8.toInt32)] (.int 0)) (pr8 : Exa Z h0 y "java/lang/String") (pr9 : Fld Z h0 y "java/lang/String" "coder" "B" (.int 0)) (pr10 : Fld Z h0 y "java/lang/String" "value" "[B" (.ref ty)) (pr11 : Arv Z h0 ty ky .byte (7 : Int32) [(.int 86), (.int 69), (.int 72), (.int 73), (.int 67), (.int 76), (.int 69)] (.int 0)) (pr12 : own_cc x0) (pr13 : own_cc x1) (pr14 : own_cc x2) (pr15 : own_cc x3) (pr16 : own_cc x4) (pr17 : own_cc x5) (pr18 : own_cc x6) :
    own_M l yN2 jdk_42_method_66_code 3 (some .boolean) ws own_eeR #[(.ref x), (.ref y)] Z h0 (own_eeQ Z x y zc tx ty kt ky x0 x1 x2 x3 x4 x5 x6 h0 n0) := by
  refine own_go (plainFor_of_name own_pn2) (fun m => own_ef5 m x y ) ?_
  intro p e s m below meth c s₁ Bd hx hby hml hZ hh hown hnm X0 e0
  have N0 := Fr.nil n0
  by_cases hxy : x = y
  ·
    have hs := own_strs pr6 pr10 pr7 pr11 hxy
    subst hxy
    refine own_st (T' := s₁) (g' := (mkF m 6 #[.val (.ref x), .val (.ref x), .unset] [(.int 1)])) (fun _ kt => XS.aloadN X0.here hx rfl (hb hby d29_0) rfl rfl (XS.aloadN X0.here hx rfl (hb hby d29_1) rfl rfl (XT.acmpNo X0.here hx rfl (hb hby d29_2) rfl rfl rfl (XT.aa_ne_f rfl) (XS.iconst X0.here hx rfl (hb hby d29_5) kt)))) ?_
    obtain ⟨fs, hr, hrun, hended, hW, hsame⟩ := X0.leave (v := some (.int 1)) (fun h => by rw [Bd.returns] at h; cases h)
    refine own_end (retN X0 hx (t := .boolean) Bd.returns (by simp) (hb hby d29_6) hr) ⟨_, hrun, hended, _, _, rfl, ?_, ⟨_, rfl⟩, hW, hsame.mono (by decide) (by decide)⟩
    show own_eeQ Z _ _ _ _ _ _ _ _ _ _ _ _ _ _ h0 n0 _ s₁.heap _
    rw [e0]
    exact ⟨(congrArg (fun z => some (Value.int z)) (own_mt7 ⟨own_eqb pr12 (by have q := hs.2 0 (by decide); exact (Value.int.inj q).symm) (by decide), own_eqb pr13 (by have q := hs.2 1 (by decide); exact (Value.int.inj q).symm) (by decide), own_eqb pr14 (by have q := hs.2 2 (by decide); exact (Value.int.inj q).symm) (by decide), own_eqb pr15 (by have q := hs.2 3 (by decide); exact (Value.int.inj q).symm) (by decide), own_eqb pr16 (by have q := hs.2 4 (by decide); exact (Value.int.inj q).symm) (by decide), own_eqb pr17 (by have q := hs.2 5 (by decide); exact (Value.int.inj q).symm) (by decide), own_eqb pr18 (by have q := hs.2 6 (by decide); exact (Value.int.inj q).symm) (by decide)⟩)), N0, rfl⟩
  ·
    refine own_st (T' := s₁) (g' := (mkF m 8 #[.val (.ref x), .val (.ref y), .unset] [(.ref y)])) (fun _ kt => XS.aloadN X0.here hx rfl (hb hby d29_0) rfl rfl (XS.aloadN X0.here hx rfl (hb hby d29_1) rfl rfl (XT.acmpYes X0.here hx rfl (pc0 := 2) (pc' := 7) rfl (hb hby d29_2) rfl rfl rfl (XT.aa_ne_t (fun q => hxy (by injection q))) (by decide) (by decide) (XS.aloadN X0.here hx rfl (hb hby d29_7) rfl rfl kt)))) ?_
    obtain ⟨T39, X39, e39, st39⟩ := instY X0 hx hZ hown (own_k hw 38 rfl) e0 (Ins.self pr8) (g := (mkF m 8 #[.val (.ref x), .val (.ref y), .unset] [(.ref y)])) rfl rfl (hb hby d29_8)
    refine own_st (T' := T39) (g' := (mkF m 11 #[.val (.ref x), .val (.ref y), .unset] [(.int 1)])) st39 ?_
    refine own_st (T' := T39) (g' := (mkF m 15 #[.val (.ref x), .val (.ref y), .unset] [(.ref y)])) (fun _ kt => XS.ifNo X39.here hx rfl (hb hby d29_11) rfl (XT.i0_eq_f (by decide)) (XS.aloadN X39.here hx rfl (hb hby d29_14) rfl rfl kt)) ?_
    obtain ⟨T40, X40, e40, st40⟩ := castY X39 hx hZ hown (own_k hw 38 rfl) e39 (Ins.self pr8) (g := (mkF m 15 #[.val (.ref x), .val (.ref y), .unset] [(.ref y)])) rfl rfl (hb hby d29_15)
    refine own_st (T' := T40) (g' := (mkF m 18 #[.val (.ref x), .val (.ref y), .unset] [(.ref y)])) st40 ?_
    refine own_st (T' := T40) (g' := (mkF m 19 #[.val (.ref x), .val (.ref y), .val (.ref y)] [])) (fun _ kt => XS.astoreN X40.here hx rfl (hb hby d29_18) rfl rfl (l' := #[.val (.ref x), .val (.ref y), .val (.ref y)]) rfl kt) ?_
    obtain ⟨T41, X41, e41, st41⟩ := getS2 X40 hx hZ hown (host := "") (Or.inl (own_k hw 15 rfl)) Via.refl e40 (Sta.ext pr1.2 pr2) (g := (mkF m 19 #[.val (.ref x), .val (.ref y), .val (.ref y)] [])) rfl (hb hby d29_19)
    refine own_st (T' := T41) (g' := (mkF m 22 #[.val (.ref x), .val (.ref y), .val (.ref y)] [(.int zc)])) st41 ?_
    refine own_st (T' := T41) (g' := (mkF m 26 #[.val (.ref x), .val (.ref y), .val (.ref y)] [(.ref x)])) (fun _ kt => XS.ifNo X41.here hx rfl (hb hby d29_22) rfl (XT.i0_eq_f pr3) (XS.aloadN X41.here hx rfl (hb hby d29_25) rfl rfl kt)) ?_
    obtain ⟨T42, X42, e42, st42⟩ := getF X41 hx hZ hown (host := "") (Or.inl (own_k hw 27 rfl)) Via.refl e41 pr5 (g := (mkF m 26 #[.val (.ref x), .val (.ref y), .val (.ref y)] [(.ref x)])) rfl rfl (hb hby d29_26)
    refine own_st (T' := T42) (g' := (mkF m 29 #[.val (.ref x), .val (.ref y), .val (.ref y)] [(.int 0)])) st42 ?_
    refine own_st (T' := T42) (g' := (mkF m 30 #[.val (.ref x), .val (.ref y), .val (.ref y)] [(.ref y), (.int 0)])) (fun _ kt => XS.aloadN X42.here hx rfl (hb hby d29_29) rfl rfl kt) ?_
    obtain ⟨T43, X43, e43, st43⟩ := getF X42 hx hZ hown (host := "") (Or.inl (own_k hw 27 rfl)) Via.refl e42 pr9 (g := (mkF m 30 #[.val (.ref x), .val (.ref y), .val (.ref y)] [(.ref y), (.int 0)])) rfl rfl (hb hby d29_30)
    refine own_st (T' := T43) (g' := (mkF m 33 #[.val (.ref x), .val (.ref y), .val (.ref y)] [(.int 0), (.int 0)])) st43 ?_
    refine own_st (T' := T43) (g' := (mkF m 37 #[.val (.ref x), .val (.ref y), .val (.ref y)] [(.ref x)])) (fun _ kt => XS.icmpNo X43.here hx rfl (hb hby d29_33) rfl (XT.ii_ne_f (by decide)) (XS.aloadN X43.here hx rfl (hb hby d29_36) rfl rfl kt)) ?_
    obtain ⟨T44, X44, e44, st44⟩ := getF X43 hx hZ hown (host := "") (Or.inl (own_k hw 29 rfl)) Via.refl e43 pr6 (g := (mkF m 37 #[.val (.ref x), .val (.ref y), .val (.ref y)] [(.ref x)])) rfl rfl (hb hby d29_37)
    refine own_st (T' := T44) (g' := (mkF m 40 #[.val (.ref x), .val (.ref y), .val (.ref y)] [(.ref tx)])) st44 ?_
    refine own_st (T' := T44) (g' := (mkF m 41 #[.val (.ref x), .val (.ref y), .val (.ref y)] [(.ref y), (.ref tx)])) (fun _ kt => XS.aloadN X44.here hx rfl (hb hby d29_40) rfl rfl kt) ?_
    obtain ⟨T45, X45, e45, st45⟩ := getF X44 hx hZ hown (host := "") (Or.inl (own_k hw 29 rfl)) Via.refl e44 pr10 (g := (mkF m 41 #[.val (.ref x), .val (.ref y), .val (.ref y)] [(.ref y), (.ref tx)])) rfl rfl (hb hby d29_41)
    refine own_st (T' := T45) (g' := (mkF m 44 #[.val (.ref x), .val (.ref y), .val (.ref y)] [(.ref ty), (.ref tx)])) st45 ?_
    obtain ⟨_, _, ⟨T46, L46, k46, n46⟩, -, X46, ⟨Lc46, hQ46, l46, y46, z46⟩, st46⟩ := Jvm.LawKit.callS X45 hx (y := yN4) hown (mvT hZ (own_k hw 162 rfl)) (mvT hZ (own_k hw 163 rfl)) (mvT hZ (own_k hw 36 rfl)) (mvT hZ (own_k hw 164 rfl)) (by decide) (backOf (W := 0) (own_le7 l Z a0 hw [] tx ty kt ky x0 x1 x2 x3 x4 x5 x6 h0 n0 Z0 pr7 pr11 pr12 pr13 pr14 pr15 pr16 pr17 pr18) hZ (own_k hw 164 rfl) (own_k hw 36 rfl) (by decide) (by decide)) (g := (mkF m 44 #[.val (.ref x), .val (.ref y), .val (.ref y)] [(.ref ty), (.ref tx)])) rfl hml.symm  (argsL := [(.ref tx), (.ref ty)]) (rest := []) (lenOf own_pd5 rfl) rfl (own_w0 rfl rfl) (hb hby d29_44) (fun _ _ => ⟨rfl, e45, (by decide : 0 + 0 ≤ 0), (by decide : 0 + 0 ≤ 0)⟩)
    dsimp only [Pt.U, Pt.locs, Pt.cells, Pt.slots] at X46 l46 y46 z46 st46 hQ46
    subst l46 y46 z46
    obtain ⟨rfl, N46, e46⟩ := hQ46
    have N47 := Fr.app N0 N46
    refine own_st (T' := T46) (g' := (mkF m 47 #[.val (.ref x), .val (.ref y), .val (.ref y)] [(.int (own_m7 x0 x1 x2 x3 x4 x5 x6))])) st46 ?_
    by_cases hc48 : (own_m7 x0 x1 x2 x3 x4 x5 x6) = 0
    ·
      refine own_st (T' := T46) (g' := (mkF m 55 #[.val (.ref x), .val (.ref y), .val (.ref y)] [(.int 0)])) (fun _ kt => XS.ifYes X46.here hx rfl (pc0 := 47) (pc' := 54) rfl (hb hby d29_47) rfl (XT.i0_eq_t hc48) (by decide) (by decide) (XS.iconst X46.here hx rfl (hb hby d29_54) kt)) ?_
      obtain ⟨fs, hr, hrun, hended, hW, hsame⟩ := X46.leave (v := some (.int 0)) (fun h => by rw [Bd.returns] at h; cases h)
      refine own_end (retN X46 hx (t := .boolean) Bd.returns (by simp) (hb hby d29_55) hr) ⟨_, hrun, hended, _, _, rfl, ?_, ⟨_, rfl⟩, hW, hsame.mono (by decide) (by decide)⟩
      show own_eeQ Z _ _ _ _ _ _ _ _ _ _ _ _ _ _ h0 n0 _ T46.heap _
      rw [e46]
      exact ⟨(congrArg (fun z => some (Value.int z)) (hc48.symm)), N47, rfl⟩
    ·
      refine own_st (T' := T46) (g' := (mkF m 55 #[.val (.ref x), .val (.ref y), .val (.ref y)] [(.int 1)])) (fun _ kt => XS.ifNo X46.here hx rfl (hb hby d29_47) rfl (XT.i0_eq_f hc48) (XS.iconst X46.here hx rfl (hb hby d29_50) (XS.goto X46.here hx rfl (pc0 := 51) (pc' := 55) rfl (hb hby d29_51) (by decide) (by decide) kt))) ?_
      obtain ⟨fs, hr, hrun, hended, hW, hsame⟩ := X46.leave (v := some (.int 1)) (fun h => by rw [Bd.returns] at h; cases h)
      refine own_end (retN X46 hx (t := .boolean) Bd.returns (by simp) (hb hby d29_55) hr) ⟨_, hrun, hended, _, _, rfl, ?_, ⟨_, rfl⟩, hW, hsame.mono (by decide) (by decide)⟩
      show own_eeQ Z _ _ _ _ _ _ _ _ _ _ _ _ _ _ h0 n0 _ T46.heap _
      rw [e46]
      exact ⟨(congrArg (fun z => some (Value.int z)) (own_mz7 hc48)), N47, rfl⟩
theorem d8_0 : decode jdk_43_method_3_code 0 = .ok (.iload_n 0, 1) := by decide +kernel
theorem d8_1 : decode jdk_43_method_3_code 1 = .ok (.sipush 255, 3) := by decide +kernel
theorem d8_4 : decode jdk_43_method_3_code 4 = .ok (.if_icmp .gt 7, 3) := by decide +kernel
theorem d8_7 : decode jdk_43_method_3_code 7 = .ok (.iconst 1, 1) := by decide +kernel
theorem d8_8 : decode jdk_43_method_3_code 8 = .ok (.goto 4, 3) := by decide +kernel
theorem d8_12 : decode jdk_43_method_3_code 12 = .ok (.ireturn, 1) := by decide +kernel
theorem own_ef6 (m : MethodId) (x0 : Int32) : entryFrame m #[(.int x0)] 1 = mkF m 0 #[.val (.int x0)] [] := by first | (simp [entryFrame, mkF, argsToLocals, Value.category]; done) | rfl
def own_cenQ (Z : State) (cc : Int32) (h0 : Heap) (n0 : Nat) (v : Option Value) (h : Heap) (L : List Loc) : Prop := v = some (.int 1) ∧ Fr n0 L ∧ h = h0
abbrev own_cenR : Room := { frames := 0, cells := 0, slots := 0, locals := 0 }
theorem own_cen (l : Launch) (Z : State) (a0 : Array Value) (hw : ∀ d ∈ tables_1, d.before a0 Z = true) (ws : List Jvm.Cond) (cc : Int32) (h0 : Heap) (n0 : Nat) (Z0 : n0 ≤ h0.size) (pr1 : own_cc cc) :
    own_M l (⟨"java/lang/StringLatin1", "canEncode", "(C)Z"⟩ : MethodName) jdk_43_method_3_code 1 (some .boolean) ws own_cenR #[(.int cc)] Z h0 (own_cenQ Z cc h0 n0) := by
  refine own_go (plainFor_of_name own_pn3) (fun m => own_ef6 m cc ) ?_
  intro p e s m below meth c s₁ Bd hx hby hml hZ hh hown hnm X0 e0
  have N0 := Fr.nil n0
  refine own_st (T' := s₁) (g' := (mkF m 12 #[.val (.int cc)] [(.int 1)])) (fun _ kt => XS.iloadN X0.here hx rfl (hb hby d8_0) rfl (XS.sipush X0.here hx rfl (hb hby d8_1) (XS.icmpNo X0.here hx rfl (hb hby d8_4) rfl (XT.ii_gt_f pr1.2.1) (XS.iconst X0.here hx rfl (hb hby d8_7) (XS.goto X0.here hx rfl (pc0 := 8) (pc' := 12) rfl (hb hby d8_8) (by decide) (by decide) kt))))) ?_
  obtain ⟨fs, hr, hrun, hended, hW, hsame⟩ := X0.leave (v := some (.int 1)) (fun h => by rw [Bd.returns] at h; cases h)
  refine own_end (retN X0 hx (t := .boolean) Bd.returns (by simp) (hb hby d8_12) hr) ⟨_, hrun, hended, _, _, rfl, ?_, ⟨_, rfl⟩, hW, hsame.mono (by decide) (by decide)⟩
  show own_cenQ Z _ h0 n0 _ s₁.heap _
  rw [e0]
  exact ⟨rfl, N0, rfl⟩
theorem d9_0 : decode jdk_43_method_46_code 0 = .ok (.iconst 1, 1) := by decide +kernel
theorem d9_1 : decode jdk_43_method_46_code 1 = .ok (.newarray .byte, 2) := by decide +kernel
theorem d9_3 : decode jdk_43_method_46_code 3 = .ok (.dup, 1) := by decide +kernel
theorem d9_4 : decode jdk_43_method_46_code 4 = .ok (.iconst 0, 1) := by decide +kernel
theorem d9_5 : decode jdk_43_method_46_code 5 = .ok (.iload_n 0, 1) := by decide +kernel
theorem d9_6 : decode jdk_43_method_46_code 6 = .ok (.i2b, 1) := by decide +kernel
theorem d9_7 : decode jdk_43_method_46_code 7 = .ok (.bastore, 1) := by decide +kernel
theorem d9_8 : decode jdk_43_method_46_code 8 = .ok (.areturn, 1) := by decide +kernel
def own_tbyQ (Z : State) (cc : Int32) (h0 : Heap) (n0 : Nat) (v : Option Value) (h : Heap) (L : List Loc) : Prop := ∃ (b : Addr), ∃ (kb : ClassId), ∃ (lb : List Value), v = some (.ref b) ∧ Fr n0 L ∧ Keep h0 h [] ∧ (Arv Z h b kb .byte (1 : Int32) lb (.int 0)) ∧ (h0.size ≤ b)
abbrev own_tbyR : Room := { frames := 0, cells := 1, slots := 1, locals := 0 }
theorem own_tby (l : Launch) (Z : State) (a0 : Array Value) (hw : ∀ d ∈ tables_1, d.before a0 Z = true) (ws : List Jvm.Cond) (cc : Int32) (h0 : Heap) (n0 : Nat) (Z0 : n0 ≤ h0.size)  :
    own_M l (⟨"java/lang/StringLatin1", "toBytes", "(C)[B"⟩ : MethodName) jdk_43_method_46_code 1 (some (.array .byte)) ws own_tbyR #[(.int cc)] Z h0 (own_tbyQ Z cc h0 n0) := by
  refine own_go (plainFor_of_name own_pn3) (fun m => own_ef6 m cc ) ?_
  intro p e s m below meth c s₁ Bd hx hby hml hZ hh hown hnm X0 e0
  have N0 := Fr.nil n0
  have K0 : Keep h0 h0 [] := Keep.refl h0 _
  refine own_st (T' := s₁) (g' := (mkF m 1 #[.val (.int cc)] [(.int 1)])) (fun _ kt => XS.iconst X0.here hx rfl (hb hby d9_0) kt) ?_
  obtain ⟨T49, h49, k49, X49, e49, E49, A49, st49⟩ := newP X0 hx hZ (aty := .byte) (own_k hw 20 rfl) e0 (g := (mkF m 1 #[.val (.int cc)] [(.int 1)])) rfl (hb hby d9_1) rfl (by decide) (cap := 1) (by decide) (by decide) (by decide) (by decide)
  obtain ⟨b49, g49⟩ : ∃ z, z = h0.size := ⟨_, rfl⟩
  rw [← g49] at A49 st49
  have Z50 : n0 ≤ h49.size := Nat.le_trans Z0 E49.1
  have K50 : Keep h0 h49 [] := (Keep.ext K0 E49)
  have ge_b49 : n0 ≤ b49 := Nat.le_trans Z0 (Nat.le_of_eq g49.symm)
  have F51 : Arv Z h49 b49 k49 .byte (1 : Int32) [(.int 0)] (.int 0) := (Arv.new A49 (by decide)).pad (pad_rep [] (.int 0) 1)
  refine own_st (T' := T49) (g' := (mkF m 3 #[.val (.int cc)] [(.ref b49)])) st49 ?_
  refine own_st (T' := T49) (g' := (mkF m 7 #[.val (.int cc)] [(.int (cc.toInt8.toInt32)), (.int 0), (.ref b49), (.ref b49)])) (fun _ kt => XS.dup X49.here hx rfl (hb hby d9_3) rfl rfl (XS.iconst X49.here hx rfl (hb hby d9_4) (XS.iloadN X49.here hx rfl (hb hby d9_5) rfl (XT.i2b X49.here hx rfl (hb hby d9_6) rfl kt)))) ?_
  obtain ⟨T52, h52, X52, e52, W52, V52, st52⟩ := own_bst X49 hx hZ e49 F51 ⟨by decide, by decide⟩ (i := 0) rfl (by simp) (y := (nar .byte (cc.toInt8.toInt32))) rfl (g := (mkF m 7 #[.val (.int cc)] [(.int (cc.toInt8.toInt32)), (.int 0), (.ref b49), (.ref b49)])) rfl rfl (hb hby d9_7)
  have N52 := Fr.snoc X52 N0 ge_b49
  have Z53 : n0 ≤ h52.size := Nat.le_trans Z50 (Nat.le_of_eq (Wr.size W52).symm)
  have K53 : Keep h0 h52 [] := (Keep.wr K50 W52 (Or.inr (Nat.le_trans K0.1 (Nat.le_of_eq g49.symm))))
  have F54 : Arv Z h52 b49 k49 .byte (1 : Int32) [(.int (nar .byte (cc.toInt8.toInt32)))] (.int 0) := V52
  refine own_st (T' := T52) (g' := (mkF m 8 #[.val (.int cc)] [(.ref b49)])) st52 ?_
  obtain ⟨fs, hr, hrun, hended, hW, hsame⟩ := X52.leave (v := some (.ref b49)) (fun h => by rw [Bd.returns] at h; cases h)
  refine own_end (own_retA X52 hx Bd.returns rfl rfl rfl (hb hby d9_8) hr) ⟨_, hrun, hended, _, _, rfl, ?_, ⟨_, rfl⟩, hW, hsame.mono (by decide) (by decide)⟩
  show own_tbyQ Z _ h0 n0 _ T52.heap _
  rw [e52]
  exact ⟨b49, k49, [(.int (nar .byte (cc.toInt8.toInt32)))], rfl, N52, K53, F54, (Nat.le_trans K0.1 (Nat.le_of_eq g49.symm))⟩
theorem d10_0 : decode jdk_42_method_151_code 0 = .ok (.aload_n 0, 1) := by decide +kernel
theorem d10_1 : decode jdk_42_method_151_code 1 = .ok (.invokespecial 1, 3) := by decide +kernel
theorem d10_4 : decode jdk_42_method_151_code 4 = .ok (.aload_n 0, 1) := by decide +kernel
theorem d10_5 : decode jdk_42_method_151_code 5 = .ok (.aload_n 1, 1) := by decide +kernel
theorem d10_6 : decode jdk_42_method_151_code 6 = .ok (.putfield 9, 3) := by decide +kernel
theorem d10_9 : decode jdk_42_method_151_code 9 = .ok (.aload_n 0, 1) := by decide +kernel
theorem d10_10 : decode jdk_42_method_151_code 10 = .ok (.iload_n 2, 1) := by decide +kernel
theorem d10_11 : decode jdk_42_method_151_code 11 = .ok (.putfield 15, 3) := by decide +kernel
theorem d10_14 : decode jdk_42_method_151_code 14 = .ok (.return_, 1) := by decide +kernel
theorem own_ef7 (m : MethodId) (x0 : Addr) (x1 : Addr) (x2 : Int32) : entryFrame m #[(.ref x0), (.ref x1), (.int x2)] 3 = mkF m 0 #[.val (.ref x0), .val (.ref x1), .val (.int x2)] [] := by first | (simp [entryFrame, mkF, argsToLocals, Value.category]; done) | rfl
def own_ibbQ (Z : State) (x0 : Addr) (t : Addr) (h0 : Heap) (n0 : Nat) (v : Option Value) (h : Heap) (L : List Loc) : Prop := v = none ∧ Fr n0 L ∧ Keep h0 h [x0] ∧ (Exa Z h x0 "java/lang/String")
abbrev own_ibbR : Room := { frames := 1, cells := 0, slots := 0, locals := 12 }
theorem own_ibb (l : Launch) (Z : State) (a0 : Array Value) (hw : ∀ d ∈ tables_1, d.before a0 Z = true) (ws : List Jvm.Cond) (x0 : Addr) (t : Addr) (h0 : Heap) (n0 : Nat) (Z0 : n0 ≤ h0.size) (pr1 : Exa Z h0 x0 "java/lang/String") (pr2 : n0 ≤ x0) (pr3 : Fld Z h0 x0 "java/lang/String" "value" "[B" .null) (pr4 : Fld Z h0 x0 "java/lang/String" "coder" "B" (.int 0)) :
    own_M l (⟨"java/lang/String", "<init>", "([BB)V"⟩ : MethodName) jdk_42_method_151_code 3 none ws own_ibbR #[(.ref x0), (.ref t), (.int 0)] Z h0 (own_ibbQ Z x0 t h0 n0) := by
  refine own_go (plainFor_of_name own_pn2) (fun m => own_ef7 m x0 t (0 : Int32) ) ?_
  intro p e s m below meth c s₁ Bd hx hby hml hZ hh hown hnm X0 e0
  have N0 := Fr.nil n0
  have K0 : Keep h0 h0 [x0] := Keep.refl h0 _
  refine own_st (T' := s₁) (g' := (mkF m 1 #[.val (.ref x0), .val (.ref t), .val (.int 0)] [(.ref x0)])) (fun _ kt => XS.aloadN X0.here hx rfl (hb hby d10_0) rfl rfl kt) ?_
  obtain ⟨T55, X55, e55, st55⟩ := initO X0 hx hZ hown (own_k hw 12 rfl) (own_k hw 13 rfl) (own_k hw 14 rfl) e0 (g := (mkF m 1 #[.val (.ref x0), .val (.ref t), .val (.int 0)] [(.ref x0)])) rfl hml.symm rfl (hb hby d10_1) (by decide) (W := 0) (own_w0 rfl rfl) (by decide)
  refine own_st (T' := T55) (g' := (mkF m 4 #[.val (.ref x0), .val (.ref t), .val (.int 0)] [])) st55 ?_
  refine own_st (T' := T55) (g' := (mkF m 6 #[.val (.ref x0), .val (.ref t), .val (.int 0)] [(.ref t), (.ref x0)])) (fun _ kt => XS.aloadN X55.here hx rfl (hb hby d10_4) rfl rfl (XS.aloadN X55.here hx rfl (hb hby d10_5) rfl rfl kt)) ?_
  obtain ⟨T56, h56, X56, e56, W56, st56⟩ := putF X55 hx hZ hown (host := "") (Or.inl (own_k hw 29 rfl)) Via.refl e55 pr3 pr1 (Or.inr ⟨(own_k hw 30 rfl), rfl, hnm⟩) (own_k hw 3 rfl) (ty := (.array .byte)) (by decide) rfl rfl (g := (mkF m 6 #[.val (.ref x0), .val (.ref t), .val (.int 0)] [(.ref t), (.ref x0)])) rfl rfl (hb hby d10_6)
  have N56 := Fr.snoc X56 N0 pr2
  have Z57 : n0 ≤ h56.size := Nat.le_trans Z0 (Nat.le_of_eq (Wr.size W56).symm)
  have K57 : Keep h0 h56 [x0] := (Keep.wr K0 W56 (Or.inl (List.mem_of_getElem? (i := 0) rfl)))
  have F58 : Fld Z h56 x0 "java/lang/String" "value" "[B" (.ref t) := Fld.same W56 pr3
  refine own_st (T' := T56) (g' := (mkF m 9 #[.val (.ref x0), .val (.ref t), .val (.int 0)] [])) st56 ?_
  refine own_st (T' := T56) (g' := (mkF m 11 #[.val (.ref x0), .val (.ref t), .val (.int 0)] [(.int 0), (.ref x0)])) (fun _ kt => XS.aloadN X56.here hx rfl (hb hby d10_9) rfl rfl (XS.iloadN X56.here hx rfl (hb hby d10_10) rfl kt)) ?_
  have F59 : Fld Z h56 x0 "java/lang/String" "coder" "B" (.int 0) := (Fld.other W56 pr4 (Or.inr (slot_ne (Or.inr (own_k hw 28 rfl)) (Or.inr (own_k hw 30 rfl)) (by decide) (t := .byte) (t' := (.array .byte)) (by decide) (by decide))))
  have F60 : Exa Z h56 x0 "java/lang/String" := (Exa.wr W56 pr1)
  obtain ⟨T61, h61, X61, e61, W61, st61⟩ := putF X56 hx hZ hown (host := "") (Or.inl (own_k hw 27 rfl)) Via.refl e56 F59 F60 (Or.inr ⟨(own_k hw 28 rfl), rfl, hnm⟩) (own_k hw 3 rfl) (ty := .byte) (by decide) rfl rfl (g := (mkF m 11 #[.val (.ref x0), .val (.ref t), .val (.int 0)] [(.int 0), (.ref x0)])) rfl rfl (hb hby d10_11)
  have N61 := Fr.snoc X61 N56 pr2
  have Z62 : n0 ≤ h61.size := Nat.le_trans Z57 (Nat.le_of_eq (Wr.size W61).symm)
  have K62 : Keep h0 h61 [x0] := (Keep.wr K57 W61 (Or.inl (List.mem_of_getElem? (i := 0) rfl)))
  have F63 : Fld Z h61 x0 "java/lang/String" "coder" "B" (.int 0) := Fld.same W61 F59
  refine own_st (T' := T61) (g' := (mkF m 14 #[.val (.ref x0), .val (.ref t), .val (.int 0)] [])) st61 ?_
  obtain ⟨fs, hr, hrun, hended, hW, hsame⟩ := X61.leave (v := none) (fun _ => rfl)
  refine own_end (X61.returnOut hx Bd.returns (hb hby d10_14) hr) ⟨_, hrun, hended, _, _, rfl, ?_, ⟨_, rfl⟩, hW, hsame.mono (by decide) (by decide)⟩
  have F64 : Exa Z h61 x0 "java/lang/String" := (Exa.wr W61 F60)
  show own_ibbQ Z _ _ h0 n0 _ T61.heap _
  rw [e61]
  exact ⟨rfl, N61, K62, F64⟩
theorem d7_0 : decode jdk_42_method_139_code 0 = .ok (.getstatic 38, 3) := by decide +kernel
theorem d7_3 : decode jdk_42_method_139_code 3 = .ok (.ifCond .eq 23, 3) := by decide +kernel
theorem d7_6 : decode jdk_42_method_139_code 6 = .ok (.iload_n 0, 1) := by decide +kernel
theorem d7_7 : decode jdk_42_method_139_code 7 = .ok (.invokestatic 1015, 3) := by decide +kernel
theorem own_pd6 : parseMethodDescriptor "(C)Z" = some ⟨[.char], some .boolean⟩ := by decide +kernel
theorem d7_10 : decode jdk_42_method_139_code 10 = .ok (.ifCond .eq 16, 3) := by decide +kernel
theorem d7_13 : decode jdk_42_method_139_code 13 = .ok (.new 10, 3) := by decide +kernel
theorem d7_16 : decode jdk_42_method_139_code 16 = .ok (.dup, 1) := by decide +kernel
theorem d7_17 : decode jdk_42_method_139_code 17 = .ok (.iload_n 0, 1) := by decide +kernel
theorem d7_18 : decode jdk_42_method_139_code 18 = .ok (.invokestatic 1018, 3) := by decide +kernel
theorem own_pd7 : parseMethodDescriptor "(C)[B" = some ⟨[.char], some (.array .byte)⟩ := by decide +kernel
theorem d7_21 : decode jdk_42_method_139_code 21 = .ok (.iconst 0, 1) := by decide +kernel
theorem d7_22 : decode jdk_42_method_139_code 22 = .ok (.invokespecial 209, 3) := by decide +kernel
theorem own_pd8 : parseMethodDescriptor "([BB)V" = some ⟨[(.array .byte), .byte], none⟩ := by decide +kernel
theorem d7_25 : decode jdk_42_method_139_code 25 = .ok (.areturn, 1) := by decide +kernel
def own_voQ (Z : State) (cc : Int32) (zc : Int32) (h0 : Heap) (n0 : Nat) (v : Option Value) (h : Heap) (L : List Loc) : Prop := ∃ (y : Addr), v = some (.ref y) ∧ Fr n0 L ∧ Keep h0 h [] ∧ (Exa Z h y "java/lang/String") ∧ (h0.size ≤ y)
abbrev own_voR : Room := { frames := 2, cells := 2, slots := 5, locals := 27 }
theorem own_vo (l : Launch) (Z : State) (a0 : Array Value) (hw : ∀ d ∈ tables_1, d.before a0 Z = true) (ws : List Jvm.Cond) (cc : Int32) (zc : Int32) (h0 : Heap) (n0 : Nat) (Z0 : n0 ≤ h0.size) (pr1 : Old Z n0 h0) (pr2 : Sta Z Z.heap "java/lang/String" "COMPACT_STRINGS" "Z" (.int zc)) (pr3 : ¬ zc = 0) (pr4 : own_cc cc) :
    own_M l (⟨"java/lang/String", "valueOf", "(C)Ljava/lang/String;"⟩ : MethodName) jdk_42_method_139_code 1 (some (.object "java/lang/String")) ws own_voR #[(.int cc)] Z h0 (own_voQ Z cc zc h0 n0) := by
  refine own_go (plainFor_of_name own_pn2) (fun m => own_ef6 m cc ) ?_
  intro p e s m below meth c s₁ Bd hx hby hml hZ hh hown hnm X0 e0
  have N0 := Fr.nil n0
  have K0 : Keep h0 h0 [] := Keep.refl h0 _
  obtain ⟨T65, X65, e65, st65⟩ := getS2 X0 hx hZ hown (host := "") (Or.inl (own_k hw 15 rfl)) Via.refl e0 (Sta.ext pr1.2 pr2) (g := (mkF m 0 #[.val (.int cc)] [])) rfl (hb hby d7_0)
  refine own_st (T' := T65) (g' := (mkF m 3 #[.val (.int cc)] [(.int zc)])) st65 ?_
  refine own_st (T' := T65) (g' := (mkF m 7 #[.val (.int cc)] [(.int cc)])) (fun _ kt => XS.ifNo X65.here hx rfl (hb hby d7_3) rfl (XT.i0_eq_f pr3) (XS.iloadN X65.here hx rfl (hb hby d7_6) rfl kt)) ?_
  obtain ⟨_, _, ⟨T66, L66, k66, n66⟩, -, X66, ⟨Lc66, hQ66, l66, y66, z66⟩, st66⟩ := Jvm.LawKit.callS X65 hx (y := (⟨"java/lang/StringLatin1", "canEncode", "(C)Z"⟩ : MethodName)) hown (mvT hZ (own_k hw 34 rfl)) (mvT hZ (own_k hw 35 rfl)) (mvT hZ (own_k hw 36 rfl)) (mvT hZ (own_k hw 37 rfl)) (by decide) (backOf (W := 0) (own_cen l Z a0 hw [] cc h0 n0 Z0 pr4) hZ (own_k hw 37 rfl) (own_k hw 36 rfl) (by decide) (by decide)) (g := (mkF m 7 #[.val (.int cc)] [(.int cc)])) rfl hml.symm  (argsL := [(.int cc)]) (rest := []) (lenOf own_pd6 rfl) rfl (own_w0 rfl rfl) (hb hby d7_7) (fun _ _ => ⟨rfl, e65, (by decide : 0 + 0 ≤ 2), (by decide : 0 + 0 ≤ 5)⟩)
  dsimp only [Pt.U, Pt.locs, Pt.cells, Pt.slots] at X66 l66 y66 z66 st66 hQ66
  subst l66 y66 z66
  obtain ⟨rfl, N66, e66⟩ := hQ66
  have N67 := Fr.app N0 N66
  refine own_st (T' := T66) (g' := (mkF m 10 #[.val (.int cc)] [(.int 1)])) st66 ?_
  refine own_st (T' := T66) (g' := (mkF m 13 #[.val (.int cc)] [])) (fun _ kt => XS.ifNo X66.here hx rfl (hb hby d7_10) rfl (XT.i0_eq_f (by decide)) kt) ?_
  obtain ⟨T68, h68, X68, e68, E68, A68, D68, -, st68⟩ := newO X66 hx hZ hown (own_k hw 38 rfl) (own_k hw 3 rfl) (own_k hw 4 rfl) e66 (g := (mkF m 13 #[.val (.int cc)] [])) rfl (hb hby d7_13) (by decide) (by decide)
  obtain ⟨b68, g68⟩ : ∃ z, z = h0.size := ⟨_, rfl⟩
  rw [← g68] at A68 D68 st68
  have Z69 : n0 ≤ h68.size := Nat.le_trans Z0 E68.1
  have K69 : Keep h0 h68 [] := (Keep.ext K0 E68)
  have ge_b68 : n0 ≤ b68 := Nat.le_trans Z0 (Nat.le_of_eq g68.symm)
  have F70 : Fld Z h68 b68 "java/lang/String" "coder" "B" (.int 0) := D68 (Or.inr (own_k hw 28 rfl)) (ty := .byte) (by decide)
  have F71 : Fld Z h68 b68 "java/lang/String" "value" "[B" .null := D68 (Or.inr (own_k hw 30 rfl)) (ty := (.array .byte)) (by decide)
  refine own_st (T' := T68) (g' := (mkF m 16 #[.val (.int cc)] [(.ref b68)])) st68 ?_
  refine own_st (T' := T68) (g' := (mkF m 18 #[.val (.int cc)] [(.int cc), (.ref b68), (.ref b68)])) (fun _ kt => XS.dup X68.here hx rfl (hb hby d7_16) rfl rfl (XS.iloadN X68.here hx rfl (hb hby d7_17) rfl kt)) ?_
  obtain ⟨_, _, ⟨T72, L72, k72, n72⟩, -, X72, ⟨Lc72, hQ72, l72, y72, z72⟩, st72⟩ := Jvm.LawKit.callS X68 hx (y := (⟨"java/lang/StringLatin1", "toBytes", "(C)[B"⟩ : MethodName)) hown (mvT hZ (own_k hw 39 rfl)) (mvT hZ (own_k hw 40 rfl)) (mvT hZ (own_k hw 36 rfl)) (mvT hZ (own_k hw 41 rfl)) (by decide) (backOf (W := 2) (own_tby l Z a0 hw [] cc h68 n0 Z69 ) hZ (own_k hw 41 rfl) (own_k hw 36 rfl) (by decide) (by decide)) (g := (mkF m 18 #[.val (.int cc)] [(.int cc), (.ref b68), (.ref b68)])) rfl hml.symm  (argsL := [(.int cc)]) (rest := [(.ref b68), (.ref b68)]) (lenOf own_pd7 rfl) rfl (own_w0 rfl rfl) (hb hby d7_18) (fun _ _ => ⟨rfl, e68, (by decide : 1 + 1 ≤ 2), (by decide : 4 + 1 ≤ 5)⟩)
  dsimp only [Pt.U, Pt.locs, Pt.cells, Pt.slots] at X72 l72 y72 z72 st72 hQ72
  subst l72 y72 z72
  obtain ⟨b_72, kb_72, lb_72, rfl, N72, K72_, P73, P74⟩ := hQ72
  have N75 := Fr.app N67 N72
  have Z76 : n0 ≤ T72.heap.size := Nat.le_trans Z69 K72_.1
  have K76 : Keep h0 T72.heap [] := (Keep.trans K69 K72_ all0)
  have ne77 : b68 ≠ b_72 := Nat.ne_of_lt (Nat.lt_of_lt_of_le A68.lt P74)
  have ge78 : n0 ≤ b_72 := Nat.le_trans Z69 P74
  refine own_st (T' := T72) (g' := (mkF m 21 #[.val (.int cc)] [(.ref b_72), (.ref b68), (.ref b68)])) st72 ?_
  refine own_st (T' := T72) (g' := (mkF m 22 #[.val (.int cc)] [(.int 0), (.ref b_72), (.ref b68), (.ref b68)])) (fun _ kt => XS.iconst X72.here hx rfl (hb hby d7_21) kt) ?_
  have F79 : Exa Z T72.heap b68 "java/lang/String" := (Exa.keep A68 K72_)
  have F80 : Fld Z T72.heap b68 "java/lang/String" "value" "[B" .null := (Fld.keep F71 K72_ nin0)
  have F81 : Fld Z T72.heap b68 "java/lang/String" "coder" "B" (.int 0) := (Fld.keep F70 K72_ nin0)
  obtain ⟨_, _, ⟨T82, L82, k82, n82⟩, -, X82, ⟨Lc82, hQ82, l82, y82, z82⟩, st82⟩ := X72.specialBack hx (y := (⟨"java/lang/String", "<init>", "([BB)V"⟩ : MethodName)) rfl hown (mvT hZ (own_k hw 42 rfl)) (mvT hZ (own_k hw 43 rfl)) (mvT hZ (own_k hw 44 rfl)) (by decide) (backOf (W := 1) (own_ibb l Z a0 hw [] b68 b_72 T72.heap n0 Z76 F79 ge_b68 F80 F81) hZ (own_k hw 44 rfl) (own_k hw 4 rfl) (by decide) (by decide)) (g := (mkF m 22 #[.val (.int cc)] [(.int 0), (.ref b_72), (.ref b68), (.ref b68)])) rfl hml.symm (Steps.refl _) (a := b68) (argsL := [(.ref b_72), (.int 0)]) (rest := [(.ref b68)]) (lenOf own_pd8 rfl) rfl (own_w0 rfl rfl) (hb hby d7_22) (fun _ _ => ⟨rfl, rfl, (by decide : 2 + 0 ≤ 2), (by decide : 5 + 0 ≤ 5)⟩)
  dsimp only [Pt.U, Pt.locs, Pt.cells, Pt.slots] at X82 l82 y82 z82 st82 hQ82
  subst l82 y82 z82
  obtain ⟨rfl, N82, K82_, P83⟩ := hQ82
  have N84 := Fr.app N75 N82
  have Z85 : n0 ≤ T82.heap.size := Nat.le_trans Z76 K82_.1
  have K85 : Keep h0 T82.heap [] := (Keep.trans K76 K82_ (allS (Or.inr (Nat.le_trans K0.1 (Nat.le_of_eq g68.symm))) all0))
  refine own_tr (T' := T82) (g' := (mkF m 25 #[.val (.int cc)] [(.ref b68)])) st82 ?_
  obtain ⟨fs, hr, hrun, hended, hW, hsame⟩ := X82.leave (v := some (.ref b68)) (fun h => by rw [Bd.returns] at h; cases h)
  refine own_end (own_retA X82 hx Bd.returns rfl rfl rfl (hb hby d7_25) hr) ⟨_, hrun, hended, _, _, rfl, ?_, ⟨_, rfl⟩, hW, hsame.mono (by decide) (by decide)⟩
  show own_voQ Z _ _ h0 n0 _ T82.heap _
  show own_voQ Z _ _ h0 n0 _ T82.heap _
  exact ⟨b68, rfl, N84, K85, P83, (Nat.le_trans K0.1 (Nat.le_of_eq g68.symm))⟩
theorem d13_0 : decode jdk_22_method_1_code 0 = .ok (.aload_n 0, 1) := by decide +kernel
theorem d13_1 : decode jdk_22_method_1_code 1 = .ok (.invokespecial 1, 3) := by decide +kernel
theorem d13_4 : decode jdk_22_method_1_code 4 = .ok (.return_, 1) := by decide +kernel
def own_acsQ (Z : State) (a : Addr) (h0 : Heap) (n0 : Nat) (v : Option Value) (h : Heap) (L : List Loc) : Prop := v = none ∧ Fr n0 L ∧ h = h0
theorem own_pn4 : plainName "java/util/AbstractCollection" = true := by first | (simp [plainName, overriddenIn]; done) | decide +kernel
abbrev own_acsR : Room := { frames := 1, cells := 0, slots := 0, locals := 12 }
theorem own_acs (l : Launch) (Z : State) (a0 : Array Value) (hw : ∀ d ∈ tables_1, d.before a0 Z = true) (ws : List Jvm.Cond) (a : Addr) (h0 : Heap) (n0 : Nat) (Z0 : n0 ≤ h0.size)  :
    own_M l (⟨"java/util/AbstractCollection", "<init>", "()V"⟩ : MethodName) jdk_22_method_1_code 1 none ws own_acsR #[(.ref a)] Z h0 (own_acsQ Z a h0 n0) := by
  refine own_go (plainFor_of_name own_pn4) (fun m => own_ef3 m a ) ?_
  intro p e s m below meth c s₁ Bd hx hby hml hZ hh hown hnm X0 e0
  have N0 := Fr.nil n0
  refine own_st (T' := s₁) (g' := (mkF m 1 #[.val (.ref a)] [(.ref a)])) (fun _ kt => XS.aloadN X0.here hx rfl (hb hby d13_0) rfl rfl kt) ?_
  obtain ⟨T86, X86, e86, st86⟩ := initO X0 hx hZ hown (own_k hw 63 rfl) (own_k hw 13 rfl) (own_k hw 14 rfl) e0 (g := (mkF m 1 #[.val (.ref a)] [(.ref a)])) rfl hml.symm rfl (hb hby d13_1) (by decide) (W := 0) (own_w0 rfl rfl) (by decide)
  refine own_st (T' := T86) (g' := (mkF m 4 #[.val (.ref a)] [])) st86 ?_
  obtain ⟨fs, hr, hrun, hended, hW, hsame⟩ := X86.leave (v := none) (fun _ => rfl)
  refine own_end (X86.returnOut hx Bd.returns (hb hby d13_4) hr) ⟨_, hrun, hended, _, _, rfl, ?_, ⟨_, rfl⟩, hW, hsame.mono (by decide) (by decide)⟩
  show own_acsQ Z _ h0 n0 _ T86.heap _
  rw [e86]
  exact ⟨rfl, N0, rfl⟩
theorem d12_0 : decode jdk_39_method_1_code 0 = .ok (.aload_n 0, 1) := by decide +kernel
theorem d12_1 : decode jdk_39_method_1_code 1 = .ok (.invokespecial 1, 3) := by decide +kernel
theorem own_pd9 : parseMethodDescriptor "()V" = some ⟨[], none⟩ := by decide +kernel
theorem d12_4 : decode jdk_39_method_1_code 4 = .ok (.aload_n 0, 1) := by decide +kernel
theorem d12_5 : decode jdk_39_method_1_code 5 = .ok (.iconst 0, 1) := by decide +kernel
theorem d12_6 : decode jdk_39_method_1_code 6 = .ok (.putfield 7, 3) := by decide +kernel
theorem d12_9 : decode jdk_39_method_1_code 9 = .ok (.return_, 1) := by decide +kernel
def own_ablQ (Z : State) (a : Addr) (h0 : Heap) (n0 : Nat) (v : Option Value) (h : Heap) (L : List Loc) : Prop := v = none ∧ Fr n0 L ∧ Keep h0 h [a] ∧ (Exa Z h a "java/util/ArrayList") ∧ (Fld Z h a "java/util/AbstractList" "modCount" "I" (.int 0)) ∧ (Fld Z h a "java/util/ArrayList" "elementData" "[Ljava/lang/Object;" .null) ∧ (Fld Z h a "java/util/ArrayList" "size" "I" (.int 0))
theorem own_pn5 : plainName "java/util/AbstractList" = true := by first | (simp [plainName, overriddenIn]; done) | decide +kernel
abbrev own_ablR : Room := { frames := 2, cells := 0, slots := 0, locals := 24 }
theorem own_abl (l : Launch) (Z : State) (a0 : Array Value) (hw : ∀ d ∈ tables_1, d.before a0 Z = true) (ws : List Jvm.Cond) (a : Addr) (h0 : Heap) (n0 : Nat) (Z0 : n0 ≤ h0.size) (pr1 : Exa Z h0 a "java/util/ArrayList") (pr2 : n0 ≤ a) (pr3 : Fld Z h0 a "java/util/AbstractList" "modCount" "I" (.int 0)) (pr4 : Fld Z h0 a "java/util/ArrayList" "elementData" "[Ljava/lang/Object;" .null) (pr5 : Fld Z h0 a "java/util/ArrayList" "size" "I" (.int 0)) :
    own_M l (⟨"java/util/AbstractList", "<init>", "()V"⟩ : MethodName) jdk_39_method_1_code 1 none ws own_ablR #[(.ref a)] Z h0 (own_ablQ Z a h0 n0) := by
  refine own_go (plainFor_of_name own_pn5) (fun m => own_ef3 m a ) ?_
  intro p e s m below meth c s₁ Bd hx hby hml hZ hh hown hnm X0 e0
  have N0 := Fr.nil n0
  have K0 : Keep h0 h0 [a] := Keep.refl h0 _
  refine own_st (T' := s₁) (g' := (mkF m 1 #[.val (.ref a)] [(.ref a)])) (fun _ kt => XS.aloadN X0.here hx rfl (hb hby d12_0) rfl rfl kt) ?_
  obtain ⟨_, _, ⟨T87, L87, k87, n87⟩, -, X87, ⟨Lc87, hQ87, l87, y87, z87⟩, st87⟩ := X0.specialBack hx (y := (⟨"java/util/AbstractCollection", "<init>", "()V"⟩ : MethodName)) rfl hown (mvT hZ (own_k hw 57 rfl)) (mvT hZ (own_k hw 58 rfl)) (mvT hZ (own_k hw 62 rfl)) (by decide) (backOf (W := 0) (own_acs l Z a0 hw [] a h0 n0 Z0 ) hZ (own_k hw 62 rfl) (own_k hw 61 rfl) (by decide) (by decide)) (g := (mkF m 1 #[.val (.ref a)] [(.ref a)])) rfl hml.symm (Steps.refl _) (a := a) (argsL := []) (rest := []) (lenOf own_pd9 rfl) rfl (own_w0 rfl rfl) (hb hby d12_1) (fun _ _ => ⟨rfl, e0, (by decide : 0 + 0 ≤ 0), (by decide : 0 + 0 ≤ 0)⟩)
  dsimp only [Pt.U, Pt.locs, Pt.cells, Pt.slots] at X87 l87 y87 z87 st87 hQ87
  subst l87 y87 z87
  obtain ⟨rfl, N87, e87⟩ := hQ87
  have N88 := Fr.app N0 N87
  refine own_tr (T' := T87) (g' := (mkF m 4 #[.val (.ref a)] [])) st87 ?_
  refine own_st (T' := T87) (g' := (mkF m 6 #[.val (.ref a)] [(.int 0), (.ref a)])) (fun _ kt => XS.aloadN X87.here hx rfl (hb hby d12_4) rfl rfl (XS.iconst X87.here hx rfl (hb hby d12_5) kt)) ?_
  obtain ⟨T89, h89, X89, e89, W89, st89⟩ := putF X87 hx hZ hown (host := "") (Or.inl (own_k hw 64 rfl)) Via.refl e87 pr3 pr1 (Or.inl (own_k hw 65 rfl)) (own_k hw 46 rfl) (ty := .int) (by decide) rfl rfl (g := (mkF m 6 #[.val (.ref a)] [(.int 0), (.ref a)])) rfl rfl (hb hby d12_6)
  have N89 := Fr.snoc X89 N88 pr2
  have Z90 : n0 ≤ h89.size := Nat.le_trans Z0 (Nat.le_of_eq (Wr.size W89).symm)
  have K90 : Keep h0 h89 [a] := (Keep.wr K0 W89 (Or.inl (List.mem_of_getElem? (i := 0) rfl)))
  have F91 : Fld Z h89 a "java/util/AbstractList" "modCount" "I" (.int 0) := Fld.same W89 pr3
  refine own_st (T' := T89) (g' := (mkF m 9 #[.val (.ref a)] [])) st89 ?_
  obtain ⟨fs, hr, hrun, hended, hW, hsame⟩ := X89.leave (v := none) (fun _ => rfl)
  refine own_end (X89.returnOut hx Bd.returns (hb hby d12_9) hr) ⟨_, hrun, hended, _, _, rfl, ?_, ⟨_, rfl⟩, hW, hsame.mono (by decide) (by decide)⟩
  have F92 : Exa Z h89 a "java/util/ArrayList" := (Exa.wr W89 pr1)
  have F93 : Fld Z h89 a "java/util/ArrayList" "elementData" "[Ljava/lang/Object;" .null := (Fld.other W89 pr4 (Or.inr (slot_ne (Or.inl (own_k hw 68 rfl)) (Or.inl (own_k hw 65 rfl)) (by decide) (t := (.array (.object "java/lang/Object"))) (t' := .int) (by decide) (by decide))))
  have F94 : Fld Z h89 a "java/util/ArrayList" "size" "I" (.int 0) := (Fld.other W89 pr5 (Or.inr (slot_ne (Or.inl (own_k hw 107 rfl)) (Or.inl (own_k hw 65 rfl)) (by decide) (t := .int) (t' := .int) (by decide) (by decide))))
  show own_ablQ Z _ h0 n0 _ T89.heap _
  rw [e89]
  exact ⟨rfl, N89, K90, F92, F91, F93, F94⟩
theorem d11_0 : decode jdk_38_method_2_code 0 = .ok (.aload_n 0, 1) := by decide +kernel
theorem d11_1 : decode jdk_38_method_2_code 1 = .ok (.invokespecial 1, 3) := by decide +kernel
theorem d11_4 : decode jdk_38_method_2_code 4 = .ok (.aload_n 0, 1) := by decide +kernel
theorem d11_5 : decode jdk_38_method_2_code 5 = .ok (.getstatic 39, 3) := by decide +kernel
theorem d11_8 : decode jdk_38_method_2_code 8 = .ok (.putfield 9, 3) := by decide +kernel
theorem d11_11 : decode jdk_38_method_2_code 11 = .ok (.return_, 1) := by decide +kernel
def own_aliQ (Z : State) (a : Addr) (de : Addr) (h0 : Heap) (n0 : Nat) (v : Option Value) (h : Heap) (L : List Loc) : Prop := v = none ∧ Fr n0 L ∧ Keep h0 h [a] ∧ (Exa Z h a "java/util/ArrayList") ∧ (Fld Z h a "java/util/AbstractList" "modCount" "I" (.int 0)) ∧ (Fld Z h a "java/util/ArrayList" "elementData" "[Ljava/lang/Object;" (.ref de)) ∧ (Fld Z h a "java/util/ArrayList" "size" "I" (.int 0))
theorem own_pn6 : plainName "java/util/ArrayList" = true := by first | (simp [plainName, overriddenIn]; done) | decide +kernel
abbrev own_aliR : Room := { frames := 3, cells := 0, slots := 0, locals := 36 }
theorem own_ali (l : Launch) (Z : State) (a0 : Array Value) (hw : ∀ d ∈ tables_1, d.before a0 Z = true) (ws : List Jvm.Cond) (a : Addr) (de : Addr) (h0 : Heap) (n0 : Nat) (Z0 : n0 ≤ h0.size) (pr1 : Old Z n0 h0) (pr2 : Sta Z Z.heap "java/util/ArrayList" "DEFAULTCAPACITY_EMPTY_ELEMENTDATA" "[Ljava/lang/Object;" (.ref de)) (pr3 : Exa Z h0 a "java/util/ArrayList") (pr4 : n0 ≤ a) (pr5 : Fld Z h0 a "java/util/AbstractList" "modCount" "I" (.int 0)) (pr6 : Fld Z h0 a "java/util/ArrayList" "elementData" "[Ljava/lang/Object;" .null) (pr7 : Fld Z h0 a "java/util/ArrayList" "size" "I" (.int 0)) :
    own_M l (⟨"java/util/ArrayList", "<init>", "()V"⟩ : MethodName) jdk_38_method_2_code 1 none ws own_aliR #[(.ref a)] Z h0 (own_aliQ Z a de h0 n0) := by
  refine own_go (plainFor_of_name own_pn6) (fun m => own_ef3 m a ) ?_
  intro p e s m below meth c s₁ Bd hx hby hml hZ hh hown hnm X0 e0
  have N0 := Fr.nil n0
  have K0 : Keep h0 h0 [a] := Keep.refl h0 _
  refine own_st (T' := s₁) (g' := (mkF m 1 #[.val (.ref a)] [(.ref a)])) (fun _ kt => XS.aloadN X0.here hx rfl (hb hby d11_0) rfl rfl kt) ?_
  obtain ⟨_, _, ⟨T95, L95, k95, n95⟩, -, X95, ⟨Lc95, hQ95, l95, y95, z95⟩, st95⟩ := X0.specialBack hx (y := (⟨"java/util/AbstractList", "<init>", "()V"⟩ : MethodName)) rfl hown (mvT hZ (own_k hw 51 rfl)) (mvT hZ (own_k hw 52 rfl)) (mvT hZ (own_k hw 56 rfl)) (by decide) (backOf (W := 0) (own_abl l Z a0 hw [] a h0 n0 Z0 pr3 pr4 pr5 pr6 pr7) hZ (own_k hw 56 rfl) (own_k hw 55 rfl) (by decide) (by decide)) (g := (mkF m 1 #[.val (.ref a)] [(.ref a)])) rfl hml.symm (Steps.refl _) (a := a) (argsL := []) (rest := []) (lenOf own_pd9 rfl) rfl (own_w0 rfl rfl) (hb hby d11_1) (fun _ _ => ⟨rfl, e0, (by decide : 0 + 0 ≤ 0), (by decide : 0 + 0 ≤ 0)⟩)
  dsimp only [Pt.U, Pt.locs, Pt.cells, Pt.slots] at X95 l95 y95 z95 st95 hQ95
  subst l95 y95 z95
  obtain ⟨rfl, N95, K95_, P96, P97, P98, P99⟩ := hQ95
  have N100 := Fr.app N0 N95
  have Z101 : n0 ≤ T95.heap.size := Nat.le_trans Z0 K95_.1
  have K101 : Keep h0 T95.heap [a] := (Keep.trans K0 K95_ (allS (Or.inl (List.mem_of_getElem? (i := 0) rfl)) all0))
  refine own_tr (T' := T95) (g' := (mkF m 4 #[.val (.ref a)] [])) st95 ?_
  refine own_st (T' := T95) (g' := (mkF m 5 #[.val (.ref a)] [(.ref a)])) (fun _ kt => XS.aloadN X95.here hx rfl (hb hby d11_4) rfl rfl kt) ?_
  have F102 : Old Z n0 T95.heap := (Old.keep pr1 K95_ (allS pr4 all0))
  obtain ⟨T103, X103, e103, st103⟩ := getS2 X95 hx hZ hown (host := "") (Or.inl (own_k hw 66 rfl)) Via.refl rfl (Sta.ext F102.2 pr2) (g := (mkF m 5 #[.val (.ref a)] [(.ref a)])) rfl (hb hby d11_5)
  refine own_st (T' := T103) (g' := (mkF m 8 #[.val (.ref a)] [(.ref de), (.ref a)])) st103 ?_
  obtain ⟨T104, h104, X104, e104, W104, st104⟩ := putF X103 hx hZ hown (host := "") (Or.inl (own_k hw 67 rfl)) Via.refl e103 P98 P96 (Or.inl (own_k hw 68 rfl)) (own_k hw 46 rfl) (ty := (.array (.object "java/lang/Object"))) (by decide) rfl rfl (g := (mkF m 8 #[.val (.ref a)] [(.ref de), (.ref a)])) rfl rfl (hb hby d11_8)
  have N104 := Fr.snoc X104 N100 pr4
  have Z105 : n0 ≤ h104.size := Nat.le_trans Z101 (Nat.le_of_eq (Wr.size W104).symm)
  have K105 : Keep h0 h104 [a] := (Keep.wr K101 W104 (Or.inl (List.mem_of_getElem? (i := 0) rfl)))
  have F106 : Fld Z h104 a "java/util/ArrayList" "elementData" "[Ljava/lang/Object;" (.ref de) := Fld.same W104 P98
  refine own_st (T' := T104) (g' := (mkF m 11 #[.val (.ref a)] [])) st104 ?_
  obtain ⟨fs, hr, hrun, hended, hW, hsame⟩ := X104.leave (v := none) (fun _ => rfl)
  refine own_end (X104.returnOut hx Bd.returns (hb hby d11_11) hr) ⟨_, hrun, hended, _, _, rfl, ?_, ⟨_, rfl⟩, hW, hsame.mono (by decide) (by decide)⟩
  have F107 : Exa Z h104 a "java/util/ArrayList" := (Exa.wr W104 P96)
  have F108 : Fld Z h104 a "java/util/AbstractList" "modCount" "I" (.int 0) := (Fld.other W104 P97 (Or.inr (slot_ne (Or.inl (own_k hw 65 rfl)) (Or.inl (own_k hw 68 rfl)) (by decide) (t := .int) (t' := (.array (.object "java/lang/Object"))) (by decide) (by decide))))
  have F109 : Fld Z h104 a "java/util/ArrayList" "size" "I" (.int 0) := (Fld.other W104 P99 (Or.inr (slot_ne (Or.inl (own_k hw 107 rfl)) (Or.inl (own_k hw 68 rfl)) (by decide) (t := .int) (t' := (.array (.object "java/lang/Object"))) (by decide) (by decide))))
  show own_aliQ Z _ _ h0 n0 _ T104.heap _
  rw [e104]
  exact ⟨rfl, N104, K105, F107, F108, F106, F109⟩
theorem d25_0 : decode jdk_29_method_65_code 0 = .ok (.iload_n 0, 1) := by decide +kernel
theorem d25_1 : decode jdk_29_method_65_code 1 = .ok (.iload_n 1, 1) := by decide +kernel
theorem d25_2 : decode jdk_29_method_65_code 2 = .ok (.if_icmp .lt 7, 3) := by decide +kernel
theorem d25_5 : decode jdk_29_method_65_code 5 = .ok (.iload_n 0, 1) := by decide +kernel
theorem d25_6 : decode jdk_29_method_65_code 6 = .ok (.goto 4, 3) := by decide +kernel
theorem d25_10 : decode jdk_29_method_65_code 10 = .ok (.ireturn, 1) := by decide +kernel
def own_mxQ (Z : State)  (h0 : Heap) (n0 : Nat) (v : Option Value) (h : Heap) (L : List Loc) : Prop := v = some (.int 10) ∧ Fr n0 L ∧ h = h0
abbrev own_mxR : Room := { frames := 0, cells := 0, slots := 0, locals := 0 }
theorem own_mx (l : Launch) (Z : State) (a0 : Array Value) (hw : ∀ d ∈ tables_1, d.before a0 Z = true) (ws : List Jvm.Cond)  (h0 : Heap) (n0 : Nat) (Z0 : n0 ≤ h0.size)  :
    own_M l (⟨"java/lang/Math", "max", "(II)I"⟩ : MethodName) jdk_29_method_65_code 2 (some .int) ws own_mxR #[(.int 10), (.int 1)] Z h0 (own_mxQ Z  h0 n0) := by
  refine own_go (Jvm.Free.JP.mathPlain rfl (by decide)) (fun m => own_ef2 m (10 : Int32) (1 : Int32) ) ?_
  intro p e s m below meth c s₁ Bd hx hby hml hZ hh hown hnm X0 e0
  have N0 := Fr.nil n0
  refine own_st (T' := s₁) (g' := (mkF m 10 #[.val (.int 10), .val (.int 1)] [(.int 10)])) (fun _ kt => XS.iloadN X0.here hx rfl (hb hby d25_0) rfl (XS.iloadN X0.here hx rfl (hb hby d25_1) rfl (XS.icmpNo X0.here hx rfl (hb hby d25_2) rfl (XT.ii_lt_f (by decide)) (XS.iloadN X0.here hx rfl (hb hby d25_5) rfl (XS.goto X0.here hx rfl (pc0 := 6) (pc' := 10) rfl (hb hby d25_6) (by decide) (by decide) kt))))) ?_
  obtain ⟨fs, hr, hrun, hended, hW, hsame⟩ := X0.leave (v := some (.int 10)) (fun h => by rw [Bd.returns] at h; cases h)
  refine own_end (own_retI X0 hx Bd.returns (hb hby d25_10) hr) ⟨_, hrun, hended, _, _, rfl, ?_, ⟨_, rfl⟩, hW, hsame.mono (by decide) (by decide)⟩
  show own_mxQ Z  h0 n0 _ s₁.heap _
  rw [e0]
  exact ⟨rfl, N0, rfl⟩
theorem d24_0 : decode jdk_38_method_6_code 0 = .ok (.aload_n 0, 1) := by decide +kernel
theorem d24_1 : decode jdk_38_method_6_code 1 = .ok (.getfield 9, 3) := by decide +kernel
theorem d24_4 : decode jdk_38_method_6_code 4 = .ok (.arraylength, 1) := by decide +kernel
theorem d24_5 : decode jdk_38_method_6_code 5 = .ok (.istore_n 2, 1) := by decide +kernel
theorem d24_6 : decode jdk_38_method_6_code 6 = .ok (.iload_n 2, 1) := by decide +kernel
theorem d24_7 : decode jdk_38_method_6_code 7 = .ok (.ifCond .gt 13, 3) := by decide +kernel
theorem d24_10 : decode jdk_38_method_6_code 10 = .ok (.aload_n 0, 1) := by decide +kernel
theorem d24_11 : decode jdk_38_method_6_code 11 = .ok (.getfield 9, 3) := by decide +kernel
theorem d24_14 : decode jdk_38_method_6_code 14 = .ok (.getstatic 39, 3) := by decide +kernel
theorem d24_17 : decode jdk_38_method_6_code 17 = .ok (.if_acmp .eq 28, 3) := by decide +kernel
theorem d24_45 : decode jdk_38_method_6_code 45 = .ok (.aload_n 0, 1) := by decide +kernel
theorem d24_46 : decode jdk_38_method_6_code 46 = .ok (.bipush 10, 2) := by decide +kernel
theorem d24_48 : decode jdk_38_method_6_code 48 = .ok (.iload_n 1, 1) := by decide +kernel
theorem d24_49 : decode jdk_38_method_6_code 49 = .ok (.invokestatic 79, 3) := by decide +kernel
theorem own_pd10 : parseMethodDescriptor "(II)I" = some ⟨[.int, .int], some .int⟩ := by decide +kernel
theorem d24_52 : decode jdk_38_method_6_code 52 = .ok (.anewarray 7, 3) := by decide +kernel
theorem d24_55 : decode jdk_38_method_6_code 55 = .ok (.dup_x1, 1) := by decide +kernel
theorem d24_56 : decode jdk_38_method_6_code 56 = .ok (.putfield 9, 3) := by decide +kernel
theorem d24_59 : decode jdk_38_method_6_code 59 = .ok (.areturn, 1) := by decide +kernel
theorem own_ef8 (m : MethodId) (x0 : Addr) (x1 : Int32) : entryFrame m #[(.ref x0), (.int x1)] 4 = mkF m 0 #[.val (.ref x0), .val (.int x1), .unset, .unset] [] := by first | (simp [entryFrame, mkF, argsToLocals, Value.category]; done) | rfl
def own_grIQ (Z : State) (a : Addr) (mc : Int32) (de : Addr) (kd : ClassId) (h0 : Heap) (n0 : Nat) (v : Option Value) (h : Heap) (L : List Loc) : Prop := ∃ (b : Addr), ∃ (kb : ClassId), v = some (.ref b) ∧ Fr n0 L ∧ Keep h0 h [a] ∧ (Exa Z h a "java/util/ArrayList") ∧ (Fld Z h a "java/util/AbstractList" "modCount" "I" (.int mc)) ∧ (Fld Z h a "java/util/ArrayList" "elementData" "[Ljava/lang/Object;" (.ref b)) ∧ (Fld Z h a "java/util/ArrayList" "size" "I" (.int 0)) ∧ (Arv Z h b kb (.object "java/lang/Object") (10 : Int32) [.null, .null, .null, .null, .null, .null, .null, .null, .null, .null] .null) ∧ (Ovr Z kb "java/lang/Object") ∧ (h0.size ≤ b)
abbrev own_grIR : Room := { frames := 1, cells := 1, slots := 10, locals := 14 }
theorem own_grI (l : Launch) (Z : State) (a0 : Array Value) (hw : ∀ d ∈ tables_1, d.before a0 Z = true) (ws : List Jvm.Cond) (a : Addr) (mc : Int32) (de : Addr) (kd : ClassId) (h0 : Heap) (n0 : Nat) (Z0 : n0 ≤ h0.size) (pr1 : Old Z n0 h0) (pr2 : Sta Z Z.heap "java/util/ArrayList" "DEFAULTCAPACITY_EMPTY_ELEMENTDATA" "[Ljava/lang/Object;" (.ref de)) (pr3 : Arv Z Z.heap de kd (.object "java/lang/Object") (0 : Int32) [] .null) (pr4 : n0 ≤ a) (pr5 : Exa Z h0 a "java/util/ArrayList") (pr6 : Fld Z h0 a "java/util/AbstractList" "modCount" "I" (.int mc)) (pr7 : Fld Z h0 a "java/util/ArrayList" "elementData" "[Ljava/lang/Object;" (.ref de)) (pr8 : Fld Z h0 a "java/util/ArrayList" "size" "I" (.int 0)) :
    own_M l (⟨"java/util/ArrayList", "grow", "(I)[Ljava/lang/Object;"⟩ : MethodName) jdk_38_method_6_code 4 (some (.array (.object "java/lang/Object"))) ws own_grIR #[(.ref a), (.int 1)] Z h0 (own_grIQ Z a mc de kd h0 n0) := by
  refine own_go (plainFor_of_name own_pn6) (fun m => own_ef8 m a (1 : Int32) ) ?_
  intro p e s m below meth c s₁ Bd hx hby hml hZ hh hown hnm X0 e0
  have N0 := Fr.nil n0
  have K0 : Keep h0 h0 [a] := Keep.refl h0 _
  refine own_st (T' := s₁) (g' := (mkF m 1 #[.val (.ref a), .val (.int 1), .unset, .unset] [(.ref a)])) (fun _ kt => XS.aloadN X0.here hx rfl (hb hby d24_0) rfl rfl kt) ?_
  obtain ⟨T110, X110, e110, st110⟩ := getF X0 hx hZ hown (host := "") (Or.inl (own_k hw 67 rfl)) Via.refl e0 pr7 (g := (mkF m 1 #[.val (.ref a), .val (.int 1), .unset, .unset] [(.ref a)])) rfl rfl (hb hby d24_1)
  refine own_st (T' := T110) (g' := (mkF m 4 #[.val (.ref a), .val (.int 1), .unset, .unset] [(.ref de)])) st110 ?_
  have F111 : Arv Z h0 de kd (.object "java/lang/Object") (0 : Int32) [] .null := (pr3.ext pr1.2)
  refine own_st (T' := T110) (g' := (mkF m 5 #[.val (.ref a), .val (.int 1), .unset, .unset] [(.int 0)])) (own_alen X110 hx hZ e110 F111 (g := (mkF m 4 #[.val (.ref a), .val (.int 1), .unset, .unset] [(.ref de)])) rfl rfl (hb hby d24_4)) ?_
  refine own_st (T' := T110) (g' := (mkF m 11 #[.val (.ref a), .val (.int 1), .val (.int 0), .unset] [(.ref a)])) (fun _ kt => XS.istoreN X110.here hx rfl (hb hby d24_5) rfl (l' := #[.val (.ref a), .val (.int 1), .val (.int 0), .unset]) rfl (XS.iloadN X110.here hx rfl (hb hby d24_6) rfl (XS.ifNo X110.here hx rfl (hb hby d24_7) rfl (XT.i0_gt_f (by decide)) (XS.aloadN X110.here hx rfl (hb hby d24_10) rfl rfl kt)))) ?_
  obtain ⟨T112, X112, e112, st112⟩ := getF X110 hx hZ hown (host := "") (Or.inl (own_k hw 67 rfl)) Via.refl e110 pr7 (g := (mkF m 11 #[.val (.ref a), .val (.int 1), .val (.int 0), .unset] [(.ref a)])) rfl rfl (hb hby d24_11)
  refine own_st (T' := T112) (g' := (mkF m 14 #[.val (.ref a), .val (.int 1), .val (.int 0), .unset] [(.ref de)])) st112 ?_
  obtain ⟨T113, X113, e113, st113⟩ := getS2 X112 hx hZ hown (host := "") (Or.inl (own_k hw 66 rfl)) Via.refl e112 (Sta.ext pr1.2 pr2) (g := (mkF m 14 #[.val (.ref a), .val (.int 1), .val (.int 0), .unset] [(.ref de)])) rfl (hb hby d24_14)
  refine own_st (T' := T113) (g' := (mkF m 17 #[.val (.ref a), .val (.int 1), .val (.int 0), .unset] [(.ref de), (.ref de)])) st113 ?_
  refine own_st (T' := T113) (g' := (mkF m 49 #[.val (.ref a), .val (.int 1), .val (.int 0), .unset] [(.int 1), (.int 10), (.ref a)])) (fun _ kt => XT.acmpYes X113.here hx rfl (pc0 := 17) (pc' := 45) rfl (hb hby d24_17) rfl rfl rfl (XT.aa_eq_t rfl) (by decide) (by decide) (XS.aloadN X113.here hx rfl (hb hby d24_45) rfl rfl (XS.bipush X113.here hx rfl (hb hby d24_46) (XS.iloadN X113.here hx rfl (hb hby d24_48) rfl kt)))) ?_
  obtain ⟨_, _, ⟨T114, L114, k114, n114⟩, -, X114, ⟨Lc114, hQ114, l114, y114, z114⟩, st114⟩ := Jvm.LawKit.callS X113 hx (y := (⟨"java/lang/Math", "max", "(II)I"⟩ : MethodName)) hown (mvT hZ (own_k hw 130 rfl)) (mvT hZ (own_k hw 131 rfl)) (mvT hZ (own_k hw 132 rfl)) (mvT hZ (own_k hw 133 rfl)) (by decide) (backOf (W := 1) (own_mx l Z a0 hw []  h0 n0 Z0 ) hZ (own_k hw 133 rfl) (own_k hw 132 rfl) (by decide) (by decide)) (g := (mkF m 49 #[.val (.ref a), .val (.int 1), .val (.int 0), .unset] [(.int 1), (.int 10), (.ref a)])) rfl hml.symm  (argsL := [(.int 10), (.int 1)]) (rest := [(.ref a)]) (lenOf own_pd10 rfl) rfl (own_w0 rfl rfl) (hb hby d24_49) (fun _ _ => ⟨rfl, e113, (by decide : 0 + 0 ≤ 1), (by decide : 0 + 0 ≤ 10)⟩)
  dsimp only [Pt.U, Pt.locs, Pt.cells, Pt.slots] at X114 l114 y114 z114 st114 hQ114
  subst l114 y114 z114
  obtain ⟨rfl, N114, e114⟩ := hQ114
  have N115 := Fr.app N0 N114
  refine own_st (T' := T114) (g' := (mkF m 52 #[.val (.ref a), .val (.int 1), .val (.int 0), .unset] [(.int 10), (.ref a)])) st114 ?_
  obtain ⟨T116, h116, k116, X116, e116, E116, A116, O116, st116⟩ := newR X114 hx hZ hown (own_k hw 134 rfl) (own_k hw 135 rfl) e114 (g := (mkF m 52 #[.val (.ref a), .val (.int 1), .val (.int 0), .unset] [(.int 10), (.ref a)])) rfl (hb hby d24_52) rfl (by decide) (cap := 10) (by decide) (by decide) (by decide) (by decide)
  obtain ⟨b116, g116⟩ : ∃ z, z = h0.size := ⟨_, rfl⟩
  rw [← g116] at A116 st116
  have ne117 : a ≠ b116 := by rw [g116]; exact Nat.ne_of_lt pr5.lt
  have Z118 : n0 ≤ h116.size := Nat.le_trans Z0 E116.1
  have K118 : Keep h0 h116 [a] := (Keep.ext K0 E116)
  have ge_b116 : n0 ≤ b116 := Nat.le_trans Z0 (Nat.le_of_eq g116.symm)
  have F119 : Arv Z h116 b116 k116 (.object "java/lang/Object") (10 : Int32) [.null, .null, .null, .null, .null, .null, .null, .null, .null, .null] .null := (Arv.new A116 (by decide)).pad (pad_rep [] .null 10)
  refine own_st (T' := T116) (g' := (mkF m 55 #[.val (.ref a), .val (.int 1), .val (.int 0), .unset] [(.ref b116), (.ref a)])) st116 ?_
  refine own_st (T' := T116) (g' := (mkF m 56 #[.val (.ref a), .val (.int 1), .val (.int 0), .unset] [(.ref b116), (.ref a), (.ref b116)])) (fun _ kt => XT.dupX1 X116.here hx rfl (hb hby d24_55) rfl rfl rfl kt) ?_
  have F120 : Fld Z h116 a "java/util/ArrayList" "elementData" "[Ljava/lang/Object;" (.ref de) := (Fld.ext E116 pr7)
  have F121 : Exa Z h116 a "java/util/ArrayList" := (Exa.ext E116 pr5)
  obtain ⟨T122, h122, X122, e122, W122, st122⟩ := putF X116 hx hZ hown (host := "") (Or.inl (own_k hw 67 rfl)) Via.refl e116 F120 F121 (Or.inl (own_k hw 68 rfl)) (own_k hw 46 rfl) (ty := (.array (.object "java/lang/Object"))) (by decide) rfl rfl (g := (mkF m 56 #[.val (.ref a), .val (.int 1), .val (.int 0), .unset] [(.ref b116), (.ref a), (.ref b116)])) rfl rfl (hb hby d24_56)
  have N122 := Fr.snoc X122 N115 pr4
  have Z123 : n0 ≤ h122.size := Nat.le_trans Z118 (Nat.le_of_eq (Wr.size W122).symm)
  have K123 : Keep h0 h122 [a] := (Keep.wr K118 W122 (Or.inl (List.mem_of_getElem? (i := 0) rfl)))
  have F124 : Fld Z h122 a "java/util/ArrayList" "elementData" "[Ljava/lang/Object;" (.ref b116) := Fld.same W122 F120
  refine own_st (T' := T122) (g' := (mkF m 59 #[.val (.ref a), .val (.int 1), .val (.int 0), .unset] [(.ref b116)])) st122 ?_
  obtain ⟨fs, hr, hrun, hended, hW, hsame⟩ := X122.leave (v := some (.ref b116)) (fun h => by rw [Bd.returns] at h; cases h)
  refine own_end (own_retA X122 hx Bd.returns rfl rfl rfl (hb hby d24_59) hr) ⟨_, hrun, hended, _, _, rfl, ?_, ⟨_, rfl⟩, hW, hsame.mono (by decide) (by decide)⟩
  have F125 : Exa Z h122 a "java/util/ArrayList" := (Exa.wr W122 F121)
  have F126 : Fld Z h122 a "java/util/AbstractList" "modCount" "I" (.int mc) := (Fld.other W122 (Fld.ext E116 pr6) (Or.inr (slot_ne (Or.inl (own_k hw 65 rfl)) (Or.inl (own_k hw 68 rfl)) (by decide) (t := .int) (t' := (.array (.object "java/lang/Object"))) (by decide) (by decide))))
  have F127 : Fld Z h122 a "java/util/ArrayList" "size" "I" (.int 0) := (Fld.other W122 (Fld.ext E116 pr8) (Or.inr (slot_ne (Or.inl (own_k hw 107 rfl)) (Or.inl (own_k hw 68 rfl)) (by decide) (t := .int) (t' := (.array (.object "java/lang/Object"))) (by decide) (by decide))))
  have F128 : Arv Z h122 b116 k116 (.object "java/lang/Object") (10 : Int32) [.null, .null, .null, .null, .null, .null, .null, .null, .null, .null] .null := (Arv.other F119 W122 (Ne.symm ne117))
  show own_grIQ Z _ _ _ _ h0 n0 _ T122.heap _
  rw [e122]
  exact ⟨b116, k116, rfl, N122, K123, F125, F126, F124, F127, F128, O116, (Nat.le_trans K0.1 (Nat.le_of_eq g116.symm))⟩
theorem d23_0 : decode jdk_38_method_7_code 0 = .ok (.aload_n 0, 1) := by decide +kernel
theorem d23_1 : decode jdk_38_method_7_code 1 = .ok (.aload_n 0, 1) := by decide +kernel
theorem d23_2 : decode jdk_38_method_7_code 2 = .ok (.getfield 48, 3) := by decide +kernel
theorem d23_5 : decode jdk_38_method_7_code 5 = .ok (.iconst 1, 1) := by decide +kernel
theorem d23_6 : decode jdk_38_method_7_code 6 = .ok (.iadd, 1) := by decide +kernel
theorem d23_7 : decode jdk_38_method_7_code 7 = .ok (.invokevirtual 69, 3) := by decide +kernel
theorem own_pd11 : parseMethodDescriptor "(I)[Ljava/lang/Object;" = some ⟨[.int], some (.array (.object "java/lang/Object"))⟩ := by decide +kernel
theorem d23_10 : decode jdk_38_method_7_code 10 = .ok (.areturn, 1) := by decide +kernel
def own_grQ (Z : State) (a : Addr) (mc : Int32) (de : Addr) (kd : ClassId) (h0 : Heap) (n0 : Nat) (v : Option Value) (h : Heap) (L : List Loc) : Prop := ∃ (b : Addr), ∃ (kb : ClassId), v = some (.ref b) ∧ Fr n0 L ∧ Keep h0 h [a] ∧ (Exa Z h a "java/util/ArrayList") ∧ (Fld Z h a "java/util/AbstractList" "modCount" "I" (.int mc)) ∧ (Fld Z h a "java/util/ArrayList" "elementData" "[Ljava/lang/Object;" (.ref b)) ∧ (Fld Z h a "java/util/ArrayList" "size" "I" (.int 0)) ∧ (Arv Z h b kb (.object "java/lang/Object") (10 : Int32) [.null, .null, .null, .null, .null, .null, .null, .null, .null, .null] .null) ∧ (Ovr Z kb "java/lang/Object") ∧ (h0.size ≤ b)
abbrev own_grR : Room := { frames := 2, cells := 1, slots := 10, locals := 29 }
theorem own_gr (l : Launch) (Z : State) (a0 : Array Value) (hw : ∀ d ∈ tables_1, d.before a0 Z = true) (ws : List Jvm.Cond) (a : Addr) (mc : Int32) (de : Addr) (kd : ClassId) (h0 : Heap) (n0 : Nat) (Z0 : n0 ≤ h0.size) (pr1 : Old Z n0 h0) (pr2 : Sta Z Z.heap "java/util/ArrayList" "DEFAULTCAPACITY_EMPTY_ELEMENTDATA" "[Ljava/lang/Object;" (.ref de)) (pr3 : Arv Z Z.heap de kd (.object "java/lang/Object") (0 : Int32) [] .null) (pr4 : n0 ≤ a) (pr5 : Exa Z h0 a "java/util/ArrayList") (pr6 : Fld Z h0 a "java/util/AbstractList" "modCount" "I" (.int mc)) (pr7 : Fld Z h0 a "java/util/ArrayList" "elementData" "[Ljava/lang/Object;" (.ref de)) (pr8 : Fld Z h0 a "java/util/ArrayList" "size" "I" (.int 0)) :
    own_M l (⟨"java/util/ArrayList", "grow", "()[Ljava/lang/Object;"⟩ : MethodName) jdk_38_method_7_code 1 (some (.array (.object "java/lang/Object"))) ws own_grR #[(.ref a)] Z h0 (own_grQ Z a mc de kd h0 n0) := by
  refine own_go (plainFor_of_name own_pn6) (fun m => own_ef3 m a ) ?_
  intro p e s m below meth c s₁ Bd hx hby hml hZ hh hown hnm X0 e0
  have N0 := Fr.nil n0
  have K0 : Keep h0 h0 [a] := Keep.refl h0 _
  refine own_st (T' := s₁) (g' := (mkF m 2 #[.val (.ref a)] [(.ref a), (.ref a)])) (fun _ kt => XS.aloadN X0.here hx rfl (hb hby d23_0) rfl rfl (XS.aloadN X0.here hx rfl (hb hby d23_1) rfl rfl kt)) ?_
  obtain ⟨T129, X129, e129, st129⟩ := getF X0 hx hZ hown (host := "") (Or.inl (own_k hw 106 rfl)) Via.refl e0 pr8 (g := (mkF m 2 #[.val (.ref a)] [(.ref a), (.ref a)])) rfl rfl (hb hby d23_2)
  refine own_st (T' := T129) (g' := (mkF m 5 #[.val (.ref a)] [(.int 0), (.ref a)])) st129 ?_
  refine own_st (T' := T129) (g' := (mkF m 7 #[.val (.ref a)] [(.int 1), (.ref a)])) (fun _ kt => XS.iconst X129.here hx rfl (hb hby d23_5) (XS.iadd X129.here hx rfl (hb hby d23_6) rfl kt)) ?_
  obtain ⟨cl131, hcl131, hob131⟩ := Exa.cell pr5
  obtain ⟨_, _, ⟨T130, L130, k130, n130⟩, -, X130, ⟨Lc130, hQ130, l130, y130, z130⟩, st130⟩ := X129.privateBack hx (y := (⟨"java/util/ArrayList", "grow", "(I)[Ljava/lang/Object;"⟩ : MethodName)) hown (mvT hZ (own_k hw 125 rfl)) (mvT hZ (own_k hw 126 rfl)) (mvT hZ (own_k hw 128 rfl)) (Cond.privateMethod_at (mvP hZ (own_k hw 127 rfl) (args := #[]))) (mvT hZ (own_k hw 129 rfl)) (by decide) (backOf (W := 0) (own_grI l Z a0 hw [] a mc de kd h0 n0 Z0 pr1 pr2 pr3 pr4 pr5 pr6 pr7 pr8) hZ (own_k hw 129 rfl) (own_k hw 47 rfl) (by decide) (by decide)) (g := (mkF m 7 #[.val (.ref a)] [(.int 1), (.ref a)])) rfl hml.symm (Steps.refl _) (a := a) (by rw [e129]; exact hcl131) hob131 (argsL := [(.int 1)]) (rest := []) (lenOf own_pd11 rfl) rfl (own_w0 rfl rfl) (hb hby d23_7) (fun _ _ => ⟨rfl, e129, (by decide : 0 + 1 ≤ 1), (by decide : 0 + 10 ≤ 10)⟩)
  dsimp only [Pt.U, Pt.locs, Pt.cells, Pt.slots] at X130 l130 y130 z130 st130 hQ130
  subst l130 y130 z130
  obtain ⟨b_130, kb_130, rfl, N130, K130_, P132, P133, P134, P135, P136, P137, P138⟩ := hQ130
  have N139 := Fr.app N0 N130
  have Z140 : n0 ≤ T130.heap.size := Nat.le_trans Z0 K130_.1
  have K140 : Keep h0 T130.heap [a] := (Keep.trans K0 K130_ (allS (Or.inl (List.mem_of_getElem? (i := 0) rfl)) all0))
  have ge141 : n0 ≤ b_130 := Nat.le_trans Z0 P138
  refine own_tr (T' := T130) (g' := (mkF m 10 #[.val (.ref a)] [(.ref b_130)])) st130 ?_
  obtain ⟨fs, hr, hrun, hended, hW, hsame⟩ := X130.leave (v := some (.ref b_130)) (fun h => by rw [Bd.returns] at h; cases h)
  refine own_end (own_retA X130 hx Bd.returns rfl rfl rfl (hb hby d23_10) hr) ⟨_, hrun, hended, _, _, rfl, ?_, ⟨_, rfl⟩, hW, hsame.mono (by decide) (by decide)⟩
  show own_grQ Z _ _ _ _ h0 n0 _ T130.heap _
  show own_grQ Z _ _ _ _ h0 n0 _ T130.heap _
  exact ⟨b_130, kb_130, rfl, N139, K140, P132, P133, P134, P135, P136, P137, (Nat.le_trans K0.1 P138)⟩
theorem d22_0 : decode jdk_38_method_24_code 0 = .ok (.iload_n 3, 1) := by decide +kernel
theorem d22_1 : decode jdk_38_method_24_code 1 = .ok (.aload_n 2, 1) := by decide +kernel
theorem d22_2 : decode jdk_38_method_24_code 2 = .ok (.arraylength, 1) := by decide +kernel
theorem d22_3 : decode jdk_38_method_24_code 3 = .ok (.if_icmp .ne 8, 3) := by decide +kernel
theorem d22_6 : decode jdk_38_method_24_code 6 = .ok (.aload_n 0, 1) := by decide +kernel
theorem d22_7 : decode jdk_38_method_24_code 7 = .ok (.invokevirtual 129, 3) := by decide +kernel
theorem own_pd12 : parseMethodDescriptor "()[Ljava/lang/Object;" = some ⟨[], some (.array (.object "java/lang/Object"))⟩ := by decide +kernel
theorem d22_10 : decode jdk_38_method_24_code 10 = .ok (.astore_n 2, 1) := by decide +kernel
theorem d22_11 : decode jdk_38_method_24_code 11 = .ok (.aload_n 2, 1) := by decide +kernel
theorem d22_12 : decode jdk_38_method_24_code 12 = .ok (.iload_n 3, 1) := by decide +kernel
theorem d22_13 : decode jdk_38_method_24_code 13 = .ok (.aload_n 1, 1) := by decide +kernel
theorem d22_14 : decode jdk_38_method_24_code 14 = .ok (.aastore, 1) := by decide +kernel
theorem d22_15 : decode jdk_38_method_24_code 15 = .ok (.aload_n 0, 1) := by decide +kernel
theorem d22_16 : decode jdk_38_method_24_code 16 = .ok (.iload_n 3, 1) := by decide +kernel
theorem d22_17 : decode jdk_38_method_24_code 17 = .ok (.iconst 1, 1) := by decide +kernel
theorem d22_18 : decode jdk_38_method_24_code 18 = .ok (.iadd, 1) := by decide +kernel
theorem d22_19 : decode jdk_38_method_24_code 19 = .ok (.putfield 48, 3) := by decide +kernel
theorem d22_22 : decode jdk_38_method_24_code 22 = .ok (.return_, 1) := by decide +kernel
theorem own_ef9 (m : MethodId) (x0 : Addr) (x1 : Addr) (x2 : Addr) (x3 : Int32) : entryFrame m #[(.ref x0), (.ref x1), (.ref x2), (.int x3)] 4 = mkF m 0 #[.val (.ref x0), .val (.ref x1), .val (.ref x2), .val (.int x3)] [] := by first | (simp [entryFrame, mkF, argsToLocals, Value.category]; done) | rfl
def own_a3_0Q (Z : State) (a : Addr) (mc : Int32) (oo0 : Addr) (de : Addr) (kd : ClassId) (h0 : Heap) (n0 : Nat) (v : Option Value) (h : Heap) (L : List Loc) : Prop := ∃ (b : Addr), ∃ (kb : ClassId), v = none ∧ Fr n0 L ∧ Keep h0 h [a] ∧ (Exa Z h a "java/util/ArrayList") ∧ (Fld Z h a "java/util/AbstractList" "modCount" "I" (.int mc)) ∧ (Fld Z h a "java/util/ArrayList" "elementData" "[Ljava/lang/Object;" (.ref b)) ∧ (Fld Z h a "java/util/ArrayList" "size" "I" (.int 1)) ∧ (Arv Z h b kb (.object "java/lang/Object") (10 : Int32) [(.ref oo0), .null, .null, .null, .null, .null, .null, .null, .null, .null] .null) ∧ (Ovr Z kb "java/lang/Object") ∧ (h0.size ≤ b)
abbrev own_a3_0R : Room := { frames := 3, cells := 1, slots := 10, locals := 41 }
theorem own_a3_0 (l : Launch) (Z : State) (a0 : Array Value) (hw : ∀ d ∈ tables_1, d.before a0 Z = true) (ws : List Jvm.Cond) (a : Addr) (mc : Int32) (oo0 : Addr) (de : Addr) (kd : ClassId) (h0 : Heap) (n0 : Nat) (Z0 : n0 ≤ h0.size) (pr1 : Old Z n0 h0) (pr2 : Sta Z Z.heap "java/util/ArrayList" "DEFAULTCAPACITY_EMPTY_ELEMENTDATA" "[Ljava/lang/Object;" (.ref de)) (pr3 : Arv Z Z.heap de kd (.object "java/lang/Object") (0 : Int32) [] .null) (pr4 : n0 ≤ a) (pr5 : Exa Z h0 oo0 "java/lang/String") (pr6 : Exa Z h0 a "java/util/ArrayList") (pr7 : Fld Z h0 a "java/util/AbstractList" "modCount" "I" (.int mc)) (pr8 : Fld Z h0 a "java/util/ArrayList" "elementData" "[Ljava/lang/Object;" (.ref de)) (pr9 : Fld Z h0 a "java/util/ArrayList" "size" "I" (.int 0)) :
    own_M l yN5 jdk_38_method_24_code 4 none ws own_a3_0R #[(.ref a), (.ref oo0), (.ref de), (.int 0)] Z h0 (own_a3_0Q Z a mc oo0 de kd h0 n0) := by
  refine own_go (plainFor_of_name own_pn6) (fun m => own_ef9 m a oo0 de (0 : Int32) ) ?_
  intro p e s m below meth c s₁ Bd hx hby hml hZ hh hown hnm X0 e0
  have N0 := Fr.nil n0
  have K0 : Keep h0 h0 [a] := Keep.refl h0 _
  refine own_st (T' := s₁) (g' := (mkF m 2 #[.val (.ref a), .val (.ref oo0), .val (.ref de), .val (.int 0)] [(.ref de), (.int 0)])) (fun _ kt => XS.iloadN X0.here hx rfl (hb hby d22_0) rfl (XS.aloadN X0.here hx rfl (hb hby d22_1) rfl rfl kt)) ?_
  have F142 : Arv Z h0 de kd (.object "java/lang/Object") (0 : Int32) [] .null := (pr3.ext pr1.2)
  refine own_st (T' := s₁) (g' := (mkF m 3 #[.val (.ref a), .val (.ref oo0), .val (.ref de), .val (.int 0)] [(.int 0), (.int 0)])) (own_alen X0 hx hZ e0 F142 (g := (mkF m 2 #[.val (.ref a), .val (.ref oo0), .val (.ref de), .val (.int 0)] [(.ref de), (.int 0)])) rfl rfl (hb hby d22_2)) ?_
  refine own_st (T' := s₁) (g' := (mkF m 7 #[.val (.ref a), .val (.ref oo0), .val (.ref de), .val (.int 0)] [(.ref a)])) (fun _ kt => XS.icmpNo X0.here hx rfl (hb hby d22_3) rfl (XT.ii_ne_f (by decide)) (XS.aloadN X0.here hx rfl (hb hby d22_6) rfl rfl kt)) ?_
  obtain ⟨cl144, hcl144, hob144⟩ := Exa.cell pr6
  obtain ⟨_, _, ⟨T143, L143, k143, n143⟩, -, X143, ⟨Lc143, hQ143, l143, y143, z143⟩, st143⟩ := X0.privateBack hx (y := (⟨"java/util/ArrayList", "grow", "()[Ljava/lang/Object;"⟩ : MethodName)) hown (mvT hZ (own_k hw 120 rfl)) (mvT hZ (own_k hw 121 rfl)) (mvT hZ (own_k hw 123 rfl)) (Cond.privateMethod_at (mvP hZ (own_k hw 122 rfl) (args := #[]))) (mvT hZ (own_k hw 124 rfl)) (by decide) (backOf (W := 0) (own_gr l Z a0 hw [] a mc de kd h0 n0 Z0 pr1 pr2 pr3 pr4 pr6 pr7 pr8 pr9) hZ (own_k hw 124 rfl) (own_k hw 47 rfl) (by decide) (by decide)) (g := (mkF m 7 #[.val (.ref a), .val (.ref oo0), .val (.ref de), .val (.int 0)] [(.ref a)])) rfl hml.symm (Steps.refl _) (a := a) (by rw [e0]; exact hcl144) hob144 (argsL := []) (rest := []) (lenOf own_pd12 rfl) rfl (own_w0 rfl rfl) (hb hby d22_7) (fun _ _ => ⟨rfl, e0, (by decide : 0 + 1 ≤ 1), (by decide : 0 + 10 ≤ 10)⟩)
  dsimp only [Pt.U, Pt.locs, Pt.cells, Pt.slots] at X143 l143 y143 z143 st143 hQ143
  subst l143 y143 z143
  obtain ⟨b_143, kb_143, rfl, N143, K143_, P145, P146, P147, P148, P149, P150, P151⟩ := hQ143
  have N152 := Fr.app N0 N143
  have Z153 : n0 ≤ T143.heap.size := Nat.le_trans Z0 K143_.1
  have K153 : Keep h0 T143.heap [a] := (Keep.trans K0 K143_ (allS (Or.inl (List.mem_of_getElem? (i := 0) rfl)) all0))
  have ne154 : oo0 ≠ b_143 := Nat.ne_of_lt (Nat.lt_of_lt_of_le pr5.lt P151)
  have ge155 : n0 ≤ b_143 := Nat.le_trans Z0 P151
  refine own_tr (T' := T143) (g' := (mkF m 10 #[.val (.ref a), .val (.ref oo0), .val (.ref de), .val (.int 0)] [(.ref b_143)])) st143 ?_
  refine own_st (T' := T143) (g' := (mkF m 14 #[.val (.ref a), .val (.ref oo0), .val (.ref b_143), .val (.int 0)] [(.ref oo0), (.int 0), (.ref b_143)])) (fun _ kt => XS.astoreN X143.here hx rfl (hb hby d22_10) rfl rfl (l' := #[.val (.ref a), .val (.ref oo0), .val (.ref b_143), .val (.int 0)]) rfl (XS.aloadN X143.here hx rfl (hb hby d22_11) rfl rfl (XS.iloadN X143.here hx rfl (hb hby d22_12) rfl (XS.aloadN X143.here hx rfl (hb hby d22_13) rfl rfl kt)))) ?_
  obtain ⟨cs157, As157, qs157, -⟩ := id P149
  have F158 : Exa Z T143.heap oo0 "java/lang/String" := (Exa.keep pr5 K143_)
  obtain ⟨T156, h156, X156, e156, W156, V156, st156⟩ := own_ast X143 hx hZ rfl P149 rfl ⟨by decide, by decide⟩ (i := 0) rfl (by simp) rfl (Sto.ofV As157 qs157 P150 (Ins.of_exa F158 (own_k hw 136 rfl))) (g := (mkF m 14 #[.val (.ref a), .val (.ref oo0), .val (.ref b_143), .val (.int 0)] [(.ref oo0), (.int 0), (.ref b_143)])) rfl rfl (hb hby d22_14)
  have N156 := Fr.snoc X156 N152 ge155
  have Z159 : n0 ≤ h156.size := Nat.le_trans Z153 (Nat.le_of_eq (Wr.size W156).symm)
  have K159 : Keep h0 h156 [a] := (Keep.wr K153 W156 (Or.inr (Nat.le_trans K0.1 P151)))
  have F160 : Arv Z h156 b_143 kb_143 (.object "java/lang/Object") (10 : Int32) [(.ref oo0), .null, .null, .null, .null, .null, .null, .null, .null, .null] .null := V156
  refine own_st (T' := T156) (g' := (mkF m 15 #[.val (.ref a), .val (.ref oo0), .val (.ref b_143), .val (.int 0)] [])) st156 ?_
  refine own_st (T' := T156) (g' := (mkF m 19 #[.val (.ref a), .val (.ref oo0), .val (.ref b_143), .val (.int 0)] [(.int 1), (.ref a)])) (fun _ kt => XS.aloadN X156.here hx rfl (hb hby d22_15) rfl rfl (XS.iloadN X156.here hx rfl (hb hby d22_16) rfl (XS.iconst X156.here hx rfl (hb hby d22_17) (XS.iadd X156.here hx rfl (hb hby d22_18) rfl kt)))) ?_
  have F161 : Exa Z h156 a "java/util/ArrayList" := (Exa.wr W156 (Exa.keep pr6 K143_))
  have F162 : Fld Z h156 a "java/util/ArrayList" "size" "I" (.int 0) := (Fld.other W156 P148 (Or.inl (Exa.neArv F161 F160 (own_k hw 46 rfl))))
  have F163 : Exa Z h156 a "java/util/ArrayList" := (Exa.wr W156 P145)
  obtain ⟨T164, h164, X164, e164, W164, st164⟩ := putF X156 hx hZ hown (host := "") (Or.inl (own_k hw 106 rfl)) Via.refl e156 F162 F163 (Or.inl (own_k hw 107 rfl)) (own_k hw 46 rfl) (ty := .int) (by decide) rfl rfl (g := (mkF m 19 #[.val (.ref a), .val (.ref oo0), .val (.ref b_143), .val (.int 0)] [(.int 1), (.ref a)])) rfl rfl (hb hby d22_19)
  have N164 := Fr.snoc X164 N156 pr4
  have Z165 : n0 ≤ h164.size := Nat.le_trans Z159 (Nat.le_of_eq (Wr.size W164).symm)
  have K165 : Keep h0 h164 [a] := (Keep.wr K159 W164 (Or.inl (List.mem_of_getElem? (i := 0) rfl)))
  have F166 : Fld Z h164 a "java/util/ArrayList" "size" "I" (.int 1) := Fld.same W164 F162
  refine own_st (T' := T164) (g' := (mkF m 22 #[.val (.ref a), .val (.ref oo0), .val (.ref b_143), .val (.int 0)] [])) st164 ?_
  obtain ⟨fs, hr, hrun, hended, hW, hsame⟩ := X164.leave (v := none) (fun _ => rfl)
  refine own_end (X164.returnOut hx Bd.returns (hb hby d22_22) hr) ⟨_, hrun, hended, _, _, rfl, ?_, ⟨_, rfl⟩, hW, hsame.mono (by decide) (by decide)⟩
  have F167 : Exa Z h164 a "java/util/ArrayList" := (Exa.wr W164 F163)
  have F168 : Exa Z h156 a "java/util/ArrayList" := (Exa.wr W156 (Exa.keep pr6 K143_))
  have F169 : Fld Z h164 a "java/util/AbstractList" "modCount" "I" (.int mc) := (Fld.other W164 (Fld.other W156 P146 (Or.inl (Exa.neArv F168 F160 (own_k hw 46 rfl)))) (Or.inr (slot_ne (Or.inl (own_k hw 65 rfl)) (Or.inl (own_k hw 107 rfl)) (by decide) (t := .int) (t' := .int) (by decide) (by decide))))
  have F170 : Exa Z h156 a "java/util/ArrayList" := (Exa.wr W156 (Exa.keep pr6 K143_))
  have F171 : Fld Z h164 a "java/util/ArrayList" "elementData" "[Ljava/lang/Object;" (.ref b_143) := (Fld.other W164 (Fld.other W156 P147 (Or.inl (Exa.neArv F170 F160 (own_k hw 46 rfl)))) (Or.inr (slot_ne (Or.inl (own_k hw 68 rfl)) (Or.inl (own_k hw 107 rfl)) (by decide) (t := (.array (.object "java/lang/Object"))) (t' := .int) (by decide) (by decide))))
  have F172 : Exa Z h156 a "java/util/ArrayList" := (Exa.wr W156 (Exa.keep pr6 K143_))
  have F173 : Arv Z h164 b_143 kb_143 (.object "java/lang/Object") (10 : Int32) [(.ref oo0), .null, .null, .null, .null, .null, .null, .null, .null, .null] .null := (Arv.other F160 W164 (Ne.symm (Exa.neArv F172 F160 (own_k hw 46 rfl))))
  show own_a3_0Q Z _ _ _ _ _ h0 n0 _ T164.heap _
  rw [e164]
  exact ⟨b_143, kb_143, rfl, N164, K165, F167, F169, F171, F166, F173, P150, (Nat.le_trans K0.1 P151)⟩
theorem d21_0 : decode jdk_38_method_25_code 0 = .ok (.aload_n 0, 1) := by decide +kernel
theorem d21_1 : decode jdk_38_method_25_code 1 = .ok (.dup, 1) := by decide +kernel
theorem d21_2 : decode jdk_38_method_25_code 2 = .ok (.getfield 63, 3) := by decide +kernel
theorem d21_5 : decode jdk_38_method_25_code 5 = .ok (.iconst 1, 1) := by decide +kernel
theorem d21_6 : decode jdk_38_method_25_code 6 = .ok (.iadd, 1) := by decide +kernel
theorem d21_7 : decode jdk_38_method_25_code 7 = .ok (.putfield 63, 3) := by decide +kernel
theorem d21_10 : decode jdk_38_method_25_code 10 = .ok (.aload_n 0, 1) := by decide +kernel
theorem d21_11 : decode jdk_38_method_25_code 11 = .ok (.aload_n 1, 1) := by decide +kernel
theorem d21_12 : decode jdk_38_method_25_code 12 = .ok (.aload_n 0, 1) := by decide +kernel
theorem d21_13 : decode jdk_38_method_25_code 13 = .ok (.getfield 9, 3) := by decide +kernel
theorem d21_16 : decode jdk_38_method_25_code 16 = .ok (.aload_n 0, 1) := by decide +kernel
theorem d21_17 : decode jdk_38_method_25_code 17 = .ok (.getfield 48, 3) := by decide +kernel
theorem d21_20 : decode jdk_38_method_25_code 20 = .ok (.invokevirtual 131, 3) := by decide +kernel
theorem own_pd13 : parseMethodDescriptor "(Ljava/lang/Object;[Ljava/lang/Object;I)V" = some ⟨[(.object "java/lang/Object"), (.array (.object "java/lang/Object")), .int], none⟩ := by decide +kernel
theorem d21_23 : decode jdk_38_method_25_code 23 = .ok (.iconst 1, 1) := by decide +kernel
theorem d21_24 : decode jdk_38_method_25_code 24 = .ok (.ireturn, 1) := by decide +kernel
theorem own_ef10 (m : MethodId) (x0 : Addr) (x1 : Addr) : entryFrame m #[(.ref x0), (.ref x1)] 2 = mkF m 0 #[.val (.ref x0), .val (.ref x1)] [] := by first | (simp [entryFrame, mkF, argsToLocals, Value.category]; done) | rfl
def own_a1_0Q (Z : State) (a : Addr) (mc : Int32) (oo0 : Addr) (de : Addr) (kd : ClassId) (h0 : Heap) (n0 : Nat) (v : Option Value) (h : Heap) (L : List Loc) : Prop := ∃ (b : Addr), ∃ (kb : ClassId), v = some (.int 1) ∧ Fr n0 L ∧ Keep h0 h [a] ∧ (Exa Z h a "java/util/ArrayList") ∧ (Fld Z h a "java/util/AbstractList" "modCount" "I" (.int (mc + (1 : Int32)))) ∧ (Fld Z h a "java/util/ArrayList" "elementData" "[Ljava/lang/Object;" (.ref b)) ∧ (Fld Z h a "java/util/ArrayList" "size" "I" (.int 1)) ∧ (Arv Z h b kb (.object "java/lang/Object") (10 : Int32) [(.ref oo0), .null, .null, .null, .null, .null, .null, .null, .null, .null] .null) ∧ (Ovr Z kb "java/lang/Object") ∧ (h0.size ≤ b)
abbrev own_a1_0R : Room := { frames := 4, cells := 1, slots := 10, locals := 56 }
theorem own_a1_0 (l : Launch) (Z : State) (a0 : Array Value) (hw : ∀ d ∈ tables_1, d.before a0 Z = true) (ws : List Jvm.Cond) (a : Addr) (mc : Int32) (oo0 : Addr) (de : Addr) (kd : ClassId) (h0 : Heap) (n0 : Nat) (Z0 : n0 ≤ h0.size) (pr1 : Old Z n0 h0) (pr2 : Sta Z Z.heap "java/util/ArrayList" "DEFAULTCAPACITY_EMPTY_ELEMENTDATA" "[Ljava/lang/Object;" (.ref de)) (pr3 : Arv Z Z.heap de kd (.object "java/lang/Object") (0 : Int32) [] .null) (pr4 : n0 ≤ a) (pr5 : Exa Z h0 oo0 "java/lang/String") (pr6 : Exa Z h0 a "java/util/ArrayList") (pr7 : Fld Z h0 a "java/util/AbstractList" "modCount" "I" (.int mc)) (pr8 : Fld Z h0 a "java/util/ArrayList" "elementData" "[Ljava/lang/Object;" (.ref de)) (pr9 : Fld Z h0 a "java/util/ArrayList" "size" "I" (.int 0)) :
    own_M l yN1 jdk_38_method_25_code 2 (some .boolean) ws own_a1_0R #[(.ref a), (.ref oo0)] Z h0 (own_a1_0Q Z a mc oo0 de kd h0 n0) := by
  refine own_go (plainFor_of_name own_pn6) (fun m => own_ef10 m a oo0 ) ?_
  intro p e s m below meth c s₁ Bd hx hby hml hZ hh hown hnm X0 e0
  have N0 := Fr.nil n0
  have K0 : Keep h0 h0 [a] := Keep.refl h0 _
  refine own_st (T' := s₁) (g' := (mkF m 2 #[.val (.ref a), .val (.ref oo0)] [(.ref a), (.ref a)])) (fun _ kt => XS.aloadN X0.here hx rfl (hb hby d21_0) rfl rfl (XS.dup X0.here hx rfl (hb hby d21_1) rfl rfl kt)) ?_
  obtain ⟨T174, X174, e174, st174⟩ := getF X0 hx hZ hown (host := "") (Or.inl (own_k hw 113 rfl)) (Via.of (own_k hw 114 rfl)) e0 pr7 (g := (mkF m 2 #[.val (.ref a), .val (.ref oo0)] [(.ref a), (.ref a)])) rfl rfl (hb hby d21_2)
  refine own_st (T' := T174) (g' := (mkF m 5 #[.val (.ref a), .val (.ref oo0)] [(.int mc), (.ref a)])) st174 ?_
  refine own_st (T' := T174) (g' := (mkF m 7 #[.val (.ref a), .val (.ref oo0)] [(.int (mc + (1 : Int32))), (.ref a)])) (fun _ kt => XS.iconst X174.here hx rfl (hb hby d21_5) (XS.iadd X174.here hx rfl (hb hby d21_6) rfl kt)) ?_
  obtain ⟨T175, h175, X175, e175, W175, st175⟩ := putF X174 hx hZ hown (host := "") (Or.inl (own_k hw 113 rfl)) (Via.of (own_k hw 114 rfl)) e174 pr7 pr6 (Or.inl (own_k hw 65 rfl)) (own_k hw 46 rfl) (ty := .int) (by decide) rfl rfl (g := (mkF m 7 #[.val (.ref a), .val (.ref oo0)] [(.int (mc + (1 : Int32))), (.ref a)])) rfl rfl (hb hby d21_7)
  have N175 := Fr.snoc X175 N0 pr4
  have Z176 : n0 ≤ h175.size := Nat.le_trans Z0 (Nat.le_of_eq (Wr.size W175).symm)
  have K176 : Keep h0 h175 [a] := (Keep.wr K0 W175 (Or.inl (List.mem_of_getElem? (i := 0) rfl)))
  have F177 : Fld Z h175 a "java/util/AbstractList" "modCount" "I" (.int (mc + (1 : Int32))) := Fld.same W175 pr7
  refine own_st (T' := T175) (g' := (mkF m 10 #[.val (.ref a), .val (.ref oo0)] [])) st175 ?_
  refine own_st (T' := T175) (g' := (mkF m 13 #[.val (.ref a), .val (.ref oo0)] [(.ref a), (.ref oo0), (.ref a)])) (fun _ kt => XS.aloadN X175.here hx rfl (hb hby d21_10) rfl rfl (XS.aloadN X175.here hx rfl (hb hby d21_11) rfl rfl (XS.aloadN X175.here hx rfl (hb hby d21_12) rfl rfl kt))) ?_
  have F178 : Fld Z h175 a "java/util/ArrayList" "elementData" "[Ljava/lang/Object;" (.ref de) := (Fld.other W175 pr8 (Or.inr (slot_ne (Or.inl (own_k hw 68 rfl)) (Or.inl (own_k hw 65 rfl)) (by decide) (t := (.array (.object "java/lang/Object"))) (t' := .int) (by decide) (by decide))))
  obtain ⟨T179, X179, e179, st179⟩ := getF X175 hx hZ hown (host := "") (Or.inl (own_k hw 67 rfl)) Via.refl e175 F178 (g := (mkF m 13 #[.val (.ref a), .val (.ref oo0)] [(.ref a), (.ref oo0), (.ref a)])) rfl rfl (hb hby d21_13)
  refine own_st (T' := T179) (g' := (mkF m 16 #[.val (.ref a), .val (.ref oo0)] [(.ref de), (.ref oo0), (.ref a)])) st179 ?_
  refine own_st (T' := T179) (g' := (mkF m 17 #[.val (.ref a), .val (.ref oo0)] [(.ref a), (.ref de), (.ref oo0), (.ref a)])) (fun _ kt => XS.aloadN X179.here hx rfl (hb hby d21_16) rfl rfl kt) ?_
  have F180 : Fld Z h175 a "java/util/ArrayList" "size" "I" (.int 0) := (Fld.other W175 pr9 (Or.inr (slot_ne (Or.inl (own_k hw 107 rfl)) (Or.inl (own_k hw 65 rfl)) (by decide) (t := .int) (t' := .int) (by decide) (by decide))))
  obtain ⟨T181, X181, e181, st181⟩ := getF X179 hx hZ hown (host := "") (Or.inl (own_k hw 106 rfl)) Via.refl e179 F180 (g := (mkF m 17 #[.val (.ref a), .val (.ref oo0)] [(.ref a), (.ref de), (.ref oo0), (.ref a)])) rfl rfl (hb hby d21_17)
  refine own_st (T' := T181) (g' := (mkF m 20 #[.val (.ref a), .val (.ref oo0)] [(.int 0), (.ref de), (.ref oo0), (.ref a)])) st181 ?_
  have F182 : Exa Z h175 a "java/util/ArrayList" := (Exa.wr W175 pr6)
  have F183 : Old Z n0 h175 := (Old.wr pr1 W175 pr4)
  have F184 : Exa Z h175 oo0 "java/lang/String" := (Exa.wr W175 pr5)
  obtain ⟨cl186, hcl186, hob186⟩ := Exa.cell F182
  obtain ⟨_, _, ⟨T185, L185, k185, n185⟩, -, X185, ⟨Lc185, hQ185, l185, y185, z185⟩, st185⟩ := X181.privateBack hx (y := yN5) hown (mvT hZ (own_k hw 115 rfl)) (mvT hZ (own_k hw 116 rfl)) (mvT hZ (own_k hw 118 rfl)) (Cond.privateMethod_at (mvP hZ (own_k hw 117 rfl) (args := #[]))) (mvT hZ (own_k hw 119 rfl)) (by decide) (backOf (W := 0) (own_a3_0 l Z a0 hw [] a (mc + (1 : Int32)) oo0 de kd h175 n0 Z176 F183 pr2 pr3 pr4 F184 F182 F177 F178 F180) hZ (own_k hw 119 rfl) (own_k hw 47 rfl) (by decide) (by decide)) (g := (mkF m 20 #[.val (.ref a), .val (.ref oo0)] [(.int 0), (.ref de), (.ref oo0), (.ref a)])) rfl hml.symm (Steps.refl _) (a := a) (by rw [e181]; exact hcl186) hob186 (argsL := [(.ref oo0), (.ref de), (.int 0)]) (rest := []) (lenOf own_pd13 rfl) rfl (own_w0 rfl rfl) (hb hby d21_20) (fun _ _ => ⟨rfl, e181, (by decide : 0 + 1 ≤ 1), (by decide : 0 + 10 ≤ 10)⟩)
  dsimp only [Pt.U, Pt.locs, Pt.cells, Pt.slots] at X185 l185 y185 z185 st185 hQ185
  subst l185 y185 z185
  obtain ⟨b_185, kb_185, rfl, N185, K185_, P187, P188, P189, P190, P191, P192, P193⟩ := hQ185
  have N194 := Fr.app N175 N185
  have Z195 : n0 ≤ T185.heap.size := Nat.le_trans Z176 K185_.1
  have K195 : Keep h0 T185.heap [a] := (Keep.trans K176 K185_ (allS (Or.inl (List.mem_of_getElem? (i := 0) rfl)) all0))
  have ne196 : oo0 ≠ b_185 := Nat.ne_of_lt (Nat.lt_of_lt_of_le F184.lt P193)
  have ge197 : n0 ≤ b_185 := Nat.le_trans Z176 P193
  refine own_tr (T' := T185) (g' := (mkF m 23 #[.val (.ref a), .val (.ref oo0)] [])) st185 ?_
  refine own_st (T' := T185) (g' := (mkF m 24 #[.val (.ref a), .val (.ref oo0)] [(.int 1)])) (fun _ kt => XS.iconst X185.here hx rfl (hb hby d21_23) kt) ?_
  obtain ⟨fs, hr, hrun, hended, hW, hsame⟩ := X185.leave (v := some (.int 1)) (fun h => by rw [Bd.returns] at h; cases h)
  refine own_end (retN X185 hx (t := .boolean) Bd.returns (by simp) (hb hby d21_24) hr) ⟨_, hrun, hended, _, _, rfl, ?_, ⟨_, rfl⟩, hW, hsame.mono (by decide) (by decide)⟩
  show own_a1_0Q Z _ _ _ _ _ h0 n0 _ T185.heap _
  show own_a1_0Q Z _ _ _ _ _ h0 n0 _ T185.heap _
  exact ⟨b_185, kb_185, rfl, N194, K195, P187, P188, P189, P190, P191, P192, (Nat.le_trans K176.1 P193)⟩
def own_a3_1Q (Z : State) (a : Addr) (mc : Int32) (oo0 : Addr) (oo1 : Addr) (b0 : Addr) (k0 : ClassId) (h0 : Heap) (n0 : Nat) (v : Option Value) (h : Heap) (L : List Loc) : Prop := v = none ∧ Fr n0 L ∧ Keep h0 h [a, b0] ∧ (Exa Z h a "java/util/ArrayList") ∧ (Fld Z h a "java/util/AbstractList" "modCount" "I" (.int mc)) ∧ (Fld Z h a "java/util/ArrayList" "elementData" "[Ljava/lang/Object;" (.ref b0)) ∧ (Fld Z h a "java/util/ArrayList" "size" "I" (.int 2)) ∧ (Arv Z h b0 k0 (.object "java/lang/Object") (10 : Int32) [(.ref oo0), (.ref oo1), .null, .null, .null, .null, .null, .null, .null, .null] .null)
abbrev own_a3_1R : Room := { frames := 0, cells := 0, slots := 0, locals := 0 }
theorem own_a3_1 (l : Launch) (Z : State) (a0 : Array Value) (hw : ∀ d ∈ tables_1, d.before a0 Z = true) (ws : List Jvm.Cond) (a : Addr) (mc : Int32) (oo0 : Addr) (oo1 : Addr) (b0 : Addr) (k0 : ClassId) (h0 : Heap) (n0 : Nat) (Z0 : n0 ≤ h0.size) (pr1 : n0 ≤ b0) (pr2 : Arv Z h0 b0 k0 (.object "java/lang/Object") (10 : Int32) [(.ref oo0), .null, .null, .null, .null, .null, .null, .null, .null, .null] .null) (pr3 : Ovr Z k0 "java/lang/Object") (pr4 : n0 ≤ a) (pr5 : Exa Z h0 oo1 "java/lang/String") (pr6 : Exa Z h0 a "java/util/ArrayList") (pr7 : Fld Z h0 a "java/util/AbstractList" "modCount" "I" (.int mc)) (pr8 : Fld Z h0 a "java/util/ArrayList" "elementData" "[Ljava/lang/Object;" (.ref b0)) (pr9 : Fld Z h0 a "java/util/ArrayList" "size" "I" (.int 1)) :
    own_M l yN5 jdk_38_method_24_code 4 none ws own_a3_1R #[(.ref a), (.ref oo1), (.ref b0), (.int 1)] Z h0 (own_a3_1Q Z a mc oo0 oo1 b0 k0 h0 n0) := by
  refine own_go (plainFor_of_name own_pn6) (fun m => own_ef9 m a oo1 b0 (1 : Int32) ) ?_
  intro p e s m below meth c s₁ Bd hx hby hml hZ hh hown hnm X0 e0
  have N0 := Fr.nil n0
  have K0 : Keep h0 h0 [a, b0] := Keep.refl h0 _
  refine own_st (T' := s₁) (g' := (mkF m 2 #[.val (.ref a), .val (.ref oo1), .val (.ref b0), .val (.int 1)] [(.ref b0), (.int 1)])) (fun _ kt => XS.iloadN X0.here hx rfl (hb hby d22_0) rfl (XS.aloadN X0.here hx rfl (hb hby d22_1) rfl rfl kt)) ?_
  refine own_st (T' := s₁) (g' := (mkF m 3 #[.val (.ref a), .val (.ref oo1), .val (.ref b0), .val (.int 1)] [(.int 10), (.int 1)])) (own_alen X0 hx hZ e0 pr2 (g := (mkF m 2 #[.val (.ref a), .val (.ref oo1), .val (.ref b0), .val (.int 1)] [(.ref b0), (.int 1)])) rfl rfl (hb hby d22_2)) ?_
  refine own_st (T' := s₁) (g' := (mkF m 14 #[.val (.ref a), .val (.ref oo1), .val (.ref b0), .val (.int 1)] [(.ref oo1), (.int 1), (.ref b0)])) (fun _ kt => XS.icmpYes X0.here hx rfl (pc0 := 3) (pc' := 11) rfl (hb hby d22_3) rfl (XT.ii_ne_t (by decide)) (by decide) (by decide) (XS.aloadN X0.here hx rfl (hb hby d22_11) rfl rfl (XS.iloadN X0.here hx rfl (hb hby d22_12) rfl (XS.aloadN X0.here hx rfl (hb hby d22_13) rfl rfl kt)))) ?_
  obtain ⟨cs199, As199, qs199, -⟩ := id pr2
  obtain ⟨T198, h198, X198, e198, W198, V198, st198⟩ := own_ast X0 hx hZ e0 pr2 rfl ⟨by decide, by decide⟩ (i := 1) rfl (by simp) rfl (Sto.ofV As199 qs199 pr3 (Ins.of_exa pr5 (own_k hw 136 rfl))) (g := (mkF m 14 #[.val (.ref a), .val (.ref oo1), .val (.ref b0), .val (.int 1)] [(.ref oo1), (.int 1), (.ref b0)])) rfl rfl (hb hby d22_14)
  have N198 := Fr.snoc X198 N0 pr1
  have Z200 : n0 ≤ h198.size := Nat.le_trans Z0 (Nat.le_of_eq (Wr.size W198).symm)
  have K200 : Keep h0 h198 [a, b0] := (Keep.wr K0 W198 (Or.inl (List.mem_of_getElem? (i := 1) rfl)))
  have F201 : Arv Z h198 b0 k0 (.object "java/lang/Object") (10 : Int32) [(.ref oo0), (.ref oo1), .null, .null, .null, .null, .null, .null, .null, .null] .null := V198
  refine own_st (T' := T198) (g' := (mkF m 15 #[.val (.ref a), .val (.ref oo1), .val (.ref b0), .val (.int 1)] [])) st198 ?_
  refine own_st (T' := T198) (g' := (mkF m 19 #[.val (.ref a), .val (.ref oo1), .val (.ref b0), .val (.int 1)] [(.int 2), (.ref a)])) (fun _ kt => XS.aloadN X198.here hx rfl (hb hby d22_15) rfl rfl (XS.iloadN X198.here hx rfl (hb hby d22_16) rfl (XS.iconst X198.here hx rfl (hb hby d22_17) (XS.iadd X198.here hx rfl (hb hby d22_18) rfl kt)))) ?_
  have F202 : Exa Z h198 a "java/util/ArrayList" := (Exa.wr W198 pr6)
  have F203 : Fld Z h198 a "java/util/ArrayList" "size" "I" (.int 1) := (Fld.other W198 pr9 (Or.inl (Exa.neArv F202 F201 (own_k hw 46 rfl))))
  have F204 : Exa Z h198 a "java/util/ArrayList" := (Exa.wr W198 pr6)
  obtain ⟨T205, h205, X205, e205, W205, st205⟩ := putF X198 hx hZ hown (host := "") (Or.inl (own_k hw 106 rfl)) Via.refl e198 F203 F204 (Or.inl (own_k hw 107 rfl)) (own_k hw 46 rfl) (ty := .int) (by decide) rfl rfl (g := (mkF m 19 #[.val (.ref a), .val (.ref oo1), .val (.ref b0), .val (.int 1)] [(.int 2), (.ref a)])) rfl rfl (hb hby d22_19)
  have N205 := Fr.snoc X205 N198 pr4
  have Z206 : n0 ≤ h205.size := Nat.le_trans Z200 (Nat.le_of_eq (Wr.size W205).symm)
  have K206 : Keep h0 h205 [a, b0] := (Keep.wr K200 W205 (Or.inl (List.mem_of_getElem? (i := 0) rfl)))
  have F207 : Fld Z h205 a "java/util/ArrayList" "size" "I" (.int 2) := Fld.same W205 F203
  refine own_st (T' := T205) (g' := (mkF m 22 #[.val (.ref a), .val (.ref oo1), .val (.ref b0), .val (.int 1)] [])) st205 ?_
  obtain ⟨fs, hr, hrun, hended, hW, hsame⟩ := X205.leave (v := none) (fun _ => rfl)
  refine own_end (X205.returnOut hx Bd.returns (hb hby d22_22) hr) ⟨_, hrun, hended, _, _, rfl, ?_, ⟨_, rfl⟩, hW, hsame.mono (by decide) (by decide)⟩
  have F208 : Exa Z h205 a "java/util/ArrayList" := (Exa.wr W205 F204)
  have F209 : Exa Z h198 a "java/util/ArrayList" := (Exa.wr W198 pr6)
  have F210 : Fld Z h205 a "java/util/AbstractList" "modCount" "I" (.int mc) := (Fld.other W205 (Fld.other W198 pr7 (Or.inl (Exa.neArv F209 F201 (own_k hw 46 rfl)))) (Or.inr (slot_ne (Or.inl (own_k hw 65 rfl)) (Or.inl (own_k hw 107 rfl)) (by decide) (t := .int) (t' := .int) (by decide) (by decide))))
  have F211 : Exa Z h198 a "java/util/ArrayList" := (Exa.wr W198 pr6)
  have F212 : Fld Z h205 a "java/util/ArrayList" "elementData" "[Ljava/lang/Object;" (.ref b0) := (Fld.other W205 (Fld.other W198 pr8 (Or.inl (Exa.neArv F211 F201 (own_k hw 46 rfl)))) (Or.inr (slot_ne (Or.inl (own_k hw 68 rfl)) (Or.inl (own_k hw 107 rfl)) (by decide) (t := (.array (.object "java/lang/Object"))) (t' := .int) (by decide) (by decide))))
  have F213 : Exa Z h198 a "java/util/ArrayList" := (Exa.wr W198 pr6)
  have F214 : Arv Z h205 b0 k0 (.object "java/lang/Object") (10 : Int32) [(.ref oo0), (.ref oo1), .null, .null, .null, .null, .null, .null, .null, .null] .null := (Arv.other F201 W205 (Ne.symm (Exa.neArv F213 F201 (own_k hw 46 rfl))))
  show own_a3_1Q Z _ _ _ _ _ _ h0 n0 _ T205.heap _
  rw [e205]
  exact ⟨rfl, N205, K206, F208, F210, F212, F207, F214⟩
def own_a1_1Q (Z : State) (a : Addr) (mc : Int32) (oo0 : Addr) (oo1 : Addr) (b0 : Addr) (k0 : ClassId) (h0 : Heap) (n0 : Nat) (v : Option Value) (h : Heap) (L : List Loc) : Prop := v = some (.int 1) ∧ Fr n0 L ∧ Keep h0 h [a, b0] ∧ (Exa Z h a "java/util/ArrayList") ∧ (Fld Z h a "java/util/AbstractList" "modCount" "I" (.int (mc + (1 : Int32)))) ∧ (Fld Z h a "java/util/ArrayList" "elementData" "[Ljava/lang/Object;" (.ref b0)) ∧ (Fld Z h a "java/util/ArrayList" "size" "I" (.int 2)) ∧ (Arv Z h b0 k0 (.object "java/lang/Object") (10 : Int32) [(.ref oo0), (.ref oo1), .null, .null, .null, .null, .null, .null, .null, .null] .null)
abbrev own_a1_1R : Room := { frames := 1, cells := 0, slots := 0, locals := 15 }
theorem own_a1_1 (l : Launch) (Z : State) (a0 : Array Value) (hw : ∀ d ∈ tables_1, d.before a0 Z = true) (ws : List Jvm.Cond) (a : Addr) (mc : Int32) (oo0 : Addr) (oo1 : Addr) (b0 : Addr) (k0 : ClassId) (h0 : Heap) (n0 : Nat) (Z0 : n0 ≤ h0.size) (pr1 : n0 ≤ b0) (pr2 : Arv Z h0 b0 k0 (.object "java/lang/Object") (10 : Int32) [(.ref oo0), .null, .null, .null, .null, .null, .null, .null, .null, .null] .null) (pr3 : Ovr Z k0 "java/lang/Object") (pr4 : n0 ≤ a) (pr5 : Exa Z h0 oo1 "java/lang/String") (pr6 : Exa Z h0 a "java/util/ArrayList") (pr7 : Fld Z h0 a "java/util/AbstractList" "modCount" "I" (.int mc)) (pr8 : Fld Z h0 a "java/util/ArrayList" "elementData" "[Ljava/lang/Object;" (.ref b0)) (pr9 : Fld Z h0 a "java/util/ArrayList" "size" "I" (.int 1)) :
    own_M l yN1 jdk_38_method_25_code 2 (some .boolean) ws own_a1_1R #[(.ref a), (.ref oo1)] Z h0 (own_a1_1Q Z a mc oo0 oo1 b0 k0 h0 n0) := by
  refine own_go (plainFor_of_name own_pn6) (fun m => own_ef10 m a oo1 ) ?_
  intro p e s m below meth c s₁ Bd hx hby hml hZ hh hown hnm X0 e0
  have N0 := Fr.nil n0
  have K0 : Keep h0 h0 [a, b0] := Keep.refl h0 _
  refine own_st (T' := s₁) (g' := (mkF m 2 #[.val (.ref a), .val (.ref oo1)] [(.ref a), (.ref a)])) (fun _ kt => XS.aloadN X0.here hx rfl (hb hby d21_0) rfl rfl (XS.dup X0.here hx rfl (hb hby d21_1) rfl rfl kt)) ?_
  obtain ⟨T215, X215, e215, st215⟩ := getF X0 hx hZ hown (host := "") (Or.inl (own_k hw 113 rfl)) (Via.of (own_k hw 114 rfl)) e0 pr7 (g := (mkF m 2 #[.val (.ref a), .val (.ref oo1)] [(.ref a), (.ref a)])) rfl rfl (hb hby d21_2)
  refine own_st (T' := T215) (g' := (mkF m 5 #[.val (.ref a), .val (.ref oo1)] [(.int mc), (.ref a)])) st215 ?_
  refine own_st (T' := T215) (g' := (mkF m 7 #[.val (.ref a), .val (.ref oo1)] [(.int (mc + (1 : Int32))), (.ref a)])) (fun _ kt => XS.iconst X215.here hx rfl (hb hby d21_5) (XS.iadd X215.here hx rfl (hb hby d21_6) rfl kt)) ?_
  obtain ⟨T216, h216, X216, e216, W216, st216⟩ := putF X215 hx hZ hown (host := "") (Or.inl (own_k hw 113 rfl)) (Via.of (own_k hw 114 rfl)) e215 pr7 pr6 (Or.inl (own_k hw 65 rfl)) (own_k hw 46 rfl) (ty := .int) (by decide) rfl rfl (g := (mkF m 7 #[.val (.ref a), .val (.ref oo1)] [(.int (mc + (1 : Int32))), (.ref a)])) rfl rfl (hb hby d21_7)
  have N216 := Fr.snoc X216 N0 pr4
  have Z217 : n0 ≤ h216.size := Nat.le_trans Z0 (Nat.le_of_eq (Wr.size W216).symm)
  have K217 : Keep h0 h216 [a, b0] := (Keep.wr K0 W216 (Or.inl (List.mem_of_getElem? (i := 0) rfl)))
  have F218 : Fld Z h216 a "java/util/AbstractList" "modCount" "I" (.int (mc + (1 : Int32))) := Fld.same W216 pr7
  refine own_st (T' := T216) (g' := (mkF m 10 #[.val (.ref a), .val (.ref oo1)] [])) st216 ?_
  refine own_st (T' := T216) (g' := (mkF m 13 #[.val (.ref a), .val (.ref oo1)] [(.ref a), (.ref oo1), (.ref a)])) (fun _ kt => XS.aloadN X216.here hx rfl (hb hby d21_10) rfl rfl (XS.aloadN X216.here hx rfl (hb hby d21_11) rfl rfl (XS.aloadN X216.here hx rfl (hb hby d21_12) rfl rfl kt))) ?_
  have F219 : Fld Z h216 a "java/util/ArrayList" "elementData" "[Ljava/lang/Object;" (.ref b0) := (Fld.other W216 pr8 (Or.inr (slot_ne (Or.inl (own_k hw 68 rfl)) (Or.inl (own_k hw 65 rfl)) (by decide) (t := (.array (.object "java/lang/Object"))) (t' := .int) (by decide) (by decide))))
  obtain ⟨T220, X220, e220, st220⟩ := getF X216 hx hZ hown (host := "") (Or.inl (own_k hw 67 rfl)) Via.refl e216 F219 (g := (mkF m 13 #[.val (.ref a), .val (.ref oo1)] [(.ref a), (.ref oo1), (.ref a)])) rfl rfl (hb hby d21_13)
  refine own_st (T' := T220) (g' := (mkF m 16 #[.val (.ref a), .val (.ref oo1)] [(.ref b0), (.ref oo1), (.ref a)])) st220 ?_
  refine own_st (T' := T220) (g' := (mkF m 17 #[.val (.ref a), .val (.ref oo1)] [(.ref a), (.ref b0), (.ref oo1), (.ref a)])) (fun _ kt => XS.aloadN X220.here hx rfl (hb hby d21_16) rfl rfl kt) ?_
  have F221 : Fld Z h216 a "java/util/ArrayList" "size" "I" (.int 1) := (Fld.other W216 pr9 (Or.inr (slot_ne (Or.inl (own_k hw 107 rfl)) (Or.inl (own_k hw 65 rfl)) (by decide) (t := .int) (t' := .int) (by decide) (by decide))))
  obtain ⟨T222, X222, e222, st222⟩ := getF X220 hx hZ hown (host := "") (Or.inl (own_k hw 106 rfl)) Via.refl e220 F221 (g := (mkF m 17 #[.val (.ref a), .val (.ref oo1)] [(.ref a), (.ref b0), (.ref oo1), (.ref a)])) rfl rfl (hb hby d21_17)
  refine own_st (T' := T222) (g' := (mkF m 20 #[.val (.ref a), .val (.ref oo1)] [(.int 1), (.ref b0), (.ref oo1), (.ref a)])) st222 ?_
  have F223 : Exa Z h216 a "java/util/ArrayList" := (Exa.wr W216 pr6)
  have F224 : Arv Z h216 b0 k0 (.object "java/lang/Object") (10 : Int32) [(.ref oo0), .null, .null, .null, .null, .null, .null, .null, .null, .null] .null := (Arv.other pr2 W216 (Ne.symm (Exa.neArv pr6 pr2 (own_k hw 46 rfl))))
  have F225 : Exa Z h216 oo1 "java/lang/String" := (Exa.wr W216 pr5)
  obtain ⟨cl227, hcl227, hob227⟩ := Exa.cell F223
  obtain ⟨_, _, ⟨T226, L226, k226, n226⟩, -, X226, ⟨Lc226, hQ226, l226, y226, z226⟩, st226⟩ := X222.privateBack hx (y := yN5) hown (mvT hZ (own_k hw 115 rfl)) (mvT hZ (own_k hw 116 rfl)) (mvT hZ (own_k hw 118 rfl)) (Cond.privateMethod_at (mvP hZ (own_k hw 117 rfl) (args := #[]))) (mvT hZ (own_k hw 119 rfl)) (by decide) (backOf (W := 0) (own_a3_1 l Z a0 hw [] a (mc + (1 : Int32)) oo0 oo1 b0 k0 h216 n0 Z217 pr1 F224 pr3 pr4 F225 F223 F218 F219 F221) hZ (own_k hw 119 rfl) (own_k hw 47 rfl) (by decide) (by decide)) (g := (mkF m 20 #[.val (.ref a), .val (.ref oo1)] [(.int 1), (.ref b0), (.ref oo1), (.ref a)])) rfl hml.symm (Steps.refl _) (a := a) (by rw [e222]; exact hcl227) hob227 (argsL := [(.ref oo1), (.ref b0), (.int 1)]) (rest := []) (lenOf own_pd13 rfl) rfl (own_w0 rfl rfl) (hb hby d21_20) (fun _ _ => ⟨rfl, e222, (by decide : 0 + 0 ≤ 0), (by decide : 0 + 0 ≤ 0)⟩)
  dsimp only [Pt.U, Pt.locs, Pt.cells, Pt.slots] at X226 l226 y226 z226 st226 hQ226
  subst l226 y226 z226
  obtain ⟨rfl, N226, K226_, P228, P229, P230, P231, P232⟩ := hQ226
  have N233 := Fr.app N216 N226
  have Z234 : n0 ≤ T226.heap.size := Nat.le_trans Z217 K226_.1
  have K234 : Keep h0 T226.heap [a, b0] := (Keep.trans K217 K226_ (allS (Or.inl (List.mem_of_getElem? (i := 0) rfl)) (allS (Or.inl (List.mem_of_getElem? (i := 1) rfl)) all0)))
  refine own_tr (T' := T226) (g' := (mkF m 23 #[.val (.ref a), .val (.ref oo1)] [])) st226 ?_
  refine own_st (T' := T226) (g' := (mkF m 24 #[.val (.ref a), .val (.ref oo1)] [(.int 1)])) (fun _ kt => XS.iconst X226.here hx rfl (hb hby d21_23) kt) ?_
  obtain ⟨fs, hr, hrun, hended, hW, hsame⟩ := X226.leave (v := some (.int 1)) (fun h => by rw [Bd.returns] at h; cases h)
  refine own_end (retN X226 hx (t := .boolean) Bd.returns (by simp) (hb hby d21_24) hr) ⟨_, hrun, hended, _, _, rfl, ?_, ⟨_, rfl⟩, hW, hsame.mono (by decide) (by decide)⟩
  show own_a1_1Q Z _ _ _ _ _ _ h0 n0 _ T226.heap _
  show own_a1_1Q Z _ _ _ _ _ _ h0 n0 _ T226.heap _
  exact ⟨rfl, N233, K234, P228, P229, P230, P231, P232⟩
def own_a3_2Q (Z : State) (a : Addr) (mc : Int32) (oo0 : Addr) (oo1 : Addr) (oo2 : Addr) (b0 : Addr) (k0 : ClassId) (h0 : Heap) (n0 : Nat) (v : Option Value) (h : Heap) (L : List Loc) : Prop := v = none ∧ Fr n0 L ∧ Keep h0 h [a, b0] ∧ (Exa Z h a "java/util/ArrayList") ∧ (Fld Z h a "java/util/AbstractList" "modCount" "I" (.int mc)) ∧ (Fld Z h a "java/util/ArrayList" "elementData" "[Ljava/lang/Object;" (.ref b0)) ∧ (Fld Z h a "java/util/ArrayList" "size" "I" (.int 3)) ∧ (Arv Z h b0 k0 (.object "java/lang/Object") (10 : Int32) [(.ref oo0), (.ref oo1), (.ref oo2), .null, .null, .null, .null, .null, .null, .null] .null)
abbrev own_a3_2R : Room := { frames := 0, cells := 0, slots := 0, locals := 0 }
theorem own_a3_2 (l : Launch) (Z : State) (a0 : Array Value) (hw : ∀ d ∈ tables_1, d.before a0 Z = true) (ws : List Jvm.Cond) (a : Addr) (mc : Int32) (oo0 : Addr) (oo1 : Addr) (oo2 : Addr) (b0 : Addr) (k0 : ClassId) (h0 : Heap) (n0 : Nat) (Z0 : n0 ≤ h0.size) (pr1 : n0 ≤ b0) (pr2 : Arv Z h0 b0 k0 (.object "java/lang/Object") (10 : Int32) [(.ref oo0), (.ref oo1), .null, .null, .null, .null, .null, .null, .null, .null] .null) (pr3 : Ovr Z k0 "java/lang/Object") (pr4 : n0 ≤ a) (pr5 : Exa Z h0 oo2 "java/lang/String") (pr6 : Exa Z h0 a "java/util/ArrayList") (pr7 : Fld Z h0 a "java/util/AbstractList" "modCount" "I" (.int mc)) (pr8 : Fld Z h0 a "java/util/ArrayList" "elementData" "[Ljava/lang/Object;" (.ref b0)) (pr9 : Fld Z h0 a "java/util/ArrayList" "size" "I" (.int 2)) :
    own_M l yN5 jdk_38_method_24_code 4 none ws own_a3_2R #[(.ref a), (.ref oo2), (.ref b0), (.int 2)] Z h0 (own_a3_2Q Z a mc oo0 oo1 oo2 b0 k0 h0 n0) := by
  refine own_go (plainFor_of_name own_pn6) (fun m => own_ef9 m a oo2 b0 (2 : Int32) ) ?_
  intro p e s m below meth c s₁ Bd hx hby hml hZ hh hown hnm X0 e0
  have N0 := Fr.nil n0
  have K0 : Keep h0 h0 [a, b0] := Keep.refl h0 _
  refine own_st (T' := s₁) (g' := (mkF m 2 #[.val (.ref a), .val (.ref oo2), .val (.ref b0), .val (.int 2)] [(.ref b0), (.int 2)])) (fun _ kt => XS.iloadN X0.here hx rfl (hb hby d22_0) rfl (XS.aloadN X0.here hx rfl (hb hby d22_1) rfl rfl kt)) ?_
  refine own_st (T' := s₁) (g' := (mkF m 3 #[.val (.ref a), .val (.ref oo2), .val (.ref b0), .val (.int 2)] [(.int 10), (.int 2)])) (own_alen X0 hx hZ e0 pr2 (g := (mkF m 2 #[.val (.ref a), .val (.ref oo2), .val (.ref b0), .val (.int 2)] [(.ref b0), (.int 2)])) rfl rfl (hb hby d22_2)) ?_
  refine own_st (T' := s₁) (g' := (mkF m 14 #[.val (.ref a), .val (.ref oo2), .val (.ref b0), .val (.int 2)] [(.ref oo2), (.int 2), (.ref b0)])) (fun _ kt => XS.icmpYes X0.here hx rfl (pc0 := 3) (pc' := 11) rfl (hb hby d22_3) rfl (XT.ii_ne_t (by decide)) (by decide) (by decide) (XS.aloadN X0.here hx rfl (hb hby d22_11) rfl rfl (XS.iloadN X0.here hx rfl (hb hby d22_12) rfl (XS.aloadN X0.here hx rfl (hb hby d22_13) rfl rfl kt)))) ?_
  obtain ⟨cs236, As236, qs236, -⟩ := id pr2
  obtain ⟨T235, h235, X235, e235, W235, V235, st235⟩ := own_ast X0 hx hZ e0 pr2 rfl ⟨by decide, by decide⟩ (i := 2) rfl (by simp) rfl (Sto.ofV As236 qs236 pr3 (Ins.of_exa pr5 (own_k hw 136 rfl))) (g := (mkF m 14 #[.val (.ref a), .val (.ref oo2), .val (.ref b0), .val (.int 2)] [(.ref oo2), (.int 2), (.ref b0)])) rfl rfl (hb hby d22_14)
  have N235 := Fr.snoc X235 N0 pr1
  have Z237 : n0 ≤ h235.size := Nat.le_trans Z0 (Nat.le_of_eq (Wr.size W235).symm)
  have K237 : Keep h0 h235 [a, b0] := (Keep.wr K0 W235 (Or.inl (List.mem_of_getElem? (i := 1) rfl)))
  have F238 : Arv Z h235 b0 k0 (.object "java/lang/Object") (10 : Int32) [(.ref oo0), (.ref oo1), (.ref oo2), .null, .null, .null, .null, .null, .null, .null] .null := V235
  refine own_st (T' := T235) (g' := (mkF m 15 #[.val (.ref a), .val (.ref oo2), .val (.ref b0), .val (.int 2)] [])) st235 ?_
  refine own_st (T' := T235) (g' := (mkF m 19 #[.val (.ref a), .val (.ref oo2), .val (.ref b0), .val (.int 2)] [(.int 3), (.ref a)])) (fun _ kt => XS.aloadN X235.here hx rfl (hb hby d22_15) rfl rfl (XS.iloadN X235.here hx rfl (hb hby d22_16) rfl (XS.iconst X235.here hx rfl (hb hby d22_17) (XS.iadd X235.here hx rfl (hb hby d22_18) rfl kt)))) ?_
  have F239 : Exa Z h235 a "java/util/ArrayList" := (Exa.wr W235 pr6)
  have F240 : Fld Z h235 a "java/util/ArrayList" "size" "I" (.int 2) := (Fld.other W235 pr9 (Or.inl (Exa.neArv F239 F238 (own_k hw 46 rfl))))
  have F241 : Exa Z h235 a "java/util/ArrayList" := (Exa.wr W235 pr6)
  obtain ⟨T242, h242, X242, e242, W242, st242⟩ := putF X235 hx hZ hown (host := "") (Or.inl (own_k hw 106 rfl)) Via.refl e235 F240 F241 (Or.inl (own_k hw 107 rfl)) (own_k hw 46 rfl) (ty := .int) (by decide) rfl rfl (g := (mkF m 19 #[.val (.ref a), .val (.ref oo2), .val (.ref b0), .val (.int 2)] [(.int 3), (.ref a)])) rfl rfl (hb hby d22_19)
  have N242 := Fr.snoc X242 N235 pr4
  have Z243 : n0 ≤ h242.size := Nat.le_trans Z237 (Nat.le_of_eq (Wr.size W242).symm)
  have K243 : Keep h0 h242 [a, b0] := (Keep.wr K237 W242 (Or.inl (List.mem_of_getElem? (i := 0) rfl)))
  have F244 : Fld Z h242 a "java/util/ArrayList" "size" "I" (.int 3) := Fld.same W242 F240
  refine own_st (T' := T242) (g' := (mkF m 22 #[.val (.ref a), .val (.ref oo2), .val (.ref b0), .val (.int 2)] [])) st242 ?_
  obtain ⟨fs, hr, hrun, hended, hW, hsame⟩ := X242.leave (v := none) (fun _ => rfl)
  refine own_end (X242.returnOut hx Bd.returns (hb hby d22_22) hr) ⟨_, hrun, hended, _, _, rfl, ?_, ⟨_, rfl⟩, hW, hsame.mono (by decide) (by decide)⟩
  have F245 : Exa Z h242 a "java/util/ArrayList" := (Exa.wr W242 F241)
  have F246 : Exa Z h235 a "java/util/ArrayList" := (Exa.wr W235 pr6)
  have F247 : Fld Z h242 a "java/util/AbstractList" "modCount" "I" (.int mc) := (Fld.other W242 (Fld.other W235 pr7 (Or.inl (Exa.neArv F246 F238 (own_k hw 46 rfl)))) (Or.inr (slot_ne (Or.inl (own_k hw 65 rfl)) (Or.inl (own_k hw 107 rfl)) (by decide) (t := .int) (t' := .int) (by decide) (by decide))))
  have F248 : Exa Z h235 a "java/util/ArrayList" := (Exa.wr W235 pr6)
  have F249 : Fld Z h242 a "java/util/ArrayList" "elementData" "[Ljava/lang/Object;" (.ref b0) := (Fld.other W242 (Fld.other W235 pr8 (Or.inl (Exa.neArv F248 F238 (own_k hw 46 rfl)))) (Or.inr (slot_ne (Or.inl (own_k hw 68 rfl)) (Or.inl (own_k hw 107 rfl)) (by decide) (t := (.array (.object "java/lang/Object"))) (t' := .int) (by decide) (by decide))))
  have F250 : Exa Z h235 a "java/util/ArrayList" := (Exa.wr W235 pr6)
  have F251 : Arv Z h242 b0 k0 (.object "java/lang/Object") (10 : Int32) [(.ref oo0), (.ref oo1), (.ref oo2), .null, .null, .null, .null, .null, .null, .null] .null := (Arv.other F238 W242 (Ne.symm (Exa.neArv F250 F238 (own_k hw 46 rfl))))
  show own_a3_2Q Z _ _ _ _ _ _ _ h0 n0 _ T242.heap _
  rw [e242]
  exact ⟨rfl, N242, K243, F245, F247, F249, F244, F251⟩
def own_a1_2Q (Z : State) (a : Addr) (mc : Int32) (oo0 : Addr) (oo1 : Addr) (oo2 : Addr) (b0 : Addr) (k0 : ClassId) (h0 : Heap) (n0 : Nat) (v : Option Value) (h : Heap) (L : List Loc) : Prop := v = some (.int 1) ∧ Fr n0 L ∧ Keep h0 h [a, b0] ∧ (Exa Z h a "java/util/ArrayList") ∧ (Fld Z h a "java/util/AbstractList" "modCount" "I" (.int (mc + (1 : Int32)))) ∧ (Fld Z h a "java/util/ArrayList" "elementData" "[Ljava/lang/Object;" (.ref b0)) ∧ (Fld Z h a "java/util/ArrayList" "size" "I" (.int 3)) ∧ (Arv Z h b0 k0 (.object "java/lang/Object") (10 : Int32) [(.ref oo0), (.ref oo1), (.ref oo2), .null, .null, .null, .null, .null, .null, .null] .null)
abbrev own_a1_2R : Room := { frames := 1, cells := 0, slots := 0, locals := 15 }
theorem own_a1_2 (l : Launch) (Z : State) (a0 : Array Value) (hw : ∀ d ∈ tables_1, d.before a0 Z = true) (ws : List Jvm.Cond) (a : Addr) (mc : Int32) (oo0 : Addr) (oo1 : Addr) (oo2 : Addr) (b0 : Addr) (k0 : ClassId) (h0 : Heap) (n0 : Nat) (Z0 : n0 ≤ h0.size) (pr1 : n0 ≤ b0) (pr2 : Arv Z h0 b0 k0 (.object "java/lang/Object") (10 : Int32) [(.ref oo0), (.ref oo1), .null, .null, .null, .null, .null, .null, .null, .null] .null) (pr3 : Ovr Z k0 "java/lang/Object") (pr4 : n0 ≤ a) (pr5 : Exa Z h0 oo2 "java/lang/String") (pr6 : Exa Z h0 a "java/util/ArrayList") (pr7 : Fld Z h0 a "java/util/AbstractList" "modCount" "I" (.int mc)) (pr8 : Fld Z h0 a "java/util/ArrayList" "elementData" "[Ljava/lang/Object;" (.ref b0)) (pr9 : Fld Z h0 a "java/util/ArrayList" "size" "I" (.int 2)) :
    own_M l yN1 jdk_38_method_25_code 2 (some .boolean) ws own_a1_2R #[(.ref a), (.ref oo2)] Z h0 (own_a1_2Q Z a mc oo0 oo1 oo2 b0 k0 h0 n0) := by
  refine own_go (plainFor_of_name own_pn6) (fun m => own_ef10 m a oo2 ) ?_
  intro p e s m below meth c s₁ Bd hx hby hml hZ hh hown hnm X0 e0
  have N0 := Fr.nil n0
  have K0 : Keep h0 h0 [a, b0] := Keep.refl h0 _
  refine own_st (T' := s₁) (g' := (mkF m 2 #[.val (.ref a), .val (.ref oo2)] [(.ref a), (.ref a)])) (fun _ kt => XS.aloadN X0.here hx rfl (hb hby d21_0) rfl rfl (XS.dup X0.here hx rfl (hb hby d21_1) rfl rfl kt)) ?_
  obtain ⟨T252, X252, e252, st252⟩ := getF X0 hx hZ hown (host := "") (Or.inl (own_k hw 113 rfl)) (Via.of (own_k hw 114 rfl)) e0 pr7 (g := (mkF m 2 #[.val (.ref a), .val (.ref oo2)] [(.ref a), (.ref a)])) rfl rfl (hb hby d21_2)
  refine own_st (T' := T252) (g' := (mkF m 5 #[.val (.ref a), .val (.ref oo2)] [(.int mc), (.ref a)])) st252 ?_
  refine own_st (T' := T252) (g' := (mkF m 7 #[.val (.ref a), .val (.ref oo2)] [(.int (mc + (1 : Int32))), (.ref a)])) (fun _ kt => XS.iconst X252.here hx rfl (hb hby d21_5) (XS.iadd X252.here hx rfl (hb hby d21_6) rfl kt)) ?_
  obtain ⟨T253, h253, X253, e253, W253, st253⟩ := putF X252 hx hZ hown (host := "") (Or.inl (own_k hw 113 rfl)) (Via.of (own_k hw 114 rfl)) e252 pr7 pr6 (Or.inl (own_k hw 65 rfl)) (own_k hw 46 rfl) (ty := .int) (by decide) rfl rfl (g := (mkF m 7 #[.val (.ref a), .val (.ref oo2)] [(.int (mc + (1 : Int32))), (.ref a)])) rfl rfl (hb hby d21_7)
  have N253 := Fr.snoc X253 N0 pr4
  have Z254 : n0 ≤ h253.size := Nat.le_trans Z0 (Nat.le_of_eq (Wr.size W253).symm)
  have K254 : Keep h0 h253 [a, b0] := (Keep.wr K0 W253 (Or.inl (List.mem_of_getElem? (i := 0) rfl)))
  have F255 : Fld Z h253 a "java/util/AbstractList" "modCount" "I" (.int (mc + (1 : Int32))) := Fld.same W253 pr7
  refine own_st (T' := T253) (g' := (mkF m 10 #[.val (.ref a), .val (.ref oo2)] [])) st253 ?_
  refine own_st (T' := T253) (g' := (mkF m 13 #[.val (.ref a), .val (.ref oo2)] [(.ref a), (.ref oo2), (.ref a)])) (fun _ kt => XS.aloadN X253.here hx rfl (hb hby d21_10) rfl rfl (XS.aloadN X253.here hx rfl (hb hby d21_11) rfl rfl (XS.aloadN X253.here hx rfl (hb hby d21_12) rfl rfl kt))) ?_
  have F256 : Fld Z h253 a "java/util/ArrayList" "elementData" "[Ljava/lang/Object;" (.ref b0) := (Fld.other W253 pr8 (Or.inr (slot_ne (Or.inl (own_k hw 68 rfl)) (Or.inl (own_k hw 65 rfl)) (by decide) (t := (.array (.object "java/lang/Object"))) (t' := .int) (by decide) (by decide))))
  obtain ⟨T257, X257, e257, st257⟩ := getF X253 hx hZ hown (host := "") (Or.inl (own_k hw 67 rfl)) Via.refl e253 F256 (g := (mkF m 13 #[.val (.ref a), .val (.ref oo2)] [(.ref a), (.ref oo2), (.ref a)])) rfl rfl (hb hby d21_13)
  refine own_st (T' := T257) (g' := (mkF m 16 #[.val (.ref a), .val (.ref oo2)] [(.ref b0), (.ref oo2), (.ref a)])) st257 ?_
  refine own_st (T' := T257) (g' := (mkF m 17 #[.val (.ref a), .val (.ref oo2)] [(.ref a), (.ref b0), (.ref oo2), (.ref a)])) (fun _ kt => XS.aloadN X257.here hx rfl (hb hby d21_16) rfl rfl kt) ?_
  have F258 : Fld Z h253 a "java/util/ArrayList" "size" "I" (.int 2) := (Fld.other W253 pr9 (Or.inr (slot_ne (Or.inl (own_k hw 107 rfl)) (Or.inl (own_k hw 65 rfl)) (by decide) (t := .int) (t' := .int) (by decide) (by decide))))
  obtain ⟨T259, X259, e259, st259⟩ := getF X257 hx hZ hown (host := "") (Or.inl (own_k hw 106 rfl)) Via.refl e257 F258 (g := (mkF m 17 #[.val (.ref a), .val (.ref oo2)] [(.ref a), (.ref b0), (.ref oo2), (.ref a)])) rfl rfl (hb hby d21_17)
  refine own_st (T' := T259) (g' := (mkF m 20 #[.val (.ref a), .val (.ref oo2)] [(.int 2), (.ref b0), (.ref oo2), (.ref a)])) st259 ?_
  have F260 : Exa Z h253 a "java/util/ArrayList" := (Exa.wr W253 pr6)
  have F261 : Arv Z h253 b0 k0 (.object "java/lang/Object") (10 : Int32) [(.ref oo0), (.ref oo1), .null, .null, .null, .null, .null, .null, .null, .null] .null := (Arv.other pr2 W253 (Ne.symm (Exa.neArv pr6 pr2 (own_k hw 46 rfl))))
  have F262 : Exa Z h253 oo2 "java/lang/String" := (Exa.wr W253 pr5)
  obtain ⟨cl264, hcl264, hob264⟩ := Exa.cell F260
  obtain ⟨_, _, ⟨T263, L263, k263, n263⟩, -, X263, ⟨Lc263, hQ263, l263, y263, z263⟩, st263⟩ := X259.privateBack hx (y := yN5) hown (mvT hZ (own_k hw 115 rfl)) (mvT hZ (own_k hw 116 rfl)) (mvT hZ (own_k hw 118 rfl)) (Cond.privateMethod_at (mvP hZ (own_k hw 117 rfl) (args := #[]))) (mvT hZ (own_k hw 119 rfl)) (by decide) (backOf (W := 0) (own_a3_2 l Z a0 hw [] a (mc + (1 : Int32)) oo0 oo1 oo2 b0 k0 h253 n0 Z254 pr1 F261 pr3 pr4 F262 F260 F255 F256 F258) hZ (own_k hw 119 rfl) (own_k hw 47 rfl) (by decide) (by decide)) (g := (mkF m 20 #[.val (.ref a), .val (.ref oo2)] [(.int 2), (.ref b0), (.ref oo2), (.ref a)])) rfl hml.symm (Steps.refl _) (a := a) (by rw [e259]; exact hcl264) hob264 (argsL := [(.ref oo2), (.ref b0), (.int 2)]) (rest := []) (lenOf own_pd13 rfl) rfl (own_w0 rfl rfl) (hb hby d21_20) (fun _ _ => ⟨rfl, e259, (by decide : 0 + 0 ≤ 0), (by decide : 0 + 0 ≤ 0)⟩)
  dsimp only [Pt.U, Pt.locs, Pt.cells, Pt.slots] at X263 l263 y263 z263 st263 hQ263
  subst l263 y263 z263
  obtain ⟨rfl, N263, K263_, P265, P266, P267, P268, P269⟩ := hQ263
  have N270 := Fr.app N253 N263
  have Z271 : n0 ≤ T263.heap.size := Nat.le_trans Z254 K263_.1
  have K271 : Keep h0 T263.heap [a, b0] := (Keep.trans K254 K263_ (allS (Or.inl (List.mem_of_getElem? (i := 0) rfl)) (allS (Or.inl (List.mem_of_getElem? (i := 1) rfl)) all0)))
  refine own_tr (T' := T263) (g' := (mkF m 23 #[.val (.ref a), .val (.ref oo2)] [])) st263 ?_
  refine own_st (T' := T263) (g' := (mkF m 24 #[.val (.ref a), .val (.ref oo2)] [(.int 1)])) (fun _ kt => XS.iconst X263.here hx rfl (hb hby d21_23) kt) ?_
  obtain ⟨fs, hr, hrun, hended, hW, hsame⟩ := X263.leave (v := some (.int 1)) (fun h => by rw [Bd.returns] at h; cases h)
  refine own_end (retN X263 hx (t := .boolean) Bd.returns (by simp) (hb hby d21_24) hr) ⟨_, hrun, hended, _, _, rfl, ?_, ⟨_, rfl⟩, hW, hsame.mono (by decide) (by decide)⟩
  show own_a1_2Q Z _ _ _ _ _ _ _ h0 n0 _ T263.heap _
  show own_a1_2Q Z _ _ _ _ _ _ _ h0 n0 _ T263.heap _
  exact ⟨rfl, N270, K271, P265, P266, P267, P268, P269⟩
theorem own_ef11 (m : MethodId) (x0 : Int32) (x1 : Int32) : entryFrame m #[(.int x0), (.int x1), .null] 3 = mkF m 0 #[.val (.int x0), .val (.int x1), .val .null] [] := by first | (simp [entryFrame, mkF, argsToLocals, Value.category]; done) | rfl
def own_pcnQ (Z : State) (u1 : Int32) (u2 : Int32) (h0 : Heap) (n0 : Nat) (v : Option Value) (h : Heap) (L : List Loc) : Prop := v = some (.int u1) ∧ Fr n0 L ∧ h = h0
abbrev own_pcnR : Room := { frames := 0, cells := 0, slots := 0, locals := 0 }
theorem own_pcn (l : Launch) (Z : State) (a0 : Array Value) (hw : ∀ d ∈ tables_1, d.before a0 Z = true) (ws : List Jvm.Cond) (u1 : Int32) (u2 : Int32) (h0 : Heap) (n0 : Nat) (Z0 : n0 ≤ h0.size) (pr1 : ¬ u1 < 0) (pr2 : u1 < u2) :
    own_M l yN7 jdk_41_method_11_code 3 (some .int) ws own_pcnR #[(.int u1), (.int u2), .null] Z h0 (own_pcnQ Z u1 u2 h0 n0) := by
  refine own_go (plainFor_of_name own_pn1) (fun m => own_ef11 m u1 u2 ) ?_
  intro p e s m below meth c s₁ Bd hx hby hml hZ hh hown hnm X0 e0
  have N0 := Fr.nil n0
  refine own_st (T' := s₁) (g' := (mkF m 17 #[.val (.int u1), .val (.int u2), .val .null] [(.int u1)])) (fun _ kt => XS.iloadN X0.here hx rfl (hb hby d18_0) rfl (XS.ifNo X0.here hx rfl (hb hby d18_1) rfl (XT.i0_lt_f pr1) (XS.iloadN X0.here hx rfl (hb hby d18_4) rfl (XS.iloadN X0.here hx rfl (hb hby d18_5) rfl (XS.icmpYes X0.here hx rfl (pc0 := 6) (pc' := 16) rfl (hb hby d18_6) rfl (XT.ii_lt_t pr2) (by decide) (by decide) (XS.iloadN X0.here hx rfl (hb hby d18_16) rfl kt)))))) ?_
  obtain ⟨fs, hr, hrun, hended, hW, hsame⟩ := X0.leave (v := some (.int u1)) (fun h => by rw [Bd.returns] at h; cases h)
  refine own_end (own_retI X0 hx Bd.returns (hb hby d18_17) hr) ⟨_, hrun, hended, _, _, rfl, ?_, ⟨_, rfl⟩, hW, hsame.mono (by decide) (by decide)⟩
  show own_pcnQ Z _ _ h0 n0 _ s₁.heap _
  rw [e0]
  exact ⟨rfl, N0, rfl⟩
theorem d27_0 : decode jdk_31_method_17_code 0 = .ok (.iload_n 0, 1) := by decide +kernel
theorem d27_1 : decode jdk_31_method_17_code 1 = .ok (.iload_n 1, 1) := by decide +kernel
theorem d27_2 : decode jdk_31_method_17_code 2 = .ok (.aconst_null, 1) := by decide +kernel
theorem d27_3 : decode jdk_31_method_17_code 3 = .ok (.invokestatic 105, 3) := by decide +kernel
theorem d27_6 : decode jdk_31_method_17_code 6 = .ok (.ireturn, 1) := by decide +kernel
def own_ochQ (Z : State) (u1 : Int32) (u2 : Int32) (h0 : Heap) (n0 : Nat) (v : Option Value) (h : Heap) (L : List Loc) : Prop := v = some (.int u1) ∧ Fr n0 L ∧ h = h0
theorem own_pn7 : plainName "java/util/Objects" = true := by first | (simp [plainName, overriddenIn]; done) | decide +kernel
abbrev own_ochR : Room := { frames := 1, cells := 0, slots := 0, locals := 14 }
theorem own_och (l : Launch) (Z : State) (a0 : Array Value) (hw : ∀ d ∈ tables_1, d.before a0 Z = true) (ws : List Jvm.Cond) (u1 : Int32) (u2 : Int32) (h0 : Heap) (n0 : Nat) (Z0 : n0 ≤ h0.size) (pr1 : ¬ u1 < 0) (pr2 : u1 < u2) :
    own_M l (⟨"java/util/Objects", "checkIndex", "(II)I"⟩ : MethodName) jdk_31_method_17_code 2 (some .int) ws own_ochR #[(.int u1), (.int u2)] Z h0 (own_ochQ Z u1 u2 h0 n0) := by
  refine own_go (plainFor_of_name own_pn7) (fun m => own_ef2 m u1 u2 ) ?_
  intro p e s m below meth c s₁ Bd hx hby hml hZ hh hown hnm X0 e0
  have N0 := Fr.nil n0
  refine own_st (T' := s₁) (g' := (mkF m 3 #[.val (.int u1), .val (.int u2)] [.null, (.int u2), (.int u1)])) (fun _ kt => XS.iloadN X0.here hx rfl (hb hby d27_0) rfl (XS.iloadN X0.here hx rfl (hb hby d27_1) rfl (XS.aconstNull X0.here hx rfl (hb hby d27_2) kt))) ?_
  obtain ⟨_, _, ⟨T272, L272, k272, n272⟩, -, X272, ⟨Lc272, hQ272, l272, y272, z272⟩, st272⟩ := Jvm.LawKit.callS X0 hx (y := yN7) hown (mvT hZ (own_k hw 149 rfl)) (mvT hZ (own_k hw 91 rfl)) (mvT hZ (own_k hw 89 rfl)) (mvT hZ (own_k hw 92 rfl)) (by decide) (backOf (W := 0) (own_pcn l Z a0 hw [] u1 u2 h0 n0 Z0 pr1 pr2) hZ (own_k hw 92 rfl) (own_k hw 89 rfl) (by decide) (by decide)) (g := (mkF m 3 #[.val (.int u1), .val (.int u2)] [.null, (.int u2), (.int u1)])) rfl hml.symm  (argsL := [(.int u1), (.int u2), .null]) (rest := []) (lenOf own_pd1 rfl) rfl (own_w0 rfl rfl) (hb hby d27_3) (fun _ _ => ⟨rfl, e0, (by decide : 0 + 0 ≤ 0), (by decide : 0 + 0 ≤ 0)⟩)
  dsimp only [Pt.U, Pt.locs, Pt.cells, Pt.slots] at X272 l272 y272 z272 st272 hQ272
  subst l272 y272 z272
  obtain ⟨rfl, N272, e272⟩ := hQ272
  have N273 := Fr.app N0 N272
  refine own_st (T' := T272) (g' := (mkF m 6 #[.val (.int u1), .val (.int u2)] [(.int u1)])) st272 ?_
  obtain ⟨fs, hr, hrun, hended, hW, hsame⟩ := X272.leave (v := some (.int u1)) (fun h => by rw [Bd.returns] at h; cases h)
  refine own_end (own_retI X272 hx Bd.returns (hb hby d27_6) hr) ⟨_, hrun, hended, _, _, rfl, ?_, ⟨_, rfl⟩, hW, hsame.mono (by decide) (by decide)⟩
  show own_ochQ Z _ _ h0 n0 _ T272.heap _
  rw [e272]
  exact ⟨rfl, N273, rfl⟩
theorem d28_0 : decode jdk_38_method_18_code 0 = .ok (.aload_n 0, 1) := by decide +kernel
theorem d28_1 : decode jdk_38_method_18_code 1 = .ok (.getfield 9, 3) := by decide +kernel
theorem d28_4 : decode jdk_38_method_18_code 4 = .ok (.iload_n 1, 1) := by decide +kernel
theorem d28_5 : decode jdk_38_method_18_code 5 = .ok (.aaload, 1) := by decide +kernel
theorem d28_6 : decode jdk_38_method_18_code 6 = .ok (.areturn, 1) := by decide +kernel
def own_eldQ (Z : State) (a : Addr) (b0 : Addr) (k0 : ClassId) (lst : List Value) (oo1 : Addr) (h0 : Heap) (n0 : Nat) (v : Option Value) (h : Heap) (L : List Loc) : Prop := v = some (.ref oo1) ∧ Fr n0 L ∧ h = h0
abbrev own_eldR : Room := { frames := 0, cells := 0, slots := 0, locals := 0 }
theorem own_eld (l : Launch) (Z : State) (a0 : Array Value) (hw : ∀ d ∈ tables_1, d.before a0 Z = true) (ws : List Jvm.Cond) (a : Addr) (b0 : Addr) (k0 : ClassId) (lst : List Value) (oo1 : Addr) (h0 : Heap) (n0 : Nat) (Z0 : n0 ≤ h0.size) (pr1 : Exa Z h0 a "java/util/ArrayList") (pr2 : Fld Z h0 a "java/util/ArrayList" "elementData" "[Ljava/lang/Object;" (.ref b0)) (pr3 : Arv Z h0 b0 k0 (.object "java/lang/Object") (10 : Int32) lst .null) (pr4 : lst.getD (1 : Int32).toNatClampNeg .null = .ref oo1) :
    own_M l (⟨"java/util/ArrayList", "elementData", "(I)Ljava/lang/Object;"⟩ : MethodName) jdk_38_method_18_code 2 (some (.object "java/lang/Object")) ws own_eldR #[(.ref a), (.int 1)] Z h0 (own_eldQ Z a b0 k0 lst oo1 h0 n0) := by
  refine own_go (plainFor_of_name own_pn6) (fun m => own_ef4 m a (1 : Int32) ) ?_
  intro p e s m below meth c s₁ Bd hx hby hml hZ hh hown hnm X0 e0
  have N0 := Fr.nil n0
  refine own_st (T' := s₁) (g' := (mkF m 1 #[.val (.ref a), .val (.int 1)] [(.ref a)])) (fun _ kt => XS.aloadN X0.here hx rfl (hb hby d28_0) rfl rfl kt) ?_
  obtain ⟨T274, X274, e274, st274⟩ := getF X0 hx hZ hown (host := "") (Or.inl (own_k hw 67 rfl)) Via.refl e0 pr2 (g := (mkF m 1 #[.val (.ref a), .val (.int 1)] [(.ref a)])) rfl rfl (hb hby d28_1)
  refine own_st (T' := T274) (g' := (mkF m 4 #[.val (.ref a), .val (.int 1)] [(.ref b0)])) st274 ?_
  refine own_st (T' := T274) (g' := (mkF m 5 #[.val (.ref a), .val (.int 1)] [(.int 1), (.ref b0)])) (fun _ kt => XS.iloadN X274.here hx rfl (hb hby d28_4) rfl kt) ?_
  refine own_st (T' := T274) (g' := (mkF m 6 #[.val (.ref a), .val (.int 1)] [(.ref oo1)])) (own_aal X274 hx hZ e274 pr3 rfl ⟨by decide, by decide⟩ pr4 (g := (mkF m 5 #[.val (.ref a), .val (.int 1)] [(.int 1), (.ref b0)])) rfl rfl (hb hby d28_5)) ?_
  obtain ⟨fs, hr, hrun, hended, hW, hsame⟩ := X274.leave (v := some (.ref oo1)) (fun h => by rw [Bd.returns] at h; cases h)
  refine own_end (own_retA X274 hx Bd.returns rfl rfl rfl (hb hby d28_6) hr) ⟨_, hrun, hended, _, _, rfl, ?_, ⟨_, rfl⟩, hW, hsame.mono (by decide) (by decide)⟩
  show own_eldQ Z _ _ _ _ _ h0 n0 _ T274.heap _
  rw [e274]
  exact ⟨rfl, N0, rfl⟩
theorem d26_0 : decode jdk_38_method_20_code 0 = .ok (.iload_n 1, 1) := by decide +kernel
theorem d26_1 : decode jdk_38_method_20_code 1 = .ok (.aload_n 0, 1) := by decide +kernel
theorem d26_2 : decode jdk_38_method_20_code 2 = .ok (.getfield 48, 3) := by decide +kernel
theorem d26_5 : decode jdk_38_method_20_code 5 = .ok (.invokestatic 118, 3) := by decide +kernel
theorem d26_8 : decode jdk_38_method_20_code 8 = .ok (.pop, 1) := by decide +kernel
theorem d26_9 : decode jdk_38_method_20_code 9 = .ok (.aload_n 0, 1) := by decide +kernel
theorem d26_10 : decode jdk_38_method_20_code 10 = .ok (.iload_n 1, 1) := by decide +kernel
theorem d26_11 : decode jdk_38_method_20_code 11 = .ok (.invokevirtual 123, 3) := by decide +kernel
theorem own_pd14 : parseMethodDescriptor "(I)Ljava/lang/Object;" = some ⟨[.int], some (.object "java/lang/Object")⟩ := by decide +kernel
theorem d26_14 : decode jdk_38_method_20_code 14 = .ok (.areturn, 1) := by decide +kernel
def own_getQ (Z : State) (a : Addr) (b0 : Addr) (k0 : ClassId) (lst : List Value) (oo1 : Addr) (sz : Int32) (h0 : Heap) (n0 : Nat) (v : Option Value) (h : Heap) (L : List Loc) : Prop := v = some (.ref oo1) ∧ Fr n0 L ∧ h = h0
abbrev own_getR : Room := { frames := 2, cells := 0, slots := 0, locals := 27 }
theorem own_get (l : Launch) (Z : State) (a0 : Array Value) (hw : ∀ d ∈ tables_1, d.before a0 Z = true) (ws : List Jvm.Cond) (a : Addr) (b0 : Addr) (k0 : ClassId) (lst : List Value) (oo1 : Addr) (sz : Int32) (h0 : Heap) (n0 : Nat) (Z0 : n0 ≤ h0.size) (pr1 : Exa Z h0 a "java/util/ArrayList") (pr2 : Fld Z h0 a "java/util/ArrayList" "elementData" "[Ljava/lang/Object;" (.ref b0)) (pr3 : Arv Z h0 b0 k0 (.object "java/lang/Object") (10 : Int32) lst .null) (pr4 : Fld Z h0 a "java/util/ArrayList" "size" "I" (.int sz)) (pr5 : lst.getD (1 : Int32).toNatClampNeg .null = .ref oo1) (pr6 : (1 : Int32) < sz) :
    own_M l yN8 jdk_38_method_20_code 2 (some (.object "java/lang/Object")) ws own_getR #[(.ref a), (.int 1)] Z h0 (own_getQ Z a b0 k0 lst oo1 sz h0 n0) := by
  refine own_go (plainFor_of_name own_pn6) (fun m => own_ef4 m a (1 : Int32) ) ?_
  intro p e s m below meth c s₁ Bd hx hby hml hZ hh hown hnm X0 e0
  have N0 := Fr.nil n0
  refine own_st (T' := s₁) (g' := (mkF m 2 #[.val (.ref a), .val (.int 1)] [(.ref a), (.int 1)])) (fun _ kt => XS.iloadN X0.here hx rfl (hb hby d26_0) rfl (XS.aloadN X0.here hx rfl (hb hby d26_1) rfl rfl kt)) ?_
  obtain ⟨T275, X275, e275, st275⟩ := getF X0 hx hZ hown (host := "") (Or.inl (own_k hw 106 rfl)) Via.refl e0 pr4 (g := (mkF m 2 #[.val (.ref a), .val (.int 1)] [(.ref a), (.int 1)])) rfl rfl (hb hby d26_2)
  refine own_st (T' := T275) (g' := (mkF m 5 #[.val (.ref a), .val (.int 1)] [(.int sz), (.int 1)])) st275 ?_
  obtain ⟨_, _, ⟨T276, L276, k276, n276⟩, -, X276, ⟨Lc276, hQ276, l276, y276, z276⟩, st276⟩ := Jvm.LawKit.callS X275 hx (y := (⟨"java/util/Objects", "checkIndex", "(II)I"⟩ : MethodName)) hown (mvT hZ (own_k hw 145 rfl)) (mvT hZ (own_k hw 146 rfl)) (mvT hZ (own_k hw 147 rfl)) (mvT hZ (own_k hw 148 rfl)) (by decide) (backOf (W := 0) (own_och l Z a0 hw [] (1 : Int32) sz h0 n0 Z0 (show ¬ (1 : Int32) < 0 from (by decide)) pr6) hZ (own_k hw 148 rfl) (own_k hw 147 rfl) (by decide) (by decide)) (g := (mkF m 5 #[.val (.ref a), .val (.int 1)] [(.int sz), (.int 1)])) rfl hml.symm  (argsL := [(.int 1), (.int sz)]) (rest := []) (lenOf own_pd10 rfl) rfl (own_w0 rfl rfl) (hb hby d26_5) (fun _ _ => ⟨rfl, e275, (by decide : 0 + 0 ≤ 0), (by decide : 0 + 0 ≤ 0)⟩)
  dsimp only [Pt.U, Pt.locs, Pt.cells, Pt.slots] at X276 l276 y276 z276 st276 hQ276
  subst l276 y276 z276
  obtain ⟨rfl, N276, e276⟩ := hQ276
  have N277 := Fr.app N0 N276
  refine own_st (T' := T276) (g' := (mkF m 8 #[.val (.ref a), .val (.int 1)] [(.int 1)])) st276 ?_
  refine own_st (T' := T276) (g' := (mkF m 11 #[.val (.ref a), .val (.int 1)] [(.int 1), (.ref a)])) (fun _ kt => XT.pop X276.here hx rfl (hb hby d26_8) rfl rfl (XS.aloadN X276.here hx rfl (hb hby d26_9) rfl rfl (XS.iloadN X276.here hx rfl (hb hby d26_10) rfl kt))) ?_
  obtain ⟨cq279, kq279, qa279, qb279, qc279⟩ := isOf hZ e276 pr1
  obtain ⟨_, _, ⟨T278, L278, k278, n278⟩, -, X278, ⟨Lc278, hQ278, l278, y278, z278⟩, st278⟩ := X276.virtualBack hx (y := (⟨"java/util/ArrayList", "elementData", "(I)Ljava/lang/Object;"⟩ : MethodName)) (z := (⟨"java/util/ArrayList", "elementData", "(I)Ljava/lang/Object;"⟩ : MethodName)) hown (mvT hZ (own_k hw 150 rfl)) (mvT hZ (own_k hw 151 rfl)) (notFace_of_selects (args := #[]) (mvT hZ (own_k hw 153 rfl))) (mvT hZ (own_k hw 153 rfl)) (mvT hZ (own_k hw 152 rfl)) (by decide) (backOf (W := 0) (own_eld l Z a0 hw [] a b0 k0 lst oo1 h0 n0 Z0 pr1 pr2 pr3 pr5) hZ (own_k hw 154 rfl) (own_k hw 47 rfl) (by decide) (by decide)) qa279 qc279 (g := (mkF m 11 #[.val (.ref a), .val (.int 1)] [(.int 1), (.ref a)])) rfl hml.symm (Steps.refl _) (argsL := [(.int 1)]) (rest := []) (lenOf own_pd14 rfl) rfl (own_w0 rfl rfl) (hb hby d26_11) (fun _ _ => ⟨rfl, e276, (by decide : 0 + 0 ≤ 0), (by decide : 0 + 0 ≤ 0)⟩)
  dsimp only [Pt.U, Pt.locs, Pt.cells, Pt.slots] at X278 l278 y278 z278 st278 hQ278
  subst l278 y278 z278
  obtain ⟨rfl, N278, e278⟩ := hQ278
  have N280 := Fr.app N277 N278
  refine own_tr (T' := T278) (g' := (mkF m 14 #[.val (.ref a), .val (.int 1)] [(.ref oo1)])) st278 ?_
  obtain ⟨fs, hr, hrun, hended, hW, hsame⟩ := X278.leave (v := some (.ref oo1)) (fun h => by rw [Bd.returns] at h; cases h)
  refine own_end (own_retA X278 hx Bd.returns rfl rfl rfl (hb hby d26_14) hr) ⟨_, hrun, hended, _, _, rfl, ?_, ⟨_, rfl⟩, hW, hsame.mono (by decide) (by decide)⟩
  show own_getQ Z _ _ _ _ _ _ h0 n0 _ T278.heap _
  rw [e278]
  exact ⟨rfl, N280, rfl⟩
theorem d20_0 : decode jdk_38_method_8_code 0 = .ok (.aload_n 0, 1) := by decide +kernel
theorem d20_1 : decode jdk_38_method_8_code 1 = .ok (.getfield 48, 3) := by decide +kernel
theorem d20_4 : decode jdk_38_method_8_code 4 = .ok (.ireturn, 1) := by decide +kernel
def own_sizQ (Z : State) (a : Addr) (sz : Int32) (h0 : Heap) (n0 : Nat) (v : Option Value) (h : Heap) (L : List Loc) : Prop := v = some (.int sz) ∧ Fr n0 L ∧ h = h0
abbrev own_sizR : Room := { frames := 0, cells := 0, slots := 0, locals := 0 }
theorem own_siz (l : Launch) (Z : State) (a0 : Array Value) (hw : ∀ d ∈ tables_1, d.before a0 Z = true) (ws : List Jvm.Cond) (a : Addr) (sz : Int32) (h0 : Heap) (n0 : Nat) (Z0 : n0 ≤ h0.size) (pr1 : Fld Z h0 a "java/util/ArrayList" "size" "I" (.int sz)) :
    own_M l yN6 jdk_38_method_8_code 1 (some .int) ws own_sizR #[(.ref a)] Z h0 (own_sizQ Z a sz h0 n0) := by
  refine own_go (plainFor_of_name own_pn6) (fun m => own_ef3 m a ) ?_
  intro p e s m below meth c s₁ Bd hx hby hml hZ hh hown hnm X0 e0
  have N0 := Fr.nil n0
  refine own_st (T' := s₁) (g' := (mkF m 1 #[.val (.ref a)] [(.ref a)])) (fun _ kt => XS.aloadN X0.here hx rfl (hb hby d20_0) rfl rfl kt) ?_
  obtain ⟨T281, X281, e281, st281⟩ := getF X0 hx hZ hown (host := "") (Or.inl (own_k hw 106 rfl)) Via.refl e0 pr1 (g := (mkF m 1 #[.val (.ref a)] [(.ref a)])) rfl rfl (hb hby d20_1)
  refine own_st (T' := T281) (g' := (mkF m 4 #[.val (.ref a)] [(.int sz)])) st281 ?_
  obtain ⟨fs, hr, hrun, hended, hW, hsame⟩ := X281.leave (v := some (.int sz)) (fun h => by rw [Bd.returns] at h; cases h)
  refine own_end (own_retI X281 hx Bd.returns (hb hby d20_4) hr) ⟨_, hrun, hended, _, _, rfl, ?_, ⟨_, rfl⟩, hW, hsame.mono (by decide) (by decide)⟩
  show own_sizQ Z _ _ h0 n0 _ T281.heap _
  rw [e281]
  exact ⟨rfl, N0, rfl⟩
theorem d19_0 : decode prog_24_method_3_code 0 = .ok (.aload_n 0, 1) := by decide +kernel
theorem d19_1 : decode prog_24_method_3_code 1 = .ok (.invokeinterface 25 1, 5) := by decide +kernel
theorem own_pd15 : parseMethodDescriptor "()I" = some ⟨[], some .int⟩ := by decide +kernel
theorem d19_6 : decode prog_24_method_3_code 6 = .ok (.iconst 2, 1) := by decide +kernel
theorem d19_7 : decode prog_24_method_3_code 7 = .ok (.if_icmp .lt 25, 3) := by decide +kernel
theorem d19_32 : decode prog_24_method_3_code 32 = .ok (.iconst 0, 1) := by decide +kernel
theorem d19_33 : decode prog_24_method_3_code 33 = .ok (.ireturn, 1) := by decide +kernel
def own_rc0Q (Z : State) (a : Addr) (sz : Int32) (h0 : Heap) (n0 : Nat) (v : Option Value) (h : Heap) (L : List Loc) : Prop := v = some (.int 0) ∧ Fr n0 L ∧ h = h0
theorem own_pn8 : plainName "com/example/tourwerk/tourwerk/problem/SolomonReader" = true := by first | (simp [plainName, overriddenIn]; done) | decide +kernel
abbrev own_rc0R : Room := { frames := 1, cells := 0, slots := 0, locals := 12 }
theorem own_rc0 (l : Launch) (Z : State) (a0 : Array Value) (hw : ∀ d ∈ tables_1, d.before a0 Z = true) (ws : List Jvm.Cond) (a : Addr) (sz : Int32) (h0 : Heap) (n0 : Nat) (Z0 : n0 ≤ h0.size) (pr1 : Exa Z h0 a "java/util/ArrayList") (pr2 : Fld Z h0 a "java/util/ArrayList" "size" "I" (.int sz)) (pr3 : sz < (2 : Int32)) :
    own_M l yN3 prog_24_method_3_code 1 (some .boolean) ws own_rc0R #[(.ref a)] Z h0 (own_rc0Q Z a sz h0 n0) := by
  refine own_go (plainFor_of_name own_pn8) (fun m => own_ef3 m a ) ?_
  intro p e s m below meth c s₁ Bd hx hby hml hZ hh hown hnm X0 e0
  have N0 := Fr.nil n0
  refine own_st (T' := s₁) (g' := (mkF m 1 #[.val (.ref a)] [(.ref a)])) (fun _ kt => XS.aloadN X0.here hx rfl (hb hby d19_0) rfl rfl kt) ?_
  obtain ⟨cq283, kq283, qa283, qb283, qc283⟩ := isOf hZ e0 pr1
  obtain ⟨_, _, ⟨T282, L282, k282, n282⟩, -, X282, ⟨Lc282, hQ282, l282, y282, z282⟩, st282⟩ := X0.interfaceBack hx (xi := yN9) (y := yN6) hown (mvT hZ (own_k hw 97 rfl)) (mvT hZ (own_k hw 98 rfl)) (mvT hZ (own_k hw 99 rfl)) (mvT hZ (own_k hw 100 rfl)) (mvT hZ (own_k hw 101 rfl)) (mvT hZ (own_k hw 102 rfl)) (mvT hZ (own_k hw 103 rfl)) (mvT hZ (own_k hw 104 rfl)) (by decide) (backOf (W := 0) (own_siz l Z a0 hw [] a sz h0 n0 Z0 pr2) hZ (own_k hw 105 rfl) (own_k hw 47 rfl) (by decide) (by decide)) qa283 qb283 qc283 (g := (mkF m 1 #[.val (.ref a)] [(.ref a)])) rfl hml.symm (Steps.refl _) (argsL := []) (rest := []) (lenOf own_pd15 rfl) rfl (own_w0 rfl rfl) (hb hby d19_1) (fun _ _ => ⟨rfl, e0, (by decide : 0 + 0 ≤ 0), (by decide : 0 + 0 ≤ 0)⟩)
  dsimp only [Pt.U, Pt.locs, Pt.cells, Pt.slots] at X282 l282 y282 z282 st282 hQ282
  subst l282 y282 z282
  obtain ⟨rfl, N282, e282⟩ := hQ282
  have N284 := Fr.app N0 N282
  refine own_tr (T' := T282) (g' := (mkF m 6 #[.val (.ref a)] [(.int sz)])) st282 ?_
  refine own_st (T' := T282) (g' := (mkF m 33 #[.val (.ref a)] [(.int 0)])) (fun _ kt => XS.iconst X282.here hx rfl (hb hby d19_6) (XS.icmpYes X282.here hx rfl (pc0 := 7) (pc' := 32) rfl (hb hby d19_7) rfl (XT.ii_lt_t pr3) (by decide) (by decide) (XS.iconst X282.here hx rfl (hb hby d19_32) kt))) ?_
  obtain ⟨fs, hr, hrun, hended, hW, hsame⟩ := X282.leave (v := some (.int 0)) (fun h => by rw [Bd.returns] at h; cases h)
  refine own_end (retN X282 hx (t := .boolean) Bd.returns (by simp) (hb hby d19_33) hr) ⟨_, hrun, hended, _, _, rfl, ?_, ⟨_, rfl⟩, hW, hsame.mono (by decide) (by decide)⟩
  show own_rc0Q Z _ _ h0 n0 _ T282.heap _
  rw [e282]
  exact ⟨rfl, N284, rfl⟩
theorem d19_10 : decode prog_24_method_3_code 10 = .ok (.aload_n 0, 1) := by decide +kernel
theorem d19_11 : decode prog_24_method_3_code 11 = .ok (.iconst 1, 1) := by decide +kernel
theorem d19_12 : decode prog_24_method_3_code 12 = .ok (.invokeinterface 31 2, 5) := by decide +kernel
theorem d19_17 : decode prog_24_method_3_code 17 = .ok (.checkcast 35, 3) := by decide +kernel
theorem d19_20 : decode prog_24_method_3_code 20 = .ok (.ldc 37, 2) := by decide +kernel
theorem d19_22 : decode prog_24_method_3_code 22 = .ok (.invokevirtual 39, 3) := by decide +kernel
theorem own_pd16 : parseMethodDescriptor "(Ljava/lang/Object;)Z" = some ⟨[(.object "java/lang/Object")], some .boolean⟩ := by decide +kernel
theorem d19_25 : decode prog_24_method_3_code 25 = .ok (.ifCond .eq 7, 3) := by decide +kernel
theorem d19_28 : decode prog_24_method_3_code 28 = .ok (.iconst 1, 1) := by decide +kernel
theorem d19_29 : decode prog_24_method_3_code 29 = .ok (.goto 4, 3) := by decide +kernel
def own_rc1Q (Z : State) (a : Addr) (b0 : Addr) (k0 : ClassId) (lst : List Value) (oo1 : Addr) (sz : Int32) (zc : Int32) (tx : Addr) (kt : ClassId) (zz : Int32) (vl : List Value) (rr : Int32) (x0 : Int32) (x1 : Int32) (x2 : Int32) (x3 : Int32) (x4 : Int32) (x5 : Int32) (x6 : Int32) (h0 : Heap) (n0 : Nat) (v : Option Value) (h : Heap) (L : List Loc) : Prop := ∃ (ub : Nat), v = some (.int rr) ∧ Fr n0 L ∧ Keep h0 h []
abbrev own_rc1R : Room := { frames := 6, cells := 6, slots := 80, locals := 150 }
theorem own_rc1 (l : Launch) (Z : State) (a0 : Array Value) (hw : ∀ d ∈ tables_1, d.before a0 Z = true) (ws : List Jvm.Cond) (a : Addr) (b0 : Addr) (k0 : ClassId) (lst : List Value) (oo1 : Addr) (sz : Int32) (zc : Int32) (tx : Addr) (kt : ClassId) (zz : Int32) (vl : List Value) (rr : Int32) (x0 : Int32) (x1 : Int32) (x2 : Int32) (x3 : Int32) (x4 : Int32) (x5 : Int32) (x6 : Int32) (h0 : Heap) (n0 : Nat) (Z0 : n0 ≤ h0.size) (pr1 : Old Z n0 h0) (pr2 : Sta Z Z.heap "java/lang/String" "COMPACT_STRINGS" "Z" (.int zc)) (pr3 : ¬ zc = 0) (pr4 : Exa Z h0 a "java/util/ArrayList") (pr5 : Fld Z h0 a "java/util/ArrayList" "elementData" "[Ljava/lang/Object;" (.ref b0)) (pr6 : Arv Z h0 b0 k0 (.object "java/lang/Object") (10 : Int32) lst .null) (pr7 : Fld Z h0 a "java/util/ArrayList" "size" "I" (.int sz)) (pr8 : lst.getD (1 : Int32).toNatClampNeg .null = .ref oo1) (pr9 : ¬ sz < (2 : Int32)) (pr10 : (1 : Int32) < sz) (pr11 : (zz = 7 ∧ vl = [(.int x0.toInt8.toInt32), (.int x1.toInt8.toInt32), (.int x2.toInt8.toInt32), (.int x3.toInt8.toInt32), (.int x4.toInt8.toInt32), (.int x5.toInt8.toInt32), (.int x6.toInt8.toInt32)] ∧ rr = (own_m7 x0 x1 x2 x3 x4 x5 x6)) ∨ (¬ zz = 7 ∧ rr = 0) ∨ (zz = 7 ∧ vl = [(.int 118), (.int 101), (.int 104), (.int 105), (.int 99), (.int 108), (.int 101)] ∧ rr = 0)) (pr12 : Exa Z h0 oo1 "java/lang/String") (pr13 : Fld Z h0 oo1 "java/lang/String" "coder" "B" (.int 0)) (pr14 : Fld Z h0 oo1 "java/lang/String" "value" "[B" (.ref tx)) (pr15 : Arv Z h0 tx kt .byte zz vl (.int 0)) (pr16 : own_cc x0) (pr17 : own_cc x1) (pr18 : own_cc x2) (pr19 : own_cc x3) (pr20 : own_cc x4) (pr21 : own_cc x5) (pr22 : own_cc x6) :
    own_MH own_EL l yN3 prog_24_method_3_code 1 (some .boolean) ws own_rc1R #[(.ref a)] Z h0 (own_rc1Q Z a b0 k0 lst oo1 sz zc tx kt zz vl rr x0 x1 x2 x3 x4 x5 x6 h0 n0) := by
  refine own_goH (plainFor_of_name own_pn8) (fun m => own_ef3 m a ) ?_
  intro p e s m below meth c s₁ Bd hx hby hml hZ hh hown hnm X0 e0 hS CR0
  have N0 := Fr.nil n0
  have K0 : Keep h0 h0 [] := Keep.refl h0 _
  have hk : h0.size ≤ h0.size := Nat.le_refl _
  rcases pr11 with ⟨rfl, rfl, rfl⟩ | ⟨hz7, rfl⟩ | ⟨rfl, rfl, rfl⟩
  ·
    refine own_st (T' := s₁) (g' := (mkF m 1 #[.val (.ref a)] [(.ref a)])) (fun _ kt => XS.aloadN X0.here hx rfl (hb hby d19_0) rfl rfl kt) ?_
    obtain ⟨cq286, kq286, qa286, qb286, qc286⟩ := isOf hZ e0 pr4
    obtain ⟨_, _, ⟨T285, L285, k285, n285⟩, -, X285, ⟨Lc285, hQ285, l285, y285, z285⟩, st285⟩ := X0.interfaceBack hx (xi := yN9) (y := yN6) hown (mvT hZ (own_k hw 97 rfl)) (mvT hZ (own_k hw 98 rfl)) (mvT hZ (own_k hw 99 rfl)) (mvT hZ (own_k hw 100 rfl)) (mvT hZ (own_k hw 101 rfl)) (mvT hZ (own_k hw 102 rfl)) (mvT hZ (own_k hw 103 rfl)) (mvT hZ (own_k hw 104 rfl)) (by decide) (backOf (W := 0) (own_siz l Z a0 hw [] a sz h0 n0 Z0 pr7) hZ (own_k hw 105 rfl) (own_k hw 47 rfl) (by decide) (by decide)) qa286 qb286 qc286 (g := (mkF m 1 #[.val (.ref a)] [(.ref a)])) rfl hml.symm (Steps.refl _) (argsL := []) (rest := []) (lenOf own_pd15 rfl) rfl (own_w0 rfl rfl) (hb hby d19_1) (fun _ _ => ⟨rfl, e0, (by decide : 0 + 0 ≤ 6), (by decide : 0 + 0 ≤ 80)⟩)
    dsimp only [Pt.U, Pt.locs, Pt.cells, Pt.slots] at X285 l285 y285 z285 st285 hQ285
    subst l285 y285 z285
    obtain ⟨rfl, N285, e285⟩ := hQ285
    have N287 := Fr.app N0 N285
    refine own_tr (T' := T285) (g' := (mkF m 6 #[.val (.ref a)] [(.int sz)])) st285 ?_
    refine own_st (T' := T285) (g' := (mkF m 12 #[.val (.ref a)] [(.int 1), (.ref a)])) (fun _ kt => XS.iconst X285.here hx rfl (hb hby d19_6) (XS.icmpNo X285.here hx rfl (hb hby d19_7) rfl (XT.ii_lt_f pr9) (XS.aloadN X285.here hx rfl (hb hby d19_10) rfl rfl (XS.iconst X285.here hx rfl (hb hby d19_11) kt)))) ?_
    obtain ⟨cq289, kq289, qa289, qb289, qc289⟩ := isOf hZ e285 pr4
    obtain ⟨_, _, ⟨T288, L288, k288, n288⟩, -, X288, ⟨Lc288, hQ288, l288, y288, z288⟩, st288⟩ := X285.interfaceBack hx (xi := (⟨"java/util/List", "get", "(I)Ljava/lang/Object;"⟩ : MethodName)) (y := yN8) hown (mvT hZ (own_k hw 137 rfl)) (mvT hZ (own_k hw 138 rfl)) (mvT hZ (own_k hw 139 rfl)) (mvT hZ (own_k hw 140 rfl)) (mvT hZ (own_k hw 141 rfl)) (mvT hZ (own_k hw 142 rfl)) (mvT hZ (own_k hw 143 rfl)) (mvT hZ (own_k hw 104 rfl)) (by decide) (backOf (W := 0) (own_get l Z a0 hw [] a b0 k0 lst oo1 sz h0 n0 Z0 pr4 pr5 pr6 pr7 pr8 pr10) hZ (own_k hw 144 rfl) (own_k hw 47 rfl) (by decide) (by decide)) qa289 qb289 qc289 (g := (mkF m 12 #[.val (.ref a)] [(.int 1), (.ref a)])) rfl hml.symm (Steps.refl _) (argsL := [(.int 1)]) (rest := []) (lenOf own_pd14 rfl) rfl (own_w0 rfl rfl) (hb hby d19_12) (fun _ _ => ⟨rfl, e285, (by decide : 0 + 0 ≤ 6), (by decide : 0 + 0 ≤ 80)⟩)
    dsimp only [Pt.U, Pt.locs, Pt.cells, Pt.slots] at X288 l288 y288 z288 st288 hQ288
    subst l288 y288 z288
    obtain ⟨rfl, N288, e288⟩ := hQ288
    have N290 := Fr.app N287 N288
    refine own_tr (T' := T288) (g' := (mkF m 17 #[.val (.ref a)] [(.ref oo1)])) st288 ?_
    obtain ⟨T291, X291, e291, st291⟩ := castY X288 hx hZ hown (own_k hw 155 rfl) e288 (Ins.self pr12) (g := (mkF m 17 #[.val (.ref a)] [(.ref oo1)])) rfl rfl (hb hby d19_17)
    refine own_st (T' := T291) (g' := (mkF m 20 #[.val (.ref a)] [(.ref oo1)])) st291 ?_
    obtain ⟨b292, T292, h292, k292, d292, kd292, X292, e292, E292, hS292, hk292, hZ292, hown292, gE292, gC292, gV292, gA292, la292, lb292, hC292, -, hsf292, st292⟩ := ldcCH X291 hx hZ hown (own_k hw 156 rfl) (own_wS hw) e291 hS hk (own_EW hw) (show ("com/example/tourwerk/tourwerk/problem/SolomonReader", 37) ∈ own_EL by simp [own_EL]) CR0.1 (vs := [(.int 86), (.int 69), (.int 72), (.int 73), (.int 67), (.int 76), (.int 69)]) (z := (7 : Int32)) ⟨by decide +kernel, by first | rfl | decide +kernel⟩ (by decide) rfl (g := (mkF m 20 #[.val (.ref a)] [(.ref oo1)])) rfl (hb hby d19_20) (n := 28) (by decide +kernel) (by decide) (by decide) (by decide)
    have CR293 : CHr Z own_EL s.vm h0 T292.vm h292 := CHr.trans CR0 hC292
    have Z294 : n0 ≤ h292.size := Nat.le_trans Z0 E292.1
    have hk294 := Nat.le_trans hk E292.1
    have K294 : Keep h0 h292 [] := (Keep.ext K0 E292)
    have F295 : Exa Z h292 a "java/util/ArrayList" := (Exa.ext E292 pr4)
    have ne296 := hsf292 a (Safe.exa (State.Warmed39.alike hZ292) F295 (by decide) (by decide))
    have F297 : Arv Z h292 b0 k0 (.object "java/lang/Object") (10 : Int32) lst .null := (pr6.ext E292)
    have ne298 := hsf292 b0 (Safe.arv (State.Warmed39.alike hZ292) F297 (by decide))
    have F299 : Exa Z h292 oo1 "java/lang/String" := (Exa.ext E292 pr12)
    have F300 : Fld Z h292 oo1 "java/lang/String" "value" "[B" (.ref tx) := (Fld.ext E292 pr14)
    have F301 : Arv Z h292 tx kt .byte (7 : Int32) [(.int x0.toInt8.toInt32), (.int x1.toInt8.toInt32), (.int x2.toInt8.toInt32), (.int x3.toInt8.toInt32), (.int x4.toInt8.toInt32), (.int x5.toInt8.toInt32), (.int x6.toInt8.toInt32)] (.int 0) := (pr15.ext E292)
    refine own_st (T' := T292) (g' := (mkF m 22 #[.val (.ref a)] [(.ref b292), (.ref oo1)])) st292 ?_
    have F302 : Old Z n0 h292 := (Old.ext pr1 E292)
    have F303 : Fld Z h292 oo1 "java/lang/String" "coder" "B" (.int 0) := (Fld.ext E292 pr13)
    obtain ⟨cq305, kq305, qa305, qb305, qc305⟩ := isOf hZ292 e292 F299
    obtain ⟨_, _, ⟨T304, L304, k304, n304⟩, -, X304, ⟨Lc304, hQ304, l304, y304, z304⟩, st304⟩ := X292.virtualBack hx (y := yN2) (z := yN2) hown292 (mvT hZ292 (own_k hw 157 rfl)) (mvT hZ292 (own_k hw 158 rfl)) (notFace_of_selects (args := #[]) (mvT hZ292 (own_k hw 160 rfl))) (mvT hZ292 (own_k hw 160 rfl)) (mvT hZ292 (own_k hw 159 rfl)) (by decide) (backOf (W := 0) (own_ee l Z a0 hw [] oo1 b292 zc tx d292 kt kd292 x0 x1 x2 x3 x4 x5 x6 h292 n0 Z294 F302 pr2 pr3 F299 F303 F300 F301 gE292 gC292 gV292 gA292 pr16 pr17 pr18 pr19 pr20 pr21 pr22) hZ292 (own_k hw 161 rfl) (own_k hw 4 rfl) (by decide) (by decide)) qa305 qc305 (g := (mkF m 22 #[.val (.ref a)] [(.ref b292), (.ref oo1)])) rfl hml.symm (Steps.refl _) (argsL := [(.ref b292)]) (rest := []) (lenOf own_pd16 rfl) rfl (own_w0 rfl rfl) (hb hby d19_22) (fun _ _ => ⟨rfl, e292, (by decide : 2 + 0 ≤ 6), (by decide : 32 + 0 ≤ 80)⟩)
    dsimp only [Pt.U, Pt.locs, Pt.cells, Pt.slots] at X304 l304 y304 z304 st304 hQ304
    subst l304 y304 z304
    obtain ⟨rfl, N304, e304⟩ := hQ304
    have N306 := Fr.app N290 N304
    refine own_tr (T' := T304) (g' := (mkF m 25 #[.val (.ref a)] [(.int (own_m7 x0 x1 x2 x3 x4 x5 x6))])) st304 ?_
    by_cases hc307 : (own_m7 x0 x1 x2 x3 x4 x5 x6) = 0
    ·
      refine own_st (T' := T304) (g' := (mkF m 33 #[.val (.ref a)] [(.int 0)])) (fun _ kt => XS.ifYes X304.here hx rfl (pc0 := 25) (pc' := 32) rfl (hb hby d19_25) rfl (XT.i0_eq_t hc307) (by decide) (by decide) (XS.iconst X304.here hx rfl (hb hby d19_32) kt)) ?_
      obtain ⟨fs, hr, hrun, hended, hE⟩ := Stand.leaveW X304 hS292 (by rw [e304]; exact hk292) (v := some (.int 0)) (fun h => by rw [Bd.returns] at h; cases h)
      refine own_end (retN X304 hx (t := .boolean) Bd.returns (by simp) (hb hby d19_33) hr) ⟨_, hrun, hended, _, _, rfl, ?_, (by rw [hh]; show CHr Z own_EL s.vm h0 T304.vm T304.heap; rw [e304]; exact CHr.trans CR293 (CHv.at X304 hZ292 (own_EW hw) CR293.1)), ⟨hE.1, hE.2.1, hE.2.2.1, hE.2.2.2.mono (by decide) (by decide)⟩⟩
      show own_rc1Q Z _ _ _ _ _ _ _ _ _ _ _ _ _ _ _ _ _ _ _ h0 n0 _ T304.heap _
      rw [e304]
      exact ⟨0, (congrArg (fun z => some (Value.int z)) (hc307.symm)), N306, K294⟩
    ·
      refine own_st (T' := T304) (g' := (mkF m 33 #[.val (.ref a)] [(.int 1)])) (fun _ kt => XS.ifNo X304.here hx rfl (hb hby d19_25) rfl (XT.i0_eq_f hc307) (XS.iconst X304.here hx rfl (hb hby d19_28) (XS.goto X304.here hx rfl (pc0 := 29) (pc' := 33) rfl (hb hby d19_29) (by decide) (by decide) kt))) ?_
      obtain ⟨fs, hr, hrun, hended, hE⟩ := Stand.leaveW X304 hS292 (by rw [e304]; exact hk292) (v := some (.int 1)) (fun h => by rw [Bd.returns] at h; cases h)
      refine own_end (retN X304 hx (t := .boolean) Bd.returns (by simp) (hb hby d19_33) hr) ⟨_, hrun, hended, _, _, rfl, ?_, (by rw [hh]; show CHr Z own_EL s.vm h0 T304.vm T304.heap; rw [e304]; exact CHr.trans CR293 (CHv.at X304 hZ292 (own_EW hw) CR293.1)), ⟨hE.1, hE.2.1, hE.2.2.1, hE.2.2.2.mono (by decide) (by decide)⟩⟩
      show own_rc1Q Z _ _ _ _ _ _ _ _ _ _ _ _ _ _ _ _ _ _ _ h0 n0 _ T304.heap _
      rw [e304]
      exact ⟨0, (congrArg (fun z => some (Value.int z)) (own_mz7 hc307)), N306, K294⟩
  ·
    refine own_st (T' := s₁) (g' := (mkF m 1 #[.val (.ref a)] [(.ref a)])) (fun _ kt => XS.aloadN X0.here hx rfl (hb hby d19_0) rfl rfl kt) ?_
    obtain ⟨cq309, kq309, qa309, qb309, qc309⟩ := isOf hZ e0 pr4
    obtain ⟨_, _, ⟨T308, L308, k308, n308⟩, -, X308, ⟨Lc308, hQ308, l308, y308, z308⟩, st308⟩ := X0.interfaceBack hx (xi := yN9) (y := yN6) hown (mvT hZ (own_k hw 97 rfl)) (mvT hZ (own_k hw 98 rfl)) (mvT hZ (own_k hw 99 rfl)) (mvT hZ (own_k hw 100 rfl)) (mvT hZ (own_k hw 101 rfl)) (mvT hZ (own_k hw 102 rfl)) (mvT hZ (own_k hw 103 rfl)) (mvT hZ (own_k hw 104 rfl)) (by decide) (backOf (W := 0) (own_siz l Z a0 hw [] a sz h0 n0 Z0 pr7) hZ (own_k hw 105 rfl) (own_k hw 47 rfl) (by decide) (by decide)) qa309 qb309 qc309 (g := (mkF m 1 #[.val (.ref a)] [(.ref a)])) rfl hml.symm (Steps.refl _) (argsL := []) (rest := []) (lenOf own_pd15 rfl) rfl (own_w0 rfl rfl) (hb hby d19_1) (fun _ _ => ⟨rfl, e0, (by decide : 0 + 0 ≤ 6), (by decide : 0 + 0 ≤ 80)⟩)
    dsimp only [Pt.U, Pt.locs, Pt.cells, Pt.slots] at X308 l308 y308 z308 st308 hQ308
    subst l308 y308 z308
    obtain ⟨rfl, N308, e308⟩ := hQ308
    have N310 := Fr.app N0 N308
    refine own_tr (T' := T308) (g' := (mkF m 6 #[.val (.ref a)] [(.int sz)])) st308 ?_
    refine own_st (T' := T308) (g' := (mkF m 12 #[.val (.ref a)] [(.int 1), (.ref a)])) (fun _ kt => XS.iconst X308.here hx rfl (hb hby d19_6) (XS.icmpNo X308.here hx rfl (hb hby d19_7) rfl (XT.ii_lt_f pr9) (XS.aloadN X308.here hx rfl (hb hby d19_10) rfl rfl (XS.iconst X308.here hx rfl (hb hby d19_11) kt)))) ?_
    obtain ⟨cq312, kq312, qa312, qb312, qc312⟩ := isOf hZ e308 pr4
    obtain ⟨_, _, ⟨T311, L311, k311, n311⟩, -, X311, ⟨Lc311, hQ311, l311, y311, z311⟩, st311⟩ := X308.interfaceBack hx (xi := (⟨"java/util/List", "get", "(I)Ljava/lang/Object;"⟩ : MethodName)) (y := yN8) hown (mvT hZ (own_k hw 137 rfl)) (mvT hZ (own_k hw 138 rfl)) (mvT hZ (own_k hw 139 rfl)) (mvT hZ (own_k hw 140 rfl)) (mvT hZ (own_k hw 141 rfl)) (mvT hZ (own_k hw 142 rfl)) (mvT hZ (own_k hw 143 rfl)) (mvT hZ (own_k hw 104 rfl)) (by decide) (backOf (W := 0) (own_get l Z a0 hw [] a b0 k0 lst oo1 sz h0 n0 Z0 pr4 pr5 pr6 pr7 pr8 pr10) hZ (own_k hw 144 rfl) (own_k hw 47 rfl) (by decide) (by decide)) qa312 qb312 qc312 (g := (mkF m 12 #[.val (.ref a)] [(.int 1), (.ref a)])) rfl hml.symm (Steps.refl _) (argsL := [(.int 1)]) (rest := []) (lenOf own_pd14 rfl) rfl (own_w0 rfl rfl) (hb hby d19_12) (fun _ _ => ⟨rfl, e308, (by decide : 0 + 0 ≤ 6), (by decide : 0 + 0 ≤ 80)⟩)
    dsimp only [Pt.U, Pt.locs, Pt.cells, Pt.slots] at X311 l311 y311 z311 st311 hQ311
    subst l311 y311 z311
    obtain ⟨rfl, N311, e311⟩ := hQ311
    have N313 := Fr.app N310 N311
    refine own_tr (T' := T311) (g' := (mkF m 17 #[.val (.ref a)] [(.ref oo1)])) st311 ?_
    obtain ⟨T314, X314, e314, st314⟩ := castY X311 hx hZ hown (own_k hw 155 rfl) e311 (Ins.self pr12) (g := (mkF m 17 #[.val (.ref a)] [(.ref oo1)])) rfl rfl (hb hby d19_17)
    refine own_st (T' := T314) (g' := (mkF m 20 #[.val (.ref a)] [(.ref oo1)])) st314 ?_
    obtain ⟨b315, T315, h315, k315, d315, kd315, X315, e315, E315, hS315, hk315, hZ315, hown315, gE315, gC315, gV315, gA315, la315, lb315, hC315, -, hsf315, st315⟩ := ldcCH X314 hx hZ hown (own_k hw 156 rfl) (own_wS hw) e314 hS hk (own_EW hw) (show ("com/example/tourwerk/tourwerk/problem/SolomonReader", 37) ∈ own_EL by simp [own_EL]) CR0.1 (vs := [(.int 86), (.int 69), (.int 72), (.int 73), (.int 67), (.int 76), (.int 69)]) (z := (7 : Int32)) ⟨by decide +kernel, by first | rfl | decide +kernel⟩ (by decide) rfl (g := (mkF m 20 #[.val (.ref a)] [(.ref oo1)])) rfl (hb hby d19_20) (n := 28) (by decide +kernel) (by decide) (by decide) (by decide)
    have CR316 : CHr Z own_EL s.vm h0 T315.vm h315 := CHr.trans CR0 hC315
    have Z317 : n0 ≤ h315.size := Nat.le_trans Z0 E315.1
    have hk317 := Nat.le_trans hk E315.1
    have K317 : Keep h0 h315 [] := (Keep.ext K0 E315)
    have F318 : Exa Z h315 a "java/util/ArrayList" := (Exa.ext E315 pr4)
    have ne319 := hsf315 a (Safe.exa (State.Warmed39.alike hZ315) F318 (by decide) (by decide))
    have F320 : Arv Z h315 b0 k0 (.object "java/lang/Object") (10 : Int32) lst .null := (pr6.ext E315)
    have ne321 := hsf315 b0 (Safe.arv (State.Warmed39.alike hZ315) F320 (by decide))
    have F322 : Exa Z h315 oo1 "java/lang/String" := (Exa.ext E315 pr12)
    have F323 : Fld Z h315 oo1 "java/lang/String" "value" "[B" (.ref tx) := (Fld.ext E315 pr14)
    have F324 : Arv Z h315 tx kt .byte zz vl (.int 0) := (pr15.ext E315)
    refine own_st (T' := T315) (g' := (mkF m 22 #[.val (.ref a)] [(.ref b315), (.ref oo1)])) st315 ?_
    have F325 : Old Z n0 h315 := (Old.ext pr1 E315)
    have F326 : Fld Z h315 oo1 "java/lang/String" "coder" "B" (.int 0) := (Fld.ext E315 pr13)
    obtain ⟨cq328, kq328, qa328, qb328, qc328⟩ := isOf hZ315 e315 F322
    obtain ⟨_, _, ⟨T327, L327, k327, n327⟩, -, X327, ⟨Lc327, hQ327, l327, y327, z327⟩, st327⟩ := X315.virtualBack hx (y := yN2) (z := yN2) hown315 (mvT hZ315 (own_k hw 157 rfl)) (mvT hZ315 (own_k hw 158 rfl)) (notFace_of_selects (args := #[]) (mvT hZ315 (own_k hw 160 rfl))) (mvT hZ315 (own_k hw 160 rfl)) (mvT hZ315 (own_k hw 159 rfl)) (by decide) (backOf (W := 0) (own_ed l Z a0 hw [] oo1 b315 zc tx d315 kt kd315 zz vl h315 n0 Z317 F325 pr2 pr3 F322 F326 F323 F324 gE315 gC315 gV315 gA315 hz7) hZ315 (own_k hw 161 rfl) (own_k hw 4 rfl) (by decide) (by decide)) qa328 qc328 (g := (mkF m 22 #[.val (.ref a)] [(.ref b315), (.ref oo1)])) rfl hml.symm (Steps.refl _) (argsL := [(.ref b315)]) (rest := []) (lenOf own_pd16 rfl) rfl (own_w0 rfl rfl) (hb hby d19_22) (fun _ _ => ⟨rfl, e315, (by decide : 2 + 0 ≤ 6), (by decide : 32 + 0 ≤ 80)⟩)
    dsimp only [Pt.U, Pt.locs, Pt.cells, Pt.slots] at X327 l327 y327 z327 st327 hQ327
    subst l327 y327 z327
    obtain ⟨rfl, N327, e327⟩ := hQ327
    have N329 := Fr.app N313 N327
    refine own_tr (T' := T327) (g' := (mkF m 25 #[.val (.ref a)] [(.int 0)])) st327 ?_
    refine own_st (T' := T327) (g' := (mkF m 33 #[.val (.ref a)] [(.int 0)])) (fun _ kt => XS.ifYes X327.here hx rfl (pc0 := 25) (pc' := 32) rfl (hb hby d19_25) rfl (XT.i0_eq_t rfl) (by decide) (by decide) (XS.iconst X327.here hx rfl (hb hby d19_32) kt)) ?_
    obtain ⟨fs, hr, hrun, hended, hE⟩ := Stand.leaveW X327 hS315 (by rw [e327]; exact hk315) (v := some (.int 0)) (fun h => by rw [Bd.returns] at h; cases h)
    refine own_end (retN X327 hx (t := .boolean) Bd.returns (by simp) (hb hby d19_33) hr) ⟨_, hrun, hended, _, _, rfl, ?_, (by rw [hh]; show CHr Z own_EL s.vm h0 T327.vm T327.heap; rw [e327]; exact CHr.trans CR316 (CHv.at X327 hZ315 (own_EW hw) CR316.1)), ⟨hE.1, hE.2.1, hE.2.2.1, hE.2.2.2.mono (by decide) (by decide)⟩⟩
    show own_rc1Q Z _ _ _ _ _ _ _ _ _ _ _ _ _ _ _ _ _ _ _ h0 n0 _ T327.heap _
    rw [e327]
    exact ⟨0, rfl, N329, K317⟩
  ·
    refine own_st (T' := s₁) (g' := (mkF m 1 #[.val (.ref a)] [(.ref a)])) (fun _ kt => XS.aloadN X0.here hx rfl (hb hby d19_0) rfl rfl kt) ?_
    obtain ⟨cq331, kq331, qa331, qb331, qc331⟩ := isOf hZ e0 pr4
    obtain ⟨_, _, ⟨T330, L330, k330, n330⟩, -, X330, ⟨Lc330, hQ330, l330, y330, z330⟩, st330⟩ := X0.interfaceBack hx (xi := yN9) (y := yN6) hown (mvT hZ (own_k hw 97 rfl)) (mvT hZ (own_k hw 98 rfl)) (mvT hZ (own_k hw 99 rfl)) (mvT hZ (own_k hw 100 rfl)) (mvT hZ (own_k hw 101 rfl)) (mvT hZ (own_k hw 102 rfl)) (mvT hZ (own_k hw 103 rfl)) (mvT hZ (own_k hw 104 rfl)) (by decide) (backOf (W := 0) (own_siz l Z a0 hw [] a sz h0 n0 Z0 pr7) hZ (own_k hw 105 rfl) (own_k hw 47 rfl) (by decide) (by decide)) qa331 qb331 qc331 (g := (mkF m 1 #[.val (.ref a)] [(.ref a)])) rfl hml.symm (Steps.refl _) (argsL := []) (rest := []) (lenOf own_pd15 rfl) rfl (own_w0 rfl rfl) (hb hby d19_1) (fun _ _ => ⟨rfl, e0, (by decide : 0 + 0 ≤ 6), (by decide : 0 + 0 ≤ 80)⟩)
    dsimp only [Pt.U, Pt.locs, Pt.cells, Pt.slots] at X330 l330 y330 z330 st330 hQ330
    subst l330 y330 z330
    obtain ⟨rfl, N330, e330⟩ := hQ330
    have N332 := Fr.app N0 N330
    refine own_tr (T' := T330) (g' := (mkF m 6 #[.val (.ref a)] [(.int sz)])) st330 ?_
    refine own_st (T' := T330) (g' := (mkF m 12 #[.val (.ref a)] [(.int 1), (.ref a)])) (fun _ kt => XS.iconst X330.here hx rfl (hb hby d19_6) (XS.icmpNo X330.here hx rfl (hb hby d19_7) rfl (XT.ii_lt_f pr9) (XS.aloadN X330.here hx rfl (hb hby d19_10) rfl rfl (XS.iconst X330.here hx rfl (hb hby d19_11) kt)))) ?_
    obtain ⟨cq334, kq334, qa334, qb334, qc334⟩ := isOf hZ e330 pr4
    obtain ⟨_, _, ⟨T333, L333, k333, n333⟩, -, X333, ⟨Lc333, hQ333, l333, y333, z333⟩, st333⟩ := X330.interfaceBack hx (xi := (⟨"java/util/List", "get", "(I)Ljava/lang/Object;"⟩ : MethodName)) (y := yN8) hown (mvT hZ (own_k hw 137 rfl)) (mvT hZ (own_k hw 138 rfl)) (mvT hZ (own_k hw 139 rfl)) (mvT hZ (own_k hw 140 rfl)) (mvT hZ (own_k hw 141 rfl)) (mvT hZ (own_k hw 142 rfl)) (mvT hZ (own_k hw 143 rfl)) (mvT hZ (own_k hw 104 rfl)) (by decide) (backOf (W := 0) (own_get l Z a0 hw [] a b0 k0 lst oo1 sz h0 n0 Z0 pr4 pr5 pr6 pr7 pr8 pr10) hZ (own_k hw 144 rfl) (own_k hw 47 rfl) (by decide) (by decide)) qa334 qb334 qc334 (g := (mkF m 12 #[.val (.ref a)] [(.int 1), (.ref a)])) rfl hml.symm (Steps.refl _) (argsL := [(.int 1)]) (rest := []) (lenOf own_pd14 rfl) rfl (own_w0 rfl rfl) (hb hby d19_12) (fun _ _ => ⟨rfl, e330, (by decide : 0 + 0 ≤ 6), (by decide : 0 + 0 ≤ 80)⟩)
    dsimp only [Pt.U, Pt.locs, Pt.cells, Pt.slots] at X333 l333 y333 z333 st333 hQ333
    subst l333 y333 z333
    obtain ⟨rfl, N333, e333⟩ := hQ333
    have N335 := Fr.app N332 N333
    refine own_tr (T' := T333) (g' := (mkF m 17 #[.val (.ref a)] [(.ref oo1)])) st333 ?_
    obtain ⟨T336, X336, e336, st336⟩ := castY X333 hx hZ hown (own_k hw 155 rfl) e333 (Ins.self pr12) (g := (mkF m 17 #[.val (.ref a)] [(.ref oo1)])) rfl rfl (hb hby d19_17)
    refine own_st (T' := T336) (g' := (mkF m 20 #[.val (.ref a)] [(.ref oo1)])) st336 ?_
    obtain ⟨b337, T337, h337, k337, d337, kd337, X337, e337, E337, hS337, hk337, hZ337, hown337, gE337, gC337, gV337, gA337, la337, lb337, hC337, -, hsf337, st337⟩ := ldcCH X336 hx hZ hown (own_k hw 156 rfl) (own_wS hw) e336 hS hk (own_EW hw) (show ("com/example/tourwerk/tourwerk/problem/SolomonReader", 37) ∈ own_EL by simp [own_EL]) CR0.1 (vs := [(.int 86), (.int 69), (.int 72), (.int 73), (.int 67), (.int 76), (.int 69)]) (z := (7 : Int32)) ⟨by decide +kernel, by first | rfl | decide +kernel⟩ (by decide) rfl (g := (mkF m 20 #[.val (.ref a)] [(.ref oo1)])) rfl (hb hby d19_20) (n := 28) (by decide +kernel) (by decide) (by decide) (by decide)
    have CR338 : CHr Z own_EL s.vm h0 T337.vm h337 := CHr.trans CR0 hC337
    have Z339 : n0 ≤ h337.size := Nat.le_trans Z0 E337.1
    have hk339 := Nat.le_trans hk E337.1
    have K339 : Keep h0 h337 [] := (Keep.ext K0 E337)
    have F340 : Exa Z h337 a "java/util/ArrayList" := (Exa.ext E337 pr4)
    have ne341 := hsf337 a (Safe.exa (State.Warmed39.alike hZ337) F340 (by decide) (by decide))
    have F342 : Arv Z h337 b0 k0 (.object "java/lang/Object") (10 : Int32) lst .null := (pr6.ext E337)
    have ne343 := hsf337 b0 (Safe.arv (State.Warmed39.alike hZ337) F342 (by decide))
    have F344 : Exa Z h337 oo1 "java/lang/String" := (Exa.ext E337 pr12)
    have F345 : Fld Z h337 oo1 "java/lang/String" "value" "[B" (.ref tx) := (Fld.ext E337 pr14)
    have F346 : Arv Z h337 tx kt .byte (7 : Int32) [(.int 118), (.int 101), (.int 104), (.int 105), (.int 99), (.int 108), (.int 101)] (.int 0) := (pr15.ext E337)
    refine own_st (T' := T337) (g' := (mkF m 22 #[.val (.ref a)] [(.ref b337), (.ref oo1)])) st337 ?_
    have F347 : Old Z n0 h337 := (Old.ext pr1 E337)
    have F348 : Fld Z h337 oo1 "java/lang/String" "coder" "B" (.int 0) := (Fld.ext E337 pr13)
    obtain ⟨cq350, kq350, qa350, qb350, qc350⟩ := isOf hZ337 e337 F344
    obtain ⟨_, _, ⟨T349, L349, k349, n349⟩, -, X349, ⟨Lc349, hQ349, l349, y349, z349⟩, st349⟩ := X337.virtualBack hx (y := yN2) (z := yN2) hown337 (mvT hZ337 (own_k hw 157 rfl)) (mvT hZ337 (own_k hw 158 rfl)) (notFace_of_selects (args := #[]) (mvT hZ337 (own_k hw 160 rfl))) (mvT hZ337 (own_k hw 160 rfl)) (mvT hZ337 (own_k hw 159 rfl)) (by decide) (backOf (W := 0) (own_ev l Z a0 hw [] oo1 b337 zc tx d337 kt kd337 h337 n0 Z339 F347 pr2 pr3 F344 F348 F345 F346 gE337 gC337 gV337 gA337) hZ337 (own_k hw 161 rfl) (own_k hw 4 rfl) (by decide) (by decide)) qa350 qc350 (g := (mkF m 22 #[.val (.ref a)] [(.ref b337), (.ref oo1)])) rfl hml.symm (Steps.refl _) (argsL := [(.ref b337)]) (rest := []) (lenOf own_pd16 rfl) rfl (own_w0 rfl rfl) (hb hby d19_22) (fun _ _ => ⟨rfl, e337, (by decide : 2 + 0 ≤ 6), (by decide : 32 + 0 ≤ 80)⟩)
    dsimp only [Pt.U, Pt.locs, Pt.cells, Pt.slots] at X349 l349 y349 z349 st349 hQ349
    subst l349 y349 z349
    obtain ⟨rfl, N349, e349⟩ := hQ349
    have N351 := Fr.app N335 N349
    refine own_tr (T' := T349) (g' := (mkF m 25 #[.val (.ref a)] [(.int 0)])) st349 ?_
    refine own_st (T' := T349) (g' := (mkF m 33 #[.val (.ref a)] [(.int 0)])) (fun _ kt => XS.ifYes X349.here hx rfl (pc0 := 25) (pc' := 32) rfl (hb hby d19_25) rfl (XT.i0_eq_t rfl) (by decide) (by decide) (XS.iconst X349.here hx rfl (hb hby d19_32) kt)) ?_
    obtain ⟨fs, hr, hrun, hended, hE⟩ := Stand.leaveW X349 hS337 (by rw [e349]; exact hk337) (v := some (.int 0)) (fun h => by rw [Bd.returns] at h; cases h)
    refine own_end (retN X349 hx (t := .boolean) Bd.returns (by simp) (hb hby d19_33) hr) ⟨_, hrun, hended, _, _, rfl, ?_, (by rw [hh]; show CHr Z own_EL s.vm h0 T349.vm T349.heap; rw [e349]; exact CHr.trans CR338 (CHv.at X349 hZ337 (own_EW hw) CR338.1)), ⟨hE.1, hE.2.1, hE.2.2.1, hE.2.2.2.mono (by decide) (by decide)⟩⟩
    show own_rc1Q Z _ _ _ _ _ _ _ _ _ _ _ _ _ _ _ _ _ _ _ h0 n0 _ T349.heap _
    rw [e349]
    exact ⟨0, rfl, N351, K339⟩
theorem own_rem8 (p : Int32) : own_q8 ((p &&& (2147483647 : Int32)) - ((p &&& (2147483647 : Int32)) / (8 : Int32)) * (8 : Int32)) := by
  have g := Jvm.Kit.i32_mask p (2147483647 : Int32) (k := 31) (by decide) (by decide)
  have hp := p.toInt_lt
  generalize p &&& (2147483647 : Int32) = x at *
  have x0 : 0 ≤ x.toInt := by rw [g]; omega
  have x1 := x.toInt_lt
  have e8 : (8 : Int32).toInt = 8 := rfl
  have d : (x / (8 : Int32)).toInt = x.toInt / 8 := by
    rw [Jvm.Kit.i32_div (by rw [e8]; omega), e8, Int.tdiv_eq_ediv_of_nonneg x0]
  have m : (x / (8 : Int32) * (8 : Int32)).toInt = x.toInt / 8 * 8 := by
    rw [Jvm.Kit.i32_mul (by rw [d, e8]; omega) (by rw [d, e8]; omega), d, e8]
  have r : (x - x / (8 : Int32) * (8 : Int32)).toInt = x.toInt % 8 := by
    rw [Jvm.Kit.i32_sub (by rw [m]; omega) (by rw [m]; omega), m]; omega
  generalize x - x / (8 : Int32) * (8 : Int32) = y at *
  have e : y = Int32.ofNat y.toInt.toNat := by
    rw [← Int32.toInt_inj, Int32.toInt_ofNat_of_lt (by omega)]; omega
  have hl : y.toInt.toNat ≤ 7 := by omega
  rw [e]
  generalize y.toInt.toNat = n at hl
  unfold own_q8
  match n, hl with
  | 0, _ => decide
  | 1, _ => decide
  | 2, _ => decide
  | 3, _ => decide
  | 4, _ => decide
  | 5, _ => decide
  | 6, _ => decide
  | 7, _ => decide
def own_ex (m c : Int32) : Int32 := if m = 0 then (if c = 86 then 1 else 0) else if m = 1 then (if c = 69 then 1 else 0) else if m = 2 then (if c = 72 then 1 else 0) else if m = 3 then (if c = 73 then 1 else 0) else if m = 4 then (if c = 67 then 1 else 0) else if m = 5 then (if c = 76 then 1 else 0) else if m = 6 then (if c = 69 then 1 else 0) else 1
def own_l18 (kk m c : Int32) : Int32 := if kk = 0 then own_ex m c else 0
theorem own_ex01 (m c : Int32) : own_ex m c = 0 ∨ own_ex m c = 1 := by
  unfold own_ex
  repeat (first | exact Or.inr rfl | exact Or.inl rfl | split)
theorem own_l01 (kk m c : Int32) : own_l18 kk m c = 0 ∨ own_l18 kk m c = 1 := by
  unfold own_l18
  split
  · exact own_ex01 m c
  · exact Or.inl rfl
theorem own_rl {kk m c rr q : Int32} (h : (kk = 0 ∧ rr = q) ∨ (¬ kk = 0 ∧ rr = 0)) (e : q = own_ex m c) : rr = own_l18 kk m c := by
  unfold own_l18
  rcases h with ⟨h1, h2⟩ | ⟨h1, h2⟩
  · rw [if_pos h1, h2, e]
  · rw [if_neg h1, h2]
theorem own_f1 {kk m c ex rr : Int32} (h : ¬ ex = 0) (e : ex = own_l18 kk m c) (r : rr = own_l18 kk m c) : rr = 1 := by
  rcases own_l01 kk m c with q | q
  · exact absurd (e.trans q) h
  · exact r.trans q
theorem own_c67 : own_cc 67 := by unfold own_cc; decide
theorem own_c69 : own_cc 69 := by unfold own_cc; decide
theorem own_c72 : own_cc 72 := by unfold own_cc; decide
theorem own_c73 : own_cc 73 := by unfold own_cc; decide
theorem own_c76 : own_cc 76 := by unfold own_cc; decide
theorem own_c86 : own_cc 86 := by unfold own_cc; decide
theorem own_ql0 : own_q8 0 := by unfold own_q8; decide
theorem own_ql1 : own_q8 1 := by unfold own_q8; decide
theorem own_ql2 : own_q8 2 := by unfold own_q8; decide
theorem own_ql3 : own_q8 3 := by unfold own_q8; decide
theorem own_ql4 : own_q8 4 := by unfold own_q8; decide
theorem own_ql5 : own_q8 5 := by unfold own_q8; decide
theorem own_ql6 : own_q8 6 := by unfold own_q8; decide
theorem own_ql7 : own_q8 7 := by unfold own_q8; decide
theorem own_rl0 (cv : Int32) : own_m7 cv 69 72 73 67 76 69 = own_ex 0 cv := by simp +decide [own_m7, own_ex]
theorem own_rl1 (cv : Int32) : own_m7 86 cv 72 73 67 76 69 = own_ex 1 cv := by simp +decide [own_m7, own_ex]
theorem own_rl2 (cv : Int32) : own_m7 86 69 cv 73 67 76 69 = own_ex 2 cv := by simp +decide [own_m7, own_ex]
theorem own_rl3 (cv : Int32) : own_m7 86 69 72 cv 67 76 69 = own_ex 3 cv := by simp +decide [own_m7, own_ex]
theorem own_rl4 (cv : Int32) : own_m7 86 69 72 73 cv 76 69 = own_ex 4 cv := by simp +decide [own_m7, own_ex]
theorem own_rl5 (cv : Int32) : own_m7 86 69 72 73 67 cv 69 = own_ex 5 cv := by simp +decide [own_m7, own_ex]
theorem own_rl6 (cv : Int32) : own_m7 86 69 72 73 67 76 cv = own_ex 6 cv := by simp +decide [own_m7, own_ex]
theorem own_rl7 (cv : Int32) : own_m7 86 69 72 73 67 76 69 = own_ex 7 cv := by simp +decide [own_m7, own_ex]
theorem own_n67 : ¬ (6 : Int32) = 7 := by decide
theorem own_n87 : ¬ (8 : Int32) = 7 := by decide
theorem own_pd17 : parseMethodDescriptor "(Ljava/util/List;)Z" = some ⟨[(.object "java/util/List")], some .boolean⟩ := by decide +kernel
theorem own_pd18 : parseMethodDescriptor "(I)C" = some ⟨[.int], some .char⟩ := by decide +kernel
theorem own_pd19 : parseMethodDescriptor "(C)Ljava/lang/String;" = some ⟨[.char], some (.object "java/lang/String")⟩ := by decide +kernel
theorem own_pd20 : parseMethodDescriptor "([C)V" = some ⟨[(.array .char)], none⟩ := by decide +kernel
theorem own_ef12 (m : MethodId) (x0 : Int32) (x1 : Int32) (x2 : Int32) (x3 : Int32) (x4 : Int32) : entryFrame m #[(.int x0), (.int x1), (.int x2), (.int x3), (.int x4)] 20 = mkF m 0 #[.val (.int x0), .val (.int x1), .val (.int x2), .val (.int x3), .val (.int x4), .unset, .unset, .unset, .unset, .unset, .unset, .unset, .unset, .unset, .unset, .unset, .unset, .unset, .unset, .unset] [] := by first | (simp [entryFrame, mkF, argsToLocals, Value.category]; done) | rfl
def own_lawQ (Z : State) (p1 : Int32) (p2 : Int32) (p3 : Int32) (p4 : Int32) (p5 : Int32) (zc : Int32) (fmt : Value) (de : Addr) (kd : ClassId) (h0 : Heap) (n0 : Nat) (v : Option Value) (h : Heap) (L : List Loc) : Prop := v = some (.int 1) ∧ Fr n0 L
theorem own_pn9 : plainName "com/example/tourwerk/tourwerk/problem/SolomonReaderRecognisesPinLaw" = true := by first | (simp [plainName, overriddenIn]; done) | decide +kernel
theorem own_law (l : Launch) (Z : State) (a0 : Array Value) (hw : ∀ d ∈ tables_1, d.before a0 Z = true) (ws : List Jvm.Cond) (p1 : Int32) (p2 : Int32) (p3 : Int32) (p4 : Int32) (p5 : Int32) (zc : Int32) (fmt : Value) (de : Addr) (kd : ClassId) (h0 : Heap) (n0 : Nat) (Z0 : n0 ≤ h0.size) (pr1 : Old Z n0 h0) (pr2 : Sta Z Z.heap "java/lang/String" "COMPACT_STRINGS" "Z" (.int zc)) (pr3 : ¬ zc = 0) (pr4 : Sta Z Z.heap "jdk/internal/util/Preconditions" "SIOOBE_FORMATTER" "Ljava/util/function/BiFunction;" fmt) (pr5 : fmt.isRef = true) (pr6 : Sta Z Z.heap "java/util/ArrayList" "DEFAULTCAPACITY_EMPTY_ELEMENTDATA" "[Ljava/lang/Object;" (.ref de)) (pr7 : Arv Z Z.heap de kd (.object "java/lang/Object") (0 : Int32) [] .null) :
    own_MH own_EL l x code maxLocals ret ws room_1 #[(.int p1), (.int p2), (.int p3), (.int p4), (.int p5)] Z h0 (own_lawQ Z p1 p2 p3 p4 p5 zc fmt de kd h0 n0) := by
  refine own_goH (plainFor_of_name own_pn9) (fun m => own_ef12 m p1 p2 p3 p4 p5 ) ?_
  intro p e s m below meth c s₁ Bd hx hby hml hZ hh hown hnm X0 e0 hS CR0
  have N0 := Fr.nil n0
  have hk : h0.size ≤ h0.size := Nat.le_refl _
  refine own_st (T' := s₁) (g' := (mkF m 3 #[.val (.int p1), .val (.int p2), .val (.int p3), .val (.int p4), .val (.int p5), .unset, .unset, .unset, .unset, .unset, .unset, .unset, .unset, .unset, .unset, .unset, .unset, .unset, .unset, .unset] [(.int (p1 &&& (3 : Int32)))])) (fun _ kt => XS.iloadN X0.here hx rfl (hb hby at_0) rfl (XS.iconst X0.here hx rfl (hb hby at_1) (XS.iand X0.here hx rfl (hb hby at_2) rfl kt))) ?_
  obtain ⟨nn, hnn⟩ : ∃ z : Int32, z = (p1 &&& (3 : Int32)) := ⟨_, rfl⟩
  rw [← hnn]
  have q_nn : nn = 0 ∨ nn = 1 ∨ nn = 2 ∨ nn = 3 := hnn ▸ own_and3 _
  refine own_st (T' := s₁) (g' := (mkF m 10 #[.val (.int p1), .val (.int p2), .val (.int p3), .val (.int p4), .val (.int p5), .val (.int nn), .unset, .unset, .unset, .unset, .unset, .unset, .unset, .unset, .unset, .unset, .unset, .unset, .unset, .unset] [(.int ((XT.ushr p1 (2 : Int32)) &&& (3 : Int32)))])) (fun _ kt => XS.istore X0.here hx rfl (hb hby at_3) rfl (l' := #[.val (.int p1), .val (.int p2), .val (.int p3), .val (.int p4), .val (.int p5), .val (.int nn), .unset, .unset, .unset, .unset, .unset, .unset, .unset, .unset, .unset, .unset, .unset, .unset, .unset, .unset]) rfl (XS.iloadN X0.here hx rfl (hb hby at_5) rfl (XS.iconst X0.here hx rfl (hb hby at_6) (XT.iushr X0.here hx rfl (hb hby at_7) rfl (XS.iconst X0.here hx rfl (hb hby at_8) (XS.iand X0.here hx rfl (hb hby at_9) rfl kt)))))) ?_
  obtain ⟨kk, hkk⟩ : ∃ z : Int32, z = ((XT.ushr p1 (2 : Int32)) &&& (3 : Int32)) := ⟨_, rfl⟩
  rw [← hkk]
  have q_kk : kk = 0 ∨ kk = 1 ∨ kk = 2 ∨ kk = 3 := hkk ▸ own_and3 _
  refine own_st (T' := s₁) (g' := (mkF m 17 #[.val (.int p1), .val (.int p2), .val (.int p3), .val (.int p4), .val (.int p5), .val (.int nn), .val (.int kk), .unset, .unset, .unset, .unset, .unset, .unset, .unset, .unset, .unset, .unset, .unset, .unset, .unset] [(.int ((XT.ushr p1 (4 : Int32)) &&& (1 : Int32)))])) (fun _ kt => XS.istore X0.here hx rfl (hb hby at_10) rfl (l' := #[.val (.int p1), .val (.int p2), .val (.int p3), .val (.int p4), .val (.int p5), .val (.int nn), .val (.int kk), .unset, .unset, .unset, .unset, .unset, .unset, .unset, .unset, .unset, .unset, .unset, .unset, .unset]) rfl (XS.iloadN X0.here hx rfl (hb hby at_12) rfl (XS.iconst X0.here hx rfl (hb hby at_13) (XT.iushr X0.here hx rfl (hb hby at_14) rfl (XS.iconst X0.here hx rfl (hb hby at_15) (XS.iand X0.here hx rfl (hb hby at_16) rfl kt)))))) ?_
  refine own_join (α := Int32) (gj := fun q => (mkF m 25 #[.val (.int p1), .val (.int p2), .val (.int p3), .val (.int p4), .val (.int p5), .val (.int nn), .val (.int kk), .unset, .unset, .unset, .unset, .unset, .unset, .unset, .unset, .unset, .unset, .unset, .unset, .unset] [(.int q)])) (P := fun q => True) ?_ (fun J352 => ?_)
  · rintro f7 hj352
    try dsimp only
    refine own_st (T' := s₁) (g' := (mkF m 32 #[.val (.int p1), .val (.int p2), .val (.int p3), .val (.int p4), .val (.int p5), .val (.int nn), .val (.int kk), .val (.int f7), .unset, .unset, .unset, .unset, .unset, .unset, .unset, .unset, .unset, .unset, .unset, .unset] [(.int ((XT.ushr p1 (5 : Int32)) &&& (1 : Int32)))])) (fun _ kt => XS.istore X0.here hx rfl (hb hby at_25) rfl (l' := #[.val (.int p1), .val (.int p2), .val (.int p3), .val (.int p4), .val (.int p5), .val (.int nn), .val (.int kk), .val (.int f7), .unset, .unset, .unset, .unset, .unset, .unset, .unset, .unset, .unset, .unset, .unset, .unset]) rfl (XS.iloadN X0.here hx rfl (hb hby at_27) rfl (XS.iconst X0.here hx rfl (hb hby at_28) (XT.iushr X0.here hx rfl (hb hby at_29) rfl (XS.iconst X0.here hx rfl (hb hby at_30) (XS.iand X0.here hx rfl (hb hby at_31) rfl kt)))))) ?_
    refine own_join (α := Int32) (gj := fun q => (mkF m 40 #[.val (.int p1), .val (.int p2), .val (.int p3), .val (.int p4), .val (.int p5), .val (.int nn), .val (.int kk), .val (.int f7), .unset, .unset, .unset, .unset, .unset, .unset, .unset, .unset, .unset, .unset, .unset, .unset] [(.int q)])) (P := fun q => True) ?_ (fun J353 => ?_)
    · rintro f8 hj353
      try dsimp only
      refine own_st (T' := s₁) (g' := (mkF m 43 #[.val (.int p1), .val (.int p2), .val (.int p3), .val (.int p4), .val (.int p5), .val (.int nn), .val (.int kk), .val (.int f7), .val (.int f8), .unset, .unset, .unset, .unset, .unset, .unset, .unset, .unset, .unset, .unset, .unset] [(.int p2)])) (fun _ kt => XS.istore X0.here hx rfl (hb hby at_40) rfl (l' := #[.val (.int p1), .val (.int p2), .val (.int p3), .val (.int p4), .val (.int p5), .val (.int nn), .val (.int kk), .val (.int f7), .val (.int f8), .unset, .unset, .unset, .unset, .unset, .unset, .unset, .unset, .unset, .unset, .unset]) rfl (XS.iloadN X0.here hx rfl (hb hby at_42) rfl kt)) ?_
      refine own_st (T' := s₁) (g' := (mkF m 45 #[.val (.int p1), .val (.int p2), .val (.int p3), .val (.int p4), .val (.int p5), .val (.int nn), .val (.int kk), .val (.int f7), .val (.int f8), .unset, .unset, .unset, .unset, .unset, .unset, .unset, .unset, .unset, .unset, .unset] [(.int 2147483647), (.int p2)])) (Stand.ldcInt X0 hx hown (mvT hZ (own_k hw 0 rfl)) (g := (mkF m 43 #[.val (.int p1), .val (.int p2), .val (.int p3), .val (.int p4), .val (.int p5), .val (.int nn), .val (.int kk), .val (.int f7), .val (.int f8), .unset, .unset, .unset, .unset, .unset, .unset, .unset, .unset, .unset, .unset, .unset] [(.int p2)])) rfl (hb hby at_43)) ?_
      refine own_st (T' := s₁) (g' := (mkF m 49 #[.val (.int p1), .val (.int p2), .val (.int p3), .val (.int p4), .val (.int p5), .val (.int nn), .val (.int kk), .val (.int f7), .val (.int f8), .unset, .unset, .unset, .unset, .unset, .unset, .unset, .unset, .unset, .unset, .unset] [(.int ((p2 &&& (2147483647 : Int32)) - ((p2 &&& (2147483647 : Int32)) / (8 : Int32)) * (8 : Int32)))])) (fun _ kt => XS.iand X0.here hx rfl (hb hby at_45) rfl (XS.bipush X0.here hx rfl (hb hby at_46) (XS.irem X0.here hx rfl (hb hby at_48) rfl (by decide) kt))) ?_
      obtain ⟨mm, hmm⟩ : ∃ z : Int32, z = ((p2 &&& (2147483647 : Int32)) - ((p2 &&& (2147483647 : Int32)) / (8 : Int32)) * (8 : Int32)) := ⟨_, rfl⟩
      rw [← hmm]
      have q_mm : own_q8 mm := hmm ▸ own_rem8 _
      refine own_st (T' := s₁) (g' := (mkF m 57 #[.val (.int p1), .val (.int p2), .val (.int p3), .val (.int p4), .val (.int p5), .val (.int nn), .val (.int kk), .val (.int f7), .val (.int f8), .val (.int mm), .unset, .unset, .unset, .unset, .unset, .unset, .unset, .unset, .unset, .unset] [(.int ((p3 &&& (255 : Int32)).toUInt32.toUInt16.toUInt32.toInt32))])) (fun _ kt => XS.istore X0.here hx rfl (hb hby at_49) rfl (l' := #[.val (.int p1), .val (.int p2), .val (.int p3), .val (.int p4), .val (.int p5), .val (.int nn), .val (.int kk), .val (.int f7), .val (.int f8), .val (.int mm), .unset, .unset, .unset, .unset, .unset, .unset, .unset, .unset, .unset, .unset]) rfl (XS.iloadN X0.here hx rfl (hb hby at_51) rfl (XS.sipush X0.here hx rfl (hb hby at_52) (XS.iand X0.here hx rfl (hb hby at_55) rfl (XT.i2c X0.here hx rfl (hb hby at_56) rfl kt))))) ?_
      obtain ⟨cv, hcv⟩ : ∃ z : Int32, z = ((p3 &&& (255 : Int32)).toUInt32.toUInt16.toUInt32.toInt32) := ⟨_, rfl⟩
      rw [← hcv]
      have b_cv : own_cc cv := hcv ▸ own_mkc _
      refine own_st (T' := s₁) (g' := (mkF m 61 #[.val (.int p1), .val (.int p2), .val (.int p3), .val (.int p4), .val (.int p5), .val (.int nn), .val (.int kk), .val (.int f7), .val (.int f8), .val (.int mm), .val (.int cv), .unset, .unset, .unset, .unset, .unset, .unset, .unset, .unset, .unset] [(.int 7)])) (fun _ kt => XS.istore X0.here hx rfl (hb hby at_57) rfl (l' := #[.val (.int p1), .val (.int p2), .val (.int p3), .val (.int p4), .val (.int p5), .val (.int nn), .val (.int kk), .val (.int f7), .val (.int f8), .val (.int mm), .val (.int cv), .unset, .unset, .unset, .unset, .unset, .unset, .unset, .unset, .unset]) rfl (XS.bipush X0.here hx rfl (hb hby at_59) kt)) ?_
      obtain ⟨T354, h354, k354, X354, e354, E354, A354, st354⟩ := newP X0 hx hZ (aty := .char) (own_k hw 1 rfl) e0 (g := (mkF m 61 #[.val (.int p1), .val (.int p2), .val (.int p3), .val (.int p4), .val (.int p5), .val (.int nn), .val (.int kk), .val (.int f7), .val (.int f8), .val (.int mm), .val (.int cv), .unset, .unset, .unset, .unset, .unset, .unset, .unset, .unset, .unset] [(.int 7)])) rfl (hb hby at_61) rfl (by decide) (cap := 7) (by decide) (by decide) (by decide) (by decide)
      obtain ⟨b354, g354⟩ : ∃ z, z = h0.size := ⟨_, rfl⟩
      rw [← g354] at A354 st354
      have CR355 : CHr Z own_EL s.vm h0 s.vm h354 := CHr.trans CR0 (CHr.ext E354 CR0.1)
      have Z356 : n0 ≤ h354.size := Nat.le_trans Z0 E354.1
      have hk356 := Nat.le_trans hk E354.1
      have ge_b354 : n0 ≤ b354 := Nat.le_trans Z0 (Nat.le_of_eq g354.symm)
      have S357 : Safe Z own_EL s.vm h354 b354 := (Safe.ext E354 CR0.1 (Safe.new (Nat.le_of_eq g354.symm)))
      have F358 : Arv Z h354 b354 k354 .char (7 : Int32) [(.int 0), (.int 0), (.int 0), (.int 0), (.int 0), (.int 0), (.int 0)] (.int 0) := (Arv.new A354 (by decide)).pad (pad_rep [] (.int 0) 7)
      refine own_st (T' := T354) (g' := (mkF m 63 #[.val (.int p1), .val (.int p2), .val (.int p3), .val (.int p4), .val (.int p5), .val (.int nn), .val (.int kk), .val (.int f7), .val (.int f8), .val (.int mm), .val (.int cv), .unset, .unset, .unset, .unset, .unset, .unset, .unset, .unset, .unset] [(.ref b354)])) st354 ?_
      refine own_st (T' := T354) (g' := (mkF m 67 #[.val (.int p1), .val (.int p2), .val (.int p3), .val (.int p4), .val (.int p5), .val (.int nn), .val (.int kk), .val (.int f7), .val (.int f8), .val (.int mm), .val (.int cv), .unset, .unset, .unset, .unset, .unset, .unset, .unset, .unset, .unset] [(.int 86), (.int 0), (.ref b354), (.ref b354)])) (fun _ kt => XS.dup X354.here hx rfl (hb hby at_63) rfl rfl (XS.iconst X354.here hx rfl (hb hby at_64) (XS.bipush X354.here hx rfl (hb hby at_65) kt))) ?_
      obtain ⟨T359, h359, X359, e359, W359, V359, st359⟩ := own_cst X354 hx hZ e354 F358 ⟨by decide, by decide⟩ (i := 0) rfl (by simp) (y := (86 : Int32)) rfl (g := (mkF m 67 #[.val (.int p1), .val (.int p2), .val (.int p3), .val (.int p4), .val (.int p5), .val (.int nn), .val (.int kk), .val (.int f7), .val (.int f8), .val (.int mm), .val (.int cv), .unset, .unset, .unset, .unset, .unset, .unset, .unset, .unset, .unset] [(.int 86), (.int 0), (.ref b354), (.ref b354)])) rfl rfl (hb hby at_67)
      have N359 := Fr.snoc X359 N0 ge_b354
      have CR360 : CHr Z own_EL s.vm h0 s.vm h359 := CHr.trans CR355 (CHr.wr W359 S357 CR355.1)
      have Z361 : n0 ≤ h359.size := Nat.le_trans Z356 (Nat.le_of_eq (Wr.size W359).symm)
      have hk361 := Nat.le_trans hk356 (Nat.le_of_eq (Wr.size W359).symm)
      have F362 : Arv Z h359 b354 k354 .char (7 : Int32) [(.int 86), (.int 0), (.int 0), (.int 0), (.int 0), (.int 0), (.int 0)] (.int 0) := V359
      refine own_st (T' := T359) (g' := (mkF m 68 #[.val (.int p1), .val (.int p2), .val (.int p3), .val (.int p4), .val (.int p5), .val (.int nn), .val (.int kk), .val (.int f7), .val (.int f8), .val (.int mm), .val (.int cv), .unset, .unset, .unset, .unset, .unset, .unset, .unset, .unset, .unset] [(.ref b354)])) st359 ?_
      refine own_st (T' := T359) (g' := (mkF m 72 #[.val (.int p1), .val (.int p2), .val (.int p3), .val (.int p4), .val (.int p5), .val (.int nn), .val (.int kk), .val (.int f7), .val (.int f8), .val (.int mm), .val (.int cv), .unset, .unset, .unset, .unset, .unset, .unset, .unset, .unset, .unset] [(.int 69), (.int 1), (.ref b354), (.ref b354)])) (fun _ kt => XS.dup X359.here hx rfl (hb hby at_68) rfl rfl (XS.iconst X359.here hx rfl (hb hby at_69) (XS.bipush X359.here hx rfl (hb hby at_70) kt))) ?_
      obtain ⟨T363, h363, X363, e363, W363, V363, st363⟩ := own_cst X359 hx hZ e359 F362 ⟨by decide, by decide⟩ (i := 1) rfl (by simp) (y := (69 : Int32)) rfl (g := (mkF m 72 #[.val (.int p1), .val (.int p2), .val (.int p3), .val (.int p4), .val (.int p5), .val (.int nn), .val (.int kk), .val (.int f7), .val (.int f8), .val (.int mm), .val (.int cv), .unset, .unset, .unset, .unset, .unset, .unset, .unset, .unset, .unset] [(.int 69), (.int 1), (.ref b354), (.ref b354)])) rfl rfl (hb hby at_72)
      have N363 := Fr.snoc X363 N359 ge_b354
      have F364 : Safe Z own_EL s.vm h359 b354 := (Safe.wr W359 S357 CR355.1 S357)
      have CR365 : CHr Z own_EL s.vm h0 s.vm h363 := CHr.trans CR360 (CHr.wr W363 F364 CR360.1)
      have Z366 : n0 ≤ h363.size := Nat.le_trans Z361 (Nat.le_of_eq (Wr.size W363).symm)
      have hk366 := Nat.le_trans hk361 (Nat.le_of_eq (Wr.size W363).symm)
      have F367 : Arv Z h363 b354 k354 .char (7 : Int32) [(.int 86), (.int 69), (.int 0), (.int 0), (.int 0), (.int 0), (.int 0)] (.int 0) := V363
      refine own_st (T' := T363) (g' := (mkF m 73 #[.val (.int p1), .val (.int p2), .val (.int p3), .val (.int p4), .val (.int p5), .val (.int nn), .val (.int kk), .val (.int f7), .val (.int f8), .val (.int mm), .val (.int cv), .unset, .unset, .unset, .unset, .unset, .unset, .unset, .unset, .unset] [(.ref b354)])) st363 ?_
      refine own_st (T' := T363) (g' := (mkF m 77 #[.val (.int p1), .val (.int p2), .val (.int p3), .val (.int p4), .val (.int p5), .val (.int nn), .val (.int kk), .val (.int f7), .val (.int f8), .val (.int mm), .val (.int cv), .unset, .unset, .unset, .unset, .unset, .unset, .unset, .unset, .unset] [(.int 72), (.int 2), (.ref b354), (.ref b354)])) (fun _ kt => XS.dup X363.here hx rfl (hb hby at_73) rfl rfl (XS.iconst X363.here hx rfl (hb hby at_74) (XS.bipush X363.here hx rfl (hb hby at_75) kt))) ?_
      obtain ⟨T368, h368, X368, e368, W368, V368, st368⟩ := own_cst X363 hx hZ e363 F367 ⟨by decide, by decide⟩ (i := 2) rfl (by simp) (y := (72 : Int32)) rfl (g := (mkF m 77 #[.val (.int p1), .val (.int p2), .val (.int p3), .val (.int p4), .val (.int p5), .val (.int nn), .val (.int kk), .val (.int f7), .val (.int f8), .val (.int mm), .val (.int cv), .unset, .unset, .unset, .unset, .unset, .unset, .unset, .unset, .unset] [(.int 72), (.int 2), (.ref b354), (.ref b354)])) rfl rfl (hb hby at_77)
      have N368 := Fr.snoc X368 N363 ge_b354
      have F369 : Safe Z own_EL s.vm h363 b354 := (Safe.wr W363 F364 CR360.1 F364)
      have CR370 : CHr Z own_EL s.vm h0 s.vm h368 := CHr.trans CR365 (CHr.wr W368 F369 CR365.1)
      have Z371 : n0 ≤ h368.size := Nat.le_trans Z366 (Nat.le_of_eq (Wr.size W368).symm)
      have hk371 := Nat.le_trans hk366 (Nat.le_of_eq (Wr.size W368).symm)
      have F372 : Arv Z h368 b354 k354 .char (7 : Int32) [(.int 86), (.int 69), (.int 72), (.int 0), (.int 0), (.int 0), (.int 0)] (.int 0) := V368
      refine own_st (T' := T368) (g' := (mkF m 78 #[.val (.int p1), .val (.int p2), .val (.int p3), .val (.int p4), .val (.int p5), .val (.int nn), .val (.int kk), .val (.int f7), .val (.int f8), .val (.int mm), .val (.int cv), .unset, .unset, .unset, .unset, .unset, .unset, .unset, .unset, .unset] [(.ref b354)])) st368 ?_
      refine own_st (T' := T368) (g' := (mkF m 82 #[.val (.int p1), .val (.int p2), .val (.int p3), .val (.int p4), .val (.int p5), .val (.int nn), .val (.int kk), .val (.int f7), .val (.int f8), .val (.int mm), .val (.int cv), .unset, .unset, .unset, .unset, .unset, .unset, .unset, .unset, .unset] [(.int 73), (.int 3), (.ref b354), (.ref b354)])) (fun _ kt => XS.dup X368.here hx rfl (hb hby at_78) rfl rfl (XS.iconst X368.here hx rfl (hb hby at_79) (XS.bipush X368.here hx rfl (hb hby at_80) kt))) ?_
      obtain ⟨T373, h373, X373, e373, W373, V373, st373⟩ := own_cst X368 hx hZ e368 F372 ⟨by decide, by decide⟩ (i := 3) rfl (by simp) (y := (73 : Int32)) rfl (g := (mkF m 82 #[.val (.int p1), .val (.int p2), .val (.int p3), .val (.int p4), .val (.int p5), .val (.int nn), .val (.int kk), .val (.int f7), .val (.int f8), .val (.int mm), .val (.int cv), .unset, .unset, .unset, .unset, .unset, .unset, .unset, .unset, .unset] [(.int 73), (.int 3), (.ref b354), (.ref b354)])) rfl rfl (hb hby at_82)
      have N373 := Fr.snoc X373 N368 ge_b354
      have F374 : Safe Z own_EL s.vm h368 b354 := (Safe.wr W368 F369 CR365.1 F369)
      have CR375 : CHr Z own_EL s.vm h0 s.vm h373 := CHr.trans CR370 (CHr.wr W373 F374 CR370.1)
      have Z376 : n0 ≤ h373.size := Nat.le_trans Z371 (Nat.le_of_eq (Wr.size W373).symm)
      have hk376 := Nat.le_trans hk371 (Nat.le_of_eq (Wr.size W373).symm)
      have F377 : Arv Z h373 b354 k354 .char (7 : Int32) [(.int 86), (.int 69), (.int 72), (.int 73), (.int 0), (.int 0), (.int 0)] (.int 0) := V373
      refine own_st (T' := T373) (g' := (mkF m 83 #[.val (.int p1), .val (.int p2), .val (.int p3), .val (.int p4), .val (.int p5), .val (.int nn), .val (.int kk), .val (.int f7), .val (.int f8), .val (.int mm), .val (.int cv), .unset, .unset, .unset, .unset, .unset, .unset, .unset, .unset, .unset] [(.ref b354)])) st373 ?_
      refine own_st (T' := T373) (g' := (mkF m 87 #[.val (.int p1), .val (.int p2), .val (.int p3), .val (.int p4), .val (.int p5), .val (.int nn), .val (.int kk), .val (.int f7), .val (.int f8), .val (.int mm), .val (.int cv), .unset, .unset, .unset, .unset, .unset, .unset, .unset, .unset, .unset] [(.int 67), (.int 4), (.ref b354), (.ref b354)])) (fun _ kt => XS.dup X373.here hx rfl (hb hby at_83) rfl rfl (XS.iconst X373.here hx rfl (hb hby at_84) (XS.bipush X373.here hx rfl (hb hby at_85) kt))) ?_
      obtain ⟨T378, h378, X378, e378, W378, V378, st378⟩ := own_cst X373 hx hZ e373 F377 ⟨by decide, by decide⟩ (i := 4) rfl (by simp) (y := (67 : Int32)) rfl (g := (mkF m 87 #[.val (.int p1), .val (.int p2), .val (.int p3), .val (.int p4), .val (.int p5), .val (.int nn), .val (.int kk), .val (.int f7), .val (.int f8), .val (.int mm), .val (.int cv), .unset, .unset, .unset, .unset, .unset, .unset, .unset, .unset, .unset] [(.int 67), (.int 4), (.ref b354), (.ref b354)])) rfl rfl (hb hby at_87)
      have N378 := Fr.snoc X378 N373 ge_b354
      have F379 : Safe Z own_EL s.vm h373 b354 := (Safe.wr W373 F374 CR370.1 F374)
      have CR380 : CHr Z own_EL s.vm h0 s.vm h378 := CHr.trans CR375 (CHr.wr W378 F379 CR375.1)
      have Z381 : n0 ≤ h378.size := Nat.le_trans Z376 (Nat.le_of_eq (Wr.size W378).symm)
      have hk381 := Nat.le_trans hk376 (Nat.le_of_eq (Wr.size W378).symm)
      have F382 : Arv Z h378 b354 k354 .char (7 : Int32) [(.int 86), (.int 69), (.int 72), (.int 73), (.int 67), (.int 0), (.int 0)] (.int 0) := V378
      refine own_st (T' := T378) (g' := (mkF m 88 #[.val (.int p1), .val (.int p2), .val (.int p3), .val (.int p4), .val (.int p5), .val (.int nn), .val (.int kk), .val (.int f7), .val (.int f8), .val (.int mm), .val (.int cv), .unset, .unset, .unset, .unset, .unset, .unset, .unset, .unset, .unset] [(.ref b354)])) st378 ?_
      refine own_st (T' := T378) (g' := (mkF m 92 #[.val (.int p1), .val (.int p2), .val (.int p3), .val (.int p4), .val (.int p5), .val (.int nn), .val (.int kk), .val (.int f7), .val (.int f8), .val (.int mm), .val (.int cv), .unset, .unset, .unset, .unset, .unset, .unset, .unset, .unset, .unset] [(.int 76), (.int 5), (.ref b354), (.ref b354)])) (fun _ kt => XS.dup X378.here hx rfl (hb hby at_88) rfl rfl (XS.iconst X378.here hx rfl (hb hby at_89) (XS.bipush X378.here hx rfl (hb hby at_90) kt))) ?_
      obtain ⟨T383, h383, X383, e383, W383, V383, st383⟩ := own_cst X378 hx hZ e378 F382 ⟨by decide, by decide⟩ (i := 5) rfl (by simp) (y := (76 : Int32)) rfl (g := (mkF m 92 #[.val (.int p1), .val (.int p2), .val (.int p3), .val (.int p4), .val (.int p5), .val (.int nn), .val (.int kk), .val (.int f7), .val (.int f8), .val (.int mm), .val (.int cv), .unset, .unset, .unset, .unset, .unset, .unset, .unset, .unset, .unset] [(.int 76), (.int 5), (.ref b354), (.ref b354)])) rfl rfl (hb hby at_92)
      have N383 := Fr.snoc X383 N378 ge_b354
      have F384 : Safe Z own_EL s.vm h378 b354 := (Safe.wr W378 F379 CR375.1 F379)
      have CR385 : CHr Z own_EL s.vm h0 s.vm h383 := CHr.trans CR380 (CHr.wr W383 F384 CR380.1)
      have Z386 : n0 ≤ h383.size := Nat.le_trans Z381 (Nat.le_of_eq (Wr.size W383).symm)
      have hk386 := Nat.le_trans hk381 (Nat.le_of_eq (Wr.size W383).symm)
      have F387 : Arv Z h383 b354 k354 .char (7 : Int32) [(.int 86), (.int 69), (.int 72), (.int 73), (.int 67), (.int 76), (.int 0)] (.int 0) := V383
      refine own_st (T' := T383) (g' := (mkF m 93 #[.val (.int p1), .val (.int p2), .val (.int p3), .val (.int p4), .val (.int p5), .val (.int nn), .val (.int kk), .val (.int f7), .val (.int f8), .val (.int mm), .val (.int cv), .unset, .unset, .unset, .unset, .unset, .unset, .unset, .unset, .unset] [(.ref b354)])) st383 ?_
      refine own_st (T' := T383) (g' := (mkF m 98 #[.val (.int p1), .val (.int p2), .val (.int p3), .val (.int p4), .val (.int p5), .val (.int nn), .val (.int kk), .val (.int f7), .val (.int f8), .val (.int mm), .val (.int cv), .unset, .unset, .unset, .unset, .unset, .unset, .unset, .unset, .unset] [(.int 69), (.int 6), (.ref b354), (.ref b354)])) (fun _ kt => XS.dup X383.here hx rfl (hb hby at_93) rfl rfl (XS.bipush X383.here hx rfl (hb hby at_94) (XS.bipush X383.here hx rfl (hb hby at_96) kt))) ?_
      obtain ⟨T388, h388, X388, e388, W388, V388, st388⟩ := own_cst X383 hx hZ e383 F387 ⟨by decide, by decide⟩ (i := 6) rfl (by simp) (y := (69 : Int32)) rfl (g := (mkF m 98 #[.val (.int p1), .val (.int p2), .val (.int p3), .val (.int p4), .val (.int p5), .val (.int nn), .val (.int kk), .val (.int f7), .val (.int f8), .val (.int mm), .val (.int cv), .unset, .unset, .unset, .unset, .unset, .unset, .unset, .unset, .unset] [(.int 69), (.int 6), (.ref b354), (.ref b354)])) rfl rfl (hb hby at_98)
      have N388 := Fr.snoc X388 N383 ge_b354
      have F389 : Safe Z own_EL s.vm h383 b354 := (Safe.wr W383 F384 CR380.1 F384)
      have CR390 : CHr Z own_EL s.vm h0 s.vm h388 := CHr.trans CR385 (CHr.wr W388 F389 CR385.1)
      have Z391 : n0 ≤ h388.size := Nat.le_trans Z386 (Nat.le_of_eq (Wr.size W388).symm)
      have hk391 := Nat.le_trans hk386 (Nat.le_of_eq (Wr.size W388).symm)
      have F392 : Arv Z h388 b354 k354 .char (7 : Int32) [(.int 86), (.int 69), (.int 72), (.int 73), (.int 67), (.int 76), (.int 69)] (.int 0) := V388
      refine own_st (T' := T388) (g' := (mkF m 99 #[.val (.int p1), .val (.int p2), .val (.int p3), .val (.int p4), .val (.int p5), .val (.int nn), .val (.int kk), .val (.int f7), .val (.int f8), .val (.int mm), .val (.int cv), .unset, .unset, .unset, .unset, .unset, .unset, .unset, .unset, .unset] [(.ref b354)])) st388 ?_
      refine own_st (T' := T388) (g' := (mkF m 101 #[.val (.int p1), .val (.int p2), .val (.int p3), .val (.int p4), .val (.int p5), .val (.int nn), .val (.int kk), .val (.int f7), .val (.int f8), .val (.int mm), .val (.int cv), .val (.ref b354), .unset, .unset, .unset, .unset, .unset, .unset, .unset, .unset] [])) (fun _ kt => XS.astore X388.here hx rfl (hb hby at_99) rfl rfl (l' := #[.val (.int p1), .val (.int p2), .val (.int p3), .val (.int p4), .val (.int p5), .val (.int nn), .val (.int kk), .val (.int f7), .val (.int f8), .val (.int mm), .val (.int cv), .val (.ref b354), .unset, .unset, .unset, .unset, .unset, .unset, .unset, .unset]) rfl kt) ?_
      refine own_joinHV (α := Int32 × Int32 × Int32 × Int32 × Int32 × Int32 × Int32 × Int32) X388 (cells' := 1) (slots' := 7) (gj := fun q => (mkF m 115 #[.val (.int p1), .val (.int p2), .val (.int p3), .val (.int p4), .val (.int p5), .val (.int nn), .val (.int kk), .val (.int f7), .val (.int f8), .val (.int q.2.2.2.2.2.2.2), .val (.int cv), .val (.ref b354), .unset, .unset, .unset, .unset, .unset, .unset, .unset, .unset] [])) (P := fun vm_ k_ L_ h_ q => (Fr n0 L_) ∧ (n0 ≤ h_.size) ∧ (Old Z n0 h_) ∧ (CHr Z own_EL s.vm h0 vm_ h_) ∧ (s.Since vm_ k_) ∧ (k_ ≤ h_.size) ∧ (Z.Warmed39 (s.setVm vm_).vm) ∧ ((s.setVm vm_).vm.findClass "com/example/tourwerk/tourwerk/problem/SolomonReaderRecognisesPinLaw" = some m.cls) ∧ (Arv Z h_ b354 k354 .char (7 : Int32) [(.int q.1), (.int q.2.1), (.int q.2.2.1), (.int q.2.2.2.1), (.int q.2.2.2.2.1), (.int q.2.2.2.2.2.1), (.int q.2.2.2.2.2.2.1)] (.int 0)) ∧ (own_cc q.1 ∧ own_cc q.2.1 ∧ own_cc q.2.2.1 ∧ own_cc q.2.2.2.1 ∧ own_cc q.2.2.2.2.1 ∧ own_cc q.2.2.2.2.2.1 ∧ own_cc q.2.2.2.2.2.2.1 ∧ own_m7 q.1 q.2.1 q.2.2.1 q.2.2.2.1 q.2.2.2.2.1 q.2.2.2.2.2.1 q.2.2.2.2.2.2.1 = own_ex q.2.2.2.2.2.2.2 cv ∧ own_q8 q.2.2.2.2.2.2.2)) ?_ (fun J393 => ?_)
      · rintro vm393 k393 T393 L393 h393 ⟨x0, x1, x2, x3, x4, x5, x6, m2⟩ ⟨N393, Z393, O393, CR393, hS393, hk393, hZ393, hown393, F394, hj393⟩ X393 e393
        try dsimp only at F394 hj393 ⊢
        obtain ⟨hx0, hx1, hx2, hx3, hx4, hx5, hx6, hrel, q_m2⟩ := hj393
        refine own_st (T' := T393) (g' := (mkF m 117 #[.val (.int p1), .val (.int p2), .val (.int p3), .val (.int p4), .val (.int p5), .val (.int nn), .val (.int kk), .val (.int f7), .val (.int f8), .val (.int m2), .val (.int cv), .val (.ref b354), .unset, .unset, .unset, .unset, .unset, .unset, .unset, .unset] [(.int 6)])) (fun _ kt => XS.bipush X393.here hx rfl (hb hby at_115) kt) ?_
        obtain ⟨T395, h395, k395, X395, e395, E395, A395, st395⟩ := newP X393 hx hZ393 (aty := .char) (own_k hw 1 rfl) e393 (g := (mkF m 117 #[.val (.int p1), .val (.int p2), .val (.int p3), .val (.int p4), .val (.int p5), .val (.int nn), .val (.int kk), .val (.int f7), .val (.int f8), .val (.int m2), .val (.int cv), .val (.ref b354), .unset, .unset, .unset, .unset, .unset, .unset, .unset, .unset] [(.int 6)])) rfl (hb hby at_117) rfl (by decide) (cap := 6) (by decide) (by decide) (by decide) (by decide)
        obtain ⟨b395, g395⟩ : ∃ z, z = h393.size := ⟨_, rfl⟩
        rw [← g395] at A395 st395
        have ne396 : b354 ≠ b395 := by rw [g395]; exact Nat.ne_of_lt F394.lt
        have CR397 : CHr Z own_EL s.vm h0 vm393 h395 := CHr.trans CR393 (CHr.ext E395 CR393.1)
        have Z398 : n0 ≤ h395.size := Nat.le_trans Z393 E395.1
        have hk398 := Nat.le_trans hk393 E395.1
        have ge_b395 : n0 ≤ b395 := Nat.le_trans Z393 (Nat.le_of_eq g395.symm)
        have S399 : Safe Z own_EL vm393 h395 b395 := (Safe.ext E395 CR393.1 (Safe.new (Nat.le_of_eq g395.symm)))
        have F400 : Arv Z h395 b395 k395 .char (6 : Int32) [(.int 0), (.int 0), (.int 0), (.int 0), (.int 0), (.int 0)] (.int 0) := (Arv.new A395 (by decide)).pad (pad_rep [] (.int 0) 6)
        refine own_st (T' := T395) (g' := (mkF m 119 #[.val (.int p1), .val (.int p2), .val (.int p3), .val (.int p4), .val (.int p5), .val (.int nn), .val (.int kk), .val (.int f7), .val (.int f8), .val (.int m2), .val (.int cv), .val (.ref b354), .unset, .unset, .unset, .unset, .unset, .unset, .unset, .unset] [(.ref b395)])) st395 ?_
        refine own_st (T' := T395) (g' := (mkF m 124 #[.val (.int p1), .val (.int p2), .val (.int p3), .val (.int p4), .val (.int p5), .val (.int nn), .val (.int kk), .val (.int f7), .val (.int f8), .val (.int m2), .val (.int cv), .val (.ref b354), .unset, .unset, .unset, .unset, .unset, .unset, .unset, .unset] [(.int 0), (.ref b354), (.int 0), (.ref b395), (.ref b395)])) (fun _ kt => XS.dup X395.here hx rfl (hb hby at_119) rfl rfl (XS.iconst X395.here hx rfl (hb hby at_120) (XS.aload X395.here hx rfl (hb hby at_121) rfl rfl (XS.iconst X395.here hx rfl (hb hby at_123) kt)))) ?_
        have F401 : Arv Z h395 b354 k354 .char (7 : Int32) [(.int x0), (.int x1), (.int x2), (.int x3), (.int x4), (.int x5), (.int x6)] (.int 0) := (F394.ext E395)
        refine own_st (T' := T395) (g' := (mkF m 125 #[.val (.int p1), .val (.int p2), .val (.int p3), .val (.int p4), .val (.int p5), .val (.int nn), .val (.int kk), .val (.int f7), .val (.int f8), .val (.int m2), .val (.int cv), .val (.ref b354), .unset, .unset, .unset, .unset, .unset, .unset, .unset, .unset] [(.int x0), (.int 0), (.ref b395), (.ref b395)])) (own_cal X395 hx hZ393 e395 F401 ⟨by decide, by decide⟩ rfl (g := (mkF m 124 #[.val (.int p1), .val (.int p2), .val (.int p3), .val (.int p4), .val (.int p5), .val (.int nn), .val (.int kk), .val (.int f7), .val (.int f8), .val (.int m2), .val (.int cv), .val (.ref b354), .unset, .unset, .unset, .unset, .unset, .unset, .unset, .unset] [(.int 0), (.ref b354), (.int 0), (.ref b395), (.ref b395)])) rfl rfl (hb hby at_124)) ?_
        obtain ⟨T402, h402, X402, e402, W402, V402, st402⟩ := own_cst X395 hx hZ393 e395 F400 ⟨by decide, by decide⟩ (i := 0) rfl (by simp) (y := x0) hx0.2.2 (g := (mkF m 125 #[.val (.int p1), .val (.int p2), .val (.int p3), .val (.int p4), .val (.int p5), .val (.int nn), .val (.int kk), .val (.int f7), .val (.int f8), .val (.int m2), .val (.int cv), .val (.ref b354), .unset, .unset, .unset, .unset, .unset, .unset, .unset, .unset] [(.int x0), (.int 0), (.ref b395), (.ref b395)])) rfl rfl (hb hby at_125)
        have N402 := Fr.snoc X402 N393 ge_b395
        have CR403 : CHr Z own_EL s.vm h0 vm393 h402 := CHr.trans CR397 (CHr.wr W402 S399 CR397.1)
        have Z404 : n0 ≤ h402.size := Nat.le_trans Z398 (Nat.le_of_eq (Wr.size W402).symm)
        have hk404 := Nat.le_trans hk398 (Nat.le_of_eq (Wr.size W402).symm)
        have F405 : Arv Z h402 b395 k395 .char (6 : Int32) [(.int x0), (.int 0), (.int 0), (.int 0), (.int 0), (.int 0)] (.int 0) := V402
        refine own_st (T' := T402) (g' := (mkF m 126 #[.val (.int p1), .val (.int p2), .val (.int p3), .val (.int p4), .val (.int p5), .val (.int nn), .val (.int kk), .val (.int f7), .val (.int f8), .val (.int m2), .val (.int cv), .val (.ref b354), .unset, .unset, .unset, .unset, .unset, .unset, .unset, .unset] [(.ref b395)])) st402 ?_
        refine own_st (T' := T402) (g' := (mkF m 131 #[.val (.int p1), .val (.int p2), .val (.int p3), .val (.int p4), .val (.int p5), .val (.int nn), .val (.int kk), .val (.int f7), .val (.int f8), .val (.int m2), .val (.int cv), .val (.ref b354), .unset, .unset, .unset, .unset, .unset, .unset, .unset, .unset] [(.int 1), (.ref b354), (.int 1), (.ref b395), (.ref b395)])) (fun _ kt => XS.dup X402.here hx rfl (hb hby at_126) rfl rfl (XS.iconst X402.here hx rfl (hb hby at_127) (XS.aload X402.here hx rfl (hb hby at_128) rfl rfl (XS.iconst X402.here hx rfl (hb hby at_130) kt)))) ?_
        have F406 : Arv Z h402 b354 k354 .char (7 : Int32) [(.int x0), (.int x1), (.int x2), (.int x3), (.int x4), (.int x5), (.int x6)] (.int 0) := (Arv.other F401 W402 ne396)
        refine own_st (T' := T402) (g' := (mkF m 132 #[.val (.int p1), .val (.int p2), .val (.int p3), .val (.int p4), .val (.int p5), .val (.int nn), .val (.int kk), .val (.int f7), .val (.int f8), .val (.int m2), .val (.int cv), .val (.ref b354), .unset, .unset, .unset, .unset, .unset, .unset, .unset, .unset] [(.int x1), (.int 1), (.ref b395), (.ref b395)])) (own_cal X402 hx hZ393 e402 F406 ⟨by decide, by decide⟩ rfl (g := (mkF m 131 #[.val (.int p1), .val (.int p2), .val (.int p3), .val (.int p4), .val (.int p5), .val (.int nn), .val (.int kk), .val (.int f7), .val (.int f8), .val (.int m2), .val (.int cv), .val (.ref b354), .unset, .unset, .unset, .unset, .unset, .unset, .unset, .unset] [(.int 1), (.ref b354), (.int 1), (.ref b395), (.ref b395)])) rfl rfl (hb hby at_131)) ?_
        obtain ⟨T407, h407, X407, e407, W407, V407, st407⟩ := own_cst X402 hx hZ393 e402 F405 ⟨by decide, by decide⟩ (i := 1) rfl (by simp) (y := x1) hx1.2.2 (g := (mkF m 132 #[.val (.int p1), .val (.int p2), .val (.int p3), .val (.int p4), .val (.int p5), .val (.int nn), .val (.int kk), .val (.int f7), .val (.int f8), .val (.int m2), .val (.int cv), .val (.ref b354), .unset, .unset, .unset, .unset, .unset, .unset, .unset, .unset] [(.int x1), (.int 1), (.ref b395), (.ref b395)])) rfl rfl (hb hby at_132)
        have N407 := Fr.snoc X407 N402 ge_b395
        have F408 : Safe Z own_EL vm393 h402 b395 := (Safe.wr W402 S399 CR397.1 S399)
        have CR409 : CHr Z own_EL s.vm h0 vm393 h407 := CHr.trans CR403 (CHr.wr W407 F408 CR403.1)
        have Z410 : n0 ≤ h407.size := Nat.le_trans Z404 (Nat.le_of_eq (Wr.size W407).symm)
        have hk410 := Nat.le_trans hk404 (Nat.le_of_eq (Wr.size W407).symm)
        have F411 : Arv Z h407 b395 k395 .char (6 : Int32) [(.int x0), (.int x1), (.int 0), (.int 0), (.int 0), (.int 0)] (.int 0) := V407
        refine own_st (T' := T407) (g' := (mkF m 133 #[.val (.int p1), .val (.int p2), .val (.int p3), .val (.int p4), .val (.int p5), .val (.int nn), .val (.int kk), .val (.int f7), .val (.int f8), .val (.int m2), .val (.int cv), .val (.ref b354), .unset, .unset, .unset, .unset, .unset, .unset, .unset, .unset] [(.ref b395)])) st407 ?_
        refine own_st (T' := T407) (g' := (mkF m 138 #[.val (.int p1), .val (.int p2), .val (.int p3), .val (.int p4), .val (.int p5), .val (.int nn), .val (.int kk), .val (.int f7), .val (.int f8), .val (.int m2), .val (.int cv), .val (.ref b354), .unset, .unset, .unset, .unset, .unset, .unset, .unset, .unset] [(.int 2), (.ref b354), (.int 2), (.ref b395), (.ref b395)])) (fun _ kt => XS.dup X407.here hx rfl (hb hby at_133) rfl rfl (XS.iconst X407.here hx rfl (hb hby at_134) (XS.aload X407.here hx rfl (hb hby at_135) rfl rfl (XS.iconst X407.here hx rfl (hb hby at_137) kt)))) ?_
        have F412 : Arv Z h407 b354 k354 .char (7 : Int32) [(.int x0), (.int x1), (.int x2), (.int x3), (.int x4), (.int x5), (.int x6)] (.int 0) := (Arv.other F406 W407 ne396)
        refine own_st (T' := T407) (g' := (mkF m 139 #[.val (.int p1), .val (.int p2), .val (.int p3), .val (.int p4), .val (.int p5), .val (.int nn), .val (.int kk), .val (.int f7), .val (.int f8), .val (.int m2), .val (.int cv), .val (.ref b354), .unset, .unset, .unset, .unset, .unset, .unset, .unset, .unset] [(.int x2), (.int 2), (.ref b395), (.ref b395)])) (own_cal X407 hx hZ393 e407 F412 ⟨by decide, by decide⟩ rfl (g := (mkF m 138 #[.val (.int p1), .val (.int p2), .val (.int p3), .val (.int p4), .val (.int p5), .val (.int nn), .val (.int kk), .val (.int f7), .val (.int f8), .val (.int m2), .val (.int cv), .val (.ref b354), .unset, .unset, .unset, .unset, .unset, .unset, .unset, .unset] [(.int 2), (.ref b354), (.int 2), (.ref b395), (.ref b395)])) rfl rfl (hb hby at_138)) ?_
        obtain ⟨T413, h413, X413, e413, W413, V413, st413⟩ := own_cst X407 hx hZ393 e407 F411 ⟨by decide, by decide⟩ (i := 2) rfl (by simp) (y := x2) hx2.2.2 (g := (mkF m 139 #[.val (.int p1), .val (.int p2), .val (.int p3), .val (.int p4), .val (.int p5), .val (.int nn), .val (.int kk), .val (.int f7), .val (.int f8), .val (.int m2), .val (.int cv), .val (.ref b354), .unset, .unset, .unset, .unset, .unset, .unset, .unset, .unset] [(.int x2), (.int 2), (.ref b395), (.ref b395)])) rfl rfl (hb hby at_139)
        have N413 := Fr.snoc X413 N407 ge_b395
        have F414 : Safe Z own_EL vm393 h407 b395 := (Safe.wr W407 F408 CR403.1 F408)
        have CR415 : CHr Z own_EL s.vm h0 vm393 h413 := CHr.trans CR409 (CHr.wr W413 F414 CR409.1)
        have Z416 : n0 ≤ h413.size := Nat.le_trans Z410 (Nat.le_of_eq (Wr.size W413).symm)
        have hk416 := Nat.le_trans hk410 (Nat.le_of_eq (Wr.size W413).symm)
        have F417 : Arv Z h413 b395 k395 .char (6 : Int32) [(.int x0), (.int x1), (.int x2), (.int 0), (.int 0), (.int 0)] (.int 0) := V413
        refine own_st (T' := T413) (g' := (mkF m 140 #[.val (.int p1), .val (.int p2), .val (.int p3), .val (.int p4), .val (.int p5), .val (.int nn), .val (.int kk), .val (.int f7), .val (.int f8), .val (.int m2), .val (.int cv), .val (.ref b354), .unset, .unset, .unset, .unset, .unset, .unset, .unset, .unset] [(.ref b395)])) st413 ?_
        refine own_st (T' := T413) (g' := (mkF m 145 #[.val (.int p1), .val (.int p2), .val (.int p3), .val (.int p4), .val (.int p5), .val (.int nn), .val (.int kk), .val (.int f7), .val (.int f8), .val (.int m2), .val (.int cv), .val (.ref b354), .unset, .unset, .unset, .unset, .unset, .unset, .unset, .unset] [(.int 3), (.ref b354), (.int 3), (.ref b395), (.ref b395)])) (fun _ kt => XS.dup X413.here hx rfl (hb hby at_140) rfl rfl (XS.iconst X413.here hx rfl (hb hby at_141) (XS.aload X413.here hx rfl (hb hby at_142) rfl rfl (XS.iconst X413.here hx rfl (hb hby at_144) kt)))) ?_
        have F418 : Arv Z h413 b354 k354 .char (7 : Int32) [(.int x0), (.int x1), (.int x2), (.int x3), (.int x4), (.int x5), (.int x6)] (.int 0) := (Arv.other F412 W413 ne396)
        refine own_st (T' := T413) (g' := (mkF m 146 #[.val (.int p1), .val (.int p2), .val (.int p3), .val (.int p4), .val (.int p5), .val (.int nn), .val (.int kk), .val (.int f7), .val (.int f8), .val (.int m2), .val (.int cv), .val (.ref b354), .unset, .unset, .unset, .unset, .unset, .unset, .unset, .unset] [(.int x3), (.int 3), (.ref b395), (.ref b395)])) (own_cal X413 hx hZ393 e413 F418 ⟨by decide, by decide⟩ rfl (g := (mkF m 145 #[.val (.int p1), .val (.int p2), .val (.int p3), .val (.int p4), .val (.int p5), .val (.int nn), .val (.int kk), .val (.int f7), .val (.int f8), .val (.int m2), .val (.int cv), .val (.ref b354), .unset, .unset, .unset, .unset, .unset, .unset, .unset, .unset] [(.int 3), (.ref b354), (.int 3), (.ref b395), (.ref b395)])) rfl rfl (hb hby at_145)) ?_
        obtain ⟨T419, h419, X419, e419, W419, V419, st419⟩ := own_cst X413 hx hZ393 e413 F417 ⟨by decide, by decide⟩ (i := 3) rfl (by simp) (y := x3) hx3.2.2 (g := (mkF m 146 #[.val (.int p1), .val (.int p2), .val (.int p3), .val (.int p4), .val (.int p5), .val (.int nn), .val (.int kk), .val (.int f7), .val (.int f8), .val (.int m2), .val (.int cv), .val (.ref b354), .unset, .unset, .unset, .unset, .unset, .unset, .unset, .unset] [(.int x3), (.int 3), (.ref b395), (.ref b395)])) rfl rfl (hb hby at_146)
        have N419 := Fr.snoc X419 N413 ge_b395
        have F420 : Safe Z own_EL vm393 h413 b395 := (Safe.wr W413 F414 CR409.1 F414)
        have CR421 : CHr Z own_EL s.vm h0 vm393 h419 := CHr.trans CR415 (CHr.wr W419 F420 CR415.1)
        have Z422 : n0 ≤ h419.size := Nat.le_trans Z416 (Nat.le_of_eq (Wr.size W419).symm)
        have hk422 := Nat.le_trans hk416 (Nat.le_of_eq (Wr.size W419).symm)
        have F423 : Arv Z h419 b395 k395 .char (6 : Int32) [(.int x0), (.int x1), (.int x2), (.int x3), (.int 0), (.int 0)] (.int 0) := V419
        refine own_st (T' := T419) (g' := (mkF m 147 #[.val (.int p1), .val (.int p2), .val (.int p3), .val (.int p4), .val (.int p5), .val (.int nn), .val (.int kk), .val (.int f7), .val (.int f8), .val (.int m2), .val (.int cv), .val (.ref b354), .unset, .unset, .unset, .unset, .unset, .unset, .unset, .unset] [(.ref b395)])) st419 ?_
        refine own_st (T' := T419) (g' := (mkF m 152 #[.val (.int p1), .val (.int p2), .val (.int p3), .val (.int p4), .val (.int p5), .val (.int nn), .val (.int kk), .val (.int f7), .val (.int f8), .val (.int m2), .val (.int cv), .val (.ref b354), .unset, .unset, .unset, .unset, .unset, .unset, .unset, .unset] [(.int 4), (.ref b354), (.int 4), (.ref b395), (.ref b395)])) (fun _ kt => XS.dup X419.here hx rfl (hb hby at_147) rfl rfl (XS.iconst X419.here hx rfl (hb hby at_148) (XS.aload X419.here hx rfl (hb hby at_149) rfl rfl (XS.iconst X419.here hx rfl (hb hby at_151) kt)))) ?_
        have F424 : Arv Z h419 b354 k354 .char (7 : Int32) [(.int x0), (.int x1), (.int x2), (.int x3), (.int x4), (.int x5), (.int x6)] (.int 0) := (Arv.other F418 W419 ne396)
        refine own_st (T' := T419) (g' := (mkF m 153 #[.val (.int p1), .val (.int p2), .val (.int p3), .val (.int p4), .val (.int p5), .val (.int nn), .val (.int kk), .val (.int f7), .val (.int f8), .val (.int m2), .val (.int cv), .val (.ref b354), .unset, .unset, .unset, .unset, .unset, .unset, .unset, .unset] [(.int x4), (.int 4), (.ref b395), (.ref b395)])) (own_cal X419 hx hZ393 e419 F424 ⟨by decide, by decide⟩ rfl (g := (mkF m 152 #[.val (.int p1), .val (.int p2), .val (.int p3), .val (.int p4), .val (.int p5), .val (.int nn), .val (.int kk), .val (.int f7), .val (.int f8), .val (.int m2), .val (.int cv), .val (.ref b354), .unset, .unset, .unset, .unset, .unset, .unset, .unset, .unset] [(.int 4), (.ref b354), (.int 4), (.ref b395), (.ref b395)])) rfl rfl (hb hby at_152)) ?_
        obtain ⟨T425, h425, X425, e425, W425, V425, st425⟩ := own_cst X419 hx hZ393 e419 F423 ⟨by decide, by decide⟩ (i := 4) rfl (by simp) (y := x4) hx4.2.2 (g := (mkF m 153 #[.val (.int p1), .val (.int p2), .val (.int p3), .val (.int p4), .val (.int p5), .val (.int nn), .val (.int kk), .val (.int f7), .val (.int f8), .val (.int m2), .val (.int cv), .val (.ref b354), .unset, .unset, .unset, .unset, .unset, .unset, .unset, .unset] [(.int x4), (.int 4), (.ref b395), (.ref b395)])) rfl rfl (hb hby at_153)
        have N425 := Fr.snoc X425 N419 ge_b395
        have F426 : Safe Z own_EL vm393 h419 b395 := (Safe.wr W419 F420 CR415.1 F420)
        have CR427 : CHr Z own_EL s.vm h0 vm393 h425 := CHr.trans CR421 (CHr.wr W425 F426 CR421.1)
        have Z428 : n0 ≤ h425.size := Nat.le_trans Z422 (Nat.le_of_eq (Wr.size W425).symm)
        have hk428 := Nat.le_trans hk422 (Nat.le_of_eq (Wr.size W425).symm)
        have F429 : Arv Z h425 b395 k395 .char (6 : Int32) [(.int x0), (.int x1), (.int x2), (.int x3), (.int x4), (.int 0)] (.int 0) := V425
        refine own_st (T' := T425) (g' := (mkF m 154 #[.val (.int p1), .val (.int p2), .val (.int p3), .val (.int p4), .val (.int p5), .val (.int nn), .val (.int kk), .val (.int f7), .val (.int f8), .val (.int m2), .val (.int cv), .val (.ref b354), .unset, .unset, .unset, .unset, .unset, .unset, .unset, .unset] [(.ref b395)])) st425 ?_
        refine own_st (T' := T425) (g' := (mkF m 159 #[.val (.int p1), .val (.int p2), .val (.int p3), .val (.int p4), .val (.int p5), .val (.int nn), .val (.int kk), .val (.int f7), .val (.int f8), .val (.int m2), .val (.int cv), .val (.ref b354), .unset, .unset, .unset, .unset, .unset, .unset, .unset, .unset] [(.int 5), (.ref b354), (.int 5), (.ref b395), (.ref b395)])) (fun _ kt => XS.dup X425.here hx rfl (hb hby at_154) rfl rfl (XS.iconst X425.here hx rfl (hb hby at_155) (XS.aload X425.here hx rfl (hb hby at_156) rfl rfl (XS.iconst X425.here hx rfl (hb hby at_158) kt)))) ?_
        have F430 : Arv Z h425 b354 k354 .char (7 : Int32) [(.int x0), (.int x1), (.int x2), (.int x3), (.int x4), (.int x5), (.int x6)] (.int 0) := (Arv.other F424 W425 ne396)
        refine own_st (T' := T425) (g' := (mkF m 160 #[.val (.int p1), .val (.int p2), .val (.int p3), .val (.int p4), .val (.int p5), .val (.int nn), .val (.int kk), .val (.int f7), .val (.int f8), .val (.int m2), .val (.int cv), .val (.ref b354), .unset, .unset, .unset, .unset, .unset, .unset, .unset, .unset] [(.int x5), (.int 5), (.ref b395), (.ref b395)])) (own_cal X425 hx hZ393 e425 F430 ⟨by decide, by decide⟩ rfl (g := (mkF m 159 #[.val (.int p1), .val (.int p2), .val (.int p3), .val (.int p4), .val (.int p5), .val (.int nn), .val (.int kk), .val (.int f7), .val (.int f8), .val (.int m2), .val (.int cv), .val (.ref b354), .unset, .unset, .unset, .unset, .unset, .unset, .unset, .unset] [(.int 5), (.ref b354), (.int 5), (.ref b395), (.ref b395)])) rfl rfl (hb hby at_159)) ?_
        obtain ⟨T431, h431, X431, e431, W431, V431, st431⟩ := own_cst X425 hx hZ393 e425 F429 ⟨by decide, by decide⟩ (i := 5) rfl (by simp) (y := x5) hx5.2.2 (g := (mkF m 160 #[.val (.int p1), .val (.int p2), .val (.int p3), .val (.int p4), .val (.int p5), .val (.int nn), .val (.int kk), .val (.int f7), .val (.int f8), .val (.int m2), .val (.int cv), .val (.ref b354), .unset, .unset, .unset, .unset, .unset, .unset, .unset, .unset] [(.int x5), (.int 5), (.ref b395), (.ref b395)])) rfl rfl (hb hby at_160)
        have N431 := Fr.snoc X431 N425 ge_b395
        have F432 : Safe Z own_EL vm393 h425 b395 := (Safe.wr W425 F426 CR421.1 F426)
        have CR433 : CHr Z own_EL s.vm h0 vm393 h431 := CHr.trans CR427 (CHr.wr W431 F432 CR427.1)
        have Z434 : n0 ≤ h431.size := Nat.le_trans Z428 (Nat.le_of_eq (Wr.size W431).symm)
        have hk434 := Nat.le_trans hk428 (Nat.le_of_eq (Wr.size W431).symm)
        have F435 : Arv Z h431 b395 k395 .char (6 : Int32) [(.int x0), (.int x1), (.int x2), (.int x3), (.int x4), (.int x5)] (.int 0) := V431
        refine own_st (T' := T431) (g' := (mkF m 161 #[.val (.int p1), .val (.int p2), .val (.int p3), .val (.int p4), .val (.int p5), .val (.int nn), .val (.int kk), .val (.int f7), .val (.int f8), .val (.int m2), .val (.int cv), .val (.ref b354), .unset, .unset, .unset, .unset, .unset, .unset, .unset, .unset] [(.ref b395)])) st431 ?_
        refine own_st (T' := T431) (g' := (mkF m 165 #[.val (.int p1), .val (.int p2), .val (.int p3), .val (.int p4), .val (.int p5), .val (.int nn), .val (.int kk), .val (.int f7), .val (.int f8), .val (.int m2), .val (.int cv), .val (.ref b354), .val (.ref b395), .unset, .unset, .unset, .unset, .unset, .unset, .unset] [(.int 8)])) (fun _ kt => XS.astore X431.here hx rfl (hb hby at_161) rfl rfl (l' := #[.val (.int p1), .val (.int p2), .val (.int p3), .val (.int p4), .val (.int p5), .val (.int nn), .val (.int kk), .val (.int f7), .val (.int f8), .val (.int m2), .val (.int cv), .val (.ref b354), .val (.ref b395), .unset, .unset, .unset, .unset, .unset, .unset, .unset]) rfl (XS.bipush X431.here hx rfl (hb hby at_163) kt)) ?_
        obtain ⟨T436, h436, k436, X436, e436, E436, A436, st436⟩ := newP X431 hx hZ393 (aty := .char) (own_k hw 1 rfl) e431 (g := (mkF m 165 #[.val (.int p1), .val (.int p2), .val (.int p3), .val (.int p4), .val (.int p5), .val (.int nn), .val (.int kk), .val (.int f7), .val (.int f8), .val (.int m2), .val (.int cv), .val (.ref b354), .val (.ref b395), .unset, .unset, .unset, .unset, .unset, .unset, .unset] [(.int 8)])) rfl (hb hby at_165) rfl (by decide) (cap := 8) (by decide) (by decide) (by decide) (by decide)
        obtain ⟨b436, g436⟩ : ∃ z, z = h431.size := ⟨_, rfl⟩
        rw [← g436] at A436 st436
        have F437 : Arv Z h431 b354 k354 .char (7 : Int32) [(.int x0), (.int x1), (.int x2), (.int x3), (.int x4), (.int x5), (.int x6)] (.int 0) := (Arv.other F430 W431 ne396)
        have ne438 : b354 ≠ b436 := by rw [g436]; exact Nat.ne_of_lt F437.lt
        have ne439 : b395 ≠ b436 := by rw [g436]; exact Nat.ne_of_lt F435.lt
        have CR440 : CHr Z own_EL s.vm h0 vm393 h436 := CHr.trans CR433 (CHr.ext E436 CR433.1)
        have Z441 : n0 ≤ h436.size := Nat.le_trans Z434 E436.1
        have hk441 := Nat.le_trans hk434 E436.1
        have ge_b436 : n0 ≤ b436 := Nat.le_trans Z434 (Nat.le_of_eq g436.symm)
        have S442 : Safe Z own_EL vm393 h436 b436 := (Safe.ext E436 CR433.1 (Safe.new (Nat.le_of_eq g436.symm)))
        have F443 : Arv Z h436 b436 k436 .char (8 : Int32) [(.int 0), (.int 0), (.int 0), (.int 0), (.int 0), (.int 0), (.int 0), (.int 0)] (.int 0) := (Arv.new A436 (by decide)).pad (pad_rep [] (.int 0) 8)
        refine own_st (T' := T436) (g' := (mkF m 167 #[.val (.int p1), .val (.int p2), .val (.int p3), .val (.int p4), .val (.int p5), .val (.int nn), .val (.int kk), .val (.int f7), .val (.int f8), .val (.int m2), .val (.int cv), .val (.ref b354), .val (.ref b395), .unset, .unset, .unset, .unset, .unset, .unset, .unset] [(.ref b436)])) st436 ?_
        refine own_st (T' := T436) (g' := (mkF m 172 #[.val (.int p1), .val (.int p2), .val (.int p3), .val (.int p4), .val (.int p5), .val (.int nn), .val (.int kk), .val (.int f7), .val (.int f8), .val (.int m2), .val (.int cv), .val (.ref b354), .val (.ref b395), .unset, .unset, .unset, .unset, .unset, .unset, .unset] [(.int 0), (.ref b354), (.int 0), (.ref b436), (.ref b436)])) (fun _ kt => XS.dup X436.here hx rfl (hb hby at_167) rfl rfl (XS.iconst X436.here hx rfl (hb hby at_168) (XS.aload X436.here hx rfl (hb hby at_169) rfl rfl (XS.iconst X436.here hx rfl (hb hby at_171) kt)))) ?_
        have F444 : Arv Z h436 b354 k354 .char (7 : Int32) [(.int x0), (.int x1), (.int x2), (.int x3), (.int x4), (.int x5), (.int x6)] (.int 0) := (F437.ext E436)
        refine own_st (T' := T436) (g' := (mkF m 173 #[.val (.int p1), .val (.int p2), .val (.int p3), .val (.int p4), .val (.int p5), .val (.int nn), .val (.int kk), .val (.int f7), .val (.int f8), .val (.int m2), .val (.int cv), .val (.ref b354), .val (.ref b395), .unset, .unset, .unset, .unset, .unset, .unset, .unset] [(.int x0), (.int 0), (.ref b436), (.ref b436)])) (own_cal X436 hx hZ393 e436 F444 ⟨by decide, by decide⟩ rfl (g := (mkF m 172 #[.val (.int p1), .val (.int p2), .val (.int p3), .val (.int p4), .val (.int p5), .val (.int nn), .val (.int kk), .val (.int f7), .val (.int f8), .val (.int m2), .val (.int cv), .val (.ref b354), .val (.ref b395), .unset, .unset, .unset, .unset, .unset, .unset, .unset] [(.int 0), (.ref b354), (.int 0), (.ref b436), (.ref b436)])) rfl rfl (hb hby at_172)) ?_
        obtain ⟨T445, h445, X445, e445, W445, V445, st445⟩ := own_cst X436 hx hZ393 e436 F443 ⟨by decide, by decide⟩ (i := 0) rfl (by simp) (y := x0) hx0.2.2 (g := (mkF m 173 #[.val (.int p1), .val (.int p2), .val (.int p3), .val (.int p4), .val (.int p5), .val (.int nn), .val (.int kk), .val (.int f7), .val (.int f8), .val (.int m2), .val (.int cv), .val (.ref b354), .val (.ref b395), .unset, .unset, .unset, .unset, .unset, .unset, .unset] [(.int x0), (.int 0), (.ref b436), (.ref b436)])) rfl rfl (hb hby at_173)
        have N445 := Fr.snoc X445 N431 ge_b436
        have CR446 : CHr Z own_EL s.vm h0 vm393 h445 := CHr.trans CR440 (CHr.wr W445 S442 CR440.1)
        have Z447 : n0 ≤ h445.size := Nat.le_trans Z441 (Nat.le_of_eq (Wr.size W445).symm)
        have hk447 := Nat.le_trans hk441 (Nat.le_of_eq (Wr.size W445).symm)
        have F448 : Arv Z h445 b436 k436 .char (8 : Int32) [(.int x0), (.int 0), (.int 0), (.int 0), (.int 0), (.int 0), (.int 0), (.int 0)] (.int 0) := V445
        refine own_st (T' := T445) (g' := (mkF m 174 #[.val (.int p1), .val (.int p2), .val (.int p3), .val (.int p4), .val (.int p5), .val (.int nn), .val (.int kk), .val (.int f7), .val (.int f8), .val (.int m2), .val (.int cv), .val (.ref b354), .val (.ref b395), .unset, .unset, .unset, .unset, .unset, .unset, .unset] [(.ref b436)])) st445 ?_
        refine own_st (T' := T445) (g' := (mkF m 179 #[.val (.int p1), .val (.int p2), .val (.int p3), .val (.int p4), .val (.int p5), .val (.int nn), .val (.int kk), .val (.int f7), .val (.int f8), .val (.int m2), .val (.int cv), .val (.ref b354), .val (.ref b395), .unset, .unset, .unset, .unset, .unset, .unset, .unset] [(.int 1), (.ref b354), (.int 1), (.ref b436), (.ref b436)])) (fun _ kt => XS.dup X445.here hx rfl (hb hby at_174) rfl rfl (XS.iconst X445.here hx rfl (hb hby at_175) (XS.aload X445.here hx rfl (hb hby at_176) rfl rfl (XS.iconst X445.here hx rfl (hb hby at_178) kt)))) ?_
        have F449 : Arv Z h445 b354 k354 .char (7 : Int32) [(.int x0), (.int x1), (.int x2), (.int x3), (.int x4), (.int x5), (.int x6)] (.int 0) := (Arv.other F444 W445 ne438)
        refine own_st (T' := T445) (g' := (mkF m 180 #[.val (.int p1), .val (.int p2), .val (.int p3), .val (.int p4), .val (.int p5), .val (.int nn), .val (.int kk), .val (.int f7), .val (.int f8), .val (.int m2), .val (.int cv), .val (.ref b354), .val (.ref b395), .unset, .unset, .unset, .unset, .unset, .unset, .unset] [(.int x1), (.int 1), (.ref b436), (.ref b436)])) (own_cal X445 hx hZ393 e445 F449 ⟨by decide, by decide⟩ rfl (g := (mkF m 179 #[.val (.int p1), .val (.int p2), .val (.int p3), .val (.int p4), .val (.int p5), .val (.int nn), .val (.int kk), .val (.int f7), .val (.int f8), .val (.int m2), .val (.int cv), .val (.ref b354), .val (.ref b395), .unset, .unset, .unset, .unset, .unset, .unset, .unset] [(.int 1), (.ref b354), (.int 1), (.ref b436), (.ref b436)])) rfl rfl (hb hby at_179)) ?_
        obtain ⟨T450, h450, X450, e450, W450, V450, st450⟩ := own_cst X445 hx hZ393 e445 F448 ⟨by decide, by decide⟩ (i := 1) rfl (by simp) (y := x1) hx1.2.2 (g := (mkF m 180 #[.val (.int p1), .val (.int p2), .val (.int p3), .val (.int p4), .val (.int p5), .val (.int nn), .val (.int kk), .val (.int f7), .val (.int f8), .val (.int m2), .val (.int cv), .val (.ref b354), .val (.ref b395), .unset, .unset, .unset, .unset, .unset, .unset, .unset] [(.int x1), (.int 1), (.ref b436), (.ref b436)])) rfl rfl (hb hby at_180)
        have N450 := Fr.snoc X450 N445 ge_b436
        have F451 : Safe Z own_EL vm393 h445 b436 := (Safe.wr W445 S442 CR440.1 S442)
        have CR452 : CHr Z own_EL s.vm h0 vm393 h450 := CHr.trans CR446 (CHr.wr W450 F451 CR446.1)
        have Z453 : n0 ≤ h450.size := Nat.le_trans Z447 (Nat.le_of_eq (Wr.size W450).symm)
        have hk453 := Nat.le_trans hk447 (Nat.le_of_eq (Wr.size W450).symm)
        have F454 : Arv Z h450 b436 k436 .char (8 : Int32) [(.int x0), (.int x1), (.int 0), (.int 0), (.int 0), (.int 0), (.int 0), (.int 0)] (.int 0) := V450
        refine own_st (T' := T450) (g' := (mkF m 181 #[.val (.int p1), .val (.int p2), .val (.int p3), .val (.int p4), .val (.int p5), .val (.int nn), .val (.int kk), .val (.int f7), .val (.int f8), .val (.int m2), .val (.int cv), .val (.ref b354), .val (.ref b395), .unset, .unset, .unset, .unset, .unset, .unset, .unset] [(.ref b436)])) st450 ?_
        refine own_st (T' := T450) (g' := (mkF m 186 #[.val (.int p1), .val (.int p2), .val (.int p3), .val (.int p4), .val (.int p5), .val (.int nn), .val (.int kk), .val (.int f7), .val (.int f8), .val (.int m2), .val (.int cv), .val (.ref b354), .val (.ref b395), .unset, .unset, .unset, .unset, .unset, .unset, .unset] [(.int 2), (.ref b354), (.int 2), (.ref b436), (.ref b436)])) (fun _ kt => XS.dup X450.here hx rfl (hb hby at_181) rfl rfl (XS.iconst X450.here hx rfl (hb hby at_182) (XS.aload X450.here hx rfl (hb hby at_183) rfl rfl (XS.iconst X450.here hx rfl (hb hby at_185) kt)))) ?_
        have F455 : Arv Z h450 b354 k354 .char (7 : Int32) [(.int x0), (.int x1), (.int x2), (.int x3), (.int x4), (.int x5), (.int x6)] (.int 0) := (Arv.other F449 W450 ne438)
        refine own_st (T' := T450) (g' := (mkF m 187 #[.val (.int p1), .val (.int p2), .val (.int p3), .val (.int p4), .val (.int p5), .val (.int nn), .val (.int kk), .val (.int f7), .val (.int f8), .val (.int m2), .val (.int cv), .val (.ref b354), .val (.ref b395), .unset, .unset, .unset, .unset, .unset, .unset, .unset] [(.int x2), (.int 2), (.ref b436), (.ref b436)])) (own_cal X450 hx hZ393 e450 F455 ⟨by decide, by decide⟩ rfl (g := (mkF m 186 #[.val (.int p1), .val (.int p2), .val (.int p3), .val (.int p4), .val (.int p5), .val (.int nn), .val (.int kk), .val (.int f7), .val (.int f8), .val (.int m2), .val (.int cv), .val (.ref b354), .val (.ref b395), .unset, .unset, .unset, .unset, .unset, .unset, .unset] [(.int 2), (.ref b354), (.int 2), (.ref b436), (.ref b436)])) rfl rfl (hb hby at_186)) ?_
        obtain ⟨T456, h456, X456, e456, W456, V456, st456⟩ := own_cst X450 hx hZ393 e450 F454 ⟨by decide, by decide⟩ (i := 2) rfl (by simp) (y := x2) hx2.2.2 (g := (mkF m 187 #[.val (.int p1), .val (.int p2), .val (.int p3), .val (.int p4), .val (.int p5), .val (.int nn), .val (.int kk), .val (.int f7), .val (.int f8), .val (.int m2), .val (.int cv), .val (.ref b354), .val (.ref b395), .unset, .unset, .unset, .unset, .unset, .unset, .unset] [(.int x2), (.int 2), (.ref b436), (.ref b436)])) rfl rfl (hb hby at_187)
        have N456 := Fr.snoc X456 N450 ge_b436
        have F457 : Safe Z own_EL vm393 h450 b436 := (Safe.wr W450 F451 CR446.1 F451)
        have CR458 : CHr Z own_EL s.vm h0 vm393 h456 := CHr.trans CR452 (CHr.wr W456 F457 CR452.1)
        have Z459 : n0 ≤ h456.size := Nat.le_trans Z453 (Nat.le_of_eq (Wr.size W456).symm)
        have hk459 := Nat.le_trans hk453 (Nat.le_of_eq (Wr.size W456).symm)
        have F460 : Arv Z h456 b436 k436 .char (8 : Int32) [(.int x0), (.int x1), (.int x2), (.int 0), (.int 0), (.int 0), (.int 0), (.int 0)] (.int 0) := V456
        refine own_st (T' := T456) (g' := (mkF m 188 #[.val (.int p1), .val (.int p2), .val (.int p3), .val (.int p4), .val (.int p5), .val (.int nn), .val (.int kk), .val (.int f7), .val (.int f8), .val (.int m2), .val (.int cv), .val (.ref b354), .val (.ref b395), .unset, .unset, .unset, .unset, .unset, .unset, .unset] [(.ref b436)])) st456 ?_
        refine own_st (T' := T456) (g' := (mkF m 193 #[.val (.int p1), .val (.int p2), .val (.int p3), .val (.int p4), .val (.int p5), .val (.int nn), .val (.int kk), .val (.int f7), .val (.int f8), .val (.int m2), .val (.int cv), .val (.ref b354), .val (.ref b395), .unset, .unset, .unset, .unset, .unset, .unset, .unset] [(.int 3), (.ref b354), (.int 3), (.ref b436), (.ref b436)])) (fun _ kt => XS.dup X456.here hx rfl (hb hby at_188) rfl rfl (XS.iconst X456.here hx rfl (hb hby at_189) (XS.aload X456.here hx rfl (hb hby at_190) rfl rfl (XS.iconst X456.here hx rfl (hb hby at_192) kt)))) ?_
        have F461 : Arv Z h456 b354 k354 .char (7 : Int32) [(.int x0), (.int x1), (.int x2), (.int x3), (.int x4), (.int x5), (.int x6)] (.int 0) := (Arv.other F455 W456 ne438)
        refine own_st (T' := T456) (g' := (mkF m 194 #[.val (.int p1), .val (.int p2), .val (.int p3), .val (.int p4), .val (.int p5), .val (.int nn), .val (.int kk), .val (.int f7), .val (.int f8), .val (.int m2), .val (.int cv), .val (.ref b354), .val (.ref b395), .unset, .unset, .unset, .unset, .unset, .unset, .unset] [(.int x3), (.int 3), (.ref b436), (.ref b436)])) (own_cal X456 hx hZ393 e456 F461 ⟨by decide, by decide⟩ rfl (g := (mkF m 193 #[.val (.int p1), .val (.int p2), .val (.int p3), .val (.int p4), .val (.int p5), .val (.int nn), .val (.int kk), .val (.int f7), .val (.int f8), .val (.int m2), .val (.int cv), .val (.ref b354), .val (.ref b395), .unset, .unset, .unset, .unset, .unset, .unset, .unset] [(.int 3), (.ref b354), (.int 3), (.ref b436), (.ref b436)])) rfl rfl (hb hby at_193)) ?_
        obtain ⟨T462, h462, X462, e462, W462, V462, st462⟩ := own_cst X456 hx hZ393 e456 F460 ⟨by decide, by decide⟩ (i := 3) rfl (by simp) (y := x3) hx3.2.2 (g := (mkF m 194 #[.val (.int p1), .val (.int p2), .val (.int p3), .val (.int p4), .val (.int p5), .val (.int nn), .val (.int kk), .val (.int f7), .val (.int f8), .val (.int m2), .val (.int cv), .val (.ref b354), .val (.ref b395), .unset, .unset, .unset, .unset, .unset, .unset, .unset] [(.int x3), (.int 3), (.ref b436), (.ref b436)])) rfl rfl (hb hby at_194)
        have N462 := Fr.snoc X462 N456 ge_b436
        have F463 : Safe Z own_EL vm393 h456 b436 := (Safe.wr W456 F457 CR452.1 F457)
        have CR464 : CHr Z own_EL s.vm h0 vm393 h462 := CHr.trans CR458 (CHr.wr W462 F463 CR458.1)
        have Z465 : n0 ≤ h462.size := Nat.le_trans Z459 (Nat.le_of_eq (Wr.size W462).symm)
        have hk465 := Nat.le_trans hk459 (Nat.le_of_eq (Wr.size W462).symm)
        have F466 : Arv Z h462 b436 k436 .char (8 : Int32) [(.int x0), (.int x1), (.int x2), (.int x3), (.int 0), (.int 0), (.int 0), (.int 0)] (.int 0) := V462
        refine own_st (T' := T462) (g' := (mkF m 195 #[.val (.int p1), .val (.int p2), .val (.int p3), .val (.int p4), .val (.int p5), .val (.int nn), .val (.int kk), .val (.int f7), .val (.int f8), .val (.int m2), .val (.int cv), .val (.ref b354), .val (.ref b395), .unset, .unset, .unset, .unset, .unset, .unset, .unset] [(.ref b436)])) st462 ?_
        refine own_st (T' := T462) (g' := (mkF m 200 #[.val (.int p1), .val (.int p2), .val (.int p3), .val (.int p4), .val (.int p5), .val (.int nn), .val (.int kk), .val (.int f7), .val (.int f8), .val (.int m2), .val (.int cv), .val (.ref b354), .val (.ref b395), .unset, .unset, .unset, .unset, .unset, .unset, .unset] [(.int 4), (.ref b354), (.int 4), (.ref b436), (.ref b436)])) (fun _ kt => XS.dup X462.here hx rfl (hb hby at_195) rfl rfl (XS.iconst X462.here hx rfl (hb hby at_196) (XS.aload X462.here hx rfl (hb hby at_197) rfl rfl (XS.iconst X462.here hx rfl (hb hby at_199) kt)))) ?_
        have F467 : Arv Z h462 b354 k354 .char (7 : Int32) [(.int x0), (.int x1), (.int x2), (.int x3), (.int x4), (.int x5), (.int x6)] (.int 0) := (Arv.other F461 W462 ne438)
        refine own_st (T' := T462) (g' := (mkF m 201 #[.val (.int p1), .val (.int p2), .val (.int p3), .val (.int p4), .val (.int p5), .val (.int nn), .val (.int kk), .val (.int f7), .val (.int f8), .val (.int m2), .val (.int cv), .val (.ref b354), .val (.ref b395), .unset, .unset, .unset, .unset, .unset, .unset, .unset] [(.int x4), (.int 4), (.ref b436), (.ref b436)])) (own_cal X462 hx hZ393 e462 F467 ⟨by decide, by decide⟩ rfl (g := (mkF m 200 #[.val (.int p1), .val (.int p2), .val (.int p3), .val (.int p4), .val (.int p5), .val (.int nn), .val (.int kk), .val (.int f7), .val (.int f8), .val (.int m2), .val (.int cv), .val (.ref b354), .val (.ref b395), .unset, .unset, .unset, .unset, .unset, .unset, .unset] [(.int 4), (.ref b354), (.int 4), (.ref b436), (.ref b436)])) rfl rfl (hb hby at_200)) ?_
        obtain ⟨T468, h468, X468, e468, W468, V468, st468⟩ := own_cst X462 hx hZ393 e462 F466 ⟨by decide, by decide⟩ (i := 4) rfl (by simp) (y := x4) hx4.2.2 (g := (mkF m 201 #[.val (.int p1), .val (.int p2), .val (.int p3), .val (.int p4), .val (.int p5), .val (.int nn), .val (.int kk), .val (.int f7), .val (.int f8), .val (.int m2), .val (.int cv), .val (.ref b354), .val (.ref b395), .unset, .unset, .unset, .unset, .unset, .unset, .unset] [(.int x4), (.int 4), (.ref b436), (.ref b436)])) rfl rfl (hb hby at_201)
        have N468 := Fr.snoc X468 N462 ge_b436
        have F469 : Safe Z own_EL vm393 h462 b436 := (Safe.wr W462 F463 CR458.1 F463)
        have CR470 : CHr Z own_EL s.vm h0 vm393 h468 := CHr.trans CR464 (CHr.wr W468 F469 CR464.1)
        have Z471 : n0 ≤ h468.size := Nat.le_trans Z465 (Nat.le_of_eq (Wr.size W468).symm)
        have hk471 := Nat.le_trans hk465 (Nat.le_of_eq (Wr.size W468).symm)
        have F472 : Arv Z h468 b436 k436 .char (8 : Int32) [(.int x0), (.int x1), (.int x2), (.int x3), (.int x4), (.int 0), (.int 0), (.int 0)] (.int 0) := V468
        refine own_st (T' := T468) (g' := (mkF m 202 #[.val (.int p1), .val (.int p2), .val (.int p3), .val (.int p4), .val (.int p5), .val (.int nn), .val (.int kk), .val (.int f7), .val (.int f8), .val (.int m2), .val (.int cv), .val (.ref b354), .val (.ref b395), .unset, .unset, .unset, .unset, .unset, .unset, .unset] [(.ref b436)])) st468 ?_
        refine own_st (T' := T468) (g' := (mkF m 207 #[.val (.int p1), .val (.int p2), .val (.int p3), .val (.int p4), .val (.int p5), .val (.int nn), .val (.int kk), .val (.int f7), .val (.int f8), .val (.int m2), .val (.int cv), .val (.ref b354), .val (.ref b395), .unset, .unset, .unset, .unset, .unset, .unset, .unset] [(.int 5), (.ref b354), (.int 5), (.ref b436), (.ref b436)])) (fun _ kt => XS.dup X468.here hx rfl (hb hby at_202) rfl rfl (XS.iconst X468.here hx rfl (hb hby at_203) (XS.aload X468.here hx rfl (hb hby at_204) rfl rfl (XS.iconst X468.here hx rfl (hb hby at_206) kt)))) ?_
        have F473 : Arv Z h468 b354 k354 .char (7 : Int32) [(.int x0), (.int x1), (.int x2), (.int x3), (.int x4), (.int x5), (.int x6)] (.int 0) := (Arv.other F467 W468 ne438)
        refine own_st (T' := T468) (g' := (mkF m 208 #[.val (.int p1), .val (.int p2), .val (.int p3), .val (.int p4), .val (.int p5), .val (.int nn), .val (.int kk), .val (.int f7), .val (.int f8), .val (.int m2), .val (.int cv), .val (.ref b354), .val (.ref b395), .unset, .unset, .unset, .unset, .unset, .unset, .unset] [(.int x5), (.int 5), (.ref b436), (.ref b436)])) (own_cal X468 hx hZ393 e468 F473 ⟨by decide, by decide⟩ rfl (g := (mkF m 207 #[.val (.int p1), .val (.int p2), .val (.int p3), .val (.int p4), .val (.int p5), .val (.int nn), .val (.int kk), .val (.int f7), .val (.int f8), .val (.int m2), .val (.int cv), .val (.ref b354), .val (.ref b395), .unset, .unset, .unset, .unset, .unset, .unset, .unset] [(.int 5), (.ref b354), (.int 5), (.ref b436), (.ref b436)])) rfl rfl (hb hby at_207)) ?_
        obtain ⟨T474, h474, X474, e474, W474, V474, st474⟩ := own_cst X468 hx hZ393 e468 F472 ⟨by decide, by decide⟩ (i := 5) rfl (by simp) (y := x5) hx5.2.2 (g := (mkF m 208 #[.val (.int p1), .val (.int p2), .val (.int p3), .val (.int p4), .val (.int p5), .val (.int nn), .val (.int kk), .val (.int f7), .val (.int f8), .val (.int m2), .val (.int cv), .val (.ref b354), .val (.ref b395), .unset, .unset, .unset, .unset, .unset, .unset, .unset] [(.int x5), (.int 5), (.ref b436), (.ref b436)])) rfl rfl (hb hby at_208)
        have N474 := Fr.snoc X474 N468 ge_b436
        have F475 : Safe Z own_EL vm393 h468 b436 := (Safe.wr W468 F469 CR464.1 F469)
        have CR476 : CHr Z own_EL s.vm h0 vm393 h474 := CHr.trans CR470 (CHr.wr W474 F475 CR470.1)
        have Z477 : n0 ≤ h474.size := Nat.le_trans Z471 (Nat.le_of_eq (Wr.size W474).symm)
        have hk477 := Nat.le_trans hk471 (Nat.le_of_eq (Wr.size W474).symm)
        have F478 : Arv Z h474 b436 k436 .char (8 : Int32) [(.int x0), (.int x1), (.int x2), (.int x3), (.int x4), (.int x5), (.int 0), (.int 0)] (.int 0) := V474
        refine own_st (T' := T474) (g' := (mkF m 209 #[.val (.int p1), .val (.int p2), .val (.int p3), .val (.int p4), .val (.int p5), .val (.int nn), .val (.int kk), .val (.int f7), .val (.int f8), .val (.int m2), .val (.int cv), .val (.ref b354), .val (.ref b395), .unset, .unset, .unset, .unset, .unset, .unset, .unset] [(.ref b436)])) st474 ?_
        refine own_st (T' := T474) (g' := (mkF m 216 #[.val (.int p1), .val (.int p2), .val (.int p3), .val (.int p4), .val (.int p5), .val (.int nn), .val (.int kk), .val (.int f7), .val (.int f8), .val (.int m2), .val (.int cv), .val (.ref b354), .val (.ref b395), .unset, .unset, .unset, .unset, .unset, .unset, .unset] [(.int 6), (.ref b354), (.int 6), (.ref b436), (.ref b436)])) (fun _ kt => XS.dup X474.here hx rfl (hb hby at_209) rfl rfl (XS.bipush X474.here hx rfl (hb hby at_210) (XS.aload X474.here hx rfl (hb hby at_212) rfl rfl (XS.bipush X474.here hx rfl (hb hby at_214) kt)))) ?_
        have F479 : Arv Z h474 b354 k354 .char (7 : Int32) [(.int x0), (.int x1), (.int x2), (.int x3), (.int x4), (.int x5), (.int x6)] (.int 0) := (Arv.other F473 W474 ne438)
        refine own_st (T' := T474) (g' := (mkF m 217 #[.val (.int p1), .val (.int p2), .val (.int p3), .val (.int p4), .val (.int p5), .val (.int nn), .val (.int kk), .val (.int f7), .val (.int f8), .val (.int m2), .val (.int cv), .val (.ref b354), .val (.ref b395), .unset, .unset, .unset, .unset, .unset, .unset, .unset] [(.int x6), (.int 6), (.ref b436), (.ref b436)])) (own_cal X474 hx hZ393 e474 F479 ⟨by decide, by decide⟩ rfl (g := (mkF m 216 #[.val (.int p1), .val (.int p2), .val (.int p3), .val (.int p4), .val (.int p5), .val (.int nn), .val (.int kk), .val (.int f7), .val (.int f8), .val (.int m2), .val (.int cv), .val (.ref b354), .val (.ref b395), .unset, .unset, .unset, .unset, .unset, .unset, .unset] [(.int 6), (.ref b354), (.int 6), (.ref b436), (.ref b436)])) rfl rfl (hb hby at_216)) ?_
        obtain ⟨T480, h480, X480, e480, W480, V480, st480⟩ := own_cst X474 hx hZ393 e474 F478 ⟨by decide, by decide⟩ (i := 6) rfl (by simp) (y := x6) hx6.2.2 (g := (mkF m 217 #[.val (.int p1), .val (.int p2), .val (.int p3), .val (.int p4), .val (.int p5), .val (.int nn), .val (.int kk), .val (.int f7), .val (.int f8), .val (.int m2), .val (.int cv), .val (.ref b354), .val (.ref b395), .unset, .unset, .unset, .unset, .unset, .unset, .unset] [(.int x6), (.int 6), (.ref b436), (.ref b436)])) rfl rfl (hb hby at_217)
        have N480 := Fr.snoc X480 N474 ge_b436
        have F481 : Safe Z own_EL vm393 h474 b436 := (Safe.wr W474 F475 CR470.1 F475)
        have CR482 : CHr Z own_EL s.vm h0 vm393 h480 := CHr.trans CR476 (CHr.wr W480 F481 CR476.1)
        have Z483 : n0 ≤ h480.size := Nat.le_trans Z477 (Nat.le_of_eq (Wr.size W480).symm)
        have hk483 := Nat.le_trans hk477 (Nat.le_of_eq (Wr.size W480).symm)
        have F484 : Arv Z h480 b436 k436 .char (8 : Int32) [(.int x0), (.int x1), (.int x2), (.int x3), (.int x4), (.int x5), (.int x6), (.int 0)] (.int 0) := V480
        refine own_st (T' := T480) (g' := (mkF m 218 #[.val (.int p1), .val (.int p2), .val (.int p3), .val (.int p4), .val (.int p5), .val (.int nn), .val (.int kk), .val (.int f7), .val (.int f8), .val (.int m2), .val (.int cv), .val (.ref b354), .val (.ref b395), .unset, .unset, .unset, .unset, .unset, .unset, .unset] [(.ref b436)])) st480 ?_
        refine own_st (T' := T480) (g' := (mkF m 227 #[.val (.int p1), .val (.int p2), .val (.int p3), .val (.int p4), .val (.int p5), .val (.int nn), .val (.int kk), .val (.int f7), .val (.int f8), .val (.int m2), .val (.int cv), .val (.ref b354), .val (.ref b395), .unset, .unset, .unset, .unset, .unset, .unset, .unset] [(.int ((p4 &&& (255 : Int32)).toUInt32.toUInt16.toUInt32.toInt32)), (.int 7), (.ref b436), (.ref b436)])) (fun _ kt => XS.dup X480.here hx rfl (hb hby at_218) rfl rfl (XS.bipush X480.here hx rfl (hb hby at_219) (XS.iloadN X480.here hx rfl (hb hby at_221) rfl (XS.sipush X480.here hx rfl (hb hby at_222) (XS.iand X480.here hx rfl (hb hby at_225) rfl (XT.i2c X480.here hx rfl (hb hby at_226) rfl kt)))))) ?_
        obtain ⟨dv, hdv⟩ : ∃ z : Int32, z = ((p4 &&& (255 : Int32)).toUInt32.toUInt16.toUInt32.toInt32) := ⟨_, rfl⟩
        rw [← hdv]
        have b_dv : own_cc dv := hdv ▸ own_mkc _
        obtain ⟨T485, h485, X485, e485, W485, V485, st485⟩ := own_cst X480 hx hZ393 e480 F484 ⟨by decide, by decide⟩ (i := 7) rfl (by simp) (y := dv) b_dv.2.2 (g := (mkF m 227 #[.val (.int p1), .val (.int p2), .val (.int p3), .val (.int p4), .val (.int p5), .val (.int nn), .val (.int kk), .val (.int f7), .val (.int f8), .val (.int m2), .val (.int cv), .val (.ref b354), .val (.ref b395), .unset, .unset, .unset, .unset, .unset, .unset, .unset] [(.int dv), (.int 7), (.ref b436), (.ref b436)])) rfl rfl (hb hby at_227)
        have N485 := Fr.snoc X485 N480 ge_b436
        have F486 : Safe Z own_EL vm393 h480 b436 := (Safe.wr W480 F481 CR476.1 F481)
        have CR487 : CHr Z own_EL s.vm h0 vm393 h485 := CHr.trans CR482 (CHr.wr W485 F486 CR482.1)
        have Z488 : n0 ≤ h485.size := Nat.le_trans Z483 (Nat.le_of_eq (Wr.size W485).symm)
        have hk488 := Nat.le_trans hk483 (Nat.le_of_eq (Wr.size W485).symm)
        have F489 : Arv Z h485 b436 k436 .char (8 : Int32) [(.int x0), (.int x1), (.int x2), (.int x3), (.int x4), (.int x5), (.int x6), (.int dv)] (.int 0) := V485
        refine own_st (T' := T485) (g' := (mkF m 228 #[.val (.int p1), .val (.int p2), .val (.int p3), .val (.int p4), .val (.int p5), .val (.int nn), .val (.int kk), .val (.int f7), .val (.int f8), .val (.int m2), .val (.int cv), .val (.ref b354), .val (.ref b395), .unset, .unset, .unset, .unset, .unset, .unset, .unset] [(.ref b436)])) st485 ?_
        refine own_st (T' := T485) (g' := (mkF m 230 #[.val (.int p1), .val (.int p2), .val (.int p3), .val (.int p4), .val (.int p5), .val (.int nn), .val (.int kk), .val (.int f7), .val (.int f8), .val (.int m2), .val (.int cv), .val (.ref b354), .val (.ref b395), .val (.ref b436), .unset, .unset, .unset, .unset, .unset, .unset] [])) (fun _ kt => XS.astore X485.here hx rfl (hb hby at_228) rfl rfl (l' := #[.val (.int p1), .val (.int p2), .val (.int p3), .val (.int p4), .val (.int p5), .val (.int nn), .val (.int kk), .val (.int f7), .val (.int f8), .val (.int m2), .val (.int cv), .val (.ref b354), .val (.ref b395), .val (.ref b436), .unset, .unset, .unset, .unset, .unset, .unset]) rfl kt) ?_
        refine own_joinHV (α := Addr × Addr × ClassId × Int32 × List Value × Int32) X485 (cells' := 9) (slots' := 101) (gj := fun q => (mkF m 285 #[.val (.int p1), .val (.int p2), .val (.int p3), .val (.int p4), .val (.int p5), .val (.int nn), .val (.int kk), .val (.int f7), .val (.int f8), .val (.int m2), .val (.int cv), .val (.ref b354), .val (.ref b395), .val (.ref b436), .unset, .unset, .unset, .unset, .unset, .unset] [(.ref q.1)])) (P := fun vm_ k_ L_ h_ q => (Fr n0 L_) ∧ (n0 ≤ h_.size) ∧ (Old Z n0 h_) ∧ (CHr Z own_EL s.vm h0 vm_ h_) ∧ (s.Since vm_ k_) ∧ (k_ ≤ h_.size) ∧ (Z.Warmed39 (s.setVm vm_).vm) ∧ ((s.setVm vm_).vm.findClass "com/example/tourwerk/tourwerk/problem/SolomonReaderRecognisesPinLaw" = some m.cls) ∧ (Exa Z h_ q.1 "java/lang/String") ∧ (Fld Z h_ q.1 "java/lang/String" "coder" "B" (.int 0)) ∧ (Fld Z h_ q.1 "java/lang/String" "value" "[B" (.ref q.2.1)) ∧ (Arv Z h_ q.2.1 q.2.2.1 .byte q.2.2.2.1 q.2.2.2.2.1 (.int 0)) ∧ (((kk = 0 ∧ q.2.2.2.2.2 = (own_m7 x0 x1 x2 x3 x4 x5 x6)) ∨ (¬ kk = 0 ∧ q.2.2.2.2.2 = 0)) ∧ ((q.2.2.2.1 = 7 ∧ q.2.2.2.2.1 = [(.int x0.toInt8.toInt32), (.int x1.toInt8.toInt32), (.int x2.toInt8.toInt32), (.int x3.toInt8.toInt32), (.int x4.toInt8.toInt32), (.int x5.toInt8.toInt32), (.int x6.toInt8.toInt32)] ∧ q.2.2.2.2.2 = (own_m7 x0 x1 x2 x3 x4 x5 x6)) ∨ (¬ q.2.2.2.1 = 7 ∧ q.2.2.2.2.2 = 0) ∨ (q.2.2.2.1 = 7 ∧ q.2.2.2.2.1 = [(.int 118), (.int 101), (.int 104), (.int 105), (.int 99), (.int 108), (.int 101)] ∧ q.2.2.2.2.2 = 0)))) ?_ (fun J490 => ?_)
        · rintro vm490 k490 T490 L490 h490 ⟨y, t, kt, zz, vl, rr⟩ ⟨N490, Z490, O490, CR490, hS490, hk490, hZ490, hown490, F491, F492, F493, F494, hj490⟩ X490 e490
          try dsimp only at F491 F492 F493 F494 hj490 ⊢
          obtain ⟨hpk, hans⟩ := hj490
          refine own_st (T' := T490) (g' := (mkF m 287 #[.val (.int p1), .val (.int p2), .val (.int p3), .val (.int p4), .val (.int p5), .val (.int nn), .val (.int kk), .val (.int f7), .val (.int f8), .val (.int m2), .val (.int cv), .val (.ref b354), .val (.ref b395), .val (.ref b436), .val (.ref y), .unset, .unset, .unset, .unset, .unset] [])) (fun _ kt => XS.astore X490.here hx rfl (hb hby at_285) rfl rfl (l' := #[.val (.int p1), .val (.int p2), .val (.int p3), .val (.int p4), .val (.int p5), .val (.int nn), .val (.int kk), .val (.int f7), .val (.int f8), .val (.int m2), .val (.int cv), .val (.ref b354), .val (.ref b395), .val (.ref b436), .val (.ref y), .unset, .unset, .unset, .unset, .unset]) rfl kt) ?_
          refine own_joinHV (α := Addr) X490 (cells' := 13) (slots' := 161) (gj := fun q => (mkF m 307 #[.val (.int p1), .val (.int p2), .val (.int p3), .val (.int p4), .val (.int p5), .val (.int nn), .val (.int kk), .val (.int f7), .val (.int f8), .val (.int m2), .val (.int cv), .val (.ref b354), .val (.ref b395), .val (.ref b436), .val (.ref y), .unset, .unset, .unset, .unset, .unset] [(.ref q)])) (P := fun vm_ k_ L_ h_ q => (Fr n0 L_) ∧ (n0 ≤ h_.size) ∧ (Old Z n0 h_) ∧ (CHr Z own_EL s.vm h0 vm_ h_) ∧ (s.Since vm_ k_) ∧ (k_ ≤ h_.size) ∧ (Z.Warmed39 (s.setVm vm_).vm) ∧ ((s.setVm vm_).vm.findClass "com/example/tourwerk/tourwerk/problem/SolomonReaderRecognisesPinLaw" = some m.cls) ∧ (Exa Z h_ y "java/lang/String") ∧ (Fld Z h_ y "java/lang/String" "coder" "B" (.int 0)) ∧ (Fld Z h_ y "java/lang/String" "value" "[B" (.ref t)) ∧ (Arv Z h_ t kt .byte zz vl (.int 0)) ∧ (Exa Z h_ q "java/lang/String")) ?_ (fun J495 => ?_)
          · rintro vm495 k495 T495 L495 h495 u1 ⟨N495, Z495, O495, CR495, hS495, hk495, hZ495, hown495, F496, F497, F498, F499, F500⟩ X495 e495
            try dsimp only at F496 F497 F498 F499 F500 ⊢
            refine own_st (T' := T495) (g' := (mkF m 309 #[.val (.int p1), .val (.int p2), .val (.int p3), .val (.int p4), .val (.int p5), .val (.int nn), .val (.int kk), .val (.int f7), .val (.int f8), .val (.int m2), .val (.int cv), .val (.ref b354), .val (.ref b395), .val (.ref b436), .val (.ref y), .val (.ref u1), .unset, .unset, .unset, .unset] [])) (fun _ kt => XS.astore X495.here hx rfl (hb hby at_307) rfl rfl (l' := #[.val (.int p1), .val (.int p2), .val (.int p3), .val (.int p4), .val (.int p5), .val (.int nn), .val (.int kk), .val (.int f7), .val (.int f8), .val (.int m2), .val (.int cv), .val (.ref b354), .val (.ref b395), .val (.ref b436), .val (.ref y), .val (.ref u1), .unset, .unset, .unset, .unset]) rfl kt) ?_
            refine own_joinHV (α := Addr) X495 (cells' := 17) (slots' := 221) (gj := fun q => (mkF m 332 #[.val (.int p1), .val (.int p2), .val (.int p3), .val (.int p4), .val (.int p5), .val (.int nn), .val (.int kk), .val (.int f7), .val (.int f8), .val (.int m2), .val (.int cv), .val (.ref b354), .val (.ref b395), .val (.ref b436), .val (.ref y), .val (.ref u1), .unset, .unset, .unset, .unset] [(.ref q)])) (P := fun vm_ k_ L_ h_ q => (Fr n0 L_) ∧ (n0 ≤ h_.size) ∧ (Old Z n0 h_) ∧ (CHr Z own_EL s.vm h0 vm_ h_) ∧ (s.Since vm_ k_) ∧ (k_ ≤ h_.size) ∧ (Z.Warmed39 (s.setVm vm_).vm) ∧ ((s.setVm vm_).vm.findClass "com/example/tourwerk/tourwerk/problem/SolomonReaderRecognisesPinLaw" = some m.cls) ∧ (Exa Z h_ y "java/lang/String") ∧ (Fld Z h_ y "java/lang/String" "coder" "B" (.int 0)) ∧ (Fld Z h_ y "java/lang/String" "value" "[B" (.ref t)) ∧ (Arv Z h_ t kt .byte zz vl (.int 0)) ∧ (Exa Z h_ u1 "java/lang/String") ∧ (Exa Z h_ q "java/lang/String")) ?_ (fun J501 => ?_)
            · rintro vm501 k501 T501 L501 h501 u2 ⟨N501, Z501, O501, CR501, hS501, hk501, hZ501, hown501, F502, F503, F504, F505, F506, F507⟩ X501 e501
              try dsimp only at F502 F503 F504 F505 F506 F507 ⊢
              refine own_st (T' := T501) (g' := (mkF m 334 #[.val (.int p1), .val (.int p2), .val (.int p3), .val (.int p4), .val (.int p5), .val (.int nn), .val (.int kk), .val (.int f7), .val (.int f8), .val (.int m2), .val (.int cv), .val (.ref b354), .val (.ref b395), .val (.ref b436), .val (.ref y), .val (.ref u1), .val (.ref u2), .unset, .unset, .unset] [])) (fun _ kt => XS.astore X501.here hx rfl (hb hby at_332) rfl rfl (l' := #[.val (.int p1), .val (.int p2), .val (.int p3), .val (.int p4), .val (.int p5), .val (.int nn), .val (.int kk), .val (.int f7), .val (.int f8), .val (.int m2), .val (.int cv), .val (.ref b354), .val (.ref b395), .val (.ref b436), .val (.ref y), .val (.ref u1), .val (.ref u2), .unset, .unset, .unset]) rfl kt) ?_
              obtain ⟨T508, h508, X508, e508, E508, A508, D508, -, st508⟩ := newO X501 hx hZ501 hown501 (own_k hw 45 rfl) (own_k hw 46 rfl) (own_k hw 47 rfl) e501 (g := (mkF m 334 #[.val (.int p1), .val (.int p2), .val (.int p3), .val (.int p4), .val (.int p5), .val (.int nn), .val (.int kk), .val (.int f7), .val (.int f8), .val (.int m2), .val (.int cv), .val (.ref b354), .val (.ref b395), .val (.ref b436), .val (.ref y), .val (.ref u1), .val (.ref u2), .unset, .unset, .unset] [])) rfl (hb hby at_334) (by decide) (by decide)
              obtain ⟨b508, g508⟩ : ∃ z, z = h501.size := ⟨_, rfl⟩
              rw [← g508] at A508 D508 st508
              have ne509 : y ≠ b508 := by rw [g508]; exact Nat.ne_of_lt F502.lt
              have ne510 : t ≠ b508 := by rw [g508]; exact Nat.ne_of_lt F505.lt
              have ne511 : u1 ≠ b508 := by rw [g508]; exact Nat.ne_of_lt F506.lt
              have ne512 : u2 ≠ b508 := by rw [g508]; exact Nat.ne_of_lt F507.lt
              have CR513 : CHr Z own_EL s.vm h0 vm501 h508 := CHr.trans CR501 (CHr.ext E508 CR501.1)
              have Z514 : n0 ≤ h508.size := Nat.le_trans Z501 E508.1
              have hk514 := Nat.le_trans hk501 E508.1
              have ge_b508 : n0 ≤ b508 := Nat.le_trans Z501 (Nat.le_of_eq g508.symm)
              have S515 : Safe Z own_EL vm501 h508 b508 := (Safe.ext E508 CR501.1 (Safe.new (Nat.le_of_eq g508.symm)))
              have F516 : Fld Z h508 b508 "java/util/AbstractList" "modCount" "I" (.int 0) := D508 (Or.inl (own_k hw 65 rfl)) (ty := .int) (by decide)
              have F517 : Fld Z h508 b508 "java/util/ArrayList" "elementData" "[Ljava/lang/Object;" .null := D508 (Or.inl (own_k hw 68 rfl)) (ty := (.array (.object "java/lang/Object"))) (by decide)
              have F518 : Fld Z h508 b508 "java/util/ArrayList" "size" "I" (.int 0) := D508 (Or.inl (own_k hw 107 rfl)) (ty := .int) (by decide)
              refine own_st (T' := T508) (g' := (mkF m 337 #[.val (.int p1), .val (.int p2), .val (.int p3), .val (.int p4), .val (.int p5), .val (.int nn), .val (.int kk), .val (.int f7), .val (.int f8), .val (.int m2), .val (.int cv), .val (.ref b354), .val (.ref b395), .val (.ref b436), .val (.ref y), .val (.ref u1), .val (.ref u2), .unset, .unset, .unset] [(.ref b508)])) st508 ?_
              refine own_st (T' := T508) (g' := (mkF m 338 #[.val (.int p1), .val (.int p2), .val (.int p3), .val (.int p4), .val (.int p5), .val (.int nn), .val (.int kk), .val (.int f7), .val (.int f8), .val (.int m2), .val (.int cv), .val (.ref b354), .val (.ref b395), .val (.ref b436), .val (.ref y), .val (.ref u1), .val (.ref u2), .unset, .unset, .unset] [(.ref b508), (.ref b508)])) (fun _ kt => XS.dup X508.here hx rfl (hb hby at_337) rfl rfl kt) ?_
              have F519 : Old Z n0 h508 := (Old.ext O501 E508)
              obtain ⟨_, _, ⟨T520, L520, k520, n520⟩, -, X520, ⟨Lc520, hQ520, l520, y520, z520⟩, st520⟩ := X508.specialBack hx (y := (⟨"java/util/ArrayList", "<init>", "()V"⟩ : MethodName)) rfl hown501 (mvT hZ501 (own_k hw 48 rfl)) (mvT hZ501 (own_k hw 49 rfl)) (mvT hZ501 (own_k hw 50 rfl)) (by decide) (backOf (W := 1) (own_ali l Z a0 hw [] b508 de h508 n0 Z514 F519 pr6 A508 ge_b508 F516 F517 F518) hZ501 (own_k hw 50 rfl) (own_k hw 47 rfl) (by decide) (by decide)) (g := (mkF m 338 #[.val (.int p1), .val (.int p2), .val (.int p3), .val (.int p4), .val (.int p5), .val (.int nn), .val (.int kk), .val (.int f7), .val (.int f8), .val (.int m2), .val (.int cv), .val (.ref b354), .val (.ref b395), .val (.ref b436), .val (.ref y), .val (.ref u1), .val (.ref u2), .unset, .unset, .unset] [(.ref b508), (.ref b508)])) rfl hml.symm (Steps.refl _) (a := b508) (argsL := []) (rest := [(.ref b508)]) (lenOf own_pd9 rfl) rfl (own_w0 rfl rfl) (hb hby at_338) (fun _ _ => ⟨rfl, e508, (by decide : 18 + 0 ≤ 40), (by decide : 224 + 0 ≤ 3264)⟩)
              dsimp only [Pt.U, Pt.locs, Pt.cells, Pt.slots] at X520 l520 y520 z520 st520 hQ520
              subst l520 y520 z520
              obtain ⟨rfl, N520, K520_, P521, P522, P523, P524⟩ := hQ520
              have N525 := Fr.app N501 N520
              have CR526 : CHr Z own_EL s.vm h0 vm501 T520.heap := CHr.trans CR513 (CHr.keep K520_ (sfS S515 sf0) CR513.1)
              have Z527 : n0 ≤ T520.heap.size := Nat.le_trans Z514 K520_.1
              have hk527 := Nat.le_trans hk514 K520_.1
              refine own_tr (T' := T520) (g' := (mkF m 341 #[.val (.int p1), .val (.int p2), .val (.int p3), .val (.int p4), .val (.int p5), .val (.int nn), .val (.int kk), .val (.int f7), .val (.int f8), .val (.int m2), .val (.int cv), .val (.ref b354), .val (.ref b395), .val (.ref b436), .val (.ref y), .val (.ref u1), .val (.ref u2), .unset, .unset, .unset] [(.ref b508)])) st520 ?_
              refine own_st (T' := T520) (g' := (mkF m 343 #[.val (.int p1), .val (.int p2), .val (.int p3), .val (.int p4), .val (.int p5), .val (.int nn), .val (.int kk), .val (.int f7), .val (.int f8), .val (.int m2), .val (.int cv), .val (.ref b354), .val (.ref b395), .val (.ref b436), .val (.ref y), .val (.ref u1), .val (.ref u2), .val (.ref b508), .unset, .unset] [])) (fun _ kt => XS.astore X520.here hx rfl (hb hby at_341) rfl rfl (l' := #[.val (.int p1), .val (.int p2), .val (.int p3), .val (.int p4), .val (.int p5), .val (.int nn), .val (.int kk), .val (.int f7), .val (.int f8), .val (.int m2), .val (.int cv), .val (.ref b354), .val (.ref b395), .val (.ref b436), .val (.ref y), .val (.ref u1), .val (.ref u2), .val (.ref b508), .unset, .unset]) rfl kt) ?_
              rcases q_nn with rfl | rfl | rfl | rfl
              ·
                refine own_st (T' := T520) (g' := (mkF m 385 #[.val (.int p1), .val (.int p2), .val (.int p3), .val (.int p4), .val (.int p5), .val (.int 0), .val (.int kk), .val (.int f7), .val (.int f8), .val (.int m2), .val (.int cv), .val (.ref b354), .val (.ref b395), .val (.ref b436), .val (.ref y), .val (.ref u1), .val (.ref u2), .val (.ref b508), .unset, .unset] [])) (fun _ kt => XS.iload X520.here hx rfl (hb hby at_343) rfl (XS.iconst X520.here hx rfl (hb hby at_345) (XS.icmpYes X520.here hx rfl (pc0 := 346) (pc' := 357) rfl (hb hby at_346) rfl (XT.ii_lt_t (by decide)) (by decide) (by decide) (XS.iload X520.here hx rfl (hb hby at_357) rfl (XS.iconst X520.here hx rfl (hb hby at_359) (XS.icmpYes X520.here hx rfl (pc0 := 360) (pc' := 371) rfl (hb hby at_360) rfl (XT.ii_lt_t (by decide)) (by decide) (by decide) (XS.iload X520.here hx rfl (hb hby at_371) rfl (XS.iconst X520.here hx rfl (hb hby at_373) (XS.icmpYes X520.here hx rfl (pc0 := 374) (pc' := 385) rfl (hb hby at_374) rfl (XT.ii_lt_t (by decide)) (by decide) (by decide) kt))))))))) ?_
                refine own_joinHV (α := Int32) X520 (cells' := 22) (slots' := 284) (gj := fun q => (mkF m 414 #[.val (.int p1), .val (.int p2), .val (.int p3), .val (.int p4), .val (.int p5), .val (.int 0), .val (.int kk), .val (.int f7), .val (.int f8), .val (.int m2), .val (.int cv), .val (.ref b354), .val (.ref b395), .val (.ref b436), .val (.ref y), .val (.ref u1), .val (.ref u2), .val (.ref b508), .unset, .unset] [(.int q)])) (P := fun vm_ k_ L_ h_ q => (Fr n0 L_) ∧ (n0 ≤ h_.size) ∧ (Old Z n0 h_) ∧ (CHr Z own_EL s.vm h0 vm_ h_) ∧ (s.Since vm_ k_) ∧ (k_ ≤ h_.size) ∧ (Z.Warmed39 (s.setVm vm_).vm) ∧ ((s.setVm vm_).vm.findClass "com/example/tourwerk/tourwerk/problem/SolomonReaderRecognisesPinLaw" = some m.cls) ∧ (Exa Z h_ y "java/lang/String") ∧ (Fld Z h_ y "java/lang/String" "coder" "B" (.int 0)) ∧ (Fld Z h_ y "java/lang/String" "value" "[B" (.ref t)) ∧ (Arv Z h_ t kt .byte zz vl (.int 0)) ∧ (Exa Z h_ u1 "java/lang/String") ∧ (Exa Z h_ u2 "java/lang/String") ∧ (Exa Z h_ b508 "java/util/ArrayList") ∧ (Fld Z h_ b508 "java/util/AbstractList" "modCount" "I" (.int 0)) ∧ (Fld Z h_ b508 "java/util/ArrayList" "elementData" "[Ljava/lang/Object;" (.ref de)) ∧ (Fld Z h_ b508 "java/util/ArrayList" "size" "I" (.int 0)) ∧ (q = own_l18 kk m2 cv)) ?_ (fun J528 => ?_)
                · rintro vm528 k528 T528 L528 h528 ex ⟨N528, Z528, O528, CR528, hS528, hk528, hZ528, hown528, F529, F530, F531, F532, F533, F534, F535, F536, F537, F538, hj528⟩ X528 e528
                  try dsimp only at F529 F530 F531 F532 F533 F534 F535 F536 F537 F538 hj528 ⊢
                  refine own_st (T' := T528) (g' := (mkF m 436 #[.val (.int p1), .val (.int p2), .val (.int p3), .val (.int p4), .val (.int p5), .val (.int 0), .val (.int kk), .val (.int f7), .val (.int f8), .val (.int m2), .val (.int cv), .val (.ref b354), .val (.ref b395), .val (.ref b436), .val (.ref y), .val (.ref u1), .val (.ref u2), .val (.ref b508), .val (.int ex), .val (.int 0)] [(.ref b508)])) (fun _ kt => XS.istore X528.here hx rfl (hb hby at_414) rfl (l' := #[.val (.int p1), .val (.int p2), .val (.int p3), .val (.int p4), .val (.int p5), .val (.int 0), .val (.int kk), .val (.int f7), .val (.int f8), .val (.int m2), .val (.int cv), .val (.ref b354), .val (.ref b395), .val (.ref b436), .val (.ref y), .val (.ref u1), .val (.ref u2), .val (.ref b508), .val (.int ex), .unset]) rfl (XS.iload X528.here hx rfl (hb hby at_416) rfl (XS.iconst X528.here hx rfl (hb hby at_418) (XS.icmpYes X528.here hx rfl (pc0 := 419) (pc' := 431) rfl (hb hby at_419) rfl (XT.ii_lt_t (by decide)) (by decide) (by decide) (XS.iconst X528.here hx rfl (hb hby at_431) (XS.istore X528.here hx rfl (hb hby at_432) rfl (l' := #[.val (.int p1), .val (.int p2), .val (.int p3), .val (.int p4), .val (.int p5), .val (.int 0), .val (.int kk), .val (.int f7), .val (.int f8), .val (.int m2), .val (.int cv), .val (.ref b354), .val (.ref b395), .val (.ref b436), .val (.ref y), .val (.ref u1), .val (.ref u2), .val (.ref b508), .val (.int ex), .val (.int 0)]) rfl (XS.aload X528.here hx rfl (hb hby at_434) rfl rfl kt))))))) ?_
                  obtain ⟨_, _, ⟨T539, L539, k539, n539⟩, -, X539, ⟨Lc539, hQ539, l539, y539, z539⟩, st539⟩ := Jvm.LawKit.callS X528 hx (y := yN3) hown528 (mvT hZ528 (own_k hw 93 rfl)) (mvT hZ528 (own_k hw 94 rfl)) (mvT hZ528 (own_k hw 95 rfl)) (mvT hZ528 (own_k hw 96 rfl)) (by decide) (backOf (W := 0) (own_rc0 l Z a0 hw [] b508 (0 : Int32) h528 n0 Z528 F535 F538 (show (0 : Int32) < (2 : Int32) from (by decide))) hZ528 (own_k hw 96 rfl) (own_k hw 95 rfl) (by decide) (by decide)) (g := (mkF m 436 #[.val (.int p1), .val (.int p2), .val (.int p3), .val (.int p4), .val (.int p5), .val (.int 0), .val (.int kk), .val (.int f7), .val (.int f8), .val (.int m2), .val (.int cv), .val (.ref b354), .val (.ref b395), .val (.ref b436), .val (.ref y), .val (.ref u1), .val (.ref u2), .val (.ref b508), .val (.int ex), .val (.int 0)] [(.ref b508)])) rfl hml.symm  (argsL := [(.ref b508)]) (rest := []) (lenOf own_pd17 rfl) rfl (own_w0 rfl rfl) (hb hby at_436) (fun _ _ => ⟨rfl, e528, (by decide : 22 + 0 ≤ 40), (by decide : 284 + 0 ≤ 3264)⟩)
                  dsimp only [Pt.U, Pt.locs, Pt.cells, Pt.slots] at X539 l539 y539 z539 st539 hQ539
                  subst l539 y539 z539
                  obtain ⟨rfl, N539, e539⟩ := hQ539
                  have N540 := Fr.app N528 N539
                  refine own_st (T' := T539) (g' := (mkF m 439 #[.val (.int p1), .val (.int p2), .val (.int p3), .val (.int p4), .val (.int p5), .val (.int 0), .val (.int kk), .val (.int f7), .val (.int f8), .val (.int m2), .val (.int cv), .val (.ref b354), .val (.ref b395), .val (.ref b436), .val (.ref y), .val (.ref u1), .val (.ref u2), .val (.ref b508), .val (.int ex), .val (.int 0)] [(.int 0)])) st539 ?_
                  refine own_st (T' := T539) (g' := (mkF m 449 #[.val (.int p1), .val (.int p2), .val (.int p3), .val (.int p4), .val (.int p5), .val (.int 0), .val (.int kk), .val (.int f7), .val (.int f8), .val (.int m2), .val (.int cv), .val (.ref b354), .val (.ref b395), .val (.ref b436), .val (.ref y), .val (.ref u1), .val (.ref u2), .val (.ref b508), .val (.int ex), .val (.int 0)] [(.int 1)])) (fun _ kt => XS.iload X539.here hx rfl (hb hby at_439) rfl (XS.icmpNo X539.here hx rfl (hb hby at_441) rfl (XT.ii_ne_f rfl) (XS.iconst X539.here hx rfl (hb hby at_444) (XS.goto X539.here hx rfl (pc0 := 445) (pc' := 449) rfl (hb hby at_445) (by decide) (by decide) kt)))) ?_
                  obtain ⟨fs, hr, hrun, hended, hE⟩ := Stand.leaveW X539 hS528 (by rw [e539]; exact hk528) (v := some (.int 1)) (fun h => by rw [Bd.returns] at h; cases h)
                  refine own_end (retN X539 hx (t := .boolean) Bd.returns (by simp) (hb hby at_449) hr) ⟨_, hrun, hended, _, _, rfl, ?_, (by rw [hh]; show CHr Z own_EL s.vm h0 T539.vm T539.heap; rw [e539]; exact CHr.trans CR528 (CHv.at X539 hZ528 (own_EW hw) CR528.1)), ⟨hE.1, hE.2.1, hE.2.2.1, hE.2.2.2.mono (by decide) (by decide)⟩⟩
                  show own_lawQ Z _ _ _ _ _ _ _ _ _ h0 n0 _ T539.heap _
                  rw [e539]
                  exact ⟨rfl, N540⟩
                ·
                  refine own_st (T' := T520) (g' := (mkF m 387 #[.val (.int p1), .val (.int p2), .val (.int p3), .val (.int p4), .val (.int p5), .val (.int 0), .val (.int kk), .val (.int f7), .val (.int f8), .val (.int m2), .val (.int cv), .val (.ref b354), .val (.ref b395), .val (.ref b436), .val (.ref y), .val (.ref u1), .val (.ref u2), .val (.ref b508), .unset, .unset] [(.int kk)])) (fun _ kt => XS.iload X520.here hx rfl (hb hby at_385) rfl kt) ?_
                  by_cases hc541 : kk = 0
                  ·
                    refine own_st (T' := T520) (g' := (mkF m 394 #[.val (.int p1), .val (.int p2), .val (.int p3), .val (.int p4), .val (.int p5), .val (.int 0), .val (.int kk), .val (.int f7), .val (.int f8), .val (.int m2), .val (.int cv), .val (.ref b354), .val (.ref b395), .val (.ref b436), .val (.ref y), .val (.ref u1), .val (.ref u2), .val (.ref b508), .unset, .unset] [(.int 7), (.int m2)])) (fun _ kt => XS.ifNo X520.here hx rfl (hb hby at_387) rfl (XT.i0_ne_f hc541) (XS.iload X520.here hx rfl (hb hby at_390) rfl (XS.bipush X520.here hx rfl (hb hby at_392) kt))) ?_
                    by_cases hc542 : m2 = (7 : Int32)
                    ·
                      refine own_st (T' := T520) (g' := (mkF m 414 #[.val (.int p1), .val (.int p2), .val (.int p3), .val (.int p4), .val (.int p5), .val (.int 0), .val (.int kk), .val (.int f7), .val (.int f8), .val (.int m2), .val (.int cv), .val (.ref b354), .val (.ref b395), .val (.ref b436), .val (.ref y), .val (.ref u1), .val (.ref u2), .val (.ref b508), .unset, .unset] [(.int 1)])) (fun _ kt => XS.icmpYes X520.here hx rfl (pc0 := 394) (pc' := 409) rfl (hb hby at_394) rfl (XT.ii_eq_t hc542) (by decide) (by decide) (XS.iconst X520.here hx rfl (hb hby at_409) (XS.goto X520.here hx rfl (pc0 := 410) (pc' := 414) rfl (hb hby at_410) (by decide) (by decide) kt))) ?_
                      have F543 : Old Z n0 T520.heap := (Old.keep F519 K520_ (allS ge_b508 all0))
                      have F544 : Exa Z T520.heap y "java/lang/String" := (Exa.keep (Exa.ext E508 F502) K520_)
                      have F545 : Fld Z T520.heap y "java/lang/String" "coder" "B" (.int 0) := (Fld.keep (Fld.ext E508 F503) K520_ (ninS ne509 nin0))
                      have F546 : Fld Z T520.heap y "java/lang/String" "value" "[B" (.ref t) := (Fld.keep (Fld.ext E508 F504) K520_ (ninS ne509 nin0))
                      have F547 : Arv Z T520.heap t kt .byte zz vl (.int 0) := (Arv.keep (F505.ext E508) K520_ (ninS ne510 nin0))
                      have F548 : Exa Z T520.heap u1 "java/lang/String" := (Exa.keep (Exa.ext E508 F506) K520_)
                      have F549 : Exa Z T520.heap u2 "java/lang/String" := (Exa.keep (Exa.ext E508 F507) K520_)
                      exact J528 _ _ _ _ _ (1 : Int32) ⟨N525, Z527, F543, CR526, hS501, hk527, hZ501, hown501, F544, F545, F546, F547, F548, F549, P521, P522, P523, P524, (by unfold own_l18; rw [if_pos hc541, hc542]; rfl)⟩ (X520.mono (by decide) (by decide)) rfl
                    ·
                      refine own_st (T' := T520) (g' := (mkF m 399 #[.val (.int p1), .val (.int p2), .val (.int p3), .val (.int p4), .val (.int p5), .val (.int 0), .val (.int kk), .val (.int f7), .val (.int f8), .val (.int m2), .val (.int cv), .val (.ref b354), .val (.ref b395), .val (.ref b436), .val (.ref y), .val (.ref u1), .val (.ref u2), .val (.ref b508), .unset, .unset] [(.int cv)])) (fun _ kt => XS.icmpNo X520.here hx rfl (hb hby at_394) rfl (XT.ii_eq_f hc542) (XS.iload X520.here hx rfl (hb hby at_397) rfl kt)) ?_
                      obtain ⟨b550, T550, h550, k550, d550, kd550, X550, e550, E550, hS550, hk550, hZ550, hown550, gE550, gC550, gV550, gA550, la550, lb550, hC550, -, hsf550, st550⟩ := ldcCH X520 hx hZ501 hown501 (own_k hw 69 rfl) (own_wS hw) rfl hS501 hk527 (own_EW hw) (show ("com/example/tourwerk/tourwerk/problem/SolomonReaderRecognisesPinLaw", 15) ∈ own_EL by simp [own_EL]) CR526.1 (vs := [(.int 86), (.int 69), (.int 72), (.int 73), (.int 67), (.int 76), (.int 69)]) (z := (7 : Int32)) ⟨by decide +kernel, by first | rfl | decide +kernel⟩ (by decide) rfl (g := (mkF m 399 #[.val (.int p1), .val (.int p2), .val (.int p3), .val (.int p4), .val (.int p5), .val (.int 0), .val (.int kk), .val (.int f7), .val (.int f8), .val (.int m2), .val (.int cv), .val (.ref b354), .val (.ref b395), .val (.ref b436), .val (.ref y), .val (.ref u1), .val (.ref u2), .val (.ref b508), .unset, .unset] [(.int cv)])) rfl (hb hby at_399) (n := 28) (by decide +kernel) (by decide) (by decide) (by decide)
                      have CR551 : CHr Z own_EL s.vm h0 T550.vm h550 := CHr.trans CR526 hC550
                      have Z552 : n0 ≤ h550.size := Nat.le_trans Z527 E550.1
                      have hk552 := Nat.le_trans hk527 E550.1
                      have F553 : Exa Z h550 y "java/lang/String" := (Exa.ext E550 (Exa.keep (Exa.ext E508 F502) K520_))
                      have F554 : Fld Z h550 y "java/lang/String" "value" "[B" (.ref t) := (Fld.ext E550 (Fld.keep (Fld.ext E508 F504) K520_ (ninS ne509 nin0)))
                      have F555 : Arv Z h550 t kt .byte zz vl (.int 0) := ((Arv.keep (F505.ext E508) K520_ (ninS ne510 nin0)).ext E550)
                      have F556 : Exa Z h550 u1 "java/lang/String" := (Exa.ext E550 (Exa.keep (Exa.ext E508 F506) K520_))
                      have F557 : Exa Z h550 u2 "java/lang/String" := (Exa.ext E550 (Exa.keep (Exa.ext E508 F507) K520_))
                      have F558 : Safe Z own_EL T550.vm h550 b508 := (CHr.safe hC550 P521.lt (Safe.keep K520_ (sfS S515 sf0) CR513.1 S515))
                      have ne559 := hsf550 b508 F558
                      refine own_st (T' := T550) (g' := (mkF m 401 #[.val (.int p1), .val (.int p2), .val (.int p3), .val (.int p4), .val (.int p5), .val (.int 0), .val (.int kk), .val (.int f7), .val (.int f8), .val (.int m2), .val (.int cv), .val (.ref b354), .val (.ref b395), .val (.ref b436), .val (.ref y), .val (.ref u1), .val (.ref u2), .val (.ref b508), .unset, .unset] [(.ref b550), (.int cv)])) st550 ?_
                      refine own_st (T' := T550) (g' := (mkF m 403 #[.val (.int p1), .val (.int p2), .val (.int p3), .val (.int p4), .val (.int p5), .val (.int 0), .val (.int kk), .val (.int f7), .val (.int f8), .val (.int m2), .val (.int cv), .val (.ref b354), .val (.ref b395), .val (.ref b436), .val (.ref y), .val (.ref u1), .val (.ref u2), .val (.ref b508), .unset, .unset] [(.int m2), (.ref b550), (.int cv)])) (fun _ kt => XS.iload X550.here hx rfl (hb hby at_401) rfl kt) ?_
                      rcases q_m2 with rfl | rfl | rfl | rfl | rfl | rfl | rfl | rfl
                      ·
                        have F560 : Old Z n0 h550 := (Old.ext (Old.keep F519 K520_ (allS ge_b508 all0)) E550)
                        obtain ⟨cq562, kq562, qa562, qb562, qc562⟩ := isOf hZ550 e550 gE550
                        obtain ⟨_, _, ⟨T561, L561, k561, n561⟩, -, X561, ⟨Lc561, hQ561, l561, y561, z561⟩, st561⟩ := X550.virtualBack hx (y := yN0) (z := yN0) hown550 (mvT hZ550 (own_k hw 72 rfl)) (mvT hZ550 (own_k hw 73 rfl)) (notFace_of_selects (args := #[]) (mvT hZ550 (own_k hw 75 rfl))) (mvT hZ550 (own_k hw 75 rfl)) (mvT hZ550 (own_k hw 74 rfl)) (by decide) (backOf (W := 1) (own_ca l Z a0 hw [] b550 zc d550 (0 : Int32) fmt kd550 (7 : Int32) [(.int 86), (.int 69), (.int 72), (.int 73), (.int 67), (.int 76), (.int 69)] (86 : Int32) (86 : Int32) h550 n0 Z552 F560 pr2 pr3 pr4 pr5 gE550 gC550 gV550 gA550 (show ¬ (0 : Int32) < 0 ∧ (0 : Int32) < (7 : Int32) from (by decide)) rfl (show nar .char (((86 : Int32) &&& (255 : Int32)).toUInt32.toUInt16.toUInt32.toInt32) = (86 : Int32) from (by decide)) (show nar .char (86 : Int32) = (86 : Int32) from (by decide))) hZ550 (own_k hw 76 rfl) (own_k hw 4 rfl) (by decide) (by decide)) qa562 qc562 (g := (mkF m 403 #[.val (.int p1), .val (.int p2), .val (.int p3), .val (.int p4), .val (.int p5), .val (.int 0), .val (.int kk), .val (.int f7), .val (.int f8), .val (.int 0), .val (.int cv), .val (.ref b354), .val (.ref b395), .val (.ref b436), .val (.ref y), .val (.ref u1), .val (.ref u2), .val (.ref b508), .unset, .unset] [(.int 0), (.ref b550), (.int cv)])) rfl hml.symm (Steps.refl _) (argsL := [(.int 0)]) (rest := [(.int cv)]) (lenOf own_pd18 rfl) rfl (own_w0 rfl rfl) (hb hby at_403) (fun _ _ => ⟨rfl, e550, (by decide : 20 + 0 ≤ 40), (by decide : 256 + 0 ≤ 3264)⟩)
                        dsimp only [Pt.U, Pt.locs, Pt.cells, Pt.slots] at X561 l561 y561 z561 st561 hQ561
                        subst l561 y561 z561
                        obtain ⟨rfl, N561, e561⟩ := hQ561
                        have N563 := Fr.app N525 N561
                        refine own_tr (T' := T561) (g' := (mkF m 406 #[.val (.int p1), .val (.int p2), .val (.int p3), .val (.int p4), .val (.int p5), .val (.int 0), .val (.int kk), .val (.int f7), .val (.int f8), .val (.int 0), .val (.int cv), .val (.ref b354), .val (.ref b395), .val (.ref b436), .val (.ref y), .val (.ref u1), .val (.ref u2), .val (.ref b508), .unset, .unset] [(.int 86), (.int cv)])) st561 ?_
                        by_cases hc564 : cv = (86 : Int32)
                        ·
                          refine own_st (T' := T561) (g' := (mkF m 414 #[.val (.int p1), .val (.int p2), .val (.int p3), .val (.int p4), .val (.int p5), .val (.int 0), .val (.int kk), .val (.int f7), .val (.int f8), .val (.int 0), .val (.int cv), .val (.ref b354), .val (.ref b395), .val (.ref b436), .val (.ref y), .val (.ref u1), .val (.ref u2), .val (.ref b508), .unset, .unset] [(.int 1)])) (fun _ kt => XS.icmpNo X561.here hx rfl (hb hby at_406) rfl (XT.ii_ne_f hc564) (XS.iconst X561.here hx rfl (hb hby at_409) (XS.goto X561.here hx rfl (pc0 := 410) (pc' := 414) rfl (hb hby at_410) (by decide) (by decide) kt))) ?_
                          have F565 : Fld Z h550 y "java/lang/String" "coder" "B" (.int 0) := (Fld.ext E550 (Fld.keep (Fld.ext E508 F503) K520_ (ninS ne509 nin0)))
                          have F566 : Exa Z h550 b508 "java/util/ArrayList" := (Exa.ext E550 P521)
                          have F567 : Fld Z h550 b508 "java/util/AbstractList" "modCount" "I" (.int 0) := (Fld.ext E550 P522)
                          have F568 : Fld Z h550 b508 "java/util/ArrayList" "elementData" "[Ljava/lang/Object;" (.ref de) := (Fld.ext E550 P523)
                          have F569 : Fld Z h550 b508 "java/util/ArrayList" "size" "I" (.int 0) := (Fld.ext E550 P524)
                          exact J528 _ _ _ _ _ (1 : Int32) ⟨N563, Z552, F560, CR551, hS550, hk550, hZ550, hown550, F553, F565, F554, F555, F556, F557, F566, F567, F568, F569, (by unfold own_l18; rw [if_pos hc541]; simp +decide [own_ex, hc564])⟩ (X561.mono (by decide) (by decide)) e561
                        ·
                          refine own_st (T' := T561) (g' := (mkF m 414 #[.val (.int p1), .val (.int p2), .val (.int p3), .val (.int p4), .val (.int p5), .val (.int 0), .val (.int kk), .val (.int f7), .val (.int f8), .val (.int 0), .val (.int cv), .val (.ref b354), .val (.ref b395), .val (.ref b436), .val (.ref y), .val (.ref u1), .val (.ref u2), .val (.ref b508), .unset, .unset] [(.int 0)])) (fun _ kt => XS.icmpYes X561.here hx rfl (pc0 := 406) (pc' := 413) rfl (hb hby at_406) rfl (XT.ii_ne_t hc564) (by decide) (by decide) (XS.iconst X561.here hx rfl (hb hby at_413) kt)) ?_
                          have F570 : Fld Z h550 y "java/lang/String" "coder" "B" (.int 0) := (Fld.ext E550 (Fld.keep (Fld.ext E508 F503) K520_ (ninS ne509 nin0)))
                          have F571 : Exa Z h550 b508 "java/util/ArrayList" := (Exa.ext E550 P521)
                          have F572 : Fld Z h550 b508 "java/util/AbstractList" "modCount" "I" (.int 0) := (Fld.ext E550 P522)
                          have F573 : Fld Z h550 b508 "java/util/ArrayList" "elementData" "[Ljava/lang/Object;" (.ref de) := (Fld.ext E550 P523)
                          have F574 : Fld Z h550 b508 "java/util/ArrayList" "size" "I" (.int 0) := (Fld.ext E550 P524)
                          exact J528 _ _ _ _ _ (0 : Int32) ⟨N563, Z552, F560, CR551, hS550, hk550, hZ550, hown550, F553, F570, F554, F555, F556, F557, F571, F572, F573, F574, (by unfold own_l18; rw [if_pos hc541]; simp +decide [own_ex, hc564])⟩ (X561.mono (by decide) (by decide)) e561
                      ·
                        have F575 : Old Z n0 h550 := (Old.ext (Old.keep F519 K520_ (allS ge_b508 all0)) E550)
                        obtain ⟨cq577, kq577, qa577, qb577, qc577⟩ := isOf hZ550 e550 gE550
                        obtain ⟨_, _, ⟨T576, L576, k576, n576⟩, -, X576, ⟨Lc576, hQ576, l576, y576, z576⟩, st576⟩ := X550.virtualBack hx (y := yN0) (z := yN0) hown550 (mvT hZ550 (own_k hw 72 rfl)) (mvT hZ550 (own_k hw 73 rfl)) (notFace_of_selects (args := #[]) (mvT hZ550 (own_k hw 75 rfl))) (mvT hZ550 (own_k hw 75 rfl)) (mvT hZ550 (own_k hw 74 rfl)) (by decide) (backOf (W := 1) (own_ca l Z a0 hw [] b550 zc d550 (1 : Int32) fmt kd550 (7 : Int32) [(.int 86), (.int 69), (.int 72), (.int 73), (.int 67), (.int 76), (.int 69)] (69 : Int32) (69 : Int32) h550 n0 Z552 F575 pr2 pr3 pr4 pr5 gE550 gC550 gV550 gA550 (show ¬ (1 : Int32) < 0 ∧ (1 : Int32) < (7 : Int32) from (by decide)) rfl (show nar .char (((69 : Int32) &&& (255 : Int32)).toUInt32.toUInt16.toUInt32.toInt32) = (69 : Int32) from (by decide)) (show nar .char (69 : Int32) = (69 : Int32) from (by decide))) hZ550 (own_k hw 76 rfl) (own_k hw 4 rfl) (by decide) (by decide)) qa577 qc577 (g := (mkF m 403 #[.val (.int p1), .val (.int p2), .val (.int p3), .val (.int p4), .val (.int p5), .val (.int 0), .val (.int kk), .val (.int f7), .val (.int f8), .val (.int 1), .val (.int cv), .val (.ref b354), .val (.ref b395), .val (.ref b436), .val (.ref y), .val (.ref u1), .val (.ref u2), .val (.ref b508), .unset, .unset] [(.int 1), (.ref b550), (.int cv)])) rfl hml.symm (Steps.refl _) (argsL := [(.int 1)]) (rest := [(.int cv)]) (lenOf own_pd18 rfl) rfl (own_w0 rfl rfl) (hb hby at_403) (fun _ _ => ⟨rfl, e550, (by decide : 20 + 0 ≤ 40), (by decide : 256 + 0 ≤ 3264)⟩)
                        dsimp only [Pt.U, Pt.locs, Pt.cells, Pt.slots] at X576 l576 y576 z576 st576 hQ576
                        subst l576 y576 z576
                        obtain ⟨rfl, N576, e576⟩ := hQ576
                        have N578 := Fr.app N525 N576
                        refine own_tr (T' := T576) (g' := (mkF m 406 #[.val (.int p1), .val (.int p2), .val (.int p3), .val (.int p4), .val (.int p5), .val (.int 0), .val (.int kk), .val (.int f7), .val (.int f8), .val (.int 1), .val (.int cv), .val (.ref b354), .val (.ref b395), .val (.ref b436), .val (.ref y), .val (.ref u1), .val (.ref u2), .val (.ref b508), .unset, .unset] [(.int 69), (.int cv)])) st576 ?_
                        by_cases hc579 : cv = (69 : Int32)
                        ·
                          refine own_st (T' := T576) (g' := (mkF m 414 #[.val (.int p1), .val (.int p2), .val (.int p3), .val (.int p4), .val (.int p5), .val (.int 0), .val (.int kk), .val (.int f7), .val (.int f8), .val (.int 1), .val (.int cv), .val (.ref b354), .val (.ref b395), .val (.ref b436), .val (.ref y), .val (.ref u1), .val (.ref u2), .val (.ref b508), .unset, .unset] [(.int 1)])) (fun _ kt => XS.icmpNo X576.here hx rfl (hb hby at_406) rfl (XT.ii_ne_f hc579) (XS.iconst X576.here hx rfl (hb hby at_409) (XS.goto X576.here hx rfl (pc0 := 410) (pc' := 414) rfl (hb hby at_410) (by decide) (by decide) kt))) ?_
                          have F580 : Fld Z h550 y "java/lang/String" "coder" "B" (.int 0) := (Fld.ext E550 (Fld.keep (Fld.ext E508 F503) K520_ (ninS ne509 nin0)))
                          have F581 : Exa Z h550 b508 "java/util/ArrayList" := (Exa.ext E550 P521)
                          have F582 : Fld Z h550 b508 "java/util/AbstractList" "modCount" "I" (.int 0) := (Fld.ext E550 P522)
                          have F583 : Fld Z h550 b508 "java/util/ArrayList" "elementData" "[Ljava/lang/Object;" (.ref de) := (Fld.ext E550 P523)
                          have F584 : Fld Z h550 b508 "java/util/ArrayList" "size" "I" (.int 0) := (Fld.ext E550 P524)
                          exact J528 _ _ _ _ _ (1 : Int32) ⟨N578, Z552, F575, CR551, hS550, hk550, hZ550, hown550, F553, F580, F554, F555, F556, F557, F581, F582, F583, F584, (by unfold own_l18; rw [if_pos hc541]; simp +decide [own_ex, hc579])⟩ (X576.mono (by decide) (by decide)) e576
                        ·
                          refine own_st (T' := T576) (g' := (mkF m 414 #[.val (.int p1), .val (.int p2), .val (.int p3), .val (.int p4), .val (.int p5), .val (.int 0), .val (.int kk), .val (.int f7), .val (.int f8), .val (.int 1), .val (.int cv), .val (.ref b354), .val (.ref b395), .val (.ref b436), .val (.ref y), .val (.ref u1), .val (.ref u2), .val (.ref b508), .unset, .unset] [(.int 0)])) (fun _ kt => XS.icmpYes X576.here hx rfl (pc0 := 406) (pc' := 413) rfl (hb hby at_406) rfl (XT.ii_ne_t hc579) (by decide) (by decide) (XS.iconst X576.here hx rfl (hb hby at_413) kt)) ?_
                          have F585 : Fld Z h550 y "java/lang/String" "coder" "B" (.int 0) := (Fld.ext E550 (Fld.keep (Fld.ext E508 F503) K520_ (ninS ne509 nin0)))
                          have F586 : Exa Z h550 b508 "java/util/ArrayList" := (Exa.ext E550 P521)
                          have F587 : Fld Z h550 b508 "java/util/AbstractList" "modCount" "I" (.int 0) := (Fld.ext E550 P522)
                          have F588 : Fld Z h550 b508 "java/util/ArrayList" "elementData" "[Ljava/lang/Object;" (.ref de) := (Fld.ext E550 P523)
                          have F589 : Fld Z h550 b508 "java/util/ArrayList" "size" "I" (.int 0) := (Fld.ext E550 P524)
                          exact J528 _ _ _ _ _ (0 : Int32) ⟨N578, Z552, F575, CR551, hS550, hk550, hZ550, hown550, F553, F585, F554, F555, F556, F557, F586, F587, F588, F589, (by unfold own_l18; rw [if_pos hc541]; simp +decide [own_ex, hc579])⟩ (X576.mono (by decide) (by decide)) e576
                      ·
                        have F590 : Old Z n0 h550 := (Old.ext (Old.keep F519 K520_ (allS ge_b508 all0)) E550)
                        obtain ⟨cq592, kq592, qa592, qb592, qc592⟩ := isOf hZ550 e550 gE550
                        obtain ⟨_, _, ⟨T591, L591, k591, n591⟩, -, X591, ⟨Lc591, hQ591, l591, y591, z591⟩, st591⟩ := X550.virtualBack hx (y := yN0) (z := yN0) hown550 (mvT hZ550 (own_k hw 72 rfl)) (mvT hZ550 (own_k hw 73 rfl)) (notFace_of_selects (args := #[]) (mvT hZ550 (own_k hw 75 rfl))) (mvT hZ550 (own_k hw 75 rfl)) (mvT hZ550 (own_k hw 74 rfl)) (by decide) (backOf (W := 1) (own_ca l Z a0 hw [] b550 zc d550 (2 : Int32) fmt kd550 (7 : Int32) [(.int 86), (.int 69), (.int 72), (.int 73), (.int 67), (.int 76), (.int 69)] (72 : Int32) (72 : Int32) h550 n0 Z552 F590 pr2 pr3 pr4 pr5 gE550 gC550 gV550 gA550 (show ¬ (2 : Int32) < 0 ∧ (2 : Int32) < (7 : Int32) from (by decide)) rfl (show nar .char (((72 : Int32) &&& (255 : Int32)).toUInt32.toUInt16.toUInt32.toInt32) = (72 : Int32) from (by decide)) (show nar .char (72 : Int32) = (72 : Int32) from (by decide))) hZ550 (own_k hw 76 rfl) (own_k hw 4 rfl) (by decide) (by decide)) qa592 qc592 (g := (mkF m 403 #[.val (.int p1), .val (.int p2), .val (.int p3), .val (.int p4), .val (.int p5), .val (.int 0), .val (.int kk), .val (.int f7), .val (.int f8), .val (.int 2), .val (.int cv), .val (.ref b354), .val (.ref b395), .val (.ref b436), .val (.ref y), .val (.ref u1), .val (.ref u2), .val (.ref b508), .unset, .unset] [(.int 2), (.ref b550), (.int cv)])) rfl hml.symm (Steps.refl _) (argsL := [(.int 2)]) (rest := [(.int cv)]) (lenOf own_pd18 rfl) rfl (own_w0 rfl rfl) (hb hby at_403) (fun _ _ => ⟨rfl, e550, (by decide : 20 + 0 ≤ 40), (by decide : 256 + 0 ≤ 3264)⟩)
                        dsimp only [Pt.U, Pt.locs, Pt.cells, Pt.slots] at X591 l591 y591 z591 st591 hQ591
                        subst l591 y591 z591
                        obtain ⟨rfl, N591, e591⟩ := hQ591
                        have N593 := Fr.app N525 N591
                        refine own_tr (T' := T591) (g' := (mkF m 406 #[.val (.int p1), .val (.int p2), .val (.int p3), .val (.int p4), .val (.int p5), .val (.int 0), .val (.int kk), .val (.int f7), .val (.int f8), .val (.int 2), .val (.int cv), .val (.ref b354), .val (.ref b395), .val (.ref b436), .val (.ref y), .val (.ref u1), .val (.ref u2), .val (.ref b508), .unset, .unset] [(.int 72), (.int cv)])) st591 ?_
                        by_cases hc594 : cv = (72 : Int32)
                        ·
                          refine own_st (T' := T591) (g' := (mkF m 414 #[.val (.int p1), .val (.int p2), .val (.int p3), .val (.int p4), .val (.int p5), .val (.int 0), .val (.int kk), .val (.int f7), .val (.int f8), .val (.int 2), .val (.int cv), .val (.ref b354), .val (.ref b395), .val (.ref b436), .val (.ref y), .val (.ref u1), .val (.ref u2), .val (.ref b508), .unset, .unset] [(.int 1)])) (fun _ kt => XS.icmpNo X591.here hx rfl (hb hby at_406) rfl (XT.ii_ne_f hc594) (XS.iconst X591.here hx rfl (hb hby at_409) (XS.goto X591.here hx rfl (pc0 := 410) (pc' := 414) rfl (hb hby at_410) (by decide) (by decide) kt))) ?_
                          have F595 : Fld Z h550 y "java/lang/String" "coder" "B" (.int 0) := (Fld.ext E550 (Fld.keep (Fld.ext E508 F503) K520_ (ninS ne509 nin0)))
                          have F596 : Exa Z h550 b508 "java/util/ArrayList" := (Exa.ext E550 P521)
                          have F597 : Fld Z h550 b508 "java/util/AbstractList" "modCount" "I" (.int 0) := (Fld.ext E550 P522)
                          have F598 : Fld Z h550 b508 "java/util/ArrayList" "elementData" "[Ljava/lang/Object;" (.ref de) := (Fld.ext E550 P523)
                          have F599 : Fld Z h550 b508 "java/util/ArrayList" "size" "I" (.int 0) := (Fld.ext E550 P524)
                          exact J528 _ _ _ _ _ (1 : Int32) ⟨N593, Z552, F590, CR551, hS550, hk550, hZ550, hown550, F553, F595, F554, F555, F556, F557, F596, F597, F598, F599, (by unfold own_l18; rw [if_pos hc541]; simp +decide [own_ex, hc594])⟩ (X591.mono (by decide) (by decide)) e591
                        ·
                          refine own_st (T' := T591) (g' := (mkF m 414 #[.val (.int p1), .val (.int p2), .val (.int p3), .val (.int p4), .val (.int p5), .val (.int 0), .val (.int kk), .val (.int f7), .val (.int f8), .val (.int 2), .val (.int cv), .val (.ref b354), .val (.ref b395), .val (.ref b436), .val (.ref y), .val (.ref u1), .val (.ref u2), .val (.ref b508), .unset, .unset] [(.int 0)])) (fun _ kt => XS.icmpYes X591.here hx rfl (pc0 := 406) (pc' := 413) rfl (hb hby at_406) rfl (XT.ii_ne_t hc594) (by decide) (by decide) (XS.iconst X591.here hx rfl (hb hby at_413) kt)) ?_
                          have F600 : Fld Z h550 y "java/lang/String" "coder" "B" (.int 0) := (Fld.ext E550 (Fld.keep (Fld.ext E508 F503) K520_ (ninS ne509 nin0)))
                          have F601 : Exa Z h550 b508 "java/util/ArrayList" := (Exa.ext E550 P521)
                          have F602 : Fld Z h550 b508 "java/util/AbstractList" "modCount" "I" (.int 0) := (Fld.ext E550 P522)
                          have F603 : Fld Z h550 b508 "java/util/ArrayList" "elementData" "[Ljava/lang/Object;" (.ref de) := (Fld.ext E550 P523)
                          have F604 : Fld Z h550 b508 "java/util/ArrayList" "size" "I" (.int 0) := (Fld.ext E550 P524)
                          exact J528 _ _ _ _ _ (0 : Int32) ⟨N593, Z552, F590, CR551, hS550, hk550, hZ550, hown550, F553, F600, F554, F555, F556, F557, F601, F602, F603, F604, (by unfold own_l18; rw [if_pos hc541]; simp +decide [own_ex, hc594])⟩ (X591.mono (by decide) (by decide)) e591
                      ·
                        have F605 : Old Z n0 h550 := (Old.ext (Old.keep F519 K520_ (allS ge_b508 all0)) E550)
                        obtain ⟨cq607, kq607, qa607, qb607, qc607⟩ := isOf hZ550 e550 gE550
                        obtain ⟨_, _, ⟨T606, L606, k606, n606⟩, -, X606, ⟨Lc606, hQ606, l606, y606, z606⟩, st606⟩ := X550.virtualBack hx (y := yN0) (z := yN0) hown550 (mvT hZ550 (own_k hw 72 rfl)) (mvT hZ550 (own_k hw 73 rfl)) (notFace_of_selects (args := #[]) (mvT hZ550 (own_k hw 75 rfl))) (mvT hZ550 (own_k hw 75 rfl)) (mvT hZ550 (own_k hw 74 rfl)) (by decide) (backOf (W := 1) (own_ca l Z a0 hw [] b550 zc d550 (3 : Int32) fmt kd550 (7 : Int32) [(.int 86), (.int 69), (.int 72), (.int 73), (.int 67), (.int 76), (.int 69)] (73 : Int32) (73 : Int32) h550 n0 Z552 F605 pr2 pr3 pr4 pr5 gE550 gC550 gV550 gA550 (show ¬ (3 : Int32) < 0 ∧ (3 : Int32) < (7 : Int32) from (by decide)) rfl (show nar .char (((73 : Int32) &&& (255 : Int32)).toUInt32.toUInt16.toUInt32.toInt32) = (73 : Int32) from (by decide)) (show nar .char (73 : Int32) = (73 : Int32) from (by decide))) hZ550 (own_k hw 76 rfl) (own_k hw 4 rfl) (by decide) (by decide)) qa607 qc607 (g := (mkF m 403 #[.val (.int p1), .val (.int p2), .val (.int p3), .val (.int p4), .val (.int p5), .val (.int 0), .val (.int kk), .val (.int f7), .val (.int f8), .val (.int 3), .val (.int cv), .val (.ref b354), .val (.ref b395), .val (.ref b436), .val (.ref y), .val (.ref u1), .val (.ref u2), .val (.ref b508), .unset, .unset] [(.int 3), (.ref b550), (.int cv)])) rfl hml.symm (Steps.refl _) (argsL := [(.int 3)]) (rest := [(.int cv)]) (lenOf own_pd18 rfl) rfl (own_w0 rfl rfl) (hb hby at_403) (fun _ _ => ⟨rfl, e550, (by decide : 20 + 0 ≤ 40), (by decide : 256 + 0 ≤ 3264)⟩)
                        dsimp only [Pt.U, Pt.locs, Pt.cells, Pt.slots] at X606 l606 y606 z606 st606 hQ606
                        subst l606 y606 z606
                        obtain ⟨rfl, N606, e606⟩ := hQ606
                        have N608 := Fr.app N525 N606
                        refine own_tr (T' := T606) (g' := (mkF m 406 #[.val (.int p1), .val (.int p2), .val (.int p3), .val (.int p4), .val (.int p5), .val (.int 0), .val (.int kk), .val (.int f7), .val (.int f8), .val (.int 3), .val (.int cv), .val (.ref b354), .val (.ref b395), .val (.ref b436), .val (.ref y), .val (.ref u1), .val (.ref u2), .val (.ref b508), .unset, .unset] [(.int 73), (.int cv)])) st606 ?_
                        by_cases hc609 : cv = (73 : Int32)
                        ·
                          refine own_st (T' := T606) (g' := (mkF m 414 #[.val (.int p1), .val (.int p2), .val (.int p3), .val (.int p4), .val (.int p5), .val (.int 0), .val (.int kk), .val (.int f7), .val (.int f8), .val (.int 3), .val (.int cv), .val (.ref b354), .val (.ref b395), .val (.ref b436), .val (.ref y), .val (.ref u1), .val (.ref u2), .val (.ref b508), .unset, .unset] [(.int 1)])) (fun _ kt => XS.icmpNo X606.here hx rfl (hb hby at_406) rfl (XT.ii_ne_f hc609) (XS.iconst X606.here hx rfl (hb hby at_409) (XS.goto X606.here hx rfl (pc0 := 410) (pc' := 414) rfl (hb hby at_410) (by decide) (by decide) kt))) ?_
                          have F610 : Fld Z h550 y "java/lang/String" "coder" "B" (.int 0) := (Fld.ext E550 (Fld.keep (Fld.ext E508 F503) K520_ (ninS ne509 nin0)))
                          have F611 : Exa Z h550 b508 "java/util/ArrayList" := (Exa.ext E550 P521)
                          have F612 : Fld Z h550 b508 "java/util/AbstractList" "modCount" "I" (.int 0) := (Fld.ext E550 P522)
                          have F613 : Fld Z h550 b508 "java/util/ArrayList" "elementData" "[Ljava/lang/Object;" (.ref de) := (Fld.ext E550 P523)
                          have F614 : Fld Z h550 b508 "java/util/ArrayList" "size" "I" (.int 0) := (Fld.ext E550 P524)
                          exact J528 _ _ _ _ _ (1 : Int32) ⟨N608, Z552, F605, CR551, hS550, hk550, hZ550, hown550, F553, F610, F554, F555, F556, F557, F611, F612, F613, F614, (by unfold own_l18; rw [if_pos hc541]; simp +decide [own_ex, hc609])⟩ (X606.mono (by decide) (by decide)) e606
                        ·
                          refine own_st (T' := T606) (g' := (mkF m 414 #[.val (.int p1), .val (.int p2), .val (.int p3), .val (.int p4), .val (.int p5), .val (.int 0), .val (.int kk), .val (.int f7), .val (.int f8), .val (.int 3), .val (.int cv), .val (.ref b354), .val (.ref b395), .val (.ref b436), .val (.ref y), .val (.ref u1), .val (.ref u2), .val (.ref b508), .unset, .unset] [(.int 0)])) (fun _ kt => XS.icmpYes X606.here hx rfl (pc0 := 406) (pc' := 413) rfl (hb hby at_406) rfl (XT.ii_ne_t hc609) (by decide) (by decide) (XS.iconst X606.here hx rfl (hb hby at_413) kt)) ?_
                          have F615 : Fld Z h550 y "java/lang/String" "coder" "B" (.int 0) := (Fld.ext E550 (Fld.keep (Fld.ext E508 F503) K520_ (ninS ne509 nin0)))
                          have F616 : Exa Z h550 b508 "java/util/ArrayList" := (Exa.ext E550 P521)
                          have F617 : Fld Z h550 b508 "java/util/AbstractList" "modCount" "I" (.int 0) := (Fld.ext E550 P522)
                          have F618 : Fld Z h550 b508 "java/util/ArrayList" "elementData" "[Ljava/lang/Object;" (.ref de) := (Fld.ext E550 P523)
                          have F619 : Fld Z h550 b508 "java/util/ArrayList" "size" "I" (.int 0) := (Fld.ext E550 P524)
                          exact J528 _ _ _ _ _ (0 : Int32) ⟨N608, Z552, F605, CR551, hS550, hk550, hZ550, hown550, F553, F615, F554, F555, F556, F557, F616, F617, F618, F619, (by unfold own_l18; rw [if_pos hc541]; simp +decide [own_ex, hc609])⟩ (X606.mono (by decide) (by decide)) e606
                      ·
                        have F620 : Old Z n0 h550 := (Old.ext (Old.keep F519 K520_ (allS ge_b508 all0)) E550)
                        obtain ⟨cq622, kq622, qa622, qb622, qc622⟩ := isOf hZ550 e550 gE550
                        obtain ⟨_, _, ⟨T621, L621, k621, n621⟩, -, X621, ⟨Lc621, hQ621, l621, y621, z621⟩, st621⟩ := X550.virtualBack hx (y := yN0) (z := yN0) hown550 (mvT hZ550 (own_k hw 72 rfl)) (mvT hZ550 (own_k hw 73 rfl)) (notFace_of_selects (args := #[]) (mvT hZ550 (own_k hw 75 rfl))) (mvT hZ550 (own_k hw 75 rfl)) (mvT hZ550 (own_k hw 74 rfl)) (by decide) (backOf (W := 1) (own_ca l Z a0 hw [] b550 zc d550 (4 : Int32) fmt kd550 (7 : Int32) [(.int 86), (.int 69), (.int 72), (.int 73), (.int 67), (.int 76), (.int 69)] (67 : Int32) (67 : Int32) h550 n0 Z552 F620 pr2 pr3 pr4 pr5 gE550 gC550 gV550 gA550 (show ¬ (4 : Int32) < 0 ∧ (4 : Int32) < (7 : Int32) from (by decide)) rfl (show nar .char (((67 : Int32) &&& (255 : Int32)).toUInt32.toUInt16.toUInt32.toInt32) = (67 : Int32) from (by decide)) (show nar .char (67 : Int32) = (67 : Int32) from (by decide))) hZ550 (own_k hw 76 rfl) (own_k hw 4 rfl) (by decide) (by decide)) qa622 qc622 (g := (mkF m 403 #[.val (.int p1), .val (.int p2), .val (.int p3), .val (.int p4), .val (.int p5), .val (.int 0), .val (.int kk), .val (.int f7), .val (.int f8), .val (.int 4), .val (.int cv), .val (.ref b354), .val (.ref b395), .val (.ref b436), .val (.ref y), .val (.ref u1), .val (.ref u2), .val (.ref b508), .unset, .unset] [(.int 4), (.ref b550), (.int cv)])) rfl hml.symm (Steps.refl _) (argsL := [(.int 4)]) (rest := [(.int cv)]) (lenOf own_pd18 rfl) rfl (own_w0 rfl rfl) (hb hby at_403) (fun _ _ => ⟨rfl, e550, (by decide : 20 + 0 ≤ 40), (by decide : 256 + 0 ≤ 3264)⟩)
                        dsimp only [Pt.U, Pt.locs, Pt.cells, Pt.slots] at X621 l621 y621 z621 st621 hQ621
                        subst l621 y621 z621
                        obtain ⟨rfl, N621, e621⟩ := hQ621
                        have N623 := Fr.app N525 N621
                        refine own_tr (T' := T621) (g' := (mkF m 406 #[.val (.int p1), .val (.int p2), .val (.int p3), .val (.int p4), .val (.int p5), .val (.int 0), .val (.int kk), .val (.int f7), .val (.int f8), .val (.int 4), .val (.int cv), .val (.ref b354), .val (.ref b395), .val (.ref b436), .val (.ref y), .val (.ref u1), .val (.ref u2), .val (.ref b508), .unset, .unset] [(.int 67), (.int cv)])) st621 ?_
                        by_cases hc624 : cv = (67 : Int32)
                        ·
                          refine own_st (T' := T621) (g' := (mkF m 414 #[.val (.int p1), .val (.int p2), .val (.int p3), .val (.int p4), .val (.int p5), .val (.int 0), .val (.int kk), .val (.int f7), .val (.int f8), .val (.int 4), .val (.int cv), .val (.ref b354), .val (.ref b395), .val (.ref b436), .val (.ref y), .val (.ref u1), .val (.ref u2), .val (.ref b508), .unset, .unset] [(.int 1)])) (fun _ kt => XS.icmpNo X621.here hx rfl (hb hby at_406) rfl (XT.ii_ne_f hc624) (XS.iconst X621.here hx rfl (hb hby at_409) (XS.goto X621.here hx rfl (pc0 := 410) (pc' := 414) rfl (hb hby at_410) (by decide) (by decide) kt))) ?_
                          have F625 : Fld Z h550 y "java/lang/String" "coder" "B" (.int 0) := (Fld.ext E550 (Fld.keep (Fld.ext E508 F503) K520_ (ninS ne509 nin0)))
                          have F626 : Exa Z h550 b508 "java/util/ArrayList" := (Exa.ext E550 P521)
                          have F627 : Fld Z h550 b508 "java/util/AbstractList" "modCount" "I" (.int 0) := (Fld.ext E550 P522)
                          have F628 : Fld Z h550 b508 "java/util/ArrayList" "elementData" "[Ljava/lang/Object;" (.ref de) := (Fld.ext E550 P523)
                          have F629 : Fld Z h550 b508 "java/util/ArrayList" "size" "I" (.int 0) := (Fld.ext E550 P524)
                          exact J528 _ _ _ _ _ (1 : Int32) ⟨N623, Z552, F620, CR551, hS550, hk550, hZ550, hown550, F553, F625, F554, F555, F556, F557, F626, F627, F628, F629, (by unfold own_l18; rw [if_pos hc541]; simp +decide [own_ex, hc624])⟩ (X621.mono (by decide) (by decide)) e621
                        ·
                          refine own_st (T' := T621) (g' := (mkF m 414 #[.val (.int p1), .val (.int p2), .val (.int p3), .val (.int p4), .val (.int p5), .val (.int 0), .val (.int kk), .val (.int f7), .val (.int f8), .val (.int 4), .val (.int cv), .val (.ref b354), .val (.ref b395), .val (.ref b436), .val (.ref y), .val (.ref u1), .val (.ref u2), .val (.ref b508), .unset, .unset] [(.int 0)])) (fun _ kt => XS.icmpYes X621.here hx rfl (pc0 := 406) (pc' := 413) rfl (hb hby at_406) rfl (XT.ii_ne_t hc624) (by decide) (by decide) (XS.iconst X621.here hx rfl (hb hby at_413) kt)) ?_
                          have F630 : Fld Z h550 y "java/lang/String" "coder" "B" (.int 0) := (Fld.ext E550 (Fld.keep (Fld.ext E508 F503) K520_ (ninS ne509 nin0)))
                          have F631 : Exa Z h550 b508 "java/util/ArrayList" := (Exa.ext E550 P521)
                          have F632 : Fld Z h550 b508 "java/util/AbstractList" "modCount" "I" (.int 0) := (Fld.ext E550 P522)
                          have F633 : Fld Z h550 b508 "java/util/ArrayList" "elementData" "[Ljava/lang/Object;" (.ref de) := (Fld.ext E550 P523)
                          have F634 : Fld Z h550 b508 "java/util/ArrayList" "size" "I" (.int 0) := (Fld.ext E550 P524)
                          exact J528 _ _ _ _ _ (0 : Int32) ⟨N623, Z552, F620, CR551, hS550, hk550, hZ550, hown550, F553, F630, F554, F555, F556, F557, F631, F632, F633, F634, (by unfold own_l18; rw [if_pos hc541]; simp +decide [own_ex, hc624])⟩ (X621.mono (by decide) (by decide)) e621
                      ·
                        have F635 : Old Z n0 h550 := (Old.ext (Old.keep F519 K520_ (allS ge_b508 all0)) E550)
                        obtain ⟨cq637, kq637, qa637, qb637, qc637⟩ := isOf hZ550 e550 gE550
                        obtain ⟨_, _, ⟨T636, L636, k636, n636⟩, -, X636, ⟨Lc636, hQ636, l636, y636, z636⟩, st636⟩ := X550.virtualBack hx (y := yN0) (z := yN0) hown550 (mvT hZ550 (own_k hw 72 rfl)) (mvT hZ550 (own_k hw 73 rfl)) (notFace_of_selects (args := #[]) (mvT hZ550 (own_k hw 75 rfl))) (mvT hZ550 (own_k hw 75 rfl)) (mvT hZ550 (own_k hw 74 rfl)) (by decide) (backOf (W := 1) (own_ca l Z a0 hw [] b550 zc d550 (5 : Int32) fmt kd550 (7 : Int32) [(.int 86), (.int 69), (.int 72), (.int 73), (.int 67), (.int 76), (.int 69)] (76 : Int32) (76 : Int32) h550 n0 Z552 F635 pr2 pr3 pr4 pr5 gE550 gC550 gV550 gA550 (show ¬ (5 : Int32) < 0 ∧ (5 : Int32) < (7 : Int32) from (by decide)) rfl (show nar .char (((76 : Int32) &&& (255 : Int32)).toUInt32.toUInt16.toUInt32.toInt32) = (76 : Int32) from (by decide)) (show nar .char (76 : Int32) = (76 : Int32) from (by decide))) hZ550 (own_k hw 76 rfl) (own_k hw 4 rfl) (by decide) (by decide)) qa637 qc637 (g := (mkF m 403 #[.val (.int p1), .val (.int p2), .val (.int p3), .val (.int p4), .val (.int p5), .val (.int 0), .val (.int kk), .val (.int f7), .val (.int f8), .val (.int 5), .val (.int cv), .val (.ref b354), .val (.ref b395), .val (.ref b436), .val (.ref y), .val (.ref u1), .val (.ref u2), .val (.ref b508), .unset, .unset] [(.int 5), (.ref b550), (.int cv)])) rfl hml.symm (Steps.refl _) (argsL := [(.int 5)]) (rest := [(.int cv)]) (lenOf own_pd18 rfl) rfl (own_w0 rfl rfl) (hb hby at_403) (fun _ _ => ⟨rfl, e550, (by decide : 20 + 0 ≤ 40), (by decide : 256 + 0 ≤ 3264)⟩)
                        dsimp only [Pt.U, Pt.locs, Pt.cells, Pt.slots] at X636 l636 y636 z636 st636 hQ636
                        subst l636 y636 z636
                        obtain ⟨rfl, N636, e636⟩ := hQ636
                        have N638 := Fr.app N525 N636
                        refine own_tr (T' := T636) (g' := (mkF m 406 #[.val (.int p1), .val (.int p2), .val (.int p3), .val (.int p4), .val (.int p5), .val (.int 0), .val (.int kk), .val (.int f7), .val (.int f8), .val (.int 5), .val (.int cv), .val (.ref b354), .val (.ref b395), .val (.ref b436), .val (.ref y), .val (.ref u1), .val (.ref u2), .val (.ref b508), .unset, .unset] [(.int 76), (.int cv)])) st636 ?_
                        by_cases hc639 : cv = (76 : Int32)
                        ·
                          refine own_st (T' := T636) (g' := (mkF m 414 #[.val (.int p1), .val (.int p2), .val (.int p3), .val (.int p4), .val (.int p5), .val (.int 0), .val (.int kk), .val (.int f7), .val (.int f8), .val (.int 5), .val (.int cv), .val (.ref b354), .val (.ref b395), .val (.ref b436), .val (.ref y), .val (.ref u1), .val (.ref u2), .val (.ref b508), .unset, .unset] [(.int 1)])) (fun _ kt => XS.icmpNo X636.here hx rfl (hb hby at_406) rfl (XT.ii_ne_f hc639) (XS.iconst X636.here hx rfl (hb hby at_409) (XS.goto X636.here hx rfl (pc0 := 410) (pc' := 414) rfl (hb hby at_410) (by decide) (by decide) kt))) ?_
                          have F640 : Fld Z h550 y "java/lang/String" "coder" "B" (.int 0) := (Fld.ext E550 (Fld.keep (Fld.ext E508 F503) K520_ (ninS ne509 nin0)))
                          have F641 : Exa Z h550 b508 "java/util/ArrayList" := (Exa.ext E550 P521)
                          have F642 : Fld Z h550 b508 "java/util/AbstractList" "modCount" "I" (.int 0) := (Fld.ext E550 P522)
                          have F643 : Fld Z h550 b508 "java/util/ArrayList" "elementData" "[Ljava/lang/Object;" (.ref de) := (Fld.ext E550 P523)
                          have F644 : Fld Z h550 b508 "java/util/ArrayList" "size" "I" (.int 0) := (Fld.ext E550 P524)
                          exact J528 _ _ _ _ _ (1 : Int32) ⟨N638, Z552, F635, CR551, hS550, hk550, hZ550, hown550, F553, F640, F554, F555, F556, F557, F641, F642, F643, F644, (by unfold own_l18; rw [if_pos hc541]; simp +decide [own_ex, hc639])⟩ (X636.mono (by decide) (by decide)) e636
                        ·
                          refine own_st (T' := T636) (g' := (mkF m 414 #[.val (.int p1), .val (.int p2), .val (.int p3), .val (.int p4), .val (.int p5), .val (.int 0), .val (.int kk), .val (.int f7), .val (.int f8), .val (.int 5), .val (.int cv), .val (.ref b354), .val (.ref b395), .val (.ref b436), .val (.ref y), .val (.ref u1), .val (.ref u2), .val (.ref b508), .unset, .unset] [(.int 0)])) (fun _ kt => XS.icmpYes X636.here hx rfl (pc0 := 406) (pc' := 413) rfl (hb hby at_406) rfl (XT.ii_ne_t hc639) (by decide) (by decide) (XS.iconst X636.here hx rfl (hb hby at_413) kt)) ?_
                          have F645 : Fld Z h550 y "java/lang/String" "coder" "B" (.int 0) := (Fld.ext E550 (Fld.keep (Fld.ext E508 F503) K520_ (ninS ne509 nin0)))
                          have F646 : Exa Z h550 b508 "java/util/ArrayList" := (Exa.ext E550 P521)
                          have F647 : Fld Z h550 b508 "java/util/AbstractList" "modCount" "I" (.int 0) := (Fld.ext E550 P522)
                          have F648 : Fld Z h550 b508 "java/util/ArrayList" "elementData" "[Ljava/lang/Object;" (.ref de) := (Fld.ext E550 P523)
                          have F649 : Fld Z h550 b508 "java/util/ArrayList" "size" "I" (.int 0) := (Fld.ext E550 P524)
                          exact J528 _ _ _ _ _ (0 : Int32) ⟨N638, Z552, F635, CR551, hS550, hk550, hZ550, hown550, F553, F645, F554, F555, F556, F557, F646, F647, F648, F649, (by unfold own_l18; rw [if_pos hc541]; simp +decide [own_ex, hc639])⟩ (X636.mono (by decide) (by decide)) e636
                      ·
                        have F650 : Old Z n0 h550 := (Old.ext (Old.keep F519 K520_ (allS ge_b508 all0)) E550)
                        obtain ⟨cq652, kq652, qa652, qb652, qc652⟩ := isOf hZ550 e550 gE550
                        obtain ⟨_, _, ⟨T651, L651, k651, n651⟩, -, X651, ⟨Lc651, hQ651, l651, y651, z651⟩, st651⟩ := X550.virtualBack hx (y := yN0) (z := yN0) hown550 (mvT hZ550 (own_k hw 72 rfl)) (mvT hZ550 (own_k hw 73 rfl)) (notFace_of_selects (args := #[]) (mvT hZ550 (own_k hw 75 rfl))) (mvT hZ550 (own_k hw 75 rfl)) (mvT hZ550 (own_k hw 74 rfl)) (by decide) (backOf (W := 1) (own_ca l Z a0 hw [] b550 zc d550 (6 : Int32) fmt kd550 (7 : Int32) [(.int 86), (.int 69), (.int 72), (.int 73), (.int 67), (.int 76), (.int 69)] (69 : Int32) (69 : Int32) h550 n0 Z552 F650 pr2 pr3 pr4 pr5 gE550 gC550 gV550 gA550 (show ¬ (6 : Int32) < 0 ∧ (6 : Int32) < (7 : Int32) from (by decide)) rfl (show nar .char (((69 : Int32) &&& (255 : Int32)).toUInt32.toUInt16.toUInt32.toInt32) = (69 : Int32) from (by decide)) (show nar .char (69 : Int32) = (69 : Int32) from (by decide))) hZ550 (own_k hw 76 rfl) (own_k hw 4 rfl) (by decide) (by decide)) qa652 qc652 (g := (mkF m 403 #[.val (.int p1), .val (.int p2), .val (.int p3), .val (.int p4), .val (.int p5), .val (.int 0), .val (.int kk), .val (.int f7), .val (.int f8), .val (.int 6), .val (.int cv), .val (.ref b354), .val (.ref b395), .val (.ref b436), .val (.ref y), .val (.ref u1), .val (.ref u2), .val (.ref b508), .unset, .unset] [(.int 6), (.ref b550), (.int cv)])) rfl hml.symm (Steps.refl _) (argsL := [(.int 6)]) (rest := [(.int cv)]) (lenOf own_pd18 rfl) rfl (own_w0 rfl rfl) (hb hby at_403) (fun _ _ => ⟨rfl, e550, (by decide : 20 + 0 ≤ 40), (by decide : 256 + 0 ≤ 3264)⟩)
                        dsimp only [Pt.U, Pt.locs, Pt.cells, Pt.slots] at X651 l651 y651 z651 st651 hQ651
                        subst l651 y651 z651
                        obtain ⟨rfl, N651, e651⟩ := hQ651
                        have N653 := Fr.app N525 N651
                        refine own_tr (T' := T651) (g' := (mkF m 406 #[.val (.int p1), .val (.int p2), .val (.int p3), .val (.int p4), .val (.int p5), .val (.int 0), .val (.int kk), .val (.int f7), .val (.int f8), .val (.int 6), .val (.int cv), .val (.ref b354), .val (.ref b395), .val (.ref b436), .val (.ref y), .val (.ref u1), .val (.ref u2), .val (.ref b508), .unset, .unset] [(.int 69), (.int cv)])) st651 ?_
                        by_cases hc654 : cv = (69 : Int32)
                        ·
                          refine own_st (T' := T651) (g' := (mkF m 414 #[.val (.int p1), .val (.int p2), .val (.int p3), .val (.int p4), .val (.int p5), .val (.int 0), .val (.int kk), .val (.int f7), .val (.int f8), .val (.int 6), .val (.int cv), .val (.ref b354), .val (.ref b395), .val (.ref b436), .val (.ref y), .val (.ref u1), .val (.ref u2), .val (.ref b508), .unset, .unset] [(.int 1)])) (fun _ kt => XS.icmpNo X651.here hx rfl (hb hby at_406) rfl (XT.ii_ne_f hc654) (XS.iconst X651.here hx rfl (hb hby at_409) (XS.goto X651.here hx rfl (pc0 := 410) (pc' := 414) rfl (hb hby at_410) (by decide) (by decide) kt))) ?_
                          have F655 : Fld Z h550 y "java/lang/String" "coder" "B" (.int 0) := (Fld.ext E550 (Fld.keep (Fld.ext E508 F503) K520_ (ninS ne509 nin0)))
                          have F656 : Exa Z h550 b508 "java/util/ArrayList" := (Exa.ext E550 P521)
                          have F657 : Fld Z h550 b508 "java/util/AbstractList" "modCount" "I" (.int 0) := (Fld.ext E550 P522)
                          have F658 : Fld Z h550 b508 "java/util/ArrayList" "elementData" "[Ljava/lang/Object;" (.ref de) := (Fld.ext E550 P523)
                          have F659 : Fld Z h550 b508 "java/util/ArrayList" "size" "I" (.int 0) := (Fld.ext E550 P524)
                          exact J528 _ _ _ _ _ (1 : Int32) ⟨N653, Z552, F650, CR551, hS550, hk550, hZ550, hown550, F553, F655, F554, F555, F556, F557, F656, F657, F658, F659, (by unfold own_l18; rw [if_pos hc541]; simp +decide [own_ex, hc654])⟩ (X651.mono (by decide) (by decide)) e651
                        ·
                          refine own_st (T' := T651) (g' := (mkF m 414 #[.val (.int p1), .val (.int p2), .val (.int p3), .val (.int p4), .val (.int p5), .val (.int 0), .val (.int kk), .val (.int f7), .val (.int f8), .val (.int 6), .val (.int cv), .val (.ref b354), .val (.ref b395), .val (.ref b436), .val (.ref y), .val (.ref u1), .val (.ref u2), .val (.ref b508), .unset, .unset] [(.int 0)])) (fun _ kt => XS.icmpYes X651.here hx rfl (pc0 := 406) (pc' := 413) rfl (hb hby at_406) rfl (XT.ii_ne_t hc654) (by decide) (by decide) (XS.iconst X651.here hx rfl (hb hby at_413) kt)) ?_
                          have F660 : Fld Z h550 y "java/lang/String" "coder" "B" (.int 0) := (Fld.ext E550 (Fld.keep (Fld.ext E508 F503) K520_ (ninS ne509 nin0)))
                          have F661 : Exa Z h550 b508 "java/util/ArrayList" := (Exa.ext E550 P521)
                          have F662 : Fld Z h550 b508 "java/util/AbstractList" "modCount" "I" (.int 0) := (Fld.ext E550 P522)
                          have F663 : Fld Z h550 b508 "java/util/ArrayList" "elementData" "[Ljava/lang/Object;" (.ref de) := (Fld.ext E550 P523)
                          have F664 : Fld Z h550 b508 "java/util/ArrayList" "size" "I" (.int 0) := (Fld.ext E550 P524)
                          exact J528 _ _ _ _ _ (0 : Int32) ⟨N653, Z552, F650, CR551, hS550, hk550, hZ550, hown550, F553, F660, F554, F555, F556, F557, F661, F662, F663, F664, (by unfold own_l18; rw [if_pos hc541]; simp +decide [own_ex, hc654])⟩ (X651.mono (by decide) (by decide)) e651
                      ·
                        exact absurd rfl hc542
                  ·
                    refine own_st (T' := T520) (g' := (mkF m 414 #[.val (.int p1), .val (.int p2), .val (.int p3), .val (.int p4), .val (.int p5), .val (.int 0), .val (.int kk), .val (.int f7), .val (.int f8), .val (.int m2), .val (.int cv), .val (.ref b354), .val (.ref b395), .val (.ref b436), .val (.ref y), .val (.ref u1), .val (.ref u2), .val (.ref b508), .unset, .unset] [(.int 0)])) (fun _ kt => XS.ifYes X520.here hx rfl (pc0 := 387) (pc' := 413) rfl (hb hby at_387) rfl (XT.i0_ne_t hc541) (by decide) (by decide) (XS.iconst X520.here hx rfl (hb hby at_413) kt)) ?_
                    have F665 : Old Z n0 T520.heap := (Old.keep F519 K520_ (allS ge_b508 all0))
                    have F666 : Exa Z T520.heap y "java/lang/String" := (Exa.keep (Exa.ext E508 F502) K520_)
                    have F667 : Fld Z T520.heap y "java/lang/String" "coder" "B" (.int 0) := (Fld.keep (Fld.ext E508 F503) K520_ (ninS ne509 nin0))
                    have F668 : Fld Z T520.heap y "java/lang/String" "value" "[B" (.ref t) := (Fld.keep (Fld.ext E508 F504) K520_ (ninS ne509 nin0))
                    have F669 : Arv Z T520.heap t kt .byte zz vl (.int 0) := (Arv.keep (F505.ext E508) K520_ (ninS ne510 nin0))
                    have F670 : Exa Z T520.heap u1 "java/lang/String" := (Exa.keep (Exa.ext E508 F506) K520_)
                    have F671 : Exa Z T520.heap u2 "java/lang/String" := (Exa.keep (Exa.ext E508 F507) K520_)
                    exact J528 _ _ _ _ _ (0 : Int32) ⟨N525, Z527, F665, CR526, hS501, hk527, hZ501, hown501, F666, F667, F668, F669, F670, F671, P521, P522, P523, P524, (by unfold own_l18; rw [if_neg hc541])⟩ (X520.mono (by decide) (by decide)) rfl
              ·
                refine own_st (T' := T520) (g' := (mkF m 353 #[.val (.int p1), .val (.int p2), .val (.int p3), .val (.int p4), .val (.int p5), .val (.int 1), .val (.int kk), .val (.int f7), .val (.int f8), .val (.int m2), .val (.int cv), .val (.ref b354), .val (.ref b395), .val (.ref b436), .val (.ref y), .val (.ref u1), .val (.ref u2), .val (.ref b508), .unset, .unset] [(.ref u1), (.ref b508)])) (fun _ kt => XS.iload X520.here hx rfl (hb hby at_343) rfl (XS.iconst X520.here hx rfl (hb hby at_345) (XS.icmpNo X520.here hx rfl (hb hby at_346) rfl (XT.ii_lt_f (by decide)) (XS.aload X520.here hx rfl (hb hby at_349) rfl rfl (XS.aload X520.here hx rfl (hb hby at_351) rfl rfl kt))))) ?_
                have F672 : Old Z n0 T520.heap := (Old.keep F519 K520_ (allS ge_b508 all0))
                have F673 : Exa Z T520.heap u1 "java/lang/String" := (Exa.keep (Exa.ext E508 F506) K520_)
                obtain ⟨cq675, kq675, qa675, qb675, qc675⟩ := isOf hZ501 rfl P521
                obtain ⟨_, _, ⟨T674, L674, k674, n674⟩, -, X674, ⟨Lc674, hQ674, l674, y674, z674⟩, st674⟩ := X520.virtualBack hx (y := yN1) (z := yN1) hown501 (mvT hZ501 (own_k hw 108 rfl)) (mvT hZ501 (own_k hw 109 rfl)) (notFace_of_selects (args := #[]) (mvT hZ501 (own_k hw 111 rfl))) (mvT hZ501 (own_k hw 111 rfl)) (mvT hZ501 (own_k hw 110 rfl)) (by decide) (backOf (W := 0) (own_a1_0 l Z a0 hw [] b508 (0 : Int32) u1 de kd T520.heap n0 Z527 F672 pr6 pr7 ge_b508 F673 P521 P522 P523 P524) hZ501 (own_k hw 112 rfl) (own_k hw 47 rfl) (by decide) (by decide)) qa675 qc675 (g := (mkF m 353 #[.val (.int p1), .val (.int p2), .val (.int p3), .val (.int p4), .val (.int p5), .val (.int 1), .val (.int kk), .val (.int f7), .val (.int f8), .val (.int m2), .val (.int cv), .val (.ref b354), .val (.ref b395), .val (.ref b436), .val (.ref y), .val (.ref u1), .val (.ref u2), .val (.ref b508), .unset, .unset] [(.ref u1), (.ref b508)])) rfl hml.symm (Steps.refl _) (argsL := [(.ref u1)]) (rest := []) (lenOf own_pd16 rfl) rfl (own_w0 rfl rfl) (hb hby at_353) (fun _ _ => ⟨rfl, rfl, (by decide : 18 + 1 ≤ 40), (by decide : 224 + 10 ≤ 3264)⟩)
                dsimp only [Pt.U, Pt.locs, Pt.cells, Pt.slots] at X674 l674 y674 z674 st674 hQ674
                subst l674 y674 z674
                obtain ⟨b_674, kb_674, rfl, N674, K674_, P676, P677, P678, P679, P680, P681, P682⟩ := hQ674
                have N683 := Fr.app N525 N674
                have F684 : Safe Z own_EL vm501 T520.heap b508 := (Safe.keep K520_ (sfS S515 sf0) CR513.1 S515)
                have CR685 : CHr Z own_EL s.vm h0 vm501 T674.heap := CHr.trans CR526 (CHr.keep K674_ (sfS F684 sf0) CR526.1)
                have Z686 : n0 ≤ T674.heap.size := Nat.le_trans Z527 K674_.1
                have hk686 := Nat.le_trans hk527 K674_.1
                have F687 : Exa Z T520.heap y "java/lang/String" := (Exa.keep (Exa.ext E508 F502) K520_)
                have ne688 : y ≠ b_674 := Nat.ne_of_lt (Nat.lt_of_lt_of_le F687.lt P682)
                have F689 : Arv Z T520.heap t kt .byte zz vl (.int 0) := (Arv.keep (F505.ext E508) K520_ (ninS ne510 nin0))
                have ne690 : t ≠ b_674 := Nat.ne_of_lt (Nat.lt_of_lt_of_le F689.lt P682)
                have ne691 : u1 ≠ b_674 := Nat.ne_of_lt (Nat.lt_of_lt_of_le F673.lt P682)
                have F692 : Exa Z T520.heap u2 "java/lang/String" := (Exa.keep (Exa.ext E508 F507) K520_)
                have ne693 : u2 ≠ b_674 := Nat.ne_of_lt (Nat.lt_of_lt_of_le F692.lt P682)
                have ge694 : n0 ≤ b_674 := Nat.le_trans Z527 P682
                refine own_tr (T' := T674) (g' := (mkF m 356 #[.val (.int p1), .val (.int p2), .val (.int p3), .val (.int p4), .val (.int p5), .val (.int 1), .val (.int kk), .val (.int f7), .val (.int f8), .val (.int m2), .val (.int cv), .val (.ref b354), .val (.ref b395), .val (.ref b436), .val (.ref y), .val (.ref u1), .val (.ref u2), .val (.ref b508), .unset, .unset] [(.int 1)])) st674 ?_
                refine own_st (T' := T674) (g' := (mkF m 385 #[.val (.int p1), .val (.int p2), .val (.int p3), .val (.int p4), .val (.int p5), .val (.int 1), .val (.int kk), .val (.int f7), .val (.int f8), .val (.int m2), .val (.int cv), .val (.ref b354), .val (.ref b395), .val (.ref b436), .val (.ref y), .val (.ref u1), .val (.ref u2), .val (.ref b508), .unset, .unset] [])) (fun _ kt => XT.pop X674.here hx rfl (hb hby at_356) rfl rfl (XS.iload X674.here hx rfl (hb hby at_357) rfl (XS.iconst X674.here hx rfl (hb hby at_359) (XS.icmpYes X674.here hx rfl (pc0 := 360) (pc' := 371) rfl (hb hby at_360) rfl (XT.ii_lt_t (by decide)) (by decide) (by decide) (XS.iload X674.here hx rfl (hb hby at_371) rfl (XS.iconst X674.here hx rfl (hb hby at_373) (XS.icmpYes X674.here hx rfl (pc0 := 374) (pc' := 385) rfl (hb hby at_374) rfl (XT.ii_lt_t (by decide)) (by decide) (by decide) kt))))))) ?_
                refine own_joinHV (α := Int32) X674 (cells' := 23) (slots' := 294) (gj := fun q => (mkF m 414 #[.val (.int p1), .val (.int p2), .val (.int p3), .val (.int p4), .val (.int p5), .val (.int 1), .val (.int kk), .val (.int f7), .val (.int f8), .val (.int m2), .val (.int cv), .val (.ref b354), .val (.ref b395), .val (.ref b436), .val (.ref y), .val (.ref u1), .val (.ref u2), .val (.ref b508), .unset, .unset] [(.int q)])) (P := fun vm_ k_ L_ h_ q => (Fr n0 L_) ∧ (n0 ≤ h_.size) ∧ (Old Z n0 h_) ∧ (CHr Z own_EL s.vm h0 vm_ h_) ∧ (s.Since vm_ k_) ∧ (k_ ≤ h_.size) ∧ (Z.Warmed39 (s.setVm vm_).vm) ∧ ((s.setVm vm_).vm.findClass "com/example/tourwerk/tourwerk/problem/SolomonReaderRecognisesPinLaw" = some m.cls) ∧ (Exa Z h_ y "java/lang/String") ∧ (Fld Z h_ y "java/lang/String" "coder" "B" (.int 0)) ∧ (Fld Z h_ y "java/lang/String" "value" "[B" (.ref t)) ∧ (Arv Z h_ t kt .byte zz vl (.int 0)) ∧ (Exa Z h_ u1 "java/lang/String") ∧ (Exa Z h_ u2 "java/lang/String") ∧ (Exa Z h_ b508 "java/util/ArrayList") ∧ (Fld Z h_ b508 "java/util/AbstractList" "modCount" "I" (.int ((0 : Int32) + (1 : Int32)))) ∧ (Fld Z h_ b508 "java/util/ArrayList" "elementData" "[Ljava/lang/Object;" (.ref b_674)) ∧ (Fld Z h_ b508 "java/util/ArrayList" "size" "I" (.int 1)) ∧ (Arv Z h_ b_674 kb_674 (.object "java/lang/Object") (10 : Int32) [(.ref u1), .null, .null, .null, .null, .null, .null, .null, .null, .null] .null) ∧ (q = own_l18 kk m2 cv)) ?_ (fun J695 => ?_)
                · rintro vm695 k695 T695 L695 h695 ex ⟨N695, Z695, O695, CR695, hS695, hk695, hZ695, hown695, F696, F697, F698, F699, F700, F701, F702, F703, F704, F705, F706, hj695⟩ X695 e695
                  try dsimp only at F696 F697 F698 F699 F700 F701 F702 F703 F704 F705 F706 hj695 ⊢
                  refine own_st (T' := T695) (g' := (mkF m 436 #[.val (.int p1), .val (.int p2), .val (.int p3), .val (.int p4), .val (.int p5), .val (.int 1), .val (.int kk), .val (.int f7), .val (.int f8), .val (.int m2), .val (.int cv), .val (.ref b354), .val (.ref b395), .val (.ref b436), .val (.ref y), .val (.ref u1), .val (.ref u2), .val (.ref b508), .val (.int ex), .val (.int 0)] [(.ref b508)])) (fun _ kt => XS.istore X695.here hx rfl (hb hby at_414) rfl (l' := #[.val (.int p1), .val (.int p2), .val (.int p3), .val (.int p4), .val (.int p5), .val (.int 1), .val (.int kk), .val (.int f7), .val (.int f8), .val (.int m2), .val (.int cv), .val (.ref b354), .val (.ref b395), .val (.ref b436), .val (.ref y), .val (.ref u1), .val (.ref u2), .val (.ref b508), .val (.int ex), .unset]) rfl (XS.iload X695.here hx rfl (hb hby at_416) rfl (XS.iconst X695.here hx rfl (hb hby at_418) (XS.icmpYes X695.here hx rfl (pc0 := 419) (pc' := 431) rfl (hb hby at_419) rfl (XT.ii_lt_t (by decide)) (by decide) (by decide) (XS.iconst X695.here hx rfl (hb hby at_431) (XS.istore X695.here hx rfl (hb hby at_432) rfl (l' := #[.val (.int p1), .val (.int p2), .val (.int p3), .val (.int p4), .val (.int p5), .val (.int 1), .val (.int kk), .val (.int f7), .val (.int f8), .val (.int m2), .val (.int cv), .val (.ref b354), .val (.ref b395), .val (.ref b436), .val (.ref y), .val (.ref u1), .val (.ref u2), .val (.ref b508), .val (.int ex), .val (.int 0)]) rfl (XS.aload X695.here hx rfl (hb hby at_434) rfl rfl kt))))))) ?_
                  obtain ⟨_, _, ⟨T707, L707, k707, n707⟩, -, X707, ⟨Lc707, hQ707, l707, y707, z707⟩, st707⟩ := Jvm.LawKit.callS X695 hx (y := yN3) hown695 (mvT hZ695 (own_k hw 93 rfl)) (mvT hZ695 (own_k hw 94 rfl)) (mvT hZ695 (own_k hw 95 rfl)) (mvT hZ695 (own_k hw 96 rfl)) (by decide) (backOf (W := 0) (own_rc0 l Z a0 hw [] b508 (1 : Int32) h695 n0 Z695 F702 F705 (show (1 : Int32) < (2 : Int32) from (by decide))) hZ695 (own_k hw 96 rfl) (own_k hw 95 rfl) (by decide) (by decide)) (g := (mkF m 436 #[.val (.int p1), .val (.int p2), .val (.int p3), .val (.int p4), .val (.int p5), .val (.int 1), .val (.int kk), .val (.int f7), .val (.int f8), .val (.int m2), .val (.int cv), .val (.ref b354), .val (.ref b395), .val (.ref b436), .val (.ref y), .val (.ref u1), .val (.ref u2), .val (.ref b508), .val (.int ex), .val (.int 0)] [(.ref b508)])) rfl hml.symm  (argsL := [(.ref b508)]) (rest := []) (lenOf own_pd17 rfl) rfl (own_w0 rfl rfl) (hb hby at_436) (fun _ _ => ⟨rfl, e695, (by decide : 23 + 0 ≤ 40), (by decide : 294 + 0 ≤ 3264)⟩)
                  dsimp only [Pt.U, Pt.locs, Pt.cells, Pt.slots] at X707 l707 y707 z707 st707 hQ707
                  subst l707 y707 z707
                  obtain ⟨rfl, N707, e707⟩ := hQ707
                  have N708 := Fr.app N695 N707
                  refine own_st (T' := T707) (g' := (mkF m 439 #[.val (.int p1), .val (.int p2), .val (.int p3), .val (.int p4), .val (.int p5), .val (.int 1), .val (.int kk), .val (.int f7), .val (.int f8), .val (.int m2), .val (.int cv), .val (.ref b354), .val (.ref b395), .val (.ref b436), .val (.ref y), .val (.ref u1), .val (.ref u2), .val (.ref b508), .val (.int ex), .val (.int 0)] [(.int 0)])) st707 ?_
                  refine own_st (T' := T707) (g' := (mkF m 449 #[.val (.int p1), .val (.int p2), .val (.int p3), .val (.int p4), .val (.int p5), .val (.int 1), .val (.int kk), .val (.int f7), .val (.int f8), .val (.int m2), .val (.int cv), .val (.ref b354), .val (.ref b395), .val (.ref b436), .val (.ref y), .val (.ref u1), .val (.ref u2), .val (.ref b508), .val (.int ex), .val (.int 0)] [(.int 1)])) (fun _ kt => XS.iload X707.here hx rfl (hb hby at_439) rfl (XS.icmpNo X707.here hx rfl (hb hby at_441) rfl (XT.ii_ne_f rfl) (XS.iconst X707.here hx rfl (hb hby at_444) (XS.goto X707.here hx rfl (pc0 := 445) (pc' := 449) rfl (hb hby at_445) (by decide) (by decide) kt)))) ?_
                  obtain ⟨fs, hr, hrun, hended, hE⟩ := Stand.leaveW X707 hS695 (by rw [e707]; exact hk695) (v := some (.int 1)) (fun h => by rw [Bd.returns] at h; cases h)
                  refine own_end (retN X707 hx (t := .boolean) Bd.returns (by simp) (hb hby at_449) hr) ⟨_, hrun, hended, _, _, rfl, ?_, (by rw [hh]; show CHr Z own_EL s.vm h0 T707.vm T707.heap; rw [e707]; exact CHr.trans CR695 (CHv.at X707 hZ695 (own_EW hw) CR695.1)), ⟨hE.1, hE.2.1, hE.2.2.1, hE.2.2.2.mono (by decide) (by decide)⟩⟩
                  show own_lawQ Z _ _ _ _ _ _ _ _ _ h0 n0 _ T707.heap _
                  rw [e707]
                  exact ⟨rfl, N708⟩
                ·
                  refine own_st (T' := T674) (g' := (mkF m 387 #[.val (.int p1), .val (.int p2), .val (.int p3), .val (.int p4), .val (.int p5), .val (.int 1), .val (.int kk), .val (.int f7), .val (.int f8), .val (.int m2), .val (.int cv), .val (.ref b354), .val (.ref b395), .val (.ref b436), .val (.ref y), .val (.ref u1), .val (.ref u2), .val (.ref b508), .unset, .unset] [(.int kk)])) (fun _ kt => XS.iload X674.here hx rfl (hb hby at_385) rfl kt) ?_
                  by_cases hc709 : kk = 0
                  ·
                    refine own_st (T' := T674) (g' := (mkF m 394 #[.val (.int p1), .val (.int p2), .val (.int p3), .val (.int p4), .val (.int p5), .val (.int 1), .val (.int kk), .val (.int f7), .val (.int f8), .val (.int m2), .val (.int cv), .val (.ref b354), .val (.ref b395), .val (.ref b436), .val (.ref y), .val (.ref u1), .val (.ref u2), .val (.ref b508), .unset, .unset] [(.int 7), (.int m2)])) (fun _ kt => XS.ifNo X674.here hx rfl (hb hby at_387) rfl (XT.i0_ne_f hc709) (XS.iload X674.here hx rfl (hb hby at_390) rfl (XS.bipush X674.here hx rfl (hb hby at_392) kt))) ?_
                    by_cases hc710 : m2 = (7 : Int32)
                    ·
                      refine own_st (T' := T674) (g' := (mkF m 414 #[.val (.int p1), .val (.int p2), .val (.int p3), .val (.int p4), .val (.int p5), .val (.int 1), .val (.int kk), .val (.int f7), .val (.int f8), .val (.int m2), .val (.int cv), .val (.ref b354), .val (.ref b395), .val (.ref b436), .val (.ref y), .val (.ref u1), .val (.ref u2), .val (.ref b508), .unset, .unset] [(.int 1)])) (fun _ kt => XS.icmpYes X674.here hx rfl (pc0 := 394) (pc' := 409) rfl (hb hby at_394) rfl (XT.ii_eq_t hc710) (by decide) (by decide) (XS.iconst X674.here hx rfl (hb hby at_409) (XS.goto X674.here hx rfl (pc0 := 410) (pc' := 414) rfl (hb hby at_410) (by decide) (by decide) kt))) ?_
                      have F711 : Old Z n0 T674.heap := (Old.keep F672 K674_ (allS ge_b508 all0))
                      have F712 : Exa Z T674.heap y "java/lang/String" := (Exa.keep F687 K674_)
                      have F713 : Fld Z T674.heap y "java/lang/String" "coder" "B" (.int 0) := (Fld.keep (Fld.keep (Fld.ext E508 F503) K520_ (ninS ne509 nin0)) K674_ (ninS ne509 nin0))
                      have F714 : Fld Z T674.heap y "java/lang/String" "value" "[B" (.ref t) := (Fld.keep (Fld.keep (Fld.ext E508 F504) K520_ (ninS ne509 nin0)) K674_ (ninS ne509 nin0))
                      have F715 : Arv Z T674.heap t kt .byte zz vl (.int 0) := (Arv.keep F689 K674_ (ninS ne510 nin0))
                      have F716 : Exa Z T674.heap u1 "java/lang/String" := (Exa.keep F673 K674_)
                      have F717 : Exa Z T674.heap u2 "java/lang/String" := (Exa.keep F692 K674_)
                      exact J695 _ _ _ _ _ (1 : Int32) ⟨N683, Z686, F711, CR685, hS501, hk686, hZ501, hown501, F712, F713, F714, F715, F716, F717, P676, P677, P678, P679, P680, (by unfold own_l18; rw [if_pos hc709, hc710]; rfl)⟩ (X674.mono (by decide) (by decide)) rfl
                    ·
                      refine own_st (T' := T674) (g' := (mkF m 399 #[.val (.int p1), .val (.int p2), .val (.int p3), .val (.int p4), .val (.int p5), .val (.int 1), .val (.int kk), .val (.int f7), .val (.int f8), .val (.int m2), .val (.int cv), .val (.ref b354), .val (.ref b395), .val (.ref b436), .val (.ref y), .val (.ref u1), .val (.ref u2), .val (.ref b508), .unset, .unset] [(.int cv)])) (fun _ kt => XS.icmpNo X674.here hx rfl (hb hby at_394) rfl (XT.ii_eq_f hc710) (XS.iload X674.here hx rfl (hb hby at_397) rfl kt)) ?_
                      obtain ⟨b718, T718, h718, k718, d718, kd718, X718, e718, E718, hS718, hk718, hZ718, hown718, gE718, gC718, gV718, gA718, la718, lb718, hC718, -, hsf718, st718⟩ := ldcCH X674 hx hZ501 hown501 (own_k hw 69 rfl) (own_wS hw) rfl hS501 hk686 (own_EW hw) (show ("com/example/tourwerk/tourwerk/problem/SolomonReaderRecognisesPinLaw", 15) ∈ own_EL by simp [own_EL]) CR685.1 (vs := [(.int 86), (.int 69), (.int 72), (.int 73), (.int 67), (.int 76), (.int 69)]) (z := (7 : Int32)) ⟨by decide +kernel, by first | rfl | decide +kernel⟩ (by decide) rfl (g := (mkF m 399 #[.val (.int p1), .val (.int p2), .val (.int p3), .val (.int p4), .val (.int p5), .val (.int 1), .val (.int kk), .val (.int f7), .val (.int f8), .val (.int m2), .val (.int cv), .val (.ref b354), .val (.ref b395), .val (.ref b436), .val (.ref y), .val (.ref u1), .val (.ref u2), .val (.ref b508), .unset, .unset] [(.int cv)])) rfl (hb hby at_399) (n := 28) (by decide +kernel) (by decide) (by decide) (by decide)
                      have CR719 : CHr Z own_EL s.vm h0 T718.vm h718 := CHr.trans CR685 hC718
                      have Z720 : n0 ≤ h718.size := Nat.le_trans Z686 E718.1
                      have hk720 := Nat.le_trans hk686 E718.1
                      have F721 : Exa Z h718 y "java/lang/String" := (Exa.ext E718 (Exa.keep F687 K674_))
                      have F722 : Fld Z h718 y "java/lang/String" "value" "[B" (.ref t) := (Fld.ext E718 (Fld.keep (Fld.keep (Fld.ext E508 F504) K520_ (ninS ne509 nin0)) K674_ (ninS ne509 nin0)))
                      have F723 : Arv Z h718 t kt .byte zz vl (.int 0) := ((Arv.keep F689 K674_ (ninS ne510 nin0)).ext E718)
                      have F724 : Exa Z h718 u1 "java/lang/String" := (Exa.ext E718 (Exa.keep F673 K674_))
                      have F725 : Exa Z h718 u2 "java/lang/String" := (Exa.ext E718 (Exa.keep F692 K674_))
                      have F726 : Safe Z own_EL T718.vm h718 b508 := (CHr.safe hC718 P676.lt (Safe.keep K674_ (sfS F684 sf0) CR526.1 F684))
                      have ne727 := hsf718 b508 F726
                      have F728 : Arv Z h718 b_674 kb_674 (.object "java/lang/Object") (10 : Int32) [(.ref u1), .null, .null, .null, .null, .null, .null, .null, .null, .null] .null := (P680.ext E718)
                      have ne729 := hsf718 b_674 (Safe.arv (State.Warmed39.alike hZ718) F728 (by decide))
                      refine own_st (T' := T718) (g' := (mkF m 401 #[.val (.int p1), .val (.int p2), .val (.int p3), .val (.int p4), .val (.int p5), .val (.int 1), .val (.int kk), .val (.int f7), .val (.int f8), .val (.int m2), .val (.int cv), .val (.ref b354), .val (.ref b395), .val (.ref b436), .val (.ref y), .val (.ref u1), .val (.ref u2), .val (.ref b508), .unset, .unset] [(.ref b718), (.int cv)])) st718 ?_
                      refine own_st (T' := T718) (g' := (mkF m 403 #[.val (.int p1), .val (.int p2), .val (.int p3), .val (.int p4), .val (.int p5), .val (.int 1), .val (.int kk), .val (.int f7), .val (.int f8), .val (.int m2), .val (.int cv), .val (.ref b354), .val (.ref b395), .val (.ref b436), .val (.ref y), .val (.ref u1), .val (.ref u2), .val (.ref b508), .unset, .unset] [(.int m2), (.ref b718), (.int cv)])) (fun _ kt => XS.iload X718.here hx rfl (hb hby at_401) rfl kt) ?_
                      rcases q_m2 with rfl | rfl | rfl | rfl | rfl | rfl | rfl | rfl
                      ·
                        have F730 : Old Z n0 h718 := (Old.ext (Old.keep F672 K674_ (allS ge_b508 all0)) E718)
                        obtain ⟨cq732, kq732, qa732, qb732, qc732⟩ := isOf hZ718 e718 gE718
                        obtain ⟨_, _, ⟨T731, L731, k731, n731⟩, -, X731, ⟨Lc731, hQ731, l731, y731, z731⟩, st731⟩ := X718.virtualBack hx (y := yN0) (z := yN0) hown718 (mvT hZ718 (own_k hw 72 rfl)) (mvT hZ718 (own_k hw 73 rfl)) (notFace_of_selects (args := #[]) (mvT hZ718 (own_k hw 75 rfl))) (mvT hZ718 (own_k hw 75 rfl)) (mvT hZ718 (own_k hw 74 rfl)) (by decide) (backOf (W := 1) (own_ca l Z a0 hw [] b718 zc d718 (0 : Int32) fmt kd718 (7 : Int32) [(.int 86), (.int 69), (.int 72), (.int 73), (.int 67), (.int 76), (.int 69)] (86 : Int32) (86 : Int32) h718 n0 Z720 F730 pr2 pr3 pr4 pr5 gE718 gC718 gV718 gA718 (show ¬ (0 : Int32) < 0 ∧ (0 : Int32) < (7 : Int32) from (by decide)) rfl (show nar .char (((86 : Int32) &&& (255 : Int32)).toUInt32.toUInt16.toUInt32.toInt32) = (86 : Int32) from (by decide)) (show nar .char (86 : Int32) = (86 : Int32) from (by decide))) hZ718 (own_k hw 76 rfl) (own_k hw 4 rfl) (by decide) (by decide)) qa732 qc732 (g := (mkF m 403 #[.val (.int p1), .val (.int p2), .val (.int p3), .val (.int p4), .val (.int p5), .val (.int 1), .val (.int kk), .val (.int f7), .val (.int f8), .val (.int 0), .val (.int cv), .val (.ref b354), .val (.ref b395), .val (.ref b436), .val (.ref y), .val (.ref u1), .val (.ref u2), .val (.ref b508), .unset, .unset] [(.int 0), (.ref b718), (.int cv)])) rfl hml.symm (Steps.refl _) (argsL := [(.int 0)]) (rest := [(.int cv)]) (lenOf own_pd18 rfl) rfl (own_w0 rfl rfl) (hb hby at_403) (fun _ _ => ⟨rfl, e718, (by decide : 21 + 0 ≤ 40), (by decide : 266 + 0 ≤ 3264)⟩)
                        dsimp only [Pt.U, Pt.locs, Pt.cells, Pt.slots] at X731 l731 y731 z731 st731 hQ731
                        subst l731 y731 z731
                        obtain ⟨rfl, N731, e731⟩ := hQ731
                        have N733 := Fr.app N683 N731
                        refine own_tr (T' := T731) (g' := (mkF m 406 #[.val (.int p1), .val (.int p2), .val (.int p3), .val (.int p4), .val (.int p5), .val (.int 1), .val (.int kk), .val (.int f7), .val (.int f8), .val (.int 0), .val (.int cv), .val (.ref b354), .val (.ref b395), .val (.ref b436), .val (.ref y), .val (.ref u1), .val (.ref u2), .val (.ref b508), .unset, .unset] [(.int 86), (.int cv)])) st731 ?_
                        by_cases hc734 : cv = (86 : Int32)
                        ·
                          refine own_st (T' := T731) (g' := (mkF m 414 #[.val (.int p1), .val (.int p2), .val (.int p3), .val (.int p4), .val (.int p5), .val (.int 1), .val (.int kk), .val (.int f7), .val (.int f8), .val (.int 0), .val (.int cv), .val (.ref b354), .val (.ref b395), .val (.ref b436), .val (.ref y), .val (.ref u1), .val (.ref u2), .val (.ref b508), .unset, .unset] [(.int 1)])) (fun _ kt => XS.icmpNo X731.here hx rfl (hb hby at_406) rfl (XT.ii_ne_f hc734) (XS.iconst X731.here hx rfl (hb hby at_409) (XS.goto X731.here hx rfl (pc0 := 410) (pc' := 414) rfl (hb hby at_410) (by decide) (by decide) kt))) ?_
                          have F735 : Fld Z h718 y "java/lang/String" "coder" "B" (.int 0) := (Fld.ext E718 (Fld.keep (Fld.keep (Fld.ext E508 F503) K520_ (ninS ne509 nin0)) K674_ (ninS ne509 nin0)))
                          have F736 : Exa Z h718 b508 "java/util/ArrayList" := (Exa.ext E718 P676)
                          have F737 : Fld Z h718 b508 "java/util/AbstractList" "modCount" "I" (.int ((0 : Int32) + (1 : Int32))) := (Fld.ext E718 P677)
                          have F738 : Fld Z h718 b508 "java/util/ArrayList" "elementData" "[Ljava/lang/Object;" (.ref b_674) := (Fld.ext E718 P678)
                          have F739 : Fld Z h718 b508 "java/util/ArrayList" "size" "I" (.int 1) := (Fld.ext E718 P679)
                          exact J695 _ _ _ _ _ (1 : Int32) ⟨N733, Z720, F730, CR719, hS718, hk718, hZ718, hown718, F721, F735, F722, F723, F724, F725, F736, F737, F738, F739, F728, (by unfold own_l18; rw [if_pos hc709]; simp +decide [own_ex, hc734])⟩ (X731.mono (by decide) (by decide)) e731
                        ·
                          refine own_st (T' := T731) (g' := (mkF m 414 #[.val (.int p1), .val (.int p2), .val (.int p3), .val (.int p4), .val (.int p5), .val (.int 1), .val (.int kk), .val (.int f7), .val (.int f8), .val (.int 0), .val (.int cv), .val (.ref b354), .val (.ref b395), .val (.ref b436), .val (.ref y), .val (.ref u1), .val (.ref u2), .val (.ref b508), .unset, .unset] [(.int 0)])) (fun _ kt => XS.icmpYes X731.here hx rfl (pc0 := 406) (pc' := 413) rfl (hb hby at_406) rfl (XT.ii_ne_t hc734) (by decide) (by decide) (XS.iconst X731.here hx rfl (hb hby at_413) kt)) ?_
                          have F740 : Fld Z h718 y "java/lang/String" "coder" "B" (.int 0) := (Fld.ext E718 (Fld.keep (Fld.keep (Fld.ext E508 F503) K520_ (ninS ne509 nin0)) K674_ (ninS ne509 nin0)))
                          have F741 : Exa Z h718 b508 "java/util/ArrayList" := (Exa.ext E718 P676)
                          have F742 : Fld Z h718 b508 "java/util/AbstractList" "modCount" "I" (.int ((0 : Int32) + (1 : Int32))) := (Fld.ext E718 P677)
                          have F743 : Fld Z h718 b508 "java/util/ArrayList" "elementData" "[Ljava/lang/Object;" (.ref b_674) := (Fld.ext E718 P678)
                          have F744 : Fld Z h718 b508 "java/util/ArrayList" "size" "I" (.int 1) := (Fld.ext E718 P679)
                          exact J695 _ _ _ _ _ (0 : Int32) ⟨N733, Z720, F730, CR719, hS718, hk718, hZ718, hown718, F721, F740, F722, F723, F724, F725, F741, F742, F743, F744, F728, (by unfold own_l18; rw [if_pos hc709]; simp +decide [own_ex, hc734])⟩ (X731.mono (by decide) (by decide)) e731
                      ·
                        have F745 : Old Z n0 h718 := (Old.ext (Old.keep F672 K674_ (allS ge_b508 all0)) E718)
                        obtain ⟨cq747, kq747, qa747, qb747, qc747⟩ := isOf hZ718 e718 gE718
                        obtain ⟨_, _, ⟨T746, L746, k746, n746⟩, -, X746, ⟨Lc746, hQ746, l746, y746, z746⟩, st746⟩ := X718.virtualBack hx (y := yN0) (z := yN0) hown718 (mvT hZ718 (own_k hw 72 rfl)) (mvT hZ718 (own_k hw 73 rfl)) (notFace_of_selects (args := #[]) (mvT hZ718 (own_k hw 75 rfl))) (mvT hZ718 (own_k hw 75 rfl)) (mvT hZ718 (own_k hw 74 rfl)) (by decide) (backOf (W := 1) (own_ca l Z a0 hw [] b718 zc d718 (1 : Int32) fmt kd718 (7 : Int32) [(.int 86), (.int 69), (.int 72), (.int 73), (.int 67), (.int 76), (.int 69)] (69 : Int32) (69 : Int32) h718 n0 Z720 F745 pr2 pr3 pr4 pr5 gE718 gC718 gV718 gA718 (show ¬ (1 : Int32) < 0 ∧ (1 : Int32) < (7 : Int32) from (by decide)) rfl (show nar .char (((69 : Int32) &&& (255 : Int32)).toUInt32.toUInt16.toUInt32.toInt32) = (69 : Int32) from (by decide)) (show nar .char (69 : Int32) = (69 : Int32) from (by decide))) hZ718 (own_k hw 76 rfl) (own_k hw 4 rfl) (by decide) (by decide)) qa747 qc747 (g := (mkF m 403 #[.val (.int p1), .val (.int p2), .val (.int p3), .val (.int p4), .val (.int p5), .val (.int 1), .val (.int kk), .val (.int f7), .val (.int f8), .val (.int 1), .val (.int cv), .val (.ref b354), .val (.ref b395), .val (.ref b436), .val (.ref y), .val (.ref u1), .val (.ref u2), .val (.ref b508), .unset, .unset] [(.int 1), (.ref b718), (.int cv)])) rfl hml.symm (Steps.refl _) (argsL := [(.int 1)]) (rest := [(.int cv)]) (lenOf own_pd18 rfl) rfl (own_w0 rfl rfl) (hb hby at_403) (fun _ _ => ⟨rfl, e718, (by decide : 21 + 0 ≤ 40), (by decide : 266 + 0 ≤ 3264)⟩)
                        dsimp only [Pt.U, Pt.locs, Pt.cells, Pt.slots] at X746 l746 y746 z746 st746 hQ746
                        subst l746 y746 z746
                        obtain ⟨rfl, N746, e746⟩ := hQ746
                        have N748 := Fr.app N683 N746
                        refine own_tr (T' := T746) (g' := (mkF m 406 #[.val (.int p1), .val (.int p2), .val (.int p3), .val (.int p4), .val (.int p5), .val (.int 1), .val (.int kk), .val (.int f7), .val (.int f8), .val (.int 1), .val (.int cv), .val (.ref b354), .val (.ref b395), .val (.ref b436), .val (.ref y), .val (.ref u1), .val (.ref u2), .val (.ref b508), .unset, .unset] [(.int 69), (.int cv)])) st746 ?_
                        by_cases hc749 : cv = (69 : Int32)
                        ·
                          refine own_st (T' := T746) (g' := (mkF m 414 #[.val (.int p1), .val (.int p2), .val (.int p3), .val (.int p4), .val (.int p5), .val (.int 1), .val (.int kk), .val (.int f7), .val (.int f8), .val (.int 1), .val (.int cv), .val (.ref b354), .val (.ref b395), .val (.ref b436), .val (.ref y), .val (.ref u1), .val (.ref u2), .val (.ref b508), .unset, .unset] [(.int 1)])) (fun _ kt => XS.icmpNo X746.here hx rfl (hb hby at_406) rfl (XT.ii_ne_f hc749) (XS.iconst X746.here hx rfl (hb hby at_409) (XS.goto X746.here hx rfl (pc0 := 410) (pc' := 414) rfl (hb hby at_410) (by decide) (by decide) kt))) ?_
                          have F750 : Fld Z h718 y "java/lang/String" "coder" "B" (.int 0) := (Fld.ext E718 (Fld.keep (Fld.keep (Fld.ext E508 F503) K520_ (ninS ne509 nin0)) K674_ (ninS ne509 nin0)))
                          have F751 : Exa Z h718 b508 "java/util/ArrayList" := (Exa.ext E718 P676)
                          have F752 : Fld Z h718 b508 "java/util/AbstractList" "modCount" "I" (.int ((0 : Int32) + (1 : Int32))) := (Fld.ext E718 P677)
                          have F753 : Fld Z h718 b508 "java/util/ArrayList" "elementData" "[Ljava/lang/Object;" (.ref b_674) := (Fld.ext E718 P678)
                          have F754 : Fld Z h718 b508 "java/util/ArrayList" "size" "I" (.int 1) := (Fld.ext E718 P679)
                          exact J695 _ _ _ _ _ (1 : Int32) ⟨N748, Z720, F745, CR719, hS718, hk718, hZ718, hown718, F721, F750, F722, F723, F724, F725, F751, F752, F753, F754, F728, (by unfold own_l18; rw [if_pos hc709]; simp +decide [own_ex, hc749])⟩ (X746.mono (by decide) (by decide)) e746
                        ·
                          refine own_st (T' := T746) (g' := (mkF m 414 #[.val (.int p1), .val (.int p2), .val (.int p3), .val (.int p4), .val (.int p5), .val (.int 1), .val (.int kk), .val (.int f7), .val (.int f8), .val (.int 1), .val (.int cv), .val (.ref b354), .val (.ref b395), .val (.ref b436), .val (.ref y), .val (.ref u1), .val (.ref u2), .val (.ref b508), .unset, .unset] [(.int 0)])) (fun _ kt => XS.icmpYes X746.here hx rfl (pc0 := 406) (pc' := 413) rfl (hb hby at_406) rfl (XT.ii_ne_t hc749) (by decide) (by decide) (XS.iconst X746.here hx rfl (hb hby at_413) kt)) ?_
                          have F755 : Fld Z h718 y "java/lang/String" "coder" "B" (.int 0) := (Fld.ext E718 (Fld.keep (Fld.keep (Fld.ext E508 F503) K520_ (ninS ne509 nin0)) K674_ (ninS ne509 nin0)))
                          have F756 : Exa Z h718 b508 "java/util/ArrayList" := (Exa.ext E718 P676)
                          have F757 : Fld Z h718 b508 "java/util/AbstractList" "modCount" "I" (.int ((0 : Int32) + (1 : Int32))) := (Fld.ext E718 P677)
                          have F758 : Fld Z h718 b508 "java/util/ArrayList" "elementData" "[Ljava/lang/Object;" (.ref b_674) := (Fld.ext E718 P678)
                          have F759 : Fld Z h718 b508 "java/util/ArrayList" "size" "I" (.int 1) := (Fld.ext E718 P679)
                          exact J695 _ _ _ _ _ (0 : Int32) ⟨N748, Z720, F745, CR719, hS718, hk718, hZ718, hown718, F721, F755, F722, F723, F724, F725, F756, F757, F758, F759, F728, (by unfold own_l18; rw [if_pos hc709]; simp +decide [own_ex, hc749])⟩ (X746.mono (by decide) (by decide)) e746
                      ·
                        have F760 : Old Z n0 h718 := (Old.ext (Old.keep F672 K674_ (allS ge_b508 all0)) E718)
                        obtain ⟨cq762, kq762, qa762, qb762, qc762⟩ := isOf hZ718 e718 gE718
                        obtain ⟨_, _, ⟨T761, L761, k761, n761⟩, -, X761, ⟨Lc761, hQ761, l761, y761, z761⟩, st761⟩ := X718.virtualBack hx (y := yN0) (z := yN0) hown718 (mvT hZ718 (own_k hw 72 rfl)) (mvT hZ718 (own_k hw 73 rfl)) (notFace_of_selects (args := #[]) (mvT hZ718 (own_k hw 75 rfl))) (mvT hZ718 (own_k hw 75 rfl)) (mvT hZ718 (own_k hw 74 rfl)) (by decide) (backOf (W := 1) (own_ca l Z a0 hw [] b718 zc d718 (2 : Int32) fmt kd718 (7 : Int32) [(.int 86), (.int 69), (.int 72), (.int 73), (.int 67), (.int 76), (.int 69)] (72 : Int32) (72 : Int32) h718 n0 Z720 F760 pr2 pr3 pr4 pr5 gE718 gC718 gV718 gA718 (show ¬ (2 : Int32) < 0 ∧ (2 : Int32) < (7 : Int32) from (by decide)) rfl (show nar .char (((72 : Int32) &&& (255 : Int32)).toUInt32.toUInt16.toUInt32.toInt32) = (72 : Int32) from (by decide)) (show nar .char (72 : Int32) = (72 : Int32) from (by decide))) hZ718 (own_k hw 76 rfl) (own_k hw 4 rfl) (by decide) (by decide)) qa762 qc762 (g := (mkF m 403 #[.val (.int p1), .val (.int p2), .val (.int p3), .val (.int p4), .val (.int p5), .val (.int 1), .val (.int kk), .val (.int f7), .val (.int f8), .val (.int 2), .val (.int cv), .val (.ref b354), .val (.ref b395), .val (.ref b436), .val (.ref y), .val (.ref u1), .val (.ref u2), .val (.ref b508), .unset, .unset] [(.int 2), (.ref b718), (.int cv)])) rfl hml.symm (Steps.refl _) (argsL := [(.int 2)]) (rest := [(.int cv)]) (lenOf own_pd18 rfl) rfl (own_w0 rfl rfl) (hb hby at_403) (fun _ _ => ⟨rfl, e718, (by decide : 21 + 0 ≤ 40), (by decide : 266 + 0 ≤ 3264)⟩)
                        dsimp only [Pt.U, Pt.locs, Pt.cells, Pt.slots] at X761 l761 y761 z761 st761 hQ761
                        subst l761 y761 z761
                        obtain ⟨rfl, N761, e761⟩ := hQ761
                        have N763 := Fr.app N683 N761
                        refine own_tr (T' := T761) (g' := (mkF m 406 #[.val (.int p1), .val (.int p2), .val (.int p3), .val (.int p4), .val (.int p5), .val (.int 1), .val (.int kk), .val (.int f7), .val (.int f8), .val (.int 2), .val (.int cv), .val (.ref b354), .val (.ref b395), .val (.ref b436), .val (.ref y), .val (.ref u1), .val (.ref u2), .val (.ref b508), .unset, .unset] [(.int 72), (.int cv)])) st761 ?_
                        by_cases hc764 : cv = (72 : Int32)
                        ·
                          refine own_st (T' := T761) (g' := (mkF m 414 #[.val (.int p1), .val (.int p2), .val (.int p3), .val (.int p4), .val (.int p5), .val (.int 1), .val (.int kk), .val (.int f7), .val (.int f8), .val (.int 2), .val (.int cv), .val (.ref b354), .val (.ref b395), .val (.ref b436), .val (.ref y), .val (.ref u1), .val (.ref u2), .val (.ref b508), .unset, .unset] [(.int 1)])) (fun _ kt => XS.icmpNo X761.here hx rfl (hb hby at_406) rfl (XT.ii_ne_f hc764) (XS.iconst X761.here hx rfl (hb hby at_409) (XS.goto X761.here hx rfl (pc0 := 410) (pc' := 414) rfl (hb hby at_410) (by decide) (by decide) kt))) ?_
                          have F765 : Fld Z h718 y "java/lang/String" "coder" "B" (.int 0) := (Fld.ext E718 (Fld.keep (Fld.keep (Fld.ext E508 F503) K520_ (ninS ne509 nin0)) K674_ (ninS ne509 nin0)))
                          have F766 : Exa Z h718 b508 "java/util/ArrayList" := (Exa.ext E718 P676)
                          have F767 : Fld Z h718 b508 "java/util/AbstractList" "modCount" "I" (.int ((0 : Int32) + (1 : Int32))) := (Fld.ext E718 P677)
                          have F768 : Fld Z h718 b508 "java/util/ArrayList" "elementData" "[Ljava/lang/Object;" (.ref b_674) := (Fld.ext E718 P678)
                          have F769 : Fld Z h718 b508 "java/util/ArrayList" "size" "I" (.int 1) := (Fld.ext E718 P679)
                          exact J695 _ _ _ _ _ (1 : Int32) ⟨N763, Z720, F760, CR719, hS718, hk718, hZ718, hown718, F721, F765, F722, F723, F724, F725, F766, F767, F768, F769, F728, (by unfold own_l18; rw [if_pos hc709]; simp +decide [own_ex, hc764])⟩ (X761.mono (by decide) (by decide)) e761
                        ·
                          refine own_st (T' := T761) (g' := (mkF m 414 #[.val (.int p1), .val (.int p2), .val (.int p3), .val (.int p4), .val (.int p5), .val (.int 1), .val (.int kk), .val (.int f7), .val (.int f8), .val (.int 2), .val (.int cv), .val (.ref b354), .val (.ref b395), .val (.ref b436), .val (.ref y), .val (.ref u1), .val (.ref u2), .val (.ref b508), .unset, .unset] [(.int 0)])) (fun _ kt => XS.icmpYes X761.here hx rfl (pc0 := 406) (pc' := 413) rfl (hb hby at_406) rfl (XT.ii_ne_t hc764) (by decide) (by decide) (XS.iconst X761.here hx rfl (hb hby at_413) kt)) ?_
                          have F770 : Fld Z h718 y "java/lang/String" "coder" "B" (.int 0) := (Fld.ext E718 (Fld.keep (Fld.keep (Fld.ext E508 F503) K520_ (ninS ne509 nin0)) K674_ (ninS ne509 nin0)))
                          have F771 : Exa Z h718 b508 "java/util/ArrayList" := (Exa.ext E718 P676)
                          have F772 : Fld Z h718 b508 "java/util/AbstractList" "modCount" "I" (.int ((0 : Int32) + (1 : Int32))) := (Fld.ext E718 P677)
                          have F773 : Fld Z h718 b508 "java/util/ArrayList" "elementData" "[Ljava/lang/Object;" (.ref b_674) := (Fld.ext E718 P678)
                          have F774 : Fld Z h718 b508 "java/util/ArrayList" "size" "I" (.int 1) := (Fld.ext E718 P679)
                          exact J695 _ _ _ _ _ (0 : Int32) ⟨N763, Z720, F760, CR719, hS718, hk718, hZ718, hown718, F721, F770, F722, F723, F724, F725, F771, F772, F773, F774, F728, (by unfold own_l18; rw [if_pos hc709]; simp +decide [own_ex, hc764])⟩ (X761.mono (by decide) (by decide)) e761
                      ·
                        have F775 : Old Z n0 h718 := (Old.ext (Old.keep F672 K674_ (allS ge_b508 all0)) E718)
                        obtain ⟨cq777, kq777, qa777, qb777, qc777⟩ := isOf hZ718 e718 gE718
                        obtain ⟨_, _, ⟨T776, L776, k776, n776⟩, -, X776, ⟨Lc776, hQ776, l776, y776, z776⟩, st776⟩ := X718.virtualBack hx (y := yN0) (z := yN0) hown718 (mvT hZ718 (own_k hw 72 rfl)) (mvT hZ718 (own_k hw 73 rfl)) (notFace_of_selects (args := #[]) (mvT hZ718 (own_k hw 75 rfl))) (mvT hZ718 (own_k hw 75 rfl)) (mvT hZ718 (own_k hw 74 rfl)) (by decide) (backOf (W := 1) (own_ca l Z a0 hw [] b718 zc d718 (3 : Int32) fmt kd718 (7 : Int32) [(.int 86), (.int 69), (.int 72), (.int 73), (.int 67), (.int 76), (.int 69)] (73 : Int32) (73 : Int32) h718 n0 Z720 F775 pr2 pr3 pr4 pr5 gE718 gC718 gV718 gA718 (show ¬ (3 : Int32) < 0 ∧ (3 : Int32) < (7 : Int32) from (by decide)) rfl (show nar .char (((73 : Int32) &&& (255 : Int32)).toUInt32.toUInt16.toUInt32.toInt32) = (73 : Int32) from (by decide)) (show nar .char (73 : Int32) = (73 : Int32) from (by decide))) hZ718 (own_k hw 76 rfl) (own_k hw 4 rfl) (by decide) (by decide)) qa777 qc777 (g := (mkF m 403 #[.val (.int p1), .val (.int p2), .val (.int p3), .val (.int p4), .val (.int p5), .val (.int 1), .val (.int kk), .val (.int f7), .val (.int f8), .val (.int 3), .val (.int cv), .val (.ref b354), .val (.ref b395), .val (.ref b436), .val (.ref y), .val (.ref u1), .val (.ref u2), .val (.ref b508), .unset, .unset] [(.int 3), (.ref b718), (.int cv)])) rfl hml.symm (Steps.refl _) (argsL := [(.int 3)]) (rest := [(.int cv)]) (lenOf own_pd18 rfl) rfl (own_w0 rfl rfl) (hb hby at_403) (fun _ _ => ⟨rfl, e718, (by decide : 21 + 0 ≤ 40), (by decide : 266 + 0 ≤ 3264)⟩)
                        dsimp only [Pt.U, Pt.locs, Pt.cells, Pt.slots] at X776 l776 y776 z776 st776 hQ776
                        subst l776 y776 z776
                        obtain ⟨rfl, N776, e776⟩ := hQ776
                        have N778 := Fr.app N683 N776
                        refine own_tr (T' := T776) (g' := (mkF m 406 #[.val (.int p1), .val (.int p2), .val (.int p3), .val (.int p4), .val (.int p5), .val (.int 1), .val (.int kk), .val (.int f7), .val (.int f8), .val (.int 3), .val (.int cv), .val (.ref b354), .val (.ref b395), .val (.ref b436), .val (.ref y), .val (.ref u1), .val (.ref u2), .val (.ref b508), .unset, .unset] [(.int 73), (.int cv)])) st776 ?_
                        by_cases hc779 : cv = (73 : Int32)
                        ·
                          refine own_st (T' := T776) (g' := (mkF m 414 #[.val (.int p1), .val (.int p2), .val (.int p3), .val (.int p4), .val (.int p5), .val (.int 1), .val (.int kk), .val (.int f7), .val (.int f8), .val (.int 3), .val (.int cv), .val (.ref b354), .val (.ref b395), .val (.ref b436), .val (.ref y), .val (.ref u1), .val (.ref u2), .val (.ref b508), .unset, .unset] [(.int 1)])) (fun _ kt => XS.icmpNo X776.here hx rfl (hb hby at_406) rfl (XT.ii_ne_f hc779) (XS.iconst X776.here hx rfl (hb hby at_409) (XS.goto X776.here hx rfl (pc0 := 410) (pc' := 414) rfl (hb hby at_410) (by decide) (by decide) kt))) ?_
                          have F780 : Fld Z h718 y "java/lang/String" "coder" "B" (.int 0) := (Fld.ext E718 (Fld.keep (Fld.keep (Fld.ext E508 F503) K520_ (ninS ne509 nin0)) K674_ (ninS ne509 nin0)))
                          have F781 : Exa Z h718 b508 "java/util/ArrayList" := (Exa.ext E718 P676)
                          have F782 : Fld Z h718 b508 "java/util/AbstractList" "modCount" "I" (.int ((0 : Int32) + (1 : Int32))) := (Fld.ext E718 P677)
                          have F783 : Fld Z h718 b508 "java/util/ArrayList" "elementData" "[Ljava/lang/Object;" (.ref b_674) := (Fld.ext E718 P678)
                          have F784 : Fld Z h718 b508 "java/util/ArrayList" "size" "I" (.int 1) := (Fld.ext E718 P679)
                          exact J695 _ _ _ _ _ (1 : Int32) ⟨N778, Z720, F775, CR719, hS718, hk718, hZ718, hown718, F721, F780, F722, F723, F724, F725, F781, F782, F783, F784, F728, (by unfold own_l18; rw [if_pos hc709]; simp +decide [own_ex, hc779])⟩ (X776.mono (by decide) (by decide)) e776
                        ·
                          refine own_st (T' := T776) (g' := (mkF m 414 #[.val (.int p1), .val (.int p2), .val (.int p3), .val (.int p4), .val (.int p5), .val (.int 1), .val (.int kk), .val (.int f7), .val (.int f8), .val (.int 3), .val (.int cv), .val (.ref b354), .val (.ref b395), .val (.ref b436), .val (.ref y), .val (.ref u1), .val (.ref u2), .val (.ref b508), .unset, .unset] [(.int 0)])) (fun _ kt => XS.icmpYes X776.here hx rfl (pc0 := 406) (pc' := 413) rfl (hb hby at_406) rfl (XT.ii_ne_t hc779) (by decide) (by decide) (XS.iconst X776.here hx rfl (hb hby at_413) kt)) ?_
                          have F785 : Fld Z h718 y "java/lang/String" "coder" "B" (.int 0) := (Fld.ext E718 (Fld.keep (Fld.keep (Fld.ext E508 F503) K520_ (ninS ne509 nin0)) K674_ (ninS ne509 nin0)))
                          have F786 : Exa Z h718 b508 "java/util/ArrayList" := (Exa.ext E718 P676)
                          have F787 : Fld Z h718 b508 "java/util/AbstractList" "modCount" "I" (.int ((0 : Int32) + (1 : Int32))) := (Fld.ext E718 P677)
                          have F788 : Fld Z h718 b508 "java/util/ArrayList" "elementData" "[Ljava/lang/Object;" (.ref b_674) := (Fld.ext E718 P678)
                          have F789 : Fld Z h718 b508 "java/util/ArrayList" "size" "I" (.int 1) := (Fld.ext E718 P679)
                          exact J695 _ _ _ _ _ (0 : Int32) ⟨N778, Z720, F775, CR719, hS718, hk718, hZ718, hown718, F721, F785, F722, F723, F724, F725, F786, F787, F788, F789, F728, (by unfold own_l18; rw [if_pos hc709]; simp +decide [own_ex, hc779])⟩ (X776.mono (by decide) (by decide)) e776
                      ·
                        have F790 : Old Z n0 h718 := (Old.ext (Old.keep F672 K674_ (allS ge_b508 all0)) E718)
                        obtain ⟨cq792, kq792, qa792, qb792, qc792⟩ := isOf hZ718 e718 gE718
                        obtain ⟨_, _, ⟨T791, L791, k791, n791⟩, -, X791, ⟨Lc791, hQ791, l791, y791, z791⟩, st791⟩ := X718.virtualBack hx (y := yN0) (z := yN0) hown718 (mvT hZ718 (own_k hw 72 rfl)) (mvT hZ718 (own_k hw 73 rfl)) (notFace_of_selects (args := #[]) (mvT hZ718 (own_k hw 75 rfl))) (mvT hZ718 (own_k hw 75 rfl)) (mvT hZ718 (own_k hw 74 rfl)) (by decide) (backOf (W := 1) (own_ca l Z a0 hw [] b718 zc d718 (4 : Int32) fmt kd718 (7 : Int32) [(.int 86), (.int 69), (.int 72), (.int 73), (.int 67), (.int 76), (.int 69)] (67 : Int32) (67 : Int32) h718 n0 Z720 F790 pr2 pr3 pr4 pr5 gE718 gC718 gV718 gA718 (show ¬ (4 : Int32) < 0 ∧ (4 : Int32) < (7 : Int32) from (by decide)) rfl (show nar .char (((67 : Int32) &&& (255 : Int32)).toUInt32.toUInt16.toUInt32.toInt32) = (67 : Int32) from (by decide)) (show nar .char (67 : Int32) = (67 : Int32) from (by decide))) hZ718 (own_k hw 76 rfl) (own_k hw 4 rfl) (by decide) (by decide)) qa792 qc792 (g := (mkF m 403 #[.val (.int p1), .val (.int p2), .val (.int p3), .val (.int p4), .val (.int p5), .val (.int 1), .val (.int kk), .val (.int f7), .val (.int f8), .val (.int 4), .val (.int cv), .val (.ref b354), .val (.ref b395), .val (.ref b436), .val (.ref y), .val (.ref u1), .val (.ref u2), .val (.ref b508), .unset, .unset] [(.int 4), (.ref b718), (.int cv)])) rfl hml.symm (Steps.refl _) (argsL := [(.int 4)]) (rest := [(.int cv)]) (lenOf own_pd18 rfl) rfl (own_w0 rfl rfl) (hb hby at_403) (fun _ _ => ⟨rfl, e718, (by decide : 21 + 0 ≤ 40), (by decide : 266 + 0 ≤ 3264)⟩)
                        dsimp only [Pt.U, Pt.locs, Pt.cells, Pt.slots] at X791 l791 y791 z791 st791 hQ791
                        subst l791 y791 z791
                        obtain ⟨rfl, N791, e791⟩ := hQ791
                        have N793 := Fr.app N683 N791
                        refine own_tr (T' := T791) (g' := (mkF m 406 #[.val (.int p1), .val (.int p2), .val (.int p3), .val (.int p4), .val (.int p5), .val (.int 1), .val (.int kk), .val (.int f7), .val (.int f8), .val (.int 4), .val (.int cv), .val (.ref b354), .val (.ref b395), .val (.ref b436), .val (.ref y), .val (.ref u1), .val (.ref u2), .val (.ref b508), .unset, .unset] [(.int 67), (.int cv)])) st791 ?_
                        by_cases hc794 : cv = (67 : Int32)
                        ·
                          refine own_st (T' := T791) (g' := (mkF m 414 #[.val (.int p1), .val (.int p2), .val (.int p3), .val (.int p4), .val (.int p5), .val (.int 1), .val (.int kk), .val (.int f7), .val (.int f8), .val (.int 4), .val (.int cv), .val (.ref b354), .val (.ref b395), .val (.ref b436), .val (.ref y), .val (.ref u1), .val (.ref u2), .val (.ref b508), .unset, .unset] [(.int 1)])) (fun _ kt => XS.icmpNo X791.here hx rfl (hb hby at_406) rfl (XT.ii_ne_f hc794) (XS.iconst X791.here hx rfl (hb hby at_409) (XS.goto X791.here hx rfl (pc0 := 410) (pc' := 414) rfl (hb hby at_410) (by decide) (by decide) kt))) ?_
                          have F795 : Fld Z h718 y "java/lang/String" "coder" "B" (.int 0) := (Fld.ext E718 (Fld.keep (Fld.keep (Fld.ext E508 F503) K520_ (ninS ne509 nin0)) K674_ (ninS ne509 nin0)))
                          have F796 : Exa Z h718 b508 "java/util/ArrayList" := (Exa.ext E718 P676)
                          have F797 : Fld Z h718 b508 "java/util/AbstractList" "modCount" "I" (.int ((0 : Int32) + (1 : Int32))) := (Fld.ext E718 P677)
                          have F798 : Fld Z h718 b508 "java/util/ArrayList" "elementData" "[Ljava/lang/Object;" (.ref b_674) := (Fld.ext E718 P678)
                          have F799 : Fld Z h718 b508 "java/util/ArrayList" "size" "I" (.int 1) := (Fld.ext E718 P679)
                          exact J695 _ _ _ _ _ (1 : Int32) ⟨N793, Z720, F790, CR719, hS718, hk718, hZ718, hown718, F721, F795, F722, F723, F724, F725, F796, F797, F798, F799, F728, (by unfold own_l18; rw [if_pos hc709]; simp +decide [own_ex, hc794])⟩ (X791.mono (by decide) (by decide)) e791
                        ·
                          refine own_st (T' := T791) (g' := (mkF m 414 #[.val (.int p1), .val (.int p2), .val (.int p3), .val (.int p4), .val (.int p5), .val (.int 1), .val (.int kk), .val (.int f7), .val (.int f8), .val (.int 4), .val (.int cv), .val (.ref b354), .val (.ref b395), .val (.ref b436), .val (.ref y), .val (.ref u1), .val (.ref u2), .val (.ref b508), .unset, .unset] [(.int 0)])) (fun _ kt => XS.icmpYes X791.here hx rfl (pc0 := 406) (pc' := 413) rfl (hb hby at_406) rfl (XT.ii_ne_t hc794) (by decide) (by decide) (XS.iconst X791.here hx rfl (hb hby at_413) kt)) ?_
                          have F800 : Fld Z h718 y "java/lang/String" "coder" "B" (.int 0) := (Fld.ext E718 (Fld.keep (Fld.keep (Fld.ext E508 F503) K520_ (ninS ne509 nin0)) K674_ (ninS ne509 nin0)))
                          have F801 : Exa Z h718 b508 "java/util/ArrayList" := (Exa.ext E718 P676)
                          have F802 : Fld Z h718 b508 "java/util/AbstractList" "modCount" "I" (.int ((0 : Int32) + (1 : Int32))) := (Fld.ext E718 P677)
                          have F803 : Fld Z h718 b508 "java/util/ArrayList" "elementData" "[Ljava/lang/Object;" (.ref b_674) := (Fld.ext E718 P678)
                          have F804 : Fld Z h718 b508 "java/util/ArrayList" "size" "I" (.int 1) := (Fld.ext E718 P679)
                          exact J695 _ _ _ _ _ (0 : Int32) ⟨N793, Z720, F790, CR719, hS718, hk718, hZ718, hown718, F721, F800, F722, F723, F724, F725, F801, F802, F803, F804, F728, (by unfold own_l18; rw [if_pos hc709]; simp +decide [own_ex, hc794])⟩ (X791.mono (by decide) (by decide)) e791
                      ·
                        have F805 : Old Z n0 h718 := (Old.ext (Old.keep F672 K674_ (allS ge_b508 all0)) E718)
                        obtain ⟨cq807, kq807, qa807, qb807, qc807⟩ := isOf hZ718 e718 gE718
                        obtain ⟨_, _, ⟨T806, L806, k806, n806⟩, -, X806, ⟨Lc806, hQ806, l806, y806, z806⟩, st806⟩ := X718.virtualBack hx (y := yN0) (z := yN0) hown718 (mvT hZ718 (own_k hw 72 rfl)) (mvT hZ718 (own_k hw 73 rfl)) (notFace_of_selects (args := #[]) (mvT hZ718 (own_k hw 75 rfl))) (mvT hZ718 (own_k hw 75 rfl)) (mvT hZ718 (own_k hw 74 rfl)) (by decide) (backOf (W := 1) (own_ca l Z a0 hw [] b718 zc d718 (5 : Int32) fmt kd718 (7 : Int32) [(.int 86), (.int 69), (.int 72), (.int 73), (.int 67), (.int 76), (.int 69)] (76 : Int32) (76 : Int32) h718 n0 Z720 F805 pr2 pr3 pr4 pr5 gE718 gC718 gV718 gA718 (show ¬ (5 : Int32) < 0 ∧ (5 : Int32) < (7 : Int32) from (by decide)) rfl (show nar .char (((76 : Int32) &&& (255 : Int32)).toUInt32.toUInt16.toUInt32.toInt32) = (76 : Int32) from (by decide)) (show nar .char (76 : Int32) = (76 : Int32) from (by decide))) hZ718 (own_k hw 76 rfl) (own_k hw 4 rfl) (by decide) (by decide)) qa807 qc807 (g := (mkF m 403 #[.val (.int p1), .val (.int p2), .val (.int p3), .val (.int p4), .val (.int p5), .val (.int 1), .val (.int kk), .val (.int f7), .val (.int f8), .val (.int 5), .val (.int cv), .val (.ref b354), .val (.ref b395), .val (.ref b436), .val (.ref y), .val (.ref u1), .val (.ref u2), .val (.ref b508), .unset, .unset] [(.int 5), (.ref b718), (.int cv)])) rfl hml.symm (Steps.refl _) (argsL := [(.int 5)]) (rest := [(.int cv)]) (lenOf own_pd18 rfl) rfl (own_w0 rfl rfl) (hb hby at_403) (fun _ _ => ⟨rfl, e718, (by decide : 21 + 0 ≤ 40), (by decide : 266 + 0 ≤ 3264)⟩)
                        dsimp only [Pt.U, Pt.locs, Pt.cells, Pt.slots] at X806 l806 y806 z806 st806 hQ806
                        subst l806 y806 z806
                        obtain ⟨rfl, N806, e806⟩ := hQ806
                        have N808 := Fr.app N683 N806
                        refine own_tr (T' := T806) (g' := (mkF m 406 #[.val (.int p1), .val (.int p2), .val (.int p3), .val (.int p4), .val (.int p5), .val (.int 1), .val (.int kk), .val (.int f7), .val (.int f8), .val (.int 5), .val (.int cv), .val (.ref b354), .val (.ref b395), .val (.ref b436), .val (.ref y), .val (.ref u1), .val (.ref u2), .val (.ref b508), .unset, .unset] [(.int 76), (.int cv)])) st806 ?_
                        by_cases hc809 : cv = (76 : Int32)
                        ·
                          refine own_st (T' := T806) (g' := (mkF m 414 #[.val (.int p1), .val (.int p2), .val (.int p3), .val (.int p4), .val (.int p5), .val (.int 1), .val (.int kk), .val (.int f7), .val (.int f8), .val (.int 5), .val (.int cv), .val (.ref b354), .val (.ref b395), .val (.ref b436), .val (.ref y), .val (.ref u1), .val (.ref u2), .val (.ref b508), .unset, .unset] [(.int 1)])) (fun _ kt => XS.icmpNo X806.here hx rfl (hb hby at_406) rfl (XT.ii_ne_f hc809) (XS.iconst X806.here hx rfl (hb hby at_409) (XS.goto X806.here hx rfl (pc0 := 410) (pc' := 414) rfl (hb hby at_410) (by decide) (by decide) kt))) ?_
                          have F810 : Fld Z h718 y "java/lang/String" "coder" "B" (.int 0) := (Fld.ext E718 (Fld.keep (Fld.keep (Fld.ext E508 F503) K520_ (ninS ne509 nin0)) K674_ (ninS ne509 nin0)))
                          have F811 : Exa Z h718 b508 "java/util/ArrayList" := (Exa.ext E718 P676)
                          have F812 : Fld Z h718 b508 "java/util/AbstractList" "modCount" "I" (.int ((0 : Int32) + (1 : Int32))) := (Fld.ext E718 P677)
                          have F813 : Fld Z h718 b508 "java/util/ArrayList" "elementData" "[Ljava/lang/Object;" (.ref b_674) := (Fld.ext E718 P678)
                          have F814 : Fld Z h718 b508 "java/util/ArrayList" "size" "I" (.int 1) := (Fld.ext E718 P679)
                          exact J695 _ _ _ _ _ (1 : Int32) ⟨N808, Z720, F805, CR719, hS718, hk718, hZ718, hown718, F721, F810, F722, F723, F724, F725, F811, F812, F813, F814, F728, (by unfold own_l18; rw [if_pos hc709]; simp +decide [own_ex, hc809])⟩ (X806.mono (by decide) (by decide)) e806
                        ·
                          refine own_st (T' := T806) (g' := (mkF m 414 #[.val (.int p1), .val (.int p2), .val (.int p3), .val (.int p4), .val (.int p5), .val (.int 1), .val (.int kk), .val (.int f7), .val (.int f8), .val (.int 5), .val (.int cv), .val (.ref b354), .val (.ref b395), .val (.ref b436), .val (.ref y), .val (.ref u1), .val (.ref u2), .val (.ref b508), .unset, .unset] [(.int 0)])) (fun _ kt => XS.icmpYes X806.here hx rfl (pc0 := 406) (pc' := 413) rfl (hb hby at_406) rfl (XT.ii_ne_t hc809) (by decide) (by decide) (XS.iconst X806.here hx rfl (hb hby at_413) kt)) ?_
                          have F815 : Fld Z h718 y "java/lang/String" "coder" "B" (.int 0) := (Fld.ext E718 (Fld.keep (Fld.keep (Fld.ext E508 F503) K520_ (ninS ne509 nin0)) K674_ (ninS ne509 nin0)))
                          have F816 : Exa Z h718 b508 "java/util/ArrayList" := (Exa.ext E718 P676)
                          have F817 : Fld Z h718 b508 "java/util/AbstractList" "modCount" "I" (.int ((0 : Int32) + (1 : Int32))) := (Fld.ext E718 P677)
                          have F818 : Fld Z h718 b508 "java/util/ArrayList" "elementData" "[Ljava/lang/Object;" (.ref b_674) := (Fld.ext E718 P678)
                          have F819 : Fld Z h718 b508 "java/util/ArrayList" "size" "I" (.int 1) := (Fld.ext E718 P679)
                          exact J695 _ _ _ _ _ (0 : Int32) ⟨N808, Z720, F805, CR719, hS718, hk718, hZ718, hown718, F721, F815, F722, F723, F724, F725, F816, F817, F818, F819, F728, (by unfold own_l18; rw [if_pos hc709]; simp +decide [own_ex, hc809])⟩ (X806.mono (by decide) (by decide)) e806
                      ·
                        have F820 : Old Z n0 h718 := (Old.ext (Old.keep F672 K674_ (allS ge_b508 all0)) E718)
                        obtain ⟨cq822, kq822, qa822, qb822, qc822⟩ := isOf hZ718 e718 gE718
                        obtain ⟨_, _, ⟨T821, L821, k821, n821⟩, -, X821, ⟨Lc821, hQ821, l821, y821, z821⟩, st821⟩ := X718.virtualBack hx (y := yN0) (z := yN0) hown718 (mvT hZ718 (own_k hw 72 rfl)) (mvT hZ718 (own_k hw 73 rfl)) (notFace_of_selects (args := #[]) (mvT hZ718 (own_k hw 75 rfl))) (mvT hZ718 (own_k hw 75 rfl)) (mvT hZ718 (own_k hw 74 rfl)) (by decide) (backOf (W := 1) (own_ca l Z a0 hw [] b718 zc d718 (6 : Int32) fmt kd718 (7 : Int32) [(.int 86), (.int 69), (.int 72), (.int 73), (.int 67), (.int 76), (.int 69)] (69 : Int32) (69 : Int32) h718 n0 Z720 F820 pr2 pr3 pr4 pr5 gE718 gC718 gV718 gA718 (show ¬ (6 : Int32) < 0 ∧ (6 : Int32) < (7 : Int32) from (by decide)) rfl (show nar .char (((69 : Int32) &&& (255 : Int32)).toUInt32.toUInt16.toUInt32.toInt32) = (69 : Int32) from (by decide)) (show nar .char (69 : Int32) = (69 : Int32) from (by decide))) hZ718 (own_k hw 76 rfl) (own_k hw 4 rfl) (by decide) (by decide)) qa822 qc822 (g := (mkF m 403 #[.val (.int p1), .val (.int p2), .val (.int p3), .val (.int p4), .val (.int p5), .val (.int 1), .val (.int kk), .val (.int f7), .val (.int f8), .val (.int 6), .val (.int cv), .val (.ref b354), .val (.ref b395), .val (.ref b436), .val (.ref y), .val (.ref u1), .val (.ref u2), .val (.ref b508), .unset, .unset] [(.int 6), (.ref b718), (.int cv)])) rfl hml.symm (Steps.refl _) (argsL := [(.int 6)]) (rest := [(.int cv)]) (lenOf own_pd18 rfl) rfl (own_w0 rfl rfl) (hb hby at_403) (fun _ _ => ⟨rfl, e718, (by decide : 21 + 0 ≤ 40), (by decide : 266 + 0 ≤ 3264)⟩)
                        dsimp only [Pt.U, Pt.locs, Pt.cells, Pt.slots] at X821 l821 y821 z821 st821 hQ821
                        subst l821 y821 z821
                        obtain ⟨rfl, N821, e821⟩ := hQ821
                        have N823 := Fr.app N683 N821
                        refine own_tr (T' := T821) (g' := (mkF m 406 #[.val (.int p1), .val (.int p2), .val (.int p3), .val (.int p4), .val (.int p5), .val (.int 1), .val (.int kk), .val (.int f7), .val (.int f8), .val (.int 6), .val (.int cv), .val (.ref b354), .val (.ref b395), .val (.ref b436), .val (.ref y), .val (.ref u1), .val (.ref u2), .val (.ref b508), .unset, .unset] [(.int 69), (.int cv)])) st821 ?_
                        by_cases hc824 : cv = (69 : Int32)
                        ·
                          refine own_st (T' := T821) (g' := (mkF m 414 #[.val (.int p1), .val (.int p2), .val (.int p3), .val (.int p4), .val (.int p5), .val (.int 1), .val (.int kk), .val (.int f7), .val (.int f8), .val (.int 6), .val (.int cv), .val (.ref b354), .val (.ref b395), .val (.ref b436), .val (.ref y), .val (.ref u1), .val (.ref u2), .val (.ref b508), .unset, .unset] [(.int 1)])) (fun _ kt => XS.icmpNo X821.here hx rfl (hb hby at_406) rfl (XT.ii_ne_f hc824) (XS.iconst X821.here hx rfl (hb hby at_409) (XS.goto X821.here hx rfl (pc0 := 410) (pc' := 414) rfl (hb hby at_410) (by decide) (by decide) kt))) ?_
                          have F825 : Fld Z h718 y "java/lang/String" "coder" "B" (.int 0) := (Fld.ext E718 (Fld.keep (Fld.keep (Fld.ext E508 F503) K520_ (ninS ne509 nin0)) K674_ (ninS ne509 nin0)))
                          have F826 : Exa Z h718 b508 "java/util/ArrayList" := (Exa.ext E718 P676)
                          have F827 : Fld Z h718 b508 "java/util/AbstractList" "modCount" "I" (.int ((0 : Int32) + (1 : Int32))) := (Fld.ext E718 P677)
                          have F828 : Fld Z h718 b508 "java/util/ArrayList" "elementData" "[Ljava/lang/Object;" (.ref b_674) := (Fld.ext E718 P678)
                          have F829 : Fld Z h718 b508 "java/util/ArrayList" "size" "I" (.int 1) := (Fld.ext E718 P679)
                          exact J695 _ _ _ _ _ (1 : Int32) ⟨N823, Z720, F820, CR719, hS718, hk718, hZ718, hown718, F721, F825, F722, F723, F724, F725, F826, F827, F828, F829, F728, (by unfold own_l18; rw [if_pos hc709]; simp +decide [own_ex, hc824])⟩ (X821.mono (by decide) (by decide)) e821
                        ·
                          refine own_st (T' := T821) (g' := (mkF m 414 #[.val (.int p1), .val (.int p2), .val (.int p3), .val (.int p4), .val (.int p5), .val (.int 1), .val (.int kk), .val (.int f7), .val (.int f8), .val (.int 6), .val (.int cv), .val (.ref b354), .val (.ref b395), .val (.ref b436), .val (.ref y), .val (.ref u1), .val (.ref u2), .val (.ref b508), .unset, .unset] [(.int 0)])) (fun _ kt => XS.icmpYes X821.here hx rfl (pc0 := 406) (pc' := 413) rfl (hb hby at_406) rfl (XT.ii_ne_t hc824) (by decide) (by decide) (XS.iconst X821.here hx rfl (hb hby at_413) kt)) ?_
                          have F830 : Fld Z h718 y "java/lang/String" "coder" "B" (.int 0) := (Fld.ext E718 (Fld.keep (Fld.keep (Fld.ext E508 F503) K520_ (ninS ne509 nin0)) K674_ (ninS ne509 nin0)))
                          have F831 : Exa Z h718 b508 "java/util/ArrayList" := (Exa.ext E718 P676)
                          have F832 : Fld Z h718 b508 "java/util/AbstractList" "modCount" "I" (.int ((0 : Int32) + (1 : Int32))) := (Fld.ext E718 P677)
                          have F833 : Fld Z h718 b508 "java/util/ArrayList" "elementData" "[Ljava/lang/Object;" (.ref b_674) := (Fld.ext E718 P678)
                          have F834 : Fld Z h718 b508 "java/util/ArrayList" "size" "I" (.int 1) := (Fld.ext E718 P679)
                          exact J695 _ _ _ _ _ (0 : Int32) ⟨N823, Z720, F820, CR719, hS718, hk718, hZ718, hown718, F721, F830, F722, F723, F724, F725, F831, F832, F833, F834, F728, (by unfold own_l18; rw [if_pos hc709]; simp +decide [own_ex, hc824])⟩ (X821.mono (by decide) (by decide)) e821
                      ·
                        exact absurd rfl hc710
                  ·
                    refine own_st (T' := T674) (g' := (mkF m 414 #[.val (.int p1), .val (.int p2), .val (.int p3), .val (.int p4), .val (.int p5), .val (.int 1), .val (.int kk), .val (.int f7), .val (.int f8), .val (.int m2), .val (.int cv), .val (.ref b354), .val (.ref b395), .val (.ref b436), .val (.ref y), .val (.ref u1), .val (.ref u2), .val (.ref b508), .unset, .unset] [(.int 0)])) (fun _ kt => XS.ifYes X674.here hx rfl (pc0 := 387) (pc' := 413) rfl (hb hby at_387) rfl (XT.i0_ne_t hc709) (by decide) (by decide) (XS.iconst X674.here hx rfl (hb hby at_413) kt)) ?_
                    have F835 : Old Z n0 T674.heap := (Old.keep F672 K674_ (allS ge_b508 all0))
                    have F836 : Exa Z T674.heap y "java/lang/String" := (Exa.keep F687 K674_)
                    have F837 : Fld Z T674.heap y "java/lang/String" "coder" "B" (.int 0) := (Fld.keep (Fld.keep (Fld.ext E508 F503) K520_ (ninS ne509 nin0)) K674_ (ninS ne509 nin0))
                    have F838 : Fld Z T674.heap y "java/lang/String" "value" "[B" (.ref t) := (Fld.keep (Fld.keep (Fld.ext E508 F504) K520_ (ninS ne509 nin0)) K674_ (ninS ne509 nin0))
                    have F839 : Arv Z T674.heap t kt .byte zz vl (.int 0) := (Arv.keep F689 K674_ (ninS ne510 nin0))
                    have F840 : Exa Z T674.heap u1 "java/lang/String" := (Exa.keep F673 K674_)
                    have F841 : Exa Z T674.heap u2 "java/lang/String" := (Exa.keep F692 K674_)
                    exact J695 _ _ _ _ _ (0 : Int32) ⟨N683, Z686, F835, CR685, hS501, hk686, hZ501, hown501, F836, F837, F838, F839, F840, F841, P676, P677, P678, P679, P680, (by unfold own_l18; rw [if_neg hc709])⟩ (X674.mono (by decide) (by decide)) rfl
              ·
                refine own_st (T' := T520) (g' := (mkF m 353 #[.val (.int p1), .val (.int p2), .val (.int p3), .val (.int p4), .val (.int p5), .val (.int 2), .val (.int kk), .val (.int f7), .val (.int f8), .val (.int m2), .val (.int cv), .val (.ref b354), .val (.ref b395), .val (.ref b436), .val (.ref y), .val (.ref u1), .val (.ref u2), .val (.ref b508), .unset, .unset] [(.ref u1), (.ref b508)])) (fun _ kt => XS.iload X520.here hx rfl (hb hby at_343) rfl (XS.iconst X520.here hx rfl (hb hby at_345) (XS.icmpNo X520.here hx rfl (hb hby at_346) rfl (XT.ii_lt_f (by decide)) (XS.aload X520.here hx rfl (hb hby at_349) rfl rfl (XS.aload X520.here hx rfl (hb hby at_351) rfl rfl kt))))) ?_
                have F842 : Old Z n0 T520.heap := (Old.keep F519 K520_ (allS ge_b508 all0))
                have F843 : Exa Z T520.heap u1 "java/lang/String" := (Exa.keep (Exa.ext E508 F506) K520_)
                obtain ⟨cq845, kq845, qa845, qb845, qc845⟩ := isOf hZ501 rfl P521
                obtain ⟨_, _, ⟨T844, L844, k844, n844⟩, -, X844, ⟨Lc844, hQ844, l844, y844, z844⟩, st844⟩ := X520.virtualBack hx (y := yN1) (z := yN1) hown501 (mvT hZ501 (own_k hw 108 rfl)) (mvT hZ501 (own_k hw 109 rfl)) (notFace_of_selects (args := #[]) (mvT hZ501 (own_k hw 111 rfl))) (mvT hZ501 (own_k hw 111 rfl)) (mvT hZ501 (own_k hw 110 rfl)) (by decide) (backOf (W := 0) (own_a1_0 l Z a0 hw [] b508 (0 : Int32) u1 de kd T520.heap n0 Z527 F842 pr6 pr7 ge_b508 F843 P521 P522 P523 P524) hZ501 (own_k hw 112 rfl) (own_k hw 47 rfl) (by decide) (by decide)) qa845 qc845 (g := (mkF m 353 #[.val (.int p1), .val (.int p2), .val (.int p3), .val (.int p4), .val (.int p5), .val (.int 2), .val (.int kk), .val (.int f7), .val (.int f8), .val (.int m2), .val (.int cv), .val (.ref b354), .val (.ref b395), .val (.ref b436), .val (.ref y), .val (.ref u1), .val (.ref u2), .val (.ref b508), .unset, .unset] [(.ref u1), (.ref b508)])) rfl hml.symm (Steps.refl _) (argsL := [(.ref u1)]) (rest := []) (lenOf own_pd16 rfl) rfl (own_w0 rfl rfl) (hb hby at_353) (fun _ _ => ⟨rfl, rfl, (by decide : 18 + 1 ≤ 40), (by decide : 224 + 10 ≤ 3264)⟩)
                dsimp only [Pt.U, Pt.locs, Pt.cells, Pt.slots] at X844 l844 y844 z844 st844 hQ844
                subst l844 y844 z844
                obtain ⟨b_844, kb_844, rfl, N844, K844_, P846, P847, P848, P849, P850, P851, P852⟩ := hQ844
                have N853 := Fr.app N525 N844
                have F854 : Safe Z own_EL vm501 T520.heap b508 := (Safe.keep K520_ (sfS S515 sf0) CR513.1 S515)
                have CR855 : CHr Z own_EL s.vm h0 vm501 T844.heap := CHr.trans CR526 (CHr.keep K844_ (sfS F854 sf0) CR526.1)
                have Z856 : n0 ≤ T844.heap.size := Nat.le_trans Z527 K844_.1
                have hk856 := Nat.le_trans hk527 K844_.1
                have F857 : Exa Z T520.heap y "java/lang/String" := (Exa.keep (Exa.ext E508 F502) K520_)
                have ne858 : y ≠ b_844 := Nat.ne_of_lt (Nat.lt_of_lt_of_le F857.lt P852)
                have F859 : Arv Z T520.heap t kt .byte zz vl (.int 0) := (Arv.keep (F505.ext E508) K520_ (ninS ne510 nin0))
                have ne860 : t ≠ b_844 := Nat.ne_of_lt (Nat.lt_of_lt_of_le F859.lt P852)
                have ne861 : u1 ≠ b_844 := Nat.ne_of_lt (Nat.lt_of_lt_of_le F843.lt P852)
                have F862 : Exa Z T520.heap u2 "java/lang/String" := (Exa.keep (Exa.ext E508 F507) K520_)
                have ne863 : u2 ≠ b_844 := Nat.ne_of_lt (Nat.lt_of_lt_of_le F862.lt P852)
                have ge864 : n0 ≤ b_844 := Nat.le_trans Z527 P852
                refine own_tr (T' := T844) (g' := (mkF m 356 #[.val (.int p1), .val (.int p2), .val (.int p3), .val (.int p4), .val (.int p5), .val (.int 2), .val (.int kk), .val (.int f7), .val (.int f8), .val (.int m2), .val (.int cv), .val (.ref b354), .val (.ref b395), .val (.ref b436), .val (.ref y), .val (.ref u1), .val (.ref u2), .val (.ref b508), .unset, .unset] [(.int 1)])) st844 ?_
                refine own_st (T' := T844) (g' := (mkF m 367 #[.val (.int p1), .val (.int p2), .val (.int p3), .val (.int p4), .val (.int p5), .val (.int 2), .val (.int kk), .val (.int f7), .val (.int f8), .val (.int m2), .val (.int cv), .val (.ref b354), .val (.ref b395), .val (.ref b436), .val (.ref y), .val (.ref u1), .val (.ref u2), .val (.ref b508), .unset, .unset] [(.ref y), (.ref b508)])) (fun _ kt => XT.pop X844.here hx rfl (hb hby at_356) rfl rfl (XS.iload X844.here hx rfl (hb hby at_357) rfl (XS.iconst X844.here hx rfl (hb hby at_359) (XS.icmpNo X844.here hx rfl (hb hby at_360) rfl (XT.ii_lt_f (by decide)) (XS.aload X844.here hx rfl (hb hby at_363) rfl rfl (XS.aload X844.here hx rfl (hb hby at_365) rfl rfl kt)))))) ?_
                have F865 : Exa Z T844.heap y "java/lang/String" := (Exa.keep F857 K844_)
                obtain ⟨cq867, kq867, qa867, qb867, qc867⟩ := isOf hZ501 rfl P846
                obtain ⟨_, _, ⟨T866, L866, k866, n866⟩, -, X866, ⟨Lc866, hQ866, l866, y866, z866⟩, st866⟩ := X844.virtualBack hx (y := yN1) (z := yN1) hown501 (mvT hZ501 (own_k hw 108 rfl)) (mvT hZ501 (own_k hw 109 rfl)) (notFace_of_selects (args := #[]) (mvT hZ501 (own_k hw 111 rfl))) (mvT hZ501 (own_k hw 111 rfl)) (mvT hZ501 (own_k hw 110 rfl)) (by decide) (backOf (W := 0) (own_a1_1 l Z a0 hw [] b508 ((0 : Int32) + (1 : Int32)) u1 y b_844 kb_844 T844.heap n0 Z856 ge864 P850 P851 ge_b508 F865 P846 P847 P848 P849) hZ501 (own_k hw 112 rfl) (own_k hw 47 rfl) (by decide) (by decide)) qa867 qc867 (g := (mkF m 367 #[.val (.int p1), .val (.int p2), .val (.int p3), .val (.int p4), .val (.int p5), .val (.int 2), .val (.int kk), .val (.int f7), .val (.int f8), .val (.int m2), .val (.int cv), .val (.ref b354), .val (.ref b395), .val (.ref b436), .val (.ref y), .val (.ref u1), .val (.ref u2), .val (.ref b508), .unset, .unset] [(.ref y), (.ref b508)])) rfl hml.symm (Steps.refl _) (argsL := [(.ref y)]) (rest := []) (lenOf own_pd16 rfl) rfl (own_w0 rfl rfl) (hb hby at_367) (fun _ _ => ⟨rfl, rfl, (by decide : 19 + 0 ≤ 40), (by decide : 234 + 0 ≤ 3264)⟩)
                dsimp only [Pt.U, Pt.locs, Pt.cells, Pt.slots] at X866 l866 y866 z866 st866 hQ866
                subst l866 y866 z866
                obtain ⟨rfl, N866, K866_, P868, P869, P870, P871, P872⟩ := hQ866
                have N873 := Fr.app N853 N866
                have F874 : Safe Z own_EL vm501 T844.heap b508 := (Safe.keep K844_ (sfS F854 sf0) CR526.1 F854)
                have CR875 : CHr Z own_EL s.vm h0 vm501 T866.heap := CHr.trans CR855 (CHr.keep K866_ (sfS F874 (sfS (Safe.arv (State.Warmed39.alike hZ501) P850 (by decide)) sf0)) CR855.1)
                have Z876 : n0 ≤ T866.heap.size := Nat.le_trans Z856 K866_.1
                have hk876 := Nat.le_trans hk856 K866_.1
                refine own_tr (T' := T866) (g' := (mkF m 370 #[.val (.int p1), .val (.int p2), .val (.int p3), .val (.int p4), .val (.int p5), .val (.int 2), .val (.int kk), .val (.int f7), .val (.int f8), .val (.int m2), .val (.int cv), .val (.ref b354), .val (.ref b395), .val (.ref b436), .val (.ref y), .val (.ref u1), .val (.ref u2), .val (.ref b508), .unset, .unset] [(.int 1)])) st866 ?_
                refine own_st (T' := T866) (g' := (mkF m 385 #[.val (.int p1), .val (.int p2), .val (.int p3), .val (.int p4), .val (.int p5), .val (.int 2), .val (.int kk), .val (.int f7), .val (.int f8), .val (.int m2), .val (.int cv), .val (.ref b354), .val (.ref b395), .val (.ref b436), .val (.ref y), .val (.ref u1), .val (.ref u2), .val (.ref b508), .unset, .unset] [])) (fun _ kt => XT.pop X866.here hx rfl (hb hby at_370) rfl rfl (XS.iload X866.here hx rfl (hb hby at_371) rfl (XS.iconst X866.here hx rfl (hb hby at_373) (XS.icmpYes X866.here hx rfl (pc0 := 374) (pc' := 385) rfl (hb hby at_374) rfl (XT.ii_lt_t (by decide)) (by decide) (by decide) kt)))) ?_
                refine own_joinHV (α := Int32) X866 (cells' := 23) (slots' := 294) (gj := fun q => (mkF m 414 #[.val (.int p1), .val (.int p2), .val (.int p3), .val (.int p4), .val (.int p5), .val (.int 2), .val (.int kk), .val (.int f7), .val (.int f8), .val (.int m2), .val (.int cv), .val (.ref b354), .val (.ref b395), .val (.ref b436), .val (.ref y), .val (.ref u1), .val (.ref u2), .val (.ref b508), .unset, .unset] [(.int q)])) (P := fun vm_ k_ L_ h_ q => (Fr n0 L_) ∧ (n0 ≤ h_.size) ∧ (Old Z n0 h_) ∧ (CHr Z own_EL s.vm h0 vm_ h_) ∧ (s.Since vm_ k_) ∧ (k_ ≤ h_.size) ∧ (Z.Warmed39 (s.setVm vm_).vm) ∧ ((s.setVm vm_).vm.findClass "com/example/tourwerk/tourwerk/problem/SolomonReaderRecognisesPinLaw" = some m.cls) ∧ (Exa Z h_ y "java/lang/String") ∧ (Fld Z h_ y "java/lang/String" "coder" "B" (.int 0)) ∧ (Fld Z h_ y "java/lang/String" "value" "[B" (.ref t)) ∧ (Arv Z h_ t kt .byte zz vl (.int 0)) ∧ (Exa Z h_ u1 "java/lang/String") ∧ (Exa Z h_ u2 "java/lang/String") ∧ (Exa Z h_ b508 "java/util/ArrayList") ∧ (Fld Z h_ b508 "java/util/AbstractList" "modCount" "I" (.int (((0 : Int32) + (1 : Int32)) + (1 : Int32)))) ∧ (Fld Z h_ b508 "java/util/ArrayList" "elementData" "[Ljava/lang/Object;" (.ref b_844)) ∧ (Fld Z h_ b508 "java/util/ArrayList" "size" "I" (.int 2)) ∧ (Arv Z h_ b_844 kb_844 (.object "java/lang/Object") (10 : Int32) [(.ref u1), (.ref y), .null, .null, .null, .null, .null, .null, .null, .null] .null) ∧ (q = own_l18 kk m2 cv)) ?_ (fun J877 => ?_)
                · rintro vm877 k877 T877 L877 h877 ex ⟨N877, Z877, O877, CR877, hS877, hk877, hZ877, hown877, F878, F879, F880, F881, F882, F883, F884, F885, F886, F887, F888, hj877⟩ X877 e877
                  try dsimp only at F878 F879 F880 F881 F882 F883 F884 F885 F886 F887 F888 hj877 ⊢
                  refine own_st (T' := T877) (g' := (mkF m 424 #[.val (.int p1), .val (.int p2), .val (.int p3), .val (.int p4), .val (.int p5), .val (.int 2), .val (.int kk), .val (.int f7), .val (.int f8), .val (.int m2), .val (.int cv), .val (.ref b354), .val (.ref b395), .val (.ref b436), .val (.ref y), .val (.ref u1), .val (.ref u2), .val (.ref b508), .val (.int ex), .unset] [(.int ex)])) (fun _ kt => XS.istore X877.here hx rfl (hb hby at_414) rfl (l' := #[.val (.int p1), .val (.int p2), .val (.int p3), .val (.int p4), .val (.int p5), .val (.int 2), .val (.int kk), .val (.int f7), .val (.int f8), .val (.int m2), .val (.int cv), .val (.ref b354), .val (.ref b395), .val (.ref b436), .val (.ref y), .val (.ref u1), .val (.ref u2), .val (.ref b508), .val (.int ex), .unset]) rfl (XS.iload X877.here hx rfl (hb hby at_416) rfl (XS.iconst X877.here hx rfl (hb hby at_418) (XS.icmpNo X877.here hx rfl (hb hby at_419) rfl (XT.ii_lt_f (by decide)) (XS.iload X877.here hx rfl (hb hby at_422) rfl kt))))) ?_
                  by_cases hc889 : ex = 0
                  ·
                    refine own_st (T' := T877) (g' := (mkF m 436 #[.val (.int p1), .val (.int p2), .val (.int p3), .val (.int p4), .val (.int p5), .val (.int 2), .val (.int kk), .val (.int f7), .val (.int f8), .val (.int m2), .val (.int cv), .val (.ref b354), .val (.ref b395), .val (.ref b436), .val (.ref y), .val (.ref u1), .val (.ref u2), .val (.ref b508), .val (.int ex), .val (.int 0)] [(.ref b508)])) (fun _ kt => XS.ifYes X877.here hx rfl (pc0 := 424) (pc' := 431) rfl (hb hby at_424) rfl (XT.i0_eq_t hc889) (by decide) (by decide) (XS.iconst X877.here hx rfl (hb hby at_431) (XS.istore X877.here hx rfl (hb hby at_432) rfl (l' := #[.val (.int p1), .val (.int p2), .val (.int p3), .val (.int p4), .val (.int p5), .val (.int 2), .val (.int kk), .val (.int f7), .val (.int f8), .val (.int m2), .val (.int cv), .val (.ref b354), .val (.ref b395), .val (.ref b436), .val (.ref y), .val (.ref u1), .val (.ref u2), .val (.ref b508), .val (.int ex), .val (.int 0)]) rfl (XS.aload X877.here hx rfl (hb hby at_434) rfl rfl kt)))) ?_
                    obtain ⟨_, _, ⟨T890, L890, k890, n890⟩, -, X890, hS890, hG890, ⟨Lc890, hQ890, l890, y890, z890, hC890⟩, st890⟩ := callSS X877 hx (y := yN3) hown877 (mvT hZ877 (own_k hw 93 rfl)) (mvT hZ877 (own_k hw 94 rfl)) (mvT hZ877 (own_k hw 95 rfl)) (mvT hZ877 (own_k hw 96 rfl)) (by decide) (backOfSH (W := 0) (own_rc1 l Z a0 hw [] b508 b_844 kb_844 ([(.ref u1), (.ref y), .null, .null, .null, .null, .null, .null, .null, .null]) y (2 : Int32) zc t kt zz vl rr x0 x1 x2 x3 x4 x5 x6 h877 n0 Z877 O877 pr2 pr3 F884 F886 F888 F887 rfl (show ¬ (2 : Int32) < (2 : Int32) from (by decide)) (show (1 : Int32) < (2 : Int32) from (by decide)) hans F878 F879 F880 F881 hx0 hx1 hx2 hx3 hx4 hx5 hx6) hZ877 (own_k hw 96 rfl) (own_k hw 95 rfl) (by decide) (by decide) (own_EW hw) CR877.1) (g := (mkF m 436 #[.val (.int p1), .val (.int p2), .val (.int p3), .val (.int p4), .val (.int p5), .val (.int 2), .val (.int kk), .val (.int f7), .val (.int f8), .val (.int m2), .val (.int cv), .val (.ref b354), .val (.ref b395), .val (.ref b436), .val (.ref y), .val (.ref u1), .val (.ref u2), .val (.ref b508), .val (.int ex), .val (.int 0)] [(.ref b508)])) rfl hml.symm  (argsL := [(.ref b508)]) (rest := []) (lenOf own_pd17 rfl) rfl (own_w0 rfl rfl) (hb hby at_436) (fun _ _ => ⟨rfl, e877, (by decide : 23 + 6 ≤ 40), (by decide : 294 + 80 ≤ 3264)⟩)
                    dsimp only [Pt.U, Pt.locs, Pt.cells, Pt.slots] at X890 l890 y890 z890 st890 hQ890 hS890 hG890 hC890
                    subst l890 y890 z890
                    obtain ⟨ub_890, rfl, N890, K890_⟩ := hQ890
                    have N891 := Fr.app N877 N890
                    obtain ⟨X892, hS892, hZ892, hown892⟩ := rebS hS877 (by rw [e877]; exact hk877) X890 hS890 hG890 hZ877 hown877
                    have CR893 : CHr Z own_EL s.vm h0 T890.vm T890.heap := CHr.trans CR877 hC890
                    have Z894 : n0 ≤ T890.heap.size := Nat.le_trans Z877 K890_.1
                    have hk894 := Nat.le_trans hk877 K890_.1
                    have hk892 : T890.heap.size ≤ T890.heap.size := Nat.le_refl _
                    refine own_tr (T' := T890) (g' := (mkF m 439 #[.val (.int p1), .val (.int p2), .val (.int p3), .val (.int p4), .val (.int p5), .val (.int 2), .val (.int kk), .val (.int f7), .val (.int f8), .val (.int m2), .val (.int cv), .val (.ref b354), .val (.ref b395), .val (.ref b436), .val (.ref y), .val (.ref u1), .val (.ref u2), .val (.ref b508), .val (.int ex), .val (.int 0)] [(.int rr)])) st890 ?_
                    refine own_st (T' := T890) (g' := (mkF m 449 #[.val (.int p1), .val (.int p2), .val (.int p3), .val (.int p4), .val (.int p5), .val (.int 2), .val (.int kk), .val (.int f7), .val (.int f8), .val (.int m2), .val (.int cv), .val (.ref b354), .val (.ref b395), .val (.ref b436), .val (.ref y), .val (.ref u1), .val (.ref u2), .val (.ref b508), .val (.int ex), .val (.int 0)] [(.int 1)])) (fun _ kt => XS.iload X892.here hx rfl (hb hby at_439) rfl (XS.icmpNo X892.here hx rfl (hb hby at_441) rfl (XT.ii_ne_f ((own_rl hpk hrel).trans (hj877.symm.trans hc889))) (XS.iconst X892.here hx rfl (hb hby at_444) (XS.goto X892.here hx rfl (pc0 := 445) (pc' := 449) rfl (hb hby at_445) (by decide) (by decide) kt)))) ?_
                    obtain ⟨fs, hr, hrun, hended, hE⟩ := Stand.leaveW X892 hS892 hk892 (v := some (.int 1)) (fun h => by rw [Bd.returns] at h; cases h)
                    refine own_end (retN X892 hx (t := .boolean) Bd.returns (by simp) (hb hby at_449) hr) ⟨_, hrun, hended, _, _, rfl, ?_, (by rw [hh]; show CHr Z own_EL s.vm h0 T890.vm T890.heap; exact CHr.trans CR893 (CHv.at X892 hZ892 (own_EW hw) CR893.1)), ⟨hE.1, hE.2.1, hE.2.2.1, hE.2.2.2.mono (by decide) (by decide)⟩⟩
                    show own_lawQ Z _ _ _ _ _ _ _ _ _ h0 n0 _ T890.heap _
                    show own_lawQ Z _ _ _ _ _ _ _ _ _ h0 n0 _ T890.heap _
                    exact ⟨rfl, N891⟩
                  ·
                    refine own_st (T' := T877) (g' := (mkF m 436 #[.val (.int p1), .val (.int p2), .val (.int p3), .val (.int p4), .val (.int p5), .val (.int 2), .val (.int kk), .val (.int f7), .val (.int f8), .val (.int m2), .val (.int cv), .val (.ref b354), .val (.ref b395), .val (.ref b436), .val (.ref y), .val (.ref u1), .val (.ref u2), .val (.ref b508), .val (.int ex), .val (.int 1)] [(.ref b508)])) (fun _ kt => XS.ifNo X877.here hx rfl (hb hby at_424) rfl (XT.i0_eq_f hc889) (XS.iconst X877.here hx rfl (hb hby at_427) (XS.goto X877.here hx rfl (pc0 := 428) (pc' := 432) rfl (hb hby at_428) (by decide) (by decide) (XS.istore X877.here hx rfl (hb hby at_432) rfl (l' := #[.val (.int p1), .val (.int p2), .val (.int p3), .val (.int p4), .val (.int p5), .val (.int 2), .val (.int kk), .val (.int f7), .val (.int f8), .val (.int m2), .val (.int cv), .val (.ref b354), .val (.ref b395), .val (.ref b436), .val (.ref y), .val (.ref u1), .val (.ref u2), .val (.ref b508), .val (.int ex), .val (.int 1)]) rfl (XS.aload X877.here hx rfl (hb hby at_434) rfl rfl kt))))) ?_
                    obtain ⟨_, _, ⟨T895, L895, k895, n895⟩, -, X895, hS895, hG895, ⟨Lc895, hQ895, l895, y895, z895, hC895⟩, st895⟩ := callSS X877 hx (y := yN3) hown877 (mvT hZ877 (own_k hw 93 rfl)) (mvT hZ877 (own_k hw 94 rfl)) (mvT hZ877 (own_k hw 95 rfl)) (mvT hZ877 (own_k hw 96 rfl)) (by decide) (backOfSH (W := 0) (own_rc1 l Z a0 hw [] b508 b_844 kb_844 ([(.ref u1), (.ref y), .null, .null, .null, .null, .null, .null, .null, .null]) y (2 : Int32) zc t kt zz vl rr x0 x1 x2 x3 x4 x5 x6 h877 n0 Z877 O877 pr2 pr3 F884 F886 F888 F887 rfl (show ¬ (2 : Int32) < (2 : Int32) from (by decide)) (show (1 : Int32) < (2 : Int32) from (by decide)) hans F878 F879 F880 F881 hx0 hx1 hx2 hx3 hx4 hx5 hx6) hZ877 (own_k hw 96 rfl) (own_k hw 95 rfl) (by decide) (by decide) (own_EW hw) CR877.1) (g := (mkF m 436 #[.val (.int p1), .val (.int p2), .val (.int p3), .val (.int p4), .val (.int p5), .val (.int 2), .val (.int kk), .val (.int f7), .val (.int f8), .val (.int m2), .val (.int cv), .val (.ref b354), .val (.ref b395), .val (.ref b436), .val (.ref y), .val (.ref u1), .val (.ref u2), .val (.ref b508), .val (.int ex), .val (.int 1)] [(.ref b508)])) rfl hml.symm  (argsL := [(.ref b508)]) (rest := []) (lenOf own_pd17 rfl) rfl (own_w0 rfl rfl) (hb hby at_436) (fun _ _ => ⟨rfl, e877, (by decide : 23 + 6 ≤ 40), (by decide : 294 + 80 ≤ 3264)⟩)
                    dsimp only [Pt.U, Pt.locs, Pt.cells, Pt.slots] at X895 l895 y895 z895 st895 hQ895 hS895 hG895 hC895
                    subst l895 y895 z895
                    obtain ⟨ub_895, rfl, N895, K895_⟩ := hQ895
                    have N896 := Fr.app N877 N895
                    obtain ⟨X897, hS897, hZ897, hown897⟩ := rebS hS877 (by rw [e877]; exact hk877) X895 hS895 hG895 hZ877 hown877
                    have CR898 : CHr Z own_EL s.vm h0 T895.vm T895.heap := CHr.trans CR877 hC895
                    have Z899 : n0 ≤ T895.heap.size := Nat.le_trans Z877 K895_.1
                    have hk899 := Nat.le_trans hk877 K895_.1
                    have hk897 : T895.heap.size ≤ T895.heap.size := Nat.le_refl _
                    refine own_tr (T' := T895) (g' := (mkF m 439 #[.val (.int p1), .val (.int p2), .val (.int p3), .val (.int p4), .val (.int p5), .val (.int 2), .val (.int kk), .val (.int f7), .val (.int f8), .val (.int m2), .val (.int cv), .val (.ref b354), .val (.ref b395), .val (.ref b436), .val (.ref y), .val (.ref u1), .val (.ref u2), .val (.ref b508), .val (.int ex), .val (.int 1)] [(.int rr)])) st895 ?_
                    refine own_st (T' := T895) (g' := (mkF m 449 #[.val (.int p1), .val (.int p2), .val (.int p3), .val (.int p4), .val (.int p5), .val (.int 2), .val (.int kk), .val (.int f7), .val (.int f8), .val (.int m2), .val (.int cv), .val (.ref b354), .val (.ref b395), .val (.ref b436), .val (.ref y), .val (.ref u1), .val (.ref u2), .val (.ref b508), .val (.int ex), .val (.int 1)] [(.int 1)])) (fun _ kt => XS.iload X897.here hx rfl (hb hby at_439) rfl (XS.icmpNo X897.here hx rfl (hb hby at_441) rfl (XT.ii_ne_f (own_f1 hc889 hj877 (own_rl hpk hrel))) (XS.iconst X897.here hx rfl (hb hby at_444) (XS.goto X897.here hx rfl (pc0 := 445) (pc' := 449) rfl (hb hby at_445) (by decide) (by decide) kt)))) ?_
                    obtain ⟨fs, hr, hrun, hended, hE⟩ := Stand.leaveW X897 hS897 hk897 (v := some (.int 1)) (fun h => by rw [Bd.returns] at h; cases h)
                    refine own_end (retN X897 hx (t := .boolean) Bd.returns (by simp) (hb hby at_449) hr) ⟨_, hrun, hended, _, _, rfl, ?_, (by rw [hh]; show CHr Z own_EL s.vm h0 T895.vm T895.heap; exact CHr.trans CR898 (CHv.at X897 hZ897 (own_EW hw) CR898.1)), ⟨hE.1, hE.2.1, hE.2.2.1, hE.2.2.2.mono (by decide) (by decide)⟩⟩
                    show own_lawQ Z _ _ _ _ _ _ _ _ _ h0 n0 _ T895.heap _
                    show own_lawQ Z _ _ _ _ _ _ _ _ _ h0 n0 _ T895.heap _
                    exact ⟨rfl, N896⟩
                ·
                  refine own_st (T' := T866) (g' := (mkF m 387 #[.val (.int p1), .val (.int p2), .val (.int p3), .val (.int p4), .val (.int p5), .val (.int 2), .val (.int kk), .val (.int f7), .val (.int f8), .val (.int m2), .val (.int cv), .val (.ref b354), .val (.ref b395), .val (.ref b436), .val (.ref y), .val (.ref u1), .val (.ref u2), .val (.ref b508), .unset, .unset] [(.int kk)])) (fun _ kt => XS.iload X866.here hx rfl (hb hby at_385) rfl kt) ?_
                  by_cases hc900 : kk = 0
                  ·
                    refine own_st (T' := T866) (g' := (mkF m 394 #[.val (.int p1), .val (.int p2), .val (.int p3), .val (.int p4), .val (.int p5), .val (.int 2), .val (.int kk), .val (.int f7), .val (.int f8), .val (.int m2), .val (.int cv), .val (.ref b354), .val (.ref b395), .val (.ref b436), .val (.ref y), .val (.ref u1), .val (.ref u2), .val (.ref b508), .unset, .unset] [(.int 7), (.int m2)])) (fun _ kt => XS.ifNo X866.here hx rfl (hb hby at_387) rfl (XT.i0_ne_f hc900) (XS.iload X866.here hx rfl (hb hby at_390) rfl (XS.bipush X866.here hx rfl (hb hby at_392) kt))) ?_
                    by_cases hc901 : m2 = (7 : Int32)
                    ·
                      refine own_st (T' := T866) (g' := (mkF m 414 #[.val (.int p1), .val (.int p2), .val (.int p3), .val (.int p4), .val (.int p5), .val (.int 2), .val (.int kk), .val (.int f7), .val (.int f8), .val (.int m2), .val (.int cv), .val (.ref b354), .val (.ref b395), .val (.ref b436), .val (.ref y), .val (.ref u1), .val (.ref u2), .val (.ref b508), .unset, .unset] [(.int 1)])) (fun _ kt => XS.icmpYes X866.here hx rfl (pc0 := 394) (pc' := 409) rfl (hb hby at_394) rfl (XT.ii_eq_t hc901) (by decide) (by decide) (XS.iconst X866.here hx rfl (hb hby at_409) (XS.goto X866.here hx rfl (pc0 := 410) (pc' := 414) rfl (hb hby at_410) (by decide) (by decide) kt))) ?_
                      have F902 : Old Z n0 T866.heap := (Old.keep (Old.keep F842 K844_ (allS ge_b508 all0)) K866_ (allS ge_b508 (allS ge864 all0)))
                      have F903 : Exa Z T866.heap y "java/lang/String" := (Exa.keep F865 K866_)
                      have F904 : Fld Z T866.heap y "java/lang/String" "coder" "B" (.int 0) := (Fld.keep (Fld.keep (Fld.keep (Fld.ext E508 F503) K520_ (ninS ne509 nin0)) K844_ (ninS ne509 nin0)) K866_ (ninS ne509 (ninS ne858 nin0)))
                      have F905 : Fld Z T866.heap y "java/lang/String" "value" "[B" (.ref t) := (Fld.keep (Fld.keep (Fld.keep (Fld.ext E508 F504) K520_ (ninS ne509 nin0)) K844_ (ninS ne509 nin0)) K866_ (ninS ne509 (ninS ne858 nin0)))
                      have F906 : Arv Z T866.heap t kt .byte zz vl (.int 0) := (Arv.keep (Arv.keep F859 K844_ (ninS ne510 nin0)) K866_ (ninS ne510 (ninS ne860 nin0)))
                      have F907 : Exa Z T866.heap u1 "java/lang/String" := (Exa.keep (Exa.keep F843 K844_) K866_)
                      have F908 : Exa Z T866.heap u2 "java/lang/String" := (Exa.keep (Exa.keep F862 K844_) K866_)
                      exact J877 _ _ _ _ _ (1 : Int32) ⟨N873, Z876, F902, CR875, hS501, hk876, hZ501, hown501, F903, F904, F905, F906, F907, F908, P868, P869, P870, P871, P872, (by unfold own_l18; rw [if_pos hc900, hc901]; rfl)⟩ (X866.mono (by decide) (by decide)) rfl
                    ·
                      refine own_st (T' := T866) (g' := (mkF m 399 #[.val (.int p1), .val (.int p2), .val (.int p3), .val (.int p4), .val (.int p5), .val (.int 2), .val (.int kk), .val (.int f7), .val (.int f8), .val (.int m2), .val (.int cv), .val (.ref b354), .val (.ref b395), .val (.ref b436), .val (.ref y), .val (.ref u1), .val (.ref u2), .val (.ref b508), .unset, .unset] [(.int cv)])) (fun _ kt => XS.icmpNo X866.here hx rfl (hb hby at_394) rfl (XT.ii_eq_f hc901) (XS.iload X866.here hx rfl (hb hby at_397) rfl kt)) ?_
                      obtain ⟨b909, T909, h909, k909, d909, kd909, X909, e909, E909, hS909, hk909, hZ909, hown909, gE909, gC909, gV909, gA909, la909, lb909, hC909, -, hsf909, st909⟩ := ldcCH X866 hx hZ501 hown501 (own_k hw 69 rfl) (own_wS hw) rfl hS501 hk876 (own_EW hw) (show ("com/example/tourwerk/tourwerk/problem/SolomonReaderRecognisesPinLaw", 15) ∈ own_EL by simp [own_EL]) CR875.1 (vs := [(.int 86), (.int 69), (.int 72), (.int 73), (.int 67), (.int 76), (.int 69)]) (z := (7 : Int32)) ⟨by decide +kernel, by first | rfl | decide +kernel⟩ (by decide) rfl (g := (mkF m 399 #[.val (.int p1), .val (.int p2), .val (.int p3), .val (.int p4), .val (.int p5), .val (.int 2), .val (.int kk), .val (.int f7), .val (.int f8), .val (.int m2), .val (.int cv), .val (.ref b354), .val (.ref b395), .val (.ref b436), .val (.ref y), .val (.ref u1), .val (.ref u2), .val (.ref b508), .unset, .unset] [(.int cv)])) rfl (hb hby at_399) (n := 28) (by decide +kernel) (by decide) (by decide) (by decide)
                      have CR910 : CHr Z own_EL s.vm h0 T909.vm h909 := CHr.trans CR875 hC909
                      have Z911 : n0 ≤ h909.size := Nat.le_trans Z876 E909.1
                      have hk911 := Nat.le_trans hk876 E909.1
                      have F912 : Exa Z h909 y "java/lang/String" := (Exa.ext E909 (Exa.keep F865 K866_))
                      have F913 : Fld Z h909 y "java/lang/String" "value" "[B" (.ref t) := (Fld.ext E909 (Fld.keep (Fld.keep (Fld.keep (Fld.ext E508 F504) K520_ (ninS ne509 nin0)) K844_ (ninS ne509 nin0)) K866_ (ninS ne509 (ninS ne858 nin0))))
                      have F914 : Arv Z h909 t kt .byte zz vl (.int 0) := ((Arv.keep (Arv.keep F859 K844_ (ninS ne510 nin0)) K866_ (ninS ne510 (ninS ne860 nin0))).ext E909)
                      have F915 : Exa Z h909 u1 "java/lang/String" := (Exa.ext E909 (Exa.keep (Exa.keep F843 K844_) K866_))
                      have F916 : Exa Z h909 u2 "java/lang/String" := (Exa.ext E909 (Exa.keep (Exa.keep F862 K844_) K866_))
                      have F917 : Safe Z own_EL T909.vm h909 b508 := (CHr.safe hC909 P868.lt (Safe.keep K866_ (sfS F874 (sfS (Safe.arv (State.Warmed39.alike hZ501) P850 (by decide)) sf0)) CR855.1 F874))
                      have ne918 := hsf909 b508 F917
                      have F919 : Arv Z h909 b_844 kb_844 (.object "java/lang/Object") (10 : Int32) [(.ref u1), (.ref y), .null, .null, .null, .null, .null, .null, .null, .null] .null := (P872.ext E909)
                      have ne920 := hsf909 b_844 (Safe.arv (State.Warmed39.alike hZ909) F919 (by decide))
                      refine own_st (T' := T909) (g' := (mkF m 401 #[.val (.int p1), .val (.int p2), .val (.int p3), .val (.int p4), .val (.int p5), .val (.int 2), .val (.int kk), .val (.int f7), .val (.int f8), .val (.int m2), .val (.int cv), .val (.ref b354), .val (.ref b395), .val (.ref b436), .val (.ref y), .val (.ref u1), .val (.ref u2), .val (.ref b508), .unset, .unset] [(.ref b909), (.int cv)])) st909 ?_
                      refine own_st (T' := T909) (g' := (mkF m 403 #[.val (.int p1), .val (.int p2), .val (.int p3), .val (.int p4), .val (.int p5), .val (.int 2), .val (.int kk), .val (.int f7), .val (.int f8), .val (.int m2), .val (.int cv), .val (.ref b354), .val (.ref b395), .val (.ref b436), .val (.ref y), .val (.ref u1), .val (.ref u2), .val (.ref b508), .unset, .unset] [(.int m2), (.ref b909), (.int cv)])) (fun _ kt => XS.iload X909.here hx rfl (hb hby at_401) rfl kt) ?_
                      rcases q_m2 with rfl | rfl | rfl | rfl | rfl | rfl | rfl | rfl
                      ·
                        have F921 : Old Z n0 h909 := (Old.ext (Old.keep (Old.keep F842 K844_ (allS ge_b508 all0)) K866_ (allS ge_b508 (allS ge864 all0))) E909)
                        obtain ⟨cq923, kq923, qa923, qb923, qc923⟩ := isOf hZ909 e909 gE909
                        obtain ⟨_, _, ⟨T922, L922, k922, n922⟩, -, X922, ⟨Lc922, hQ922, l922, y922, z922⟩, st922⟩ := X909.virtualBack hx (y := yN0) (z := yN0) hown909 (mvT hZ909 (own_k hw 72 rfl)) (mvT hZ909 (own_k hw 73 rfl)) (notFace_of_selects (args := #[]) (mvT hZ909 (own_k hw 75 rfl))) (mvT hZ909 (own_k hw 75 rfl)) (mvT hZ909 (own_k hw 74 rfl)) (by decide) (backOf (W := 1) (own_ca l Z a0 hw [] b909 zc d909 (0 : Int32) fmt kd909 (7 : Int32) [(.int 86), (.int 69), (.int 72), (.int 73), (.int 67), (.int 76), (.int 69)] (86 : Int32) (86 : Int32) h909 n0 Z911 F921 pr2 pr3 pr4 pr5 gE909 gC909 gV909 gA909 (show ¬ (0 : Int32) < 0 ∧ (0 : Int32) < (7 : Int32) from (by decide)) rfl (show nar .char (((86 : Int32) &&& (255 : Int32)).toUInt32.toUInt16.toUInt32.toInt32) = (86 : Int32) from (by decide)) (show nar .char (86 : Int32) = (86 : Int32) from (by decide))) hZ909 (own_k hw 76 rfl) (own_k hw 4 rfl) (by decide) (by decide)) qa923 qc923 (g := (mkF m 403 #[.val (.int p1), .val (.int p2), .val (.int p3), .val (.int p4), .val (.int p5), .val (.int 2), .val (.int kk), .val (.int f7), .val (.int f8), .val (.int 0), .val (.int cv), .val (.ref b354), .val (.ref b395), .val (.ref b436), .val (.ref y), .val (.ref u1), .val (.ref u2), .val (.ref b508), .unset, .unset] [(.int 0), (.ref b909), (.int cv)])) rfl hml.symm (Steps.refl _) (argsL := [(.int 0)]) (rest := [(.int cv)]) (lenOf own_pd18 rfl) rfl (own_w0 rfl rfl) (hb hby at_403) (fun _ _ => ⟨rfl, e909, (by decide : 21 + 0 ≤ 40), (by decide : 266 + 0 ≤ 3264)⟩)
                        dsimp only [Pt.U, Pt.locs, Pt.cells, Pt.slots] at X922 l922 y922 z922 st922 hQ922
                        subst l922 y922 z922
                        obtain ⟨rfl, N922, e922⟩ := hQ922
                        have N924 := Fr.app N873 N922
                        refine own_tr (T' := T922) (g' := (mkF m 406 #[.val (.int p1), .val (.int p2), .val (.int p3), .val (.int p4), .val (.int p5), .val (.int 2), .val (.int kk), .val (.int f7), .val (.int f8), .val (.int 0), .val (.int cv), .val (.ref b354), .val (.ref b395), .val (.ref b436), .val (.ref y), .val (.ref u1), .val (.ref u2), .val (.ref b508), .unset, .unset] [(.int 86), (.int cv)])) st922 ?_
                        by_cases hc925 : cv = (86 : Int32)
                        ·
                          refine own_st (T' := T922) (g' := (mkF m 414 #[.val (.int p1), .val (.int p2), .val (.int p3), .val (.int p4), .val (.int p5), .val (.int 2), .val (.int kk), .val (.int f7), .val (.int f8), .val (.int 0), .val (.int cv), .val (.ref b354), .val (.ref b395), .val (.ref b436), .val (.ref y), .val (.ref u1), .val (.ref u2), .val (.ref b508), .unset, .unset] [(.int 1)])) (fun _ kt => XS.icmpNo X922.here hx rfl (hb hby at_406) rfl (XT.ii_ne_f hc925) (XS.iconst X922.here hx rfl (hb hby at_409) (XS.goto X922.here hx rfl (pc0 := 410) (pc' := 414) rfl (hb hby at_410) (by decide) (by decide) kt))) ?_
                          have F926 : Fld Z h909 y "java/lang/String" "coder" "B" (.int 0) := (Fld.ext E909 (Fld.keep (Fld.keep (Fld.keep (Fld.ext E508 F503) K520_ (ninS ne509 nin0)) K844_ (ninS ne509 nin0)) K866_ (ninS ne509 (ninS ne858 nin0))))
                          have F927 : Exa Z h909 b508 "java/util/ArrayList" := (Exa.ext E909 P868)
                          have F928 : Fld Z h909 b508 "java/util/AbstractList" "modCount" "I" (.int (((0 : Int32) + (1 : Int32)) + (1 : Int32))) := (Fld.ext E909 P869)
                          have F929 : Fld Z h909 b508 "java/util/ArrayList" "elementData" "[Ljava/lang/Object;" (.ref b_844) := (Fld.ext E909 P870)
                          have F930 : Fld Z h909 b508 "java/util/ArrayList" "size" "I" (.int 2) := (Fld.ext E909 P871)
                          exact J877 _ _ _ _ _ (1 : Int32) ⟨N924, Z911, F921, CR910, hS909, hk909, hZ909, hown909, F912, F926, F913, F914, F915, F916, F927, F928, F929, F930, F919, (by unfold own_l18; rw [if_pos hc900]; simp +decide [own_ex, hc925])⟩ (X922.mono (by decide) (by decide)) e922
                        ·
                          refine own_st (T' := T922) (g' := (mkF m 414 #[.val (.int p1), .val (.int p2), .val (.int p3), .val (.int p4), .val (.int p5), .val (.int 2), .val (.int kk), .val (.int f7), .val (.int f8), .val (.int 0), .val (.int cv), .val (.ref b354), .val (.ref b395), .val (.ref b436), .val (.ref y), .val (.ref u1), .val (.ref u2), .val (.ref b508), .unset, .unset] [(.int 0)])) (fun _ kt => XS.icmpYes X922.here hx rfl (pc0 := 406) (pc' := 413) rfl (hb hby at_406) rfl (XT.ii_ne_t hc925) (by decide) (by decide) (XS.iconst X922.here hx rfl (hb hby at_413) kt)) ?_
                          have F931 : Fld Z h909 y "java/lang/String" "coder" "B" (.int 0) := (Fld.ext E909 (Fld.keep (Fld.keep (Fld.keep (Fld.ext E508 F503) K520_ (ninS ne509 nin0)) K844_ (ninS ne509 nin0)) K866_ (ninS ne509 (ninS ne858 nin0))))
                          have F932 : Exa Z h909 b508 "java/util/ArrayList" := (Exa.ext E909 P868)
                          have F933 : Fld Z h909 b508 "java/util/AbstractList" "modCount" "I" (.int (((0 : Int32) + (1 : Int32)) + (1 : Int32))) := (Fld.ext E909 P869)
                          have F934 : Fld Z h909 b508 "java/util/ArrayList" "elementData" "[Ljava/lang/Object;" (.ref b_844) := (Fld.ext E909 P870)
                          have F935 : Fld Z h909 b508 "java/util/ArrayList" "size" "I" (.int 2) := (Fld.ext E909 P871)
                          exact J877 _ _ _ _ _ (0 : Int32) ⟨N924, Z911, F921, CR910, hS909, hk909, hZ909, hown909, F912, F931, F913, F914, F915, F916, F932, F933, F934, F935, F919, (by unfold own_l18; rw [if_pos hc900]; simp +decide [own_ex, hc925])⟩ (X922.mono (by decide) (by decide)) e922
                      ·
                        have F936 : Old Z n0 h909 := (Old.ext (Old.keep (Old.keep F842 K844_ (allS ge_b508 all0)) K866_ (allS ge_b508 (allS ge864 all0))) E909)
                        obtain ⟨cq938, kq938, qa938, qb938, qc938⟩ := isOf hZ909 e909 gE909
                        obtain ⟨_, _, ⟨T937, L937, k937, n937⟩, -, X937, ⟨Lc937, hQ937, l937, y937, z937⟩, st937⟩ := X909.virtualBack hx (y := yN0) (z := yN0) hown909 (mvT hZ909 (own_k hw 72 rfl)) (mvT hZ909 (own_k hw 73 rfl)) (notFace_of_selects (args := #[]) (mvT hZ909 (own_k hw 75 rfl))) (mvT hZ909 (own_k hw 75 rfl)) (mvT hZ909 (own_k hw 74 rfl)) (by decide) (backOf (W := 1) (own_ca l Z a0 hw [] b909 zc d909 (1 : Int32) fmt kd909 (7 : Int32) [(.int 86), (.int 69), (.int 72), (.int 73), (.int 67), (.int 76), (.int 69)] (69 : Int32) (69 : Int32) h909 n0 Z911 F936 pr2 pr3 pr4 pr5 gE909 gC909 gV909 gA909 (show ¬ (1 : Int32) < 0 ∧ (1 : Int32) < (7 : Int32) from (by decide)) rfl (show nar .char (((69 : Int32) &&& (255 : Int32)).toUInt32.toUInt16.toUInt32.toInt32) = (69 : Int32) from (by decide)) (show nar .char (69 : Int32) = (69 : Int32) from (by decide))) hZ909 (own_k hw 76 rfl) (own_k hw 4 rfl) (by decide) (by decide)) qa938 qc938 (g := (mkF m 403 #[.val (.int p1), .val (.int p2), .val (.int p3), .val (.int p4), .val (.int p5), .val (.int 2), .val (.int kk), .val (.int f7), .val (.int f8), .val (.int 1), .val (.int cv), .val (.ref b354), .val (.ref b395), .val (.ref b436), .val (.ref y), .val (.ref u1), .val (.ref u2), .val (.ref b508), .unset, .unset] [(.int 1), (.ref b909), (.int cv)])) rfl hml.symm (Steps.refl _) (argsL := [(.int 1)]) (rest := [(.int cv)]) (lenOf own_pd18 rfl) rfl (own_w0 rfl rfl) (hb hby at_403) (fun _ _ => ⟨rfl, e909, (by decide : 21 + 0 ≤ 40), (by decide : 266 + 0 ≤ 3264)⟩)
                        dsimp only [Pt.U, Pt.locs, Pt.cells, Pt.slots] at X937 l937 y937 z937 st937 hQ937
                        subst l937 y937 z937
                        obtain ⟨rfl, N937, e937⟩ := hQ937
                        have N939 := Fr.app N873 N937
                        refine own_tr (T' := T937) (g' := (mkF m 406 #[.val (.int p1), .val (.int p2), .val (.int p3), .val (.int p4), .val (.int p5), .val (.int 2), .val (.int kk), .val (.int f7), .val (.int f8), .val (.int 1), .val (.int cv), .val (.ref b354), .val (.ref b395), .val (.ref b436), .val (.ref y), .val (.ref u1), .val (.ref u2), .val (.ref b508), .unset, .unset] [(.int 69), (.int cv)])) st937 ?_
                        by_cases hc940 : cv = (69 : Int32)
                        ·
                          refine own_st (T' := T937) (g' := (mkF m 414 #[.val (.int p1), .val (.int p2), .val (.int p3), .val (.int p4), .val (.int p5), .val (.int 2), .val (.int kk), .val (.int f7), .val (.int f8), .val (.int 1), .val (.int cv), .val (.ref b354), .val (.ref b395), .val (.ref b436), .val (.ref y), .val (.ref u1), .val (.ref u2), .val (.ref b508), .unset, .unset] [(.int 1)])) (fun _ kt => XS.icmpNo X937.here hx rfl (hb hby at_406) rfl (XT.ii_ne_f hc940) (XS.iconst X937.here hx rfl (hb hby at_409) (XS.goto X937.here hx rfl (pc0 := 410) (pc' := 414) rfl (hb hby at_410) (by decide) (by decide) kt))) ?_
                          have F941 : Fld Z h909 y "java/lang/String" "coder" "B" (.int 0) := (Fld.ext E909 (Fld.keep (Fld.keep (Fld.keep (Fld.ext E508 F503) K520_ (ninS ne509 nin0)) K844_ (ninS ne509 nin0)) K866_ (ninS ne509 (ninS ne858 nin0))))
                          have F942 : Exa Z h909 b508 "java/util/ArrayList" := (Exa.ext E909 P868)
                          have F943 : Fld Z h909 b508 "java/util/AbstractList" "modCount" "I" (.int (((0 : Int32) + (1 : Int32)) + (1 : Int32))) := (Fld.ext E909 P869)
                          have F944 : Fld Z h909 b508 "java/util/ArrayList" "elementData" "[Ljava/lang/Object;" (.ref b_844) := (Fld.ext E909 P870)
                          have F945 : Fld Z h909 b508 "java/util/ArrayList" "size" "I" (.int 2) := (Fld.ext E909 P871)
                          exact J877 _ _ _ _ _ (1 : Int32) ⟨N939, Z911, F936, CR910, hS909, hk909, hZ909, hown909, F912, F941, F913, F914, F915, F916, F942, F943, F944, F945, F919, (by unfold own_l18; rw [if_pos hc900]; simp +decide [own_ex, hc940])⟩ (X937.mono (by decide) (by decide)) e937
                        ·
                          refine own_st (T' := T937) (g' := (mkF m 414 #[.val (.int p1), .val (.int p2), .val (.int p3), .val (.int p4), .val (.int p5), .val (.int 2), .val (.int kk), .val (.int f7), .val (.int f8), .val (.int 1), .val (.int cv), .val (.ref b354), .val (.ref b395), .val (.ref b436), .val (.ref y), .val (.ref u1), .val (.ref u2), .val (.ref b508), .unset, .unset] [(.int 0)])) (fun _ kt => XS.icmpYes X937.here hx rfl (pc0 := 406) (pc' := 413) rfl (hb hby at_406) rfl (XT.ii_ne_t hc940) (by decide) (by decide) (XS.iconst X937.here hx rfl (hb hby at_413) kt)) ?_
                          have F946 : Fld Z h909 y "java/lang/String" "coder" "B" (.int 0) := (Fld.ext E909 (Fld.keep (Fld.keep (Fld.keep (Fld.ext E508 F503) K520_ (ninS ne509 nin0)) K844_ (ninS ne509 nin0)) K866_ (ninS ne509 (ninS ne858 nin0))))
                          have F947 : Exa Z h909 b508 "java/util/ArrayList" := (Exa.ext E909 P868)
                          have F948 : Fld Z h909 b508 "java/util/AbstractList" "modCount" "I" (.int (((0 : Int32) + (1 : Int32)) + (1 : Int32))) := (Fld.ext E909 P869)
                          have F949 : Fld Z h909 b508 "java/util/ArrayList" "elementData" "[Ljava/lang/Object;" (.ref b_844) := (Fld.ext E909 P870)
                          have F950 : Fld Z h909 b508 "java/util/ArrayList" "size" "I" (.int 2) := (Fld.ext E909 P871)
                          exact J877 _ _ _ _ _ (0 : Int32) ⟨N939, Z911, F936, CR910, hS909, hk909, hZ909, hown909, F912, F946, F913, F914, F915, F916, F947, F948, F949, F950, F919, (by unfold own_l18; rw [if_pos hc900]; simp +decide [own_ex, hc940])⟩ (X937.mono (by decide) (by decide)) e937
                      ·
                        have F951 : Old Z n0 h909 := (Old.ext (Old.keep (Old.keep F842 K844_ (allS ge_b508 all0)) K866_ (allS ge_b508 (allS ge864 all0))) E909)
                        obtain ⟨cq953, kq953, qa953, qb953, qc953⟩ := isOf hZ909 e909 gE909
                        obtain ⟨_, _, ⟨T952, L952, k952, n952⟩, -, X952, ⟨Lc952, hQ952, l952, y952, z952⟩, st952⟩ := X909.virtualBack hx (y := yN0) (z := yN0) hown909 (mvT hZ909 (own_k hw 72 rfl)) (mvT hZ909 (own_k hw 73 rfl)) (notFace_of_selects (args := #[]) (mvT hZ909 (own_k hw 75 rfl))) (mvT hZ909 (own_k hw 75 rfl)) (mvT hZ909 (own_k hw 74 rfl)) (by decide) (backOf (W := 1) (own_ca l Z a0 hw [] b909 zc d909 (2 : Int32) fmt kd909 (7 : Int32) [(.int 86), (.int 69), (.int 72), (.int 73), (.int 67), (.int 76), (.int 69)] (72 : Int32) (72 : Int32) h909 n0 Z911 F951 pr2 pr3 pr4 pr5 gE909 gC909 gV909 gA909 (show ¬ (2 : Int32) < 0 ∧ (2 : Int32) < (7 : Int32) from (by decide)) rfl (show nar .char (((72 : Int32) &&& (255 : Int32)).toUInt32.toUInt16.toUInt32.toInt32) = (72 : Int32) from (by decide)) (show nar .char (72 : Int32) = (72 : Int32) from (by decide))) hZ909 (own_k hw 76 rfl) (own_k hw 4 rfl) (by decide) (by decide)) qa953 qc953 (g := (mkF m 403 #[.val (.int p1), .val (.int p2), .val (.int p3), .val (.int p4), .val (.int p5), .val (.int 2), .val (.int kk), .val (.int f7), .val (.int f8), .val (.int 2), .val (.int cv), .val (.ref b354), .val (.ref b395), .val (.ref b436), .val (.ref y), .val (.ref u1), .val (.ref u2), .val (.ref b508), .unset, .unset] [(.int 2), (.ref b909), (.int cv)])) rfl hml.symm (Steps.refl _) (argsL := [(.int 2)]) (rest := [(.int cv)]) (lenOf own_pd18 rfl) rfl (own_w0 rfl rfl) (hb hby at_403) (fun _ _ => ⟨rfl, e909, (by decide : 21 + 0 ≤ 40), (by decide : 266 + 0 ≤ 3264)⟩)
                        dsimp only [Pt.U, Pt.locs, Pt.cells, Pt.slots] at X952 l952 y952 z952 st952 hQ952
                        subst l952 y952 z952
                        obtain ⟨rfl, N952, e952⟩ := hQ952
                        have N954 := Fr.app N873 N952
                        refine own_tr (T' := T952) (g' := (mkF m 406 #[.val (.int p1), .val (.int p2), .val (.int p3), .val (.int p4), .val (.int p5), .val (.int 2), .val (.int kk), .val (.int f7), .val (.int f8), .val (.int 2), .val (.int cv), .val (.ref b354), .val (.ref b395), .val (.ref b436), .val (.ref y), .val (.ref u1), .val (.ref u2), .val (.ref b508), .unset, .unset] [(.int 72), (.int cv)])) st952 ?_
                        by_cases hc955 : cv = (72 : Int32)
                        ·
                          refine own_st (T' := T952) (g' := (mkF m 414 #[.val (.int p1), .val (.int p2), .val (.int p3), .val (.int p4), .val (.int p5), .val (.int 2), .val (.int kk), .val (.int f7), .val (.int f8), .val (.int 2), .val (.int cv), .val (.ref b354), .val (.ref b395), .val (.ref b436), .val (.ref y), .val (.ref u1), .val (.ref u2), .val (.ref b508), .unset, .unset] [(.int 1)])) (fun _ kt => XS.icmpNo X952.here hx rfl (hb hby at_406) rfl (XT.ii_ne_f hc955) (XS.iconst X952.here hx rfl (hb hby at_409) (XS.goto X952.here hx rfl (pc0 := 410) (pc' := 414) rfl (hb hby at_410) (by decide) (by decide) kt))) ?_
                          have F956 : Fld Z h909 y "java/lang/String" "coder" "B" (.int 0) := (Fld.ext E909 (Fld.keep (Fld.keep (Fld.keep (Fld.ext E508 F503) K520_ (ninS ne509 nin0)) K844_ (ninS ne509 nin0)) K866_ (ninS ne509 (ninS ne858 nin0))))
                          have F957 : Exa Z h909 b508 "java/util/ArrayList" := (Exa.ext E909 P868)
                          have F958 : Fld Z h909 b508 "java/util/AbstractList" "modCount" "I" (.int (((0 : Int32) + (1 : Int32)) + (1 : Int32))) := (Fld.ext E909 P869)
                          have F959 : Fld Z h909 b508 "java/util/ArrayList" "elementData" "[Ljava/lang/Object;" (.ref b_844) := (Fld.ext E909 P870)
                          have F960 : Fld Z h909 b508 "java/util/ArrayList" "size" "I" (.int 2) := (Fld.ext E909 P871)
                          exact J877 _ _ _ _ _ (1 : Int32) ⟨N954, Z911, F951, CR910, hS909, hk909, hZ909, hown909, F912, F956, F913, F914, F915, F916, F957, F958, F959, F960, F919, (by unfold own_l18; rw [if_pos hc900]; simp +decide [own_ex, hc955])⟩ (X952.mono (by decide) (by decide)) e952
                        ·
                          refine own_st (T' := T952) (g' := (mkF m 414 #[.val (.int p1), .val (.int p2), .val (.int p3), .val (.int p4), .val (.int p5), .val (.int 2), .val (.int kk), .val (.int f7), .val (.int f8), .val (.int 2), .val (.int cv), .val (.ref b354), .val (.ref b395), .val (.ref b436), .val (.ref y), .val (.ref u1), .val (.ref u2), .val (.ref b508), .unset, .unset] [(.int 0)])) (fun _ kt => XS.icmpYes X952.here hx rfl (pc0 := 406) (pc' := 413) rfl (hb hby at_406) rfl (XT.ii_ne_t hc955) (by decide) (by decide) (XS.iconst X952.here hx rfl (hb hby at_413) kt)) ?_
                          have F961 : Fld Z h909 y "java/lang/String" "coder" "B" (.int 0) := (Fld.ext E909 (Fld.keep (Fld.keep (Fld.keep (Fld.ext E508 F503) K520_ (ninS ne509 nin0)) K844_ (ninS ne509 nin0)) K866_ (ninS ne509 (ninS ne858 nin0))))
                          have F962 : Exa Z h909 b508 "java/util/ArrayList" := (Exa.ext E909 P868)
                          have F963 : Fld Z h909 b508 "java/util/AbstractList" "modCount" "I" (.int (((0 : Int32) + (1 : Int32)) + (1 : Int32))) := (Fld.ext E909 P869)
                          have F964 : Fld Z h909 b508 "java/util/ArrayList" "elementData" "[Ljava/lang/Object;" (.ref b_844) := (Fld.ext E909 P870)
                          have F965 : Fld Z h909 b508 "java/util/ArrayList" "size" "I" (.int 2) := (Fld.ext E909 P871)
                          exact J877 _ _ _ _ _ (0 : Int32) ⟨N954, Z911, F951, CR910, hS909, hk909, hZ909, hown909, F912, F961, F913, F914, F915, F916, F962, F963, F964, F965, F919, (by unfold own_l18; rw [if_pos hc900]; simp +decide [own_ex, hc955])⟩ (X952.mono (by decide) (by decide)) e952
                      ·
                        have F966 : Old Z n0 h909 := (Old.ext (Old.keep (Old.keep F842 K844_ (allS ge_b508 all0)) K866_ (allS ge_b508 (allS ge864 all0))) E909)
                        obtain ⟨cq968, kq968, qa968, qb968, qc968⟩ := isOf hZ909 e909 gE909
                        obtain ⟨_, _, ⟨T967, L967, k967, n967⟩, -, X967, ⟨Lc967, hQ967, l967, y967, z967⟩, st967⟩ := X909.virtualBack hx (y := yN0) (z := yN0) hown909 (mvT hZ909 (own_k hw 72 rfl)) (mvT hZ909 (own_k hw 73 rfl)) (notFace_of_selects (args := #[]) (mvT hZ909 (own_k hw 75 rfl))) (mvT hZ909 (own_k hw 75 rfl)) (mvT hZ909 (own_k hw 74 rfl)) (by decide) (backOf (W := 1) (own_ca l Z a0 hw [] b909 zc d909 (3 : Int32) fmt kd909 (7 : Int32) [(.int 86), (.int 69), (.int 72), (.int 73), (.int 67), (.int 76), (.int 69)] (73 : Int32) (73 : Int32) h909 n0 Z911 F966 pr2 pr3 pr4 pr5 gE909 gC909 gV909 gA909 (show ¬ (3 : Int32) < 0 ∧ (3 : Int32) < (7 : Int32) from (by decide)) rfl (show nar .char (((73 : Int32) &&& (255 : Int32)).toUInt32.toUInt16.toUInt32.toInt32) = (73 : Int32) from (by decide)) (show nar .char (73 : Int32) = (73 : Int32) from (by decide))) hZ909 (own_k hw 76 rfl) (own_k hw 4 rfl) (by decide) (by decide)) qa968 qc968 (g := (mkF m 403 #[.val (.int p1), .val (.int p2), .val (.int p3), .val (.int p4), .val (.int p5), .val (.int 2), .val (.int kk), .val (.int f7), .val (.int f8), .val (.int 3), .val (.int cv), .val (.ref b354), .val (.ref b395), .val (.ref b436), .val (.ref y), .val (.ref u1), .val (.ref u2), .val (.ref b508), .unset, .unset] [(.int 3), (.ref b909), (.int cv)])) rfl hml.symm (Steps.refl _) (argsL := [(.int 3)]) (rest := [(.int cv)]) (lenOf own_pd18 rfl) rfl (own_w0 rfl rfl) (hb hby at_403) (fun _ _ => ⟨rfl, e909, (by decide : 21 + 0 ≤ 40), (by decide : 266 + 0 ≤ 3264)⟩)
                        dsimp only [Pt.U, Pt.locs, Pt.cells, Pt.slots] at X967 l967 y967 z967 st967 hQ967
                        subst l967 y967 z967
                        obtain ⟨rfl, N967, e967⟩ := hQ967
                        have N969 := Fr.app N873 N967
                        refine own_tr (T' := T967) (g' := (mkF m 406 #[.val (.int p1), .val (.int p2), .val (.int p3), .val (.int p4), .val (.int p5), .val (.int 2), .val (.int kk), .val (.int f7), .val (.int f8), .val (.int 3), .val (.int cv), .val (.ref b354), .val (.ref b395), .val (.ref b436), .val (.ref y), .val (.ref u1), .val (.ref u2), .val (.ref b508), .unset, .unset] [(.int 73), (.int cv)])) st967 ?_
                        by_cases hc970 : cv = (73 : Int32)
                        ·
                          refine own_st (T' := T967) (g' := (mkF m 414 #[.val (.int p1), .val (.int p2), .val (.int p3), .val (.int p4), .val (.int p5), .val (.int 2), .val (.int kk), .val (.int f7), .val (.int f8), .val (.int 3), .val (.int cv), .val (.ref b354), .val (.ref b395), .val (.ref b436), .val (.ref y), .val (.ref u1), .val (.ref u2), .val (.ref b508), .unset, .unset] [(.int 1)])) (fun _ kt => XS.icmpNo X967.here hx rfl (hb hby at_406) rfl (XT.ii_ne_f hc970) (XS.iconst X967.here hx rfl (hb hby at_409) (XS.goto X967.here hx rfl (pc0 := 410) (pc' := 414) rfl (hb hby at_410) (by decide) (by decide) kt))) ?_
                          have F971 : Fld Z h909 y "java/lang/String" "coder" "B" (.int 0) := (Fld.ext E909 (Fld.keep (Fld.keep (Fld.keep (Fld.ext E508 F503) K520_ (ninS ne509 nin0)) K844_ (ninS ne509 nin0)) K866_ (ninS ne509 (ninS ne858 nin0))))
                          have F972 : Exa Z h909 b508 "java/util/ArrayList" := (Exa.ext E909 P868)
                          have F973 : Fld Z h909 b508 "java/util/AbstractList" "modCount" "I" (.int (((0 : Int32) + (1 : Int32)) + (1 : Int32))) := (Fld.ext E909 P869)
                          have F974 : Fld Z h909 b508 "java/util/ArrayList" "elementData" "[Ljava/lang/Object;" (.ref b_844) := (Fld.ext E909 P870)
                          have F975 : Fld Z h909 b508 "java/util/ArrayList" "size" "I" (.int 2) := (Fld.ext E909 P871)
                          exact J877 _ _ _ _ _ (1 : Int32) ⟨N969, Z911, F966, CR910, hS909, hk909, hZ909, hown909, F912, F971, F913, F914, F915, F916, F972, F973, F974, F975, F919, (by unfold own_l18; rw [if_pos hc900]; simp +decide [own_ex, hc970])⟩ (X967.mono (by decide) (by decide)) e967
                        ·
                          refine own_st (T' := T967) (g' := (mkF m 414 #[.val (.int p1), .val (.int p2), .val (.int p3), .val (.int p4), .val (.int p5), .val (.int 2), .val (.int kk), .val (.int f7), .val (.int f8), .val (.int 3), .val (.int cv), .val (.ref b354), .val (.ref b395), .val (.ref b436), .val (.ref y), .val (.ref u1), .val (.ref u2), .val (.ref b508), .unset, .unset] [(.int 0)])) (fun _ kt => XS.icmpYes X967.here hx rfl (pc0 := 406) (pc' := 413) rfl (hb hby at_406) rfl (XT.ii_ne_t hc970) (by decide) (by decide) (XS.iconst X967.here hx rfl (hb hby at_413) kt)) ?_
                          have F976 : Fld Z h909 y "java/lang/String" "coder" "B" (.int 0) := (Fld.ext E909 (Fld.keep (Fld.keep (Fld.keep (Fld.ext E508 F503) K520_ (ninS ne509 nin0)) K844_ (ninS ne509 nin0)) K866_ (ninS ne509 (ninS ne858 nin0))))
                          have F977 : Exa Z h909 b508 "java/util/ArrayList" := (Exa.ext E909 P868)
                          have F978 : Fld Z h909 b508 "java/util/AbstractList" "modCount" "I" (.int (((0 : Int32) + (1 : Int32)) + (1 : Int32))) := (Fld.ext E909 P869)
                          have F979 : Fld Z h909 b508 "java/util/ArrayList" "elementData" "[Ljava/lang/Object;" (.ref b_844) := (Fld.ext E909 P870)
                          have F980 : Fld Z h909 b508 "java/util/ArrayList" "size" "I" (.int 2) := (Fld.ext E909 P871)
                          exact J877 _ _ _ _ _ (0 : Int32) ⟨N969, Z911, F966, CR910, hS909, hk909, hZ909, hown909, F912, F976, F913, F914, F915, F916, F977, F978, F979, F980, F919, (by unfold own_l18; rw [if_pos hc900]; simp +decide [own_ex, hc970])⟩ (X967.mono (by decide) (by decide)) e967
                      ·
                        have F981 : Old Z n0 h909 := (Old.ext (Old.keep (Old.keep F842 K844_ (allS ge_b508 all0)) K866_ (allS ge_b508 (allS ge864 all0))) E909)
                        obtain ⟨cq983, kq983, qa983, qb983, qc983⟩ := isOf hZ909 e909 gE909
                        obtain ⟨_, _, ⟨T982, L982, k982, n982⟩, -, X982, ⟨Lc982, hQ982, l982, y982, z982⟩, st982⟩ := X909.virtualBack hx (y := yN0) (z := yN0) hown909 (mvT hZ909 (own_k hw 72 rfl)) (mvT hZ909 (own_k hw 73 rfl)) (notFace_of_selects (args := #[]) (mvT hZ909 (own_k hw 75 rfl))) (mvT hZ909 (own_k hw 75 rfl)) (mvT hZ909 (own_k hw 74 rfl)) (by decide) (backOf (W := 1) (own_ca l Z a0 hw [] b909 zc d909 (4 : Int32) fmt kd909 (7 : Int32) [(.int 86), (.int 69), (.int 72), (.int 73), (.int 67), (.int 76), (.int 69)] (67 : Int32) (67 : Int32) h909 n0 Z911 F981 pr2 pr3 pr4 pr5 gE909 gC909 gV909 gA909 (show ¬ (4 : Int32) < 0 ∧ (4 : Int32) < (7 : Int32) from (by decide)) rfl (show nar .char (((67 : Int32) &&& (255 : Int32)).toUInt32.toUInt16.toUInt32.toInt32) = (67 : Int32) from (by decide)) (show nar .char (67 : Int32) = (67 : Int32) from (by decide))) hZ909 (own_k hw 76 rfl) (own_k hw 4 rfl) (by decide) (by decide)) qa983 qc983 (g := (mkF m 403 #[.val (.int p1), .val (.int p2), .val (.int p3), .val (.int p4), .val (.int p5), .val (.int 2), .val (.int kk), .val (.int f7), .val (.int f8), .val (.int 4), .val (.int cv), .val (.ref b354), .val (.ref b395), .val (.ref b436), .val (.ref y), .val (.ref u1), .val (.ref u2), .val (.ref b508), .unset, .unset] [(.int 4), (.ref b909), (.int cv)])) rfl hml.symm (Steps.refl _) (argsL := [(.int 4)]) (rest := [(.int cv)]) (lenOf own_pd18 rfl) rfl (own_w0 rfl rfl) (hb hby at_403) (fun _ _ => ⟨rfl, e909, (by decide : 21 + 0 ≤ 40), (by decide : 266 + 0 ≤ 3264)⟩)
                        dsimp only [Pt.U, Pt.locs, Pt.cells, Pt.slots] at X982 l982 y982 z982 st982 hQ982
                        subst l982 y982 z982
                        obtain ⟨rfl, N982, e982⟩ := hQ982
                        have N984 := Fr.app N873 N982
                        refine own_tr (T' := T982) (g' := (mkF m 406 #[.val (.int p1), .val (.int p2), .val (.int p3), .val (.int p4), .val (.int p5), .val (.int 2), .val (.int kk), .val (.int f7), .val (.int f8), .val (.int 4), .val (.int cv), .val (.ref b354), .val (.ref b395), .val (.ref b436), .val (.ref y), .val (.ref u1), .val (.ref u2), .val (.ref b508), .unset, .unset] [(.int 67), (.int cv)])) st982 ?_
                        by_cases hc985 : cv = (67 : Int32)
                        ·
                          refine own_st (T' := T982) (g' := (mkF m 414 #[.val (.int p1), .val (.int p2), .val (.int p3), .val (.int p4), .val (.int p5), .val (.int 2), .val (.int kk), .val (.int f7), .val (.int f8), .val (.int 4), .val (.int cv), .val (.ref b354), .val (.ref b395), .val (.ref b436), .val (.ref y), .val (.ref u1), .val (.ref u2), .val (.ref b508), .unset, .unset] [(.int 1)])) (fun _ kt => XS.icmpNo X982.here hx rfl (hb hby at_406) rfl (XT.ii_ne_f hc985) (XS.iconst X982.here hx rfl (hb hby at_409) (XS.goto X982.here hx rfl (pc0 := 410) (pc' := 414) rfl (hb hby at_410) (by decide) (by decide) kt))) ?_
                          have F986 : Fld Z h909 y "java/lang/String" "coder" "B" (.int 0) := (Fld.ext E909 (Fld.keep (Fld.keep (Fld.keep (Fld.ext E508 F503) K520_ (ninS ne509 nin0)) K844_ (ninS ne509 nin0)) K866_ (ninS ne509 (ninS ne858 nin0))))
                          have F987 : Exa Z h909 b508 "java/util/ArrayList" := (Exa.ext E909 P868)
                          have F988 : Fld Z h909 b508 "java/util/AbstractList" "modCount" "I" (.int (((0 : Int32) + (1 : Int32)) + (1 : Int32))) := (Fld.ext E909 P869)
                          have F989 : Fld Z h909 b508 "java/util/ArrayList" "elementData" "[Ljava/lang/Object;" (.ref b_844) := (Fld.ext E909 P870)
                          have F990 : Fld Z h909 b508 "java/util/ArrayList" "size" "I" (.int 2) := (Fld.ext E909 P871)
                          exact J877 _ _ _ _ _ (1 : Int32) ⟨N984, Z911, F981, CR910, hS909, hk909, hZ909, hown909, F912, F986, F913, F914, F915, F916, F987, F988, F989, F990, F919, (by unfold own_l18; rw [if_pos hc900]; simp +decide [own_ex, hc985])⟩ (X982.mono (by decide) (by decide)) e982
                        ·
                          refine own_st (T' := T982) (g' := (mkF m 414 #[.val (.int p1), .val (.int p2), .val (.int p3), .val (.int p4), .val (.int p5), .val (.int 2), .val (.int kk), .val (.int f7), .val (.int f8), .val (.int 4), .val (.int cv), .val (.ref b354), .val (.ref b395), .val (.ref b436), .val (.ref y), .val (.ref u1), .val (.ref u2), .val (.ref b508), .unset, .unset] [(.int 0)])) (fun _ kt => XS.icmpYes X982.here hx rfl (pc0 := 406) (pc' := 413) rfl (hb hby at_406) rfl (XT.ii_ne_t hc985) (by decide) (by decide) (XS.iconst X982.here hx rfl (hb hby at_413) kt)) ?_
                          have F991 : Fld Z h909 y "java/lang/String" "coder" "B" (.int 0) := (Fld.ext E909 (Fld.keep (Fld.keep (Fld.keep (Fld.ext E508 F503) K520_ (ninS ne509 nin0)) K844_ (ninS ne509 nin0)) K866_ (ninS ne509 (ninS ne858 nin0))))
                          have F992 : Exa Z h909 b508 "java/util/ArrayList" := (Exa.ext E909 P868)
                          have F993 : Fld Z h909 b508 "java/util/AbstractList" "modCount" "I" (.int (((0 : Int32) + (1 : Int32)) + (1 : Int32))) := (Fld.ext E909 P869)
                          have F994 : Fld Z h909 b508 "java/util/ArrayList" "elementData" "[Ljava/lang/Object;" (.ref b_844) := (Fld.ext E909 P870)
                          have F995 : Fld Z h909 b508 "java/util/ArrayList" "size" "I" (.int 2) := (Fld.ext E909 P871)
                          exact J877 _ _ _ _ _ (0 : Int32) ⟨N984, Z911, F981, CR910, hS909, hk909, hZ909, hown909, F912, F991, F913, F914, F915, F916, F992, F993, F994, F995, F919, (by unfold own_l18; rw [if_pos hc900]; simp +decide [own_ex, hc985])⟩ (X982.mono (by decide) (by decide)) e982
                      ·
                        have F996 : Old Z n0 h909 := (Old.ext (Old.keep (Old.keep F842 K844_ (allS ge_b508 all0)) K866_ (allS ge_b508 (allS ge864 all0))) E909)
                        obtain ⟨cq998, kq998, qa998, qb998, qc998⟩ := isOf hZ909 e909 gE909
                        obtain ⟨_, _, ⟨T997, L997, k997, n997⟩, -, X997, ⟨Lc997, hQ997, l997, y997, z997⟩, st997⟩ := X909.virtualBack hx (y := yN0) (z := yN0) hown909 (mvT hZ909 (own_k hw 72 rfl)) (mvT hZ909 (own_k hw 73 rfl)) (notFace_of_selects (args := #[]) (mvT hZ909 (own_k hw 75 rfl))) (mvT hZ909 (own_k hw 75 rfl)) (mvT hZ909 (own_k hw 74 rfl)) (by decide) (backOf (W := 1) (own_ca l Z a0 hw [] b909 zc d909 (5 : Int32) fmt kd909 (7 : Int32) [(.int 86), (.int 69), (.int 72), (.int 73), (.int 67), (.int 76), (.int 69)] (76 : Int32) (76 : Int32) h909 n0 Z911 F996 pr2 pr3 pr4 pr5 gE909 gC909 gV909 gA909 (show ¬ (5 : Int32) < 0 ∧ (5 : Int32) < (7 : Int32) from (by decide)) rfl (show nar .char (((76 : Int32) &&& (255 : Int32)).toUInt32.toUInt16.toUInt32.toInt32) = (76 : Int32) from (by decide)) (show nar .char (76 : Int32) = (76 : Int32) from (by decide))) hZ909 (own_k hw 76 rfl) (own_k hw 4 rfl) (by decide) (by decide)) qa998 qc998 (g := (mkF m 403 #[.val (.int p1), .val (.int p2), .val (.int p3), .val (.int p4), .val (.int p5), .val (.int 2), .val (.int kk), .val (.int f7), .val (.int f8), .val (.int 5), .val (.int cv), .val (.ref b354), .val (.ref b395), .val (.ref b436), .val (.ref y), .val (.ref u1), .val (.ref u2), .val (.ref b508), .unset, .unset] [(.int 5), (.ref b909), (.int cv)])) rfl hml.symm (Steps.refl _) (argsL := [(.int 5)]) (rest := [(.int cv)]) (lenOf own_pd18 rfl) rfl (own_w0 rfl rfl) (hb hby at_403) (fun _ _ => ⟨rfl, e909, (by decide : 21 + 0 ≤ 40), (by decide : 266 + 0 ≤ 3264)⟩)
                        dsimp only [Pt.U, Pt.locs, Pt.cells, Pt.slots] at X997 l997 y997 z997 st997 hQ997
                        subst l997 y997 z997
                        obtain ⟨rfl, N997, e997⟩ := hQ997
                        have N999 := Fr.app N873 N997
                        refine own_tr (T' := T997) (g' := (mkF m 406 #[.val (.int p1), .val (.int p2), .val (.int p3), .val (.int p4), .val (.int p5), .val (.int 2), .val (.int kk), .val (.int f7), .val (.int f8), .val (.int 5), .val (.int cv), .val (.ref b354), .val (.ref b395), .val (.ref b436), .val (.ref y), .val (.ref u1), .val (.ref u2), .val (.ref b508), .unset, .unset] [(.int 76), (.int cv)])) st997 ?_
                        by_cases hc1000 : cv = (76 : Int32)
                        ·
                          refine own_st (T' := T997) (g' := (mkF m 414 #[.val (.int p1), .val (.int p2), .val (.int p3), .val (.int p4), .val (.int p5), .val (.int 2), .val (.int kk), .val (.int f7), .val (.int f8), .val (.int 5), .val (.int cv), .val (.ref b354), .val (.ref b395), .val (.ref b436), .val (.ref y), .val (.ref u1), .val (.ref u2), .val (.ref b508), .unset, .unset] [(.int 1)])) (fun _ kt => XS.icmpNo X997.here hx rfl (hb hby at_406) rfl (XT.ii_ne_f hc1000) (XS.iconst X997.here hx rfl (hb hby at_409) (XS.goto X997.here hx rfl (pc0 := 410) (pc' := 414) rfl (hb hby at_410) (by decide) (by decide) kt))) ?_
                          have F1001 : Fld Z h909 y "java/lang/String" "coder" "B" (.int 0) := (Fld.ext E909 (Fld.keep (Fld.keep (Fld.keep (Fld.ext E508 F503) K520_ (ninS ne509 nin0)) K844_ (ninS ne509 nin0)) K866_ (ninS ne509 (ninS ne858 nin0))))
                          have F1002 : Exa Z h909 b508 "java/util/ArrayList" := (Exa.ext E909 P868)
                          have F1003 : Fld Z h909 b508 "java/util/AbstractList" "modCount" "I" (.int (((0 : Int32) + (1 : Int32)) + (1 : Int32))) := (Fld.ext E909 P869)
                          have F1004 : Fld Z h909 b508 "java/util/ArrayList" "elementData" "[Ljava/lang/Object;" (.ref b_844) := (Fld.ext E909 P870)
                          have F1005 : Fld Z h909 b508 "java/util/ArrayList" "size" "I" (.int 2) := (Fld.ext E909 P871)
                          exact J877 _ _ _ _ _ (1 : Int32) ⟨N999, Z911, F996, CR910, hS909, hk909, hZ909, hown909, F912, F1001, F913, F914, F915, F916, F1002, F1003, F1004, F1005, F919, (by unfold own_l18; rw [if_pos hc900]; simp +decide [own_ex, hc1000])⟩ (X997.mono (by decide) (by decide)) e997
                        ·
                          refine own_st (T' := T997) (g' := (mkF m 414 #[.val (.int p1), .val (.int p2), .val (.int p3), .val (.int p4), .val (.int p5), .val (.int 2), .val (.int kk), .val (.int f7), .val (.int f8), .val (.int 5), .val (.int cv), .val (.ref b354), .val (.ref b395), .val (.ref b436), .val (.ref y), .val (.ref u1), .val (.ref u2), .val (.ref b508), .unset, .unset] [(.int 0)])) (fun _ kt => XS.icmpYes X997.here hx rfl (pc0 := 406) (pc' := 413) rfl (hb hby at_406) rfl (XT.ii_ne_t hc1000) (by decide) (by decide) (XS.iconst X997.here hx rfl (hb hby at_413) kt)) ?_
                          have F1006 : Fld Z h909 y "java/lang/String" "coder" "B" (.int 0) := (Fld.ext E909 (Fld.keep (Fld.keep (Fld.keep (Fld.ext E508 F503) K520_ (ninS ne509 nin0)) K844_ (ninS ne509 nin0)) K866_ (ninS ne509 (ninS ne858 nin0))))
                          have F1007 : Exa Z h909 b508 "java/util/ArrayList" := (Exa.ext E909 P868)
                          have F1008 : Fld Z h909 b508 "java/util/AbstractList" "modCount" "I" (.int (((0 : Int32) + (1 : Int32)) + (1 : Int32))) := (Fld.ext E909 P869)
                          have F1009 : Fld Z h909 b508 "java/util/ArrayList" "elementData" "[Ljava/lang/Object;" (.ref b_844) := (Fld.ext E909 P870)
                          have F1010 : Fld Z h909 b508 "java/util/ArrayList" "size" "I" (.int 2) := (Fld.ext E909 P871)
                          exact J877 _ _ _ _ _ (0 : Int32) ⟨N999, Z911, F996, CR910, hS909, hk909, hZ909, hown909, F912, F1006, F913, F914, F915, F916, F1007, F1008, F1009, F1010, F919, (by unfold own_l18; rw [if_pos hc900]; simp +decide [own_ex, hc1000])⟩ (X997.mono (by decide) (by decide)) e997
                      ·
                        have F1011 : Old Z n0 h909 := (Old.ext (Old.keep (Old.keep F842 K844_ (allS ge_b508 all0)) K866_ (allS ge_b508 (allS ge864 all0))) E909)
                        obtain ⟨cq1013, kq1013, qa1013, qb1013, qc1013⟩ := isOf hZ909 e909 gE909
                        obtain ⟨_, _, ⟨T1012, L1012, k1012, n1012⟩, -, X1012, ⟨Lc1012, hQ1012, l1012, y1012, z1012⟩, st1012⟩ := X909.virtualBack hx (y := yN0) (z := yN0) hown909 (mvT hZ909 (own_k hw 72 rfl)) (mvT hZ909 (own_k hw 73 rfl)) (notFace_of_selects (args := #[]) (mvT hZ909 (own_k hw 75 rfl))) (mvT hZ909 (own_k hw 75 rfl)) (mvT hZ909 (own_k hw 74 rfl)) (by decide) (backOf (W := 1) (own_ca l Z a0 hw [] b909 zc d909 (6 : Int32) fmt kd909 (7 : Int32) [(.int 86), (.int 69), (.int 72), (.int 73), (.int 67), (.int 76), (.int 69)] (69 : Int32) (69 : Int32) h909 n0 Z911 F1011 pr2 pr3 pr4 pr5 gE909 gC909 gV909 gA909 (show ¬ (6 : Int32) < 0 ∧ (6 : Int32) < (7 : Int32) from (by decide)) rfl (show nar .char (((69 : Int32) &&& (255 : Int32)).toUInt32.toUInt16.toUInt32.toInt32) = (69 : Int32) from (by decide)) (show nar .char (69 : Int32) = (69 : Int32) from (by decide))) hZ909 (own_k hw 76 rfl) (own_k hw 4 rfl) (by decide) (by decide)) qa1013 qc1013 (g := (mkF m 403 #[.val (.int p1), .val (.int p2), .val (.int p3), .val (.int p4), .val (.int p5), .val (.int 2), .val (.int kk), .val (.int f7), .val (.int f8), .val (.int 6), .val (.int cv), .val (.ref b354), .val (.ref b395), .val (.ref b436), .val (.ref y), .val (.ref u1), .val (.ref u2), .val (.ref b508), .unset, .unset] [(.int 6), (.ref b909), (.int cv)])) rfl hml.symm (Steps.refl _) (argsL := [(.int 6)]) (rest := [(.int cv)]) (lenOf own_pd18 rfl) rfl (own_w0 rfl rfl) (hb hby at_403) (fun _ _ => ⟨rfl, e909, (by decide : 21 + 0 ≤ 40), (by decide : 266 + 0 ≤ 3264)⟩)
                        dsimp only [Pt.U, Pt.locs, Pt.cells, Pt.slots] at X1012 l1012 y1012 z1012 st1012 hQ1012
                        subst l1012 y1012 z1012
                        obtain ⟨rfl, N1012, e1012⟩ := hQ1012
                        have N1014 := Fr.app N873 N1012
                        refine own_tr (T' := T1012) (g' := (mkF m 406 #[.val (.int p1), .val (.int p2), .val (.int p3), .val (.int p4), .val (.int p5), .val (.int 2), .val (.int kk), .val (.int f7), .val (.int f8), .val (.int 6), .val (.int cv), .val (.ref b354), .val (.ref b395), .val (.ref b436), .val (.ref y), .val (.ref u1), .val (.ref u2), .val (.ref b508), .unset, .unset] [(.int 69), (.int cv)])) st1012 ?_
                        by_cases hc1015 : cv = (69 : Int32)
                        ·
                          refine own_st (T' := T1012) (g' := (mkF m 414 #[.val (.int p1), .val (.int p2), .val (.int p3), .val (.int p4), .val (.int p5), .val (.int 2), .val (.int kk), .val (.int f7), .val (.int f8), .val (.int 6), .val (.int cv), .val (.ref b354), .val (.ref b395), .val (.ref b436), .val (.ref y), .val (.ref u1), .val (.ref u2), .val (.ref b508), .unset, .unset] [(.int 1)])) (fun _ kt => XS.icmpNo X1012.here hx rfl (hb hby at_406) rfl (XT.ii_ne_f hc1015) (XS.iconst X1012.here hx rfl (hb hby at_409) (XS.goto X1012.here hx rfl (pc0 := 410) (pc' := 414) rfl (hb hby at_410) (by decide) (by decide) kt))) ?_
                          have F1016 : Fld Z h909 y "java/lang/String" "coder" "B" (.int 0) := (Fld.ext E909 (Fld.keep (Fld.keep (Fld.keep (Fld.ext E508 F503) K520_ (ninS ne509 nin0)) K844_ (ninS ne509 nin0)) K866_ (ninS ne509 (ninS ne858 nin0))))
                          have F1017 : Exa Z h909 b508 "java/util/ArrayList" := (Exa.ext E909 P868)
                          have F1018 : Fld Z h909 b508 "java/util/AbstractList" "modCount" "I" (.int (((0 : Int32) + (1 : Int32)) + (1 : Int32))) := (Fld.ext E909 P869)
                          have F1019 : Fld Z h909 b508 "java/util/ArrayList" "elementData" "[Ljava/lang/Object;" (.ref b_844) := (Fld.ext E909 P870)
                          have F1020 : Fld Z h909 b508 "java/util/ArrayList" "size" "I" (.int 2) := (Fld.ext E909 P871)
                          exact J877 _ _ _ _ _ (1 : Int32) ⟨N1014, Z911, F1011, CR910, hS909, hk909, hZ909, hown909, F912, F1016, F913, F914, F915, F916, F1017, F1018, F1019, F1020, F919, (by unfold own_l18; rw [if_pos hc900]; simp +decide [own_ex, hc1015])⟩ (X1012.mono (by decide) (by decide)) e1012
                        ·
                          refine own_st (T' := T1012) (g' := (mkF m 414 #[.val (.int p1), .val (.int p2), .val (.int p3), .val (.int p4), .val (.int p5), .val (.int 2), .val (.int kk), .val (.int f7), .val (.int f8), .val (.int 6), .val (.int cv), .val (.ref b354), .val (.ref b395), .val (.ref b436), .val (.ref y), .val (.ref u1), .val (.ref u2), .val (.ref b508), .unset, .unset] [(.int 0)])) (fun _ kt => XS.icmpYes X1012.here hx rfl (pc0 := 406) (pc' := 413) rfl (hb hby at_406) rfl (XT.ii_ne_t hc1015) (by decide) (by decide) (XS.iconst X1012.here hx rfl (hb hby at_413) kt)) ?_
                          have F1021 : Fld Z h909 y "java/lang/String" "coder" "B" (.int 0) := (Fld.ext E909 (Fld.keep (Fld.keep (Fld.keep (Fld.ext E508 F503) K520_ (ninS ne509 nin0)) K844_ (ninS ne509 nin0)) K866_ (ninS ne509 (ninS ne858 nin0))))
                          have F1022 : Exa Z h909 b508 "java/util/ArrayList" := (Exa.ext E909 P868)
                          have F1023 : Fld Z h909 b508 "java/util/AbstractList" "modCount" "I" (.int (((0 : Int32) + (1 : Int32)) + (1 : Int32))) := (Fld.ext E909 P869)
                          have F1024 : Fld Z h909 b508 "java/util/ArrayList" "elementData" "[Ljava/lang/Object;" (.ref b_844) := (Fld.ext E909 P870)
                          have F1025 : Fld Z h909 b508 "java/util/ArrayList" "size" "I" (.int 2) := (Fld.ext E909 P871)
                          exact J877 _ _ _ _ _ (0 : Int32) ⟨N1014, Z911, F1011, CR910, hS909, hk909, hZ909, hown909, F912, F1021, F913, F914, F915, F916, F1022, F1023, F1024, F1025, F919, (by unfold own_l18; rw [if_pos hc900]; simp +decide [own_ex, hc1015])⟩ (X1012.mono (by decide) (by decide)) e1012
                      ·
                        exact absurd rfl hc901
                  ·
                    refine own_st (T' := T866) (g' := (mkF m 414 #[.val (.int p1), .val (.int p2), .val (.int p3), .val (.int p4), .val (.int p5), .val (.int 2), .val (.int kk), .val (.int f7), .val (.int f8), .val (.int m2), .val (.int cv), .val (.ref b354), .val (.ref b395), .val (.ref b436), .val (.ref y), .val (.ref u1), .val (.ref u2), .val (.ref b508), .unset, .unset] [(.int 0)])) (fun _ kt => XS.ifYes X866.here hx rfl (pc0 := 387) (pc' := 413) rfl (hb hby at_387) rfl (XT.i0_ne_t hc900) (by decide) (by decide) (XS.iconst X866.here hx rfl (hb hby at_413) kt)) ?_
                    have F1026 : Old Z n0 T866.heap := (Old.keep (Old.keep F842 K844_ (allS ge_b508 all0)) K866_ (allS ge_b508 (allS ge864 all0)))
                    have F1027 : Exa Z T866.heap y "java/lang/String" := (Exa.keep F865 K866_)
                    have F1028 : Fld Z T866.heap y "java/lang/String" "coder" "B" (.int 0) := (Fld.keep (Fld.keep (Fld.keep (Fld.ext E508 F503) K520_ (ninS ne509 nin0)) K844_ (ninS ne509 nin0)) K866_ (ninS ne509 (ninS ne858 nin0)))
                    have F1029 : Fld Z T866.heap y "java/lang/String" "value" "[B" (.ref t) := (Fld.keep (Fld.keep (Fld.keep (Fld.ext E508 F504) K520_ (ninS ne509 nin0)) K844_ (ninS ne509 nin0)) K866_ (ninS ne509 (ninS ne858 nin0)))
                    have F1030 : Arv Z T866.heap t kt .byte zz vl (.int 0) := (Arv.keep (Arv.keep F859 K844_ (ninS ne510 nin0)) K866_ (ninS ne510 (ninS ne860 nin0)))
                    have F1031 : Exa Z T866.heap u1 "java/lang/String" := (Exa.keep (Exa.keep F843 K844_) K866_)
                    have F1032 : Exa Z T866.heap u2 "java/lang/String" := (Exa.keep (Exa.keep F862 K844_) K866_)
                    exact J877 _ _ _ _ _ (0 : Int32) ⟨N873, Z876, F1026, CR875, hS501, hk876, hZ501, hown501, F1027, F1028, F1029, F1030, F1031, F1032, P868, P869, P870, P871, P872, (by unfold own_l18; rw [if_neg hc900])⟩ (X866.mono (by decide) (by decide)) rfl
              ·
                refine own_st (T' := T520) (g' := (mkF m 353 #[.val (.int p1), .val (.int p2), .val (.int p3), .val (.int p4), .val (.int p5), .val (.int 3), .val (.int kk), .val (.int f7), .val (.int f8), .val (.int m2), .val (.int cv), .val (.ref b354), .val (.ref b395), .val (.ref b436), .val (.ref y), .val (.ref u1), .val (.ref u2), .val (.ref b508), .unset, .unset] [(.ref u1), (.ref b508)])) (fun _ kt => XS.iload X520.here hx rfl (hb hby at_343) rfl (XS.iconst X520.here hx rfl (hb hby at_345) (XS.icmpNo X520.here hx rfl (hb hby at_346) rfl (XT.ii_lt_f (by decide)) (XS.aload X520.here hx rfl (hb hby at_349) rfl rfl (XS.aload X520.here hx rfl (hb hby at_351) rfl rfl kt))))) ?_
                have F1033 : Old Z n0 T520.heap := (Old.keep F519 K520_ (allS ge_b508 all0))
                have F1034 : Exa Z T520.heap u1 "java/lang/String" := (Exa.keep (Exa.ext E508 F506) K520_)
                obtain ⟨cq1036, kq1036, qa1036, qb1036, qc1036⟩ := isOf hZ501 rfl P521
                obtain ⟨_, _, ⟨T1035, L1035, k1035, n1035⟩, -, X1035, ⟨Lc1035, hQ1035, l1035, y1035, z1035⟩, st1035⟩ := X520.virtualBack hx (y := yN1) (z := yN1) hown501 (mvT hZ501 (own_k hw 108 rfl)) (mvT hZ501 (own_k hw 109 rfl)) (notFace_of_selects (args := #[]) (mvT hZ501 (own_k hw 111 rfl))) (mvT hZ501 (own_k hw 111 rfl)) (mvT hZ501 (own_k hw 110 rfl)) (by decide) (backOf (W := 0) (own_a1_0 l Z a0 hw [] b508 (0 : Int32) u1 de kd T520.heap n0 Z527 F1033 pr6 pr7 ge_b508 F1034 P521 P522 P523 P524) hZ501 (own_k hw 112 rfl) (own_k hw 47 rfl) (by decide) (by decide)) qa1036 qc1036 (g := (mkF m 353 #[.val (.int p1), .val (.int p2), .val (.int p3), .val (.int p4), .val (.int p5), .val (.int 3), .val (.int kk), .val (.int f7), .val (.int f8), .val (.int m2), .val (.int cv), .val (.ref b354), .val (.ref b395), .val (.ref b436), .val (.ref y), .val (.ref u1), .val (.ref u2), .val (.ref b508), .unset, .unset] [(.ref u1), (.ref b508)])) rfl hml.symm (Steps.refl _) (argsL := [(.ref u1)]) (rest := []) (lenOf own_pd16 rfl) rfl (own_w0 rfl rfl) (hb hby at_353) (fun _ _ => ⟨rfl, rfl, (by decide : 18 + 1 ≤ 40), (by decide : 224 + 10 ≤ 3264)⟩)
                dsimp only [Pt.U, Pt.locs, Pt.cells, Pt.slots] at X1035 l1035 y1035 z1035 st1035 hQ1035
                subst l1035 y1035 z1035
                obtain ⟨b_1035, kb_1035, rfl, N1035, K1035_, P1037, P1038, P1039, P1040, P1041, P1042, P1043⟩ := hQ1035
                have N1044 := Fr.app N525 N1035
                have F1045 : Safe Z own_EL vm501 T520.heap b508 := (Safe.keep K520_ (sfS S515 sf0) CR513.1 S515)
                have CR1046 : CHr Z own_EL s.vm h0 vm501 T1035.heap := CHr.trans CR526 (CHr.keep K1035_ (sfS F1045 sf0) CR526.1)
                have Z1047 : n0 ≤ T1035.heap.size := Nat.le_trans Z527 K1035_.1
                have hk1047 := Nat.le_trans hk527 K1035_.1
                have F1048 : Exa Z T520.heap y "java/lang/String" := (Exa.keep (Exa.ext E508 F502) K520_)
                have ne1049 : y ≠ b_1035 := Nat.ne_of_lt (Nat.lt_of_lt_of_le F1048.lt P1043)
                have F1050 : Arv Z T520.heap t kt .byte zz vl (.int 0) := (Arv.keep (F505.ext E508) K520_ (ninS ne510 nin0))
                have ne1051 : t ≠ b_1035 := Nat.ne_of_lt (Nat.lt_of_lt_of_le F1050.lt P1043)
                have ne1052 : u1 ≠ b_1035 := Nat.ne_of_lt (Nat.lt_of_lt_of_le F1034.lt P1043)
                have F1053 : Exa Z T520.heap u2 "java/lang/String" := (Exa.keep (Exa.ext E508 F507) K520_)
                have ne1054 : u2 ≠ b_1035 := Nat.ne_of_lt (Nat.lt_of_lt_of_le F1053.lt P1043)
                have ge1055 : n0 ≤ b_1035 := Nat.le_trans Z527 P1043
                refine own_tr (T' := T1035) (g' := (mkF m 356 #[.val (.int p1), .val (.int p2), .val (.int p3), .val (.int p4), .val (.int p5), .val (.int 3), .val (.int kk), .val (.int f7), .val (.int f8), .val (.int m2), .val (.int cv), .val (.ref b354), .val (.ref b395), .val (.ref b436), .val (.ref y), .val (.ref u1), .val (.ref u2), .val (.ref b508), .unset, .unset] [(.int 1)])) st1035 ?_
                refine own_st (T' := T1035) (g' := (mkF m 367 #[.val (.int p1), .val (.int p2), .val (.int p3), .val (.int p4), .val (.int p5), .val (.int 3), .val (.int kk), .val (.int f7), .val (.int f8), .val (.int m2), .val (.int cv), .val (.ref b354), .val (.ref b395), .val (.ref b436), .val (.ref y), .val (.ref u1), .val (.ref u2), .val (.ref b508), .unset, .unset] [(.ref y), (.ref b508)])) (fun _ kt => XT.pop X1035.here hx rfl (hb hby at_356) rfl rfl (XS.iload X1035.here hx rfl (hb hby at_357) rfl (XS.iconst X1035.here hx rfl (hb hby at_359) (XS.icmpNo X1035.here hx rfl (hb hby at_360) rfl (XT.ii_lt_f (by decide)) (XS.aload X1035.here hx rfl (hb hby at_363) rfl rfl (XS.aload X1035.here hx rfl (hb hby at_365) rfl rfl kt)))))) ?_
                have F1056 : Exa Z T1035.heap y "java/lang/String" := (Exa.keep F1048 K1035_)
                obtain ⟨cq1058, kq1058, qa1058, qb1058, qc1058⟩ := isOf hZ501 rfl P1037
                obtain ⟨_, _, ⟨T1057, L1057, k1057, n1057⟩, -, X1057, ⟨Lc1057, hQ1057, l1057, y1057, z1057⟩, st1057⟩ := X1035.virtualBack hx (y := yN1) (z := yN1) hown501 (mvT hZ501 (own_k hw 108 rfl)) (mvT hZ501 (own_k hw 109 rfl)) (notFace_of_selects (args := #[]) (mvT hZ501 (own_k hw 111 rfl))) (mvT hZ501 (own_k hw 111 rfl)) (mvT hZ501 (own_k hw 110 rfl)) (by decide) (backOf (W := 0) (own_a1_1 l Z a0 hw [] b508 ((0 : Int32) + (1 : Int32)) u1 y b_1035 kb_1035 T1035.heap n0 Z1047 ge1055 P1041 P1042 ge_b508 F1056 P1037 P1038 P1039 P1040) hZ501 (own_k hw 112 rfl) (own_k hw 47 rfl) (by decide) (by decide)) qa1058 qc1058 (g := (mkF m 367 #[.val (.int p1), .val (.int p2), .val (.int p3), .val (.int p4), .val (.int p5), .val (.int 3), .val (.int kk), .val (.int f7), .val (.int f8), .val (.int m2), .val (.int cv), .val (.ref b354), .val (.ref b395), .val (.ref b436), .val (.ref y), .val (.ref u1), .val (.ref u2), .val (.ref b508), .unset, .unset] [(.ref y), (.ref b508)])) rfl hml.symm (Steps.refl _) (argsL := [(.ref y)]) (rest := []) (lenOf own_pd16 rfl) rfl (own_w0 rfl rfl) (hb hby at_367) (fun _ _ => ⟨rfl, rfl, (by decide : 19 + 0 ≤ 40), (by decide : 234 + 0 ≤ 3264)⟩)
                dsimp only [Pt.U, Pt.locs, Pt.cells, Pt.slots] at X1057 l1057 y1057 z1057 st1057 hQ1057
                subst l1057 y1057 z1057
                obtain ⟨rfl, N1057, K1057_, P1059, P1060, P1061, P1062, P1063⟩ := hQ1057
                have N1064 := Fr.app N1044 N1057
                have F1065 : Safe Z own_EL vm501 T1035.heap b508 := (Safe.keep K1035_ (sfS F1045 sf0) CR526.1 F1045)
                have CR1066 : CHr Z own_EL s.vm h0 vm501 T1057.heap := CHr.trans CR1046 (CHr.keep K1057_ (sfS F1065 (sfS (Safe.arv (State.Warmed39.alike hZ501) P1041 (by decide)) sf0)) CR1046.1)
                have Z1067 : n0 ≤ T1057.heap.size := Nat.le_trans Z1047 K1057_.1
                have hk1067 := Nat.le_trans hk1047 K1057_.1
                refine own_tr (T' := T1057) (g' := (mkF m 370 #[.val (.int p1), .val (.int p2), .val (.int p3), .val (.int p4), .val (.int p5), .val (.int 3), .val (.int kk), .val (.int f7), .val (.int f8), .val (.int m2), .val (.int cv), .val (.ref b354), .val (.ref b395), .val (.ref b436), .val (.ref y), .val (.ref u1), .val (.ref u2), .val (.ref b508), .unset, .unset] [(.int 1)])) st1057 ?_
                refine own_st (T' := T1057) (g' := (mkF m 381 #[.val (.int p1), .val (.int p2), .val (.int p3), .val (.int p4), .val (.int p5), .val (.int 3), .val (.int kk), .val (.int f7), .val (.int f8), .val (.int m2), .val (.int cv), .val (.ref b354), .val (.ref b395), .val (.ref b436), .val (.ref y), .val (.ref u1), .val (.ref u2), .val (.ref b508), .unset, .unset] [(.ref u2), (.ref b508)])) (fun _ kt => XT.pop X1057.here hx rfl (hb hby at_370) rfl rfl (XS.iload X1057.here hx rfl (hb hby at_371) rfl (XS.iconst X1057.here hx rfl (hb hby at_373) (XS.icmpNo X1057.here hx rfl (hb hby at_374) rfl (XT.ii_lt_f (by decide)) (XS.aload X1057.here hx rfl (hb hby at_377) rfl rfl (XS.aload X1057.here hx rfl (hb hby at_379) rfl rfl kt)))))) ?_
                have F1068 : Exa Z T1057.heap u2 "java/lang/String" := (Exa.keep (Exa.keep F1053 K1035_) K1057_)
                obtain ⟨cq1070, kq1070, qa1070, qb1070, qc1070⟩ := isOf hZ501 rfl P1059
                obtain ⟨_, _, ⟨T1069, L1069, k1069, n1069⟩, -, X1069, ⟨Lc1069, hQ1069, l1069, y1069, z1069⟩, st1069⟩ := X1057.virtualBack hx (y := yN1) (z := yN1) hown501 (mvT hZ501 (own_k hw 108 rfl)) (mvT hZ501 (own_k hw 109 rfl)) (notFace_of_selects (args := #[]) (mvT hZ501 (own_k hw 111 rfl))) (mvT hZ501 (own_k hw 111 rfl)) (mvT hZ501 (own_k hw 110 rfl)) (by decide) (backOf (W := 0) (own_a1_2 l Z a0 hw [] b508 (((0 : Int32) + (1 : Int32)) + (1 : Int32)) u1 y u2 b_1035 kb_1035 T1057.heap n0 Z1067 ge1055 P1063 P1042 ge_b508 F1068 P1059 P1060 P1061 P1062) hZ501 (own_k hw 112 rfl) (own_k hw 47 rfl) (by decide) (by decide)) qa1070 qc1070 (g := (mkF m 381 #[.val (.int p1), .val (.int p2), .val (.int p3), .val (.int p4), .val (.int p5), .val (.int 3), .val (.int kk), .val (.int f7), .val (.int f8), .val (.int m2), .val (.int cv), .val (.ref b354), .val (.ref b395), .val (.ref b436), .val (.ref y), .val (.ref u1), .val (.ref u2), .val (.ref b508), .unset, .unset] [(.ref u2), (.ref b508)])) rfl hml.symm (Steps.refl _) (argsL := [(.ref u2)]) (rest := []) (lenOf own_pd16 rfl) rfl (own_w0 rfl rfl) (hb hby at_381) (fun _ _ => ⟨rfl, rfl, (by decide : 19 + 0 ≤ 40), (by decide : 234 + 0 ≤ 3264)⟩)
                dsimp only [Pt.U, Pt.locs, Pt.cells, Pt.slots] at X1069 l1069 y1069 z1069 st1069 hQ1069
                subst l1069 y1069 z1069
                obtain ⟨rfl, N1069, K1069_, P1071, P1072, P1073, P1074, P1075⟩ := hQ1069
                have N1076 := Fr.app N1064 N1069
                have F1077 : Safe Z own_EL vm501 T1057.heap b508 := (Safe.keep K1057_ (sfS F1065 (sfS (Safe.arv (State.Warmed39.alike hZ501) P1041 (by decide)) sf0)) CR1046.1 F1065)
                have CR1078 : CHr Z own_EL s.vm h0 vm501 T1069.heap := CHr.trans CR1066 (CHr.keep K1069_ (sfS F1077 (sfS (Safe.arv (State.Warmed39.alike hZ501) P1063 (by decide)) sf0)) CR1066.1)
                have Z1079 : n0 ≤ T1069.heap.size := Nat.le_trans Z1067 K1069_.1
                have hk1079 := Nat.le_trans hk1067 K1069_.1
                refine own_tr (T' := T1069) (g' := (mkF m 384 #[.val (.int p1), .val (.int p2), .val (.int p3), .val (.int p4), .val (.int p5), .val (.int 3), .val (.int kk), .val (.int f7), .val (.int f8), .val (.int m2), .val (.int cv), .val (.ref b354), .val (.ref b395), .val (.ref b436), .val (.ref y), .val (.ref u1), .val (.ref u2), .val (.ref b508), .unset, .unset] [(.int 1)])) st1069 ?_
                refine own_st (T' := T1069) (g' := (mkF m 385 #[.val (.int p1), .val (.int p2), .val (.int p3), .val (.int p4), .val (.int p5), .val (.int 3), .val (.int kk), .val (.int f7), .val (.int f8), .val (.int m2), .val (.int cv), .val (.ref b354), .val (.ref b395), .val (.ref b436), .val (.ref y), .val (.ref u1), .val (.ref u2), .val (.ref b508), .unset, .unset] [])) (fun _ kt => XT.pop X1069.here hx rfl (hb hby at_384) rfl rfl kt) ?_
                refine own_joinHV (α := Int32) X1069 (cells' := 23) (slots' := 294) (gj := fun q => (mkF m 414 #[.val (.int p1), .val (.int p2), .val (.int p3), .val (.int p4), .val (.int p5), .val (.int 3), .val (.int kk), .val (.int f7), .val (.int f8), .val (.int m2), .val (.int cv), .val (.ref b354), .val (.ref b395), .val (.ref b436), .val (.ref y), .val (.ref u1), .val (.ref u2), .val (.ref b508), .unset, .unset] [(.int q)])) (P := fun vm_ k_ L_ h_ q => (Fr n0 L_) ∧ (n0 ≤ h_.size) ∧ (Old Z n0 h_) ∧ (CHr Z own_EL s.vm h0 vm_ h_) ∧ (s.Since vm_ k_) ∧ (k_ ≤ h_.size) ∧ (Z.Warmed39 (s.setVm vm_).vm) ∧ ((s.setVm vm_).vm.findClass "com/example/tourwerk/tourwerk/problem/SolomonReaderRecognisesPinLaw" = some m.cls) ∧ (Exa Z h_ y "java/lang/String") ∧ (Fld Z h_ y "java/lang/String" "coder" "B" (.int 0)) ∧ (Fld Z h_ y "java/lang/String" "value" "[B" (.ref t)) ∧ (Arv Z h_ t kt .byte zz vl (.int 0)) ∧ (Exa Z h_ u1 "java/lang/String") ∧ (Exa Z h_ u2 "java/lang/String") ∧ (Exa Z h_ b508 "java/util/ArrayList") ∧ (Fld Z h_ b508 "java/util/AbstractList" "modCount" "I" (.int ((((0 : Int32) + (1 : Int32)) + (1 : Int32)) + (1 : Int32)))) ∧ (Fld Z h_ b508 "java/util/ArrayList" "elementData" "[Ljava/lang/Object;" (.ref b_1035)) ∧ (Fld Z h_ b508 "java/util/ArrayList" "size" "I" (.int 3)) ∧ (Arv Z h_ b_1035 kb_1035 (.object "java/lang/Object") (10 : Int32) [(.ref u1), (.ref y), (.ref u2), .null, .null, .null, .null, .null, .null, .null] .null) ∧ (q = own_l18 kk m2 cv)) ?_ (fun J1080 => ?_)
                · rintro vm1080 k1080 T1080 L1080 h1080 ex ⟨N1080, Z1080, O1080, CR1080, hS1080, hk1080, hZ1080, hown1080, F1081, F1082, F1083, F1084, F1085, F1086, F1087, F1088, F1089, F1090, F1091, hj1080⟩ X1080 e1080
                  try dsimp only at F1081 F1082 F1083 F1084 F1085 F1086 F1087 F1088 F1089 F1090 F1091 hj1080 ⊢
                  refine own_st (T' := T1080) (g' := (mkF m 424 #[.val (.int p1), .val (.int p2), .val (.int p3), .val (.int p4), .val (.int p5), .val (.int 3), .val (.int kk), .val (.int f7), .val (.int f8), .val (.int m2), .val (.int cv), .val (.ref b354), .val (.ref b395), .val (.ref b436), .val (.ref y), .val (.ref u1), .val (.ref u2), .val (.ref b508), .val (.int ex), .unset] [(.int ex)])) (fun _ kt => XS.istore X1080.here hx rfl (hb hby at_414) rfl (l' := #[.val (.int p1), .val (.int p2), .val (.int p3), .val (.int p4), .val (.int p5), .val (.int 3), .val (.int kk), .val (.int f7), .val (.int f8), .val (.int m2), .val (.int cv), .val (.ref b354), .val (.ref b395), .val (.ref b436), .val (.ref y), .val (.ref u1), .val (.ref u2), .val (.ref b508), .val (.int ex), .unset]) rfl (XS.iload X1080.here hx rfl (hb hby at_416) rfl (XS.iconst X1080.here hx rfl (hb hby at_418) (XS.icmpNo X1080.here hx rfl (hb hby at_419) rfl (XT.ii_lt_f (by decide)) (XS.iload X1080.here hx rfl (hb hby at_422) rfl kt))))) ?_
                  by_cases hc1092 : ex = 0
                  ·
                    refine own_st (T' := T1080) (g' := (mkF m 436 #[.val (.int p1), .val (.int p2), .val (.int p3), .val (.int p4), .val (.int p5), .val (.int 3), .val (.int kk), .val (.int f7), .val (.int f8), .val (.int m2), .val (.int cv), .val (.ref b354), .val (.ref b395), .val (.ref b436), .val (.ref y), .val (.ref u1), .val (.ref u2), .val (.ref b508), .val (.int ex), .val (.int 0)] [(.ref b508)])) (fun _ kt => XS.ifYes X1080.here hx rfl (pc0 := 424) (pc' := 431) rfl (hb hby at_424) rfl (XT.i0_eq_t hc1092) (by decide) (by decide) (XS.iconst X1080.here hx rfl (hb hby at_431) (XS.istore X1080.here hx rfl (hb hby at_432) rfl (l' := #[.val (.int p1), .val (.int p2), .val (.int p3), .val (.int p4), .val (.int p5), .val (.int 3), .val (.int kk), .val (.int f7), .val (.int f8), .val (.int m2), .val (.int cv), .val (.ref b354), .val (.ref b395), .val (.ref b436), .val (.ref y), .val (.ref u1), .val (.ref u2), .val (.ref b508), .val (.int ex), .val (.int 0)]) rfl (XS.aload X1080.here hx rfl (hb hby at_434) rfl rfl kt)))) ?_
                    obtain ⟨_, _, ⟨T1093, L1093, k1093, n1093⟩, -, X1093, hS1093, hG1093, ⟨Lc1093, hQ1093, l1093, y1093, z1093, hC1093⟩, st1093⟩ := callSS X1080 hx (y := yN3) hown1080 (mvT hZ1080 (own_k hw 93 rfl)) (mvT hZ1080 (own_k hw 94 rfl)) (mvT hZ1080 (own_k hw 95 rfl)) (mvT hZ1080 (own_k hw 96 rfl)) (by decide) (backOfSH (W := 0) (own_rc1 l Z a0 hw [] b508 b_1035 kb_1035 ([(.ref u1), (.ref y), (.ref u2), .null, .null, .null, .null, .null, .null, .null]) y (3 : Int32) zc t kt zz vl rr x0 x1 x2 x3 x4 x5 x6 h1080 n0 Z1080 O1080 pr2 pr3 F1087 F1089 F1091 F1090 rfl (show ¬ (3 : Int32) < (2 : Int32) from (by decide)) (show (1 : Int32) < (3 : Int32) from (by decide)) hans F1081 F1082 F1083 F1084 hx0 hx1 hx2 hx3 hx4 hx5 hx6) hZ1080 (own_k hw 96 rfl) (own_k hw 95 rfl) (by decide) (by decide) (own_EW hw) CR1080.1) (g := (mkF m 436 #[.val (.int p1), .val (.int p2), .val (.int p3), .val (.int p4), .val (.int p5), .val (.int 3), .val (.int kk), .val (.int f7), .val (.int f8), .val (.int m2), .val (.int cv), .val (.ref b354), .val (.ref b395), .val (.ref b436), .val (.ref y), .val (.ref u1), .val (.ref u2), .val (.ref b508), .val (.int ex), .val (.int 0)] [(.ref b508)])) rfl hml.symm  (argsL := [(.ref b508)]) (rest := []) (lenOf own_pd17 rfl) rfl (own_w0 rfl rfl) (hb hby at_436) (fun _ _ => ⟨rfl, e1080, (by decide : 23 + 6 ≤ 40), (by decide : 294 + 80 ≤ 3264)⟩)
                    dsimp only [Pt.U, Pt.locs, Pt.cells, Pt.slots] at X1093 l1093 y1093 z1093 st1093 hQ1093 hS1093 hG1093 hC1093
                    subst l1093 y1093 z1093
                    obtain ⟨ub_1093, rfl, N1093, K1093_⟩ := hQ1093
                    have N1094 := Fr.app N1080 N1093
                    obtain ⟨X1095, hS1095, hZ1095, hown1095⟩ := rebS hS1080 (by rw [e1080]; exact hk1080) X1093 hS1093 hG1093 hZ1080 hown1080
                    have CR1096 : CHr Z own_EL s.vm h0 T1093.vm T1093.heap := CHr.trans CR1080 hC1093
                    have Z1097 : n0 ≤ T1093.heap.size := Nat.le_trans Z1080 K1093_.1
                    have hk1097 := Nat.le_trans hk1080 K1093_.1
                    have hk1095 : T1093.heap.size ≤ T1093.heap.size := Nat.le_refl _
                    refine own_tr (T' := T1093) (g' := (mkF m 439 #[.val (.int p1), .val (.int p2), .val (.int p3), .val (.int p4), .val (.int p5), .val (.int 3), .val (.int kk), .val (.int f7), .val (.int f8), .val (.int m2), .val (.int cv), .val (.ref b354), .val (.ref b395), .val (.ref b436), .val (.ref y), .val (.ref u1), .val (.ref u2), .val (.ref b508), .val (.int ex), .val (.int 0)] [(.int rr)])) st1093 ?_
                    refine own_st (T' := T1093) (g' := (mkF m 449 #[.val (.int p1), .val (.int p2), .val (.int p3), .val (.int p4), .val (.int p5), .val (.int 3), .val (.int kk), .val (.int f7), .val (.int f8), .val (.int m2), .val (.int cv), .val (.ref b354), .val (.ref b395), .val (.ref b436), .val (.ref y), .val (.ref u1), .val (.ref u2), .val (.ref b508), .val (.int ex), .val (.int 0)] [(.int 1)])) (fun _ kt => XS.iload X1095.here hx rfl (hb hby at_439) rfl (XS.icmpNo X1095.here hx rfl (hb hby at_441) rfl (XT.ii_ne_f ((own_rl hpk hrel).trans (hj1080.symm.trans hc1092))) (XS.iconst X1095.here hx rfl (hb hby at_444) (XS.goto X1095.here hx rfl (pc0 := 445) (pc' := 449) rfl (hb hby at_445) (by decide) (by decide) kt)))) ?_
                    obtain ⟨fs, hr, hrun, hended, hE⟩ := Stand.leaveW X1095 hS1095 hk1095 (v := some (.int 1)) (fun h => by rw [Bd.returns] at h; cases h)
                    refine own_end (retN X1095 hx (t := .boolean) Bd.returns (by simp) (hb hby at_449) hr) ⟨_, hrun, hended, _, _, rfl, ?_, (by rw [hh]; show CHr Z own_EL s.vm h0 T1093.vm T1093.heap; exact CHr.trans CR1096 (CHv.at X1095 hZ1095 (own_EW hw) CR1096.1)), ⟨hE.1, hE.2.1, hE.2.2.1, hE.2.2.2.mono (by decide) (by decide)⟩⟩
                    show own_lawQ Z _ _ _ _ _ _ _ _ _ h0 n0 _ T1093.heap _
                    show own_lawQ Z _ _ _ _ _ _ _ _ _ h0 n0 _ T1093.heap _
                    exact ⟨rfl, N1094⟩
                  ·
                    refine own_st (T' := T1080) (g' := (mkF m 436 #[.val (.int p1), .val (.int p2), .val (.int p3), .val (.int p4), .val (.int p5), .val (.int 3), .val (.int kk), .val (.int f7), .val (.int f8), .val (.int m2), .val (.int cv), .val (.ref b354), .val (.ref b395), .val (.ref b436), .val (.ref y), .val (.ref u1), .val (.ref u2), .val (.ref b508), .val (.int ex), .val (.int 1)] [(.ref b508)])) (fun _ kt => XS.ifNo X1080.here hx rfl (hb hby at_424) rfl (XT.i0_eq_f hc1092) (XS.iconst X1080.here hx rfl (hb hby at_427) (XS.goto X1080.here hx rfl (pc0 := 428) (pc' := 432) rfl (hb hby at_428) (by decide) (by decide) (XS.istore X1080.here hx rfl (hb hby at_432) rfl (l' := #[.val (.int p1), .val (.int p2), .val (.int p3), .val (.int p4), .val (.int p5), .val (.int 3), .val (.int kk), .val (.int f7), .val (.int f8), .val (.int m2), .val (.int cv), .val (.ref b354), .val (.ref b395), .val (.ref b436), .val (.ref y), .val (.ref u1), .val (.ref u2), .val (.ref b508), .val (.int ex), .val (.int 1)]) rfl (XS.aload X1080.here hx rfl (hb hby at_434) rfl rfl kt))))) ?_
                    obtain ⟨_, _, ⟨T1098, L1098, k1098, n1098⟩, -, X1098, hS1098, hG1098, ⟨Lc1098, hQ1098, l1098, y1098, z1098, hC1098⟩, st1098⟩ := callSS X1080 hx (y := yN3) hown1080 (mvT hZ1080 (own_k hw 93 rfl)) (mvT hZ1080 (own_k hw 94 rfl)) (mvT hZ1080 (own_k hw 95 rfl)) (mvT hZ1080 (own_k hw 96 rfl)) (by decide) (backOfSH (W := 0) (own_rc1 l Z a0 hw [] b508 b_1035 kb_1035 ([(.ref u1), (.ref y), (.ref u2), .null, .null, .null, .null, .null, .null, .null]) y (3 : Int32) zc t kt zz vl rr x0 x1 x2 x3 x4 x5 x6 h1080 n0 Z1080 O1080 pr2 pr3 F1087 F1089 F1091 F1090 rfl (show ¬ (3 : Int32) < (2 : Int32) from (by decide)) (show (1 : Int32) < (3 : Int32) from (by decide)) hans F1081 F1082 F1083 F1084 hx0 hx1 hx2 hx3 hx4 hx5 hx6) hZ1080 (own_k hw 96 rfl) (own_k hw 95 rfl) (by decide) (by decide) (own_EW hw) CR1080.1) (g := (mkF m 436 #[.val (.int p1), .val (.int p2), .val (.int p3), .val (.int p4), .val (.int p5), .val (.int 3), .val (.int kk), .val (.int f7), .val (.int f8), .val (.int m2), .val (.int cv), .val (.ref b354), .val (.ref b395), .val (.ref b436), .val (.ref y), .val (.ref u1), .val (.ref u2), .val (.ref b508), .val (.int ex), .val (.int 1)] [(.ref b508)])) rfl hml.symm  (argsL := [(.ref b508)]) (rest := []) (lenOf own_pd17 rfl) rfl (own_w0 rfl rfl) (hb hby at_436) (fun _ _ => ⟨rfl, e1080, (by decide : 23 + 6 ≤ 40), (by decide : 294 + 80 ≤ 3264)⟩)
                    dsimp only [Pt.U, Pt.locs, Pt.cells, Pt.slots] at X1098 l1098 y1098 z1098 st1098 hQ1098 hS1098 hG1098 hC1098
                    subst l1098 y1098 z1098
                    obtain ⟨ub_1098, rfl, N1098, K1098_⟩ := hQ1098
                    have N1099 := Fr.app N1080 N1098
                    obtain ⟨X1100, hS1100, hZ1100, hown1100⟩ := rebS hS1080 (by rw [e1080]; exact hk1080) X1098 hS1098 hG1098 hZ1080 hown1080
                    have CR1101 : CHr Z own_EL s.vm h0 T1098.vm T1098.heap := CHr.trans CR1080 hC1098
                    have Z1102 : n0 ≤ T1098.heap.size := Nat.le_trans Z1080 K1098_.1
                    have hk1102 := Nat.le_trans hk1080 K1098_.1
                    have hk1100 : T1098.heap.size ≤ T1098.heap.size := Nat.le_refl _
                    refine own_tr (T' := T1098) (g' := (mkF m 439 #[.val (.int p1), .val (.int p2), .val (.int p3), .val (.int p4), .val (.int p5), .val (.int 3), .val (.int kk), .val (.int f7), .val (.int f8), .val (.int m2), .val (.int cv), .val (.ref b354), .val (.ref b395), .val (.ref b436), .val (.ref y), .val (.ref u1), .val (.ref u2), .val (.ref b508), .val (.int ex), .val (.int 1)] [(.int rr)])) st1098 ?_
                    refine own_st (T' := T1098) (g' := (mkF m 449 #[.val (.int p1), .val (.int p2), .val (.int p3), .val (.int p4), .val (.int p5), .val (.int 3), .val (.int kk), .val (.int f7), .val (.int f8), .val (.int m2), .val (.int cv), .val (.ref b354), .val (.ref b395), .val (.ref b436), .val (.ref y), .val (.ref u1), .val (.ref u2), .val (.ref b508), .val (.int ex), .val (.int 1)] [(.int 1)])) (fun _ kt => XS.iload X1100.here hx rfl (hb hby at_439) rfl (XS.icmpNo X1100.here hx rfl (hb hby at_441) rfl (XT.ii_ne_f (own_f1 hc1092 hj1080 (own_rl hpk hrel))) (XS.iconst X1100.here hx rfl (hb hby at_444) (XS.goto X1100.here hx rfl (pc0 := 445) (pc' := 449) rfl (hb hby at_445) (by decide) (by decide) kt)))) ?_
                    obtain ⟨fs, hr, hrun, hended, hE⟩ := Stand.leaveW X1100 hS1100 hk1100 (v := some (.int 1)) (fun h => by rw [Bd.returns] at h; cases h)
                    refine own_end (retN X1100 hx (t := .boolean) Bd.returns (by simp) (hb hby at_449) hr) ⟨_, hrun, hended, _, _, rfl, ?_, (by rw [hh]; show CHr Z own_EL s.vm h0 T1098.vm T1098.heap; exact CHr.trans CR1101 (CHv.at X1100 hZ1100 (own_EW hw) CR1101.1)), ⟨hE.1, hE.2.1, hE.2.2.1, hE.2.2.2.mono (by decide) (by decide)⟩⟩
                    show own_lawQ Z _ _ _ _ _ _ _ _ _ h0 n0 _ T1098.heap _
                    show own_lawQ Z _ _ _ _ _ _ _ _ _ h0 n0 _ T1098.heap _
                    exact ⟨rfl, N1099⟩
                ·
                  refine own_st (T' := T1069) (g' := (mkF m 387 #[.val (.int p1), .val (.int p2), .val (.int p3), .val (.int p4), .val (.int p5), .val (.int 3), .val (.int kk), .val (.int f7), .val (.int f8), .val (.int m2), .val (.int cv), .val (.ref b354), .val (.ref b395), .val (.ref b436), .val (.ref y), .val (.ref u1), .val (.ref u2), .val (.ref b508), .unset, .unset] [(.int kk)])) (fun _ kt => XS.iload X1069.here hx rfl (hb hby at_385) rfl kt) ?_
                  by_cases hc1103 : kk = 0
                  ·
                    refine own_st (T' := T1069) (g' := (mkF m 394 #[.val (.int p1), .val (.int p2), .val (.int p3), .val (.int p4), .val (.int p5), .val (.int 3), .val (.int kk), .val (.int f7), .val (.int f8), .val (.int m2), .val (.int cv), .val (.ref b354), .val (.ref b395), .val (.ref b436), .val (.ref y), .val (.ref u1), .val (.ref u2), .val (.ref b508), .unset, .unset] [(.int 7), (.int m2)])) (fun _ kt => XS.ifNo X1069.here hx rfl (hb hby at_387) rfl (XT.i0_ne_f hc1103) (XS.iload X1069.here hx rfl (hb hby at_390) rfl (XS.bipush X1069.here hx rfl (hb hby at_392) kt))) ?_
                    by_cases hc1104 : m2 = (7 : Int32)
                    ·
                      refine own_st (T' := T1069) (g' := (mkF m 414 #[.val (.int p1), .val (.int p2), .val (.int p3), .val (.int p4), .val (.int p5), .val (.int 3), .val (.int kk), .val (.int f7), .val (.int f8), .val (.int m2), .val (.int cv), .val (.ref b354), .val (.ref b395), .val (.ref b436), .val (.ref y), .val (.ref u1), .val (.ref u2), .val (.ref b508), .unset, .unset] [(.int 1)])) (fun _ kt => XS.icmpYes X1069.here hx rfl (pc0 := 394) (pc' := 409) rfl (hb hby at_394) rfl (XT.ii_eq_t hc1104) (by decide) (by decide) (XS.iconst X1069.here hx rfl (hb hby at_409) (XS.goto X1069.here hx rfl (pc0 := 410) (pc' := 414) rfl (hb hby at_410) (by decide) (by decide) kt))) ?_
                      have F1105 : Old Z n0 T1069.heap := (Old.keep (Old.keep (Old.keep F1033 K1035_ (allS ge_b508 all0)) K1057_ (allS ge_b508 (allS ge1055 all0))) K1069_ (allS ge_b508 (allS ge1055 all0)))
                      have F1106 : Exa Z T1069.heap y "java/lang/String" := (Exa.keep (Exa.keep F1056 K1057_) K1069_)
                      have F1107 : Fld Z T1069.heap y "java/lang/String" "coder" "B" (.int 0) := (Fld.keep (Fld.keep (Fld.keep (Fld.keep (Fld.ext E508 F503) K520_ (ninS ne509 nin0)) K1035_ (ninS ne509 nin0)) K1057_ (ninS ne509 (ninS ne1049 nin0))) K1069_ (ninS ne509 (ninS ne1049 nin0)))
                      have F1108 : Fld Z T1069.heap y "java/lang/String" "value" "[B" (.ref t) := (Fld.keep (Fld.keep (Fld.keep (Fld.keep (Fld.ext E508 F504) K520_ (ninS ne509 nin0)) K1035_ (ninS ne509 nin0)) K1057_ (ninS ne509 (ninS ne1049 nin0))) K1069_ (ninS ne509 (ninS ne1049 nin0)))
                      have F1109 : Arv Z T1069.heap t kt .byte zz vl (.int 0) := (Arv.keep (Arv.keep (Arv.keep F1050 K1035_ (ninS ne510 nin0)) K1057_ (ninS ne510 (ninS ne1051 nin0))) K1069_ (ninS ne510 (ninS ne1051 nin0)))
                      have F1110 : Exa Z T1069.heap u1 "java/lang/String" := (Exa.keep (Exa.keep (Exa.keep F1034 K1035_) K1057_) K1069_)
                      have F1111 : Exa Z T1069.heap u2 "java/lang/String" := (Exa.keep F1068 K1069_)
                      exact J1080 _ _ _ _ _ (1 : Int32) ⟨N1076, Z1079, F1105, CR1078, hS501, hk1079, hZ501, hown501, F1106, F1107, F1108, F1109, F1110, F1111, P1071, P1072, P1073, P1074, P1075, (by unfold own_l18; rw [if_pos hc1103, hc1104]; rfl)⟩ (X1069.mono (by decide) (by decide)) rfl
                    ·
                      refine own_st (T' := T1069) (g' := (mkF m 399 #[.val (.int p1), .val (.int p2), .val (.int p3), .val (.int p4), .val (.int p5), .val (.int 3), .val (.int kk), .val (.int f7), .val (.int f8), .val (.int m2), .val (.int cv), .val (.ref b354), .val (.ref b395), .val (.ref b436), .val (.ref y), .val (.ref u1), .val (.ref u2), .val (.ref b508), .unset, .unset] [(.int cv)])) (fun _ kt => XS.icmpNo X1069.here hx rfl (hb hby at_394) rfl (XT.ii_eq_f hc1104) (XS.iload X1069.here hx rfl (hb hby at_397) rfl kt)) ?_
                      obtain ⟨b1112, T1112, h1112, k1112, d1112, kd1112, X1112, e1112, E1112, hS1112, hk1112, hZ1112, hown1112, gE1112, gC1112, gV1112, gA1112, la1112, lb1112, hC1112, -, hsf1112, st1112⟩ := ldcCH X1069 hx hZ501 hown501 (own_k hw 69 rfl) (own_wS hw) rfl hS501 hk1079 (own_EW hw) (show ("com/example/tourwerk/tourwerk/problem/SolomonReaderRecognisesPinLaw", 15) ∈ own_EL by simp [own_EL]) CR1078.1 (vs := [(.int 86), (.int 69), (.int 72), (.int 73), (.int 67), (.int 76), (.int 69)]) (z := (7 : Int32)) ⟨by decide +kernel, by first | rfl | decide +kernel⟩ (by decide) rfl (g := (mkF m 399 #[.val (.int p1), .val (.int p2), .val (.int p3), .val (.int p4), .val (.int p5), .val (.int 3), .val (.int kk), .val (.int f7), .val (.int f8), .val (.int m2), .val (.int cv), .val (.ref b354), .val (.ref b395), .val (.ref b436), .val (.ref y), .val (.ref u1), .val (.ref u2), .val (.ref b508), .unset, .unset] [(.int cv)])) rfl (hb hby at_399) (n := 28) (by decide +kernel) (by decide) (by decide) (by decide)
                      have CR1113 : CHr Z own_EL s.vm h0 T1112.vm h1112 := CHr.trans CR1078 hC1112
                      have Z1114 : n0 ≤ h1112.size := Nat.le_trans Z1079 E1112.1
                      have hk1114 := Nat.le_trans hk1079 E1112.1
                      have F1115 : Exa Z h1112 y "java/lang/String" := (Exa.ext E1112 (Exa.keep (Exa.keep F1056 K1057_) K1069_))
                      have F1116 : Fld Z h1112 y "java/lang/String" "value" "[B" (.ref t) := (Fld.ext E1112 (Fld.keep (Fld.keep (Fld.keep (Fld.keep (Fld.ext E508 F504) K520_ (ninS ne509 nin0)) K1035_ (ninS ne509 nin0)) K1057_ (ninS ne509 (ninS ne1049 nin0))) K1069_ (ninS ne509 (ninS ne1049 nin0))))
                      have F1117 : Arv Z h1112 t kt .byte zz vl (.int 0) := ((Arv.keep (Arv.keep (Arv.keep F1050 K1035_ (ninS ne510 nin0)) K1057_ (ninS ne510 (ninS ne1051 nin0))) K1069_ (ninS ne510 (ninS ne1051 nin0))).ext E1112)
                      have F1118 : Exa Z h1112 u1 "java/lang/String" := (Exa.ext E1112 (Exa.keep (Exa.keep (Exa.keep F1034 K1035_) K1057_) K1069_))
                      have F1119 : Exa Z h1112 u2 "java/lang/String" := (Exa.ext E1112 (Exa.keep F1068 K1069_))
                      have F1120 : Safe Z own_EL T1112.vm h1112 b508 := (CHr.safe hC1112 P1071.lt (Safe.keep K1069_ (sfS F1077 (sfS (Safe.arv (State.Warmed39.alike hZ501) P1063 (by decide)) sf0)) CR1066.1 F1077))
                      have ne1121 := hsf1112 b508 F1120
                      have F1122 : Arv Z h1112 b_1035 kb_1035 (.object "java/lang/Object") (10 : Int32) [(.ref u1), (.ref y), (.ref u2), .null, .null, .null, .null, .null, .null, .null] .null := (P1075.ext E1112)
                      have ne1123 := hsf1112 b_1035 (Safe.arv (State.Warmed39.alike hZ1112) F1122 (by decide))
                      refine own_st (T' := T1112) (g' := (mkF m 401 #[.val (.int p1), .val (.int p2), .val (.int p3), .val (.int p4), .val (.int p5), .val (.int 3), .val (.int kk), .val (.int f7), .val (.int f8), .val (.int m2), .val (.int cv), .val (.ref b354), .val (.ref b395), .val (.ref b436), .val (.ref y), .val (.ref u1), .val (.ref u2), .val (.ref b508), .unset, .unset] [(.ref b1112), (.int cv)])) st1112 ?_
                      refine own_st (T' := T1112) (g' := (mkF m 403 #[.val (.int p1), .val (.int p2), .val (.int p3), .val (.int p4), .val (.int p5), .val (.int 3), .val (.int kk), .val (.int f7), .val (.int f8), .val (.int m2), .val (.int cv), .val (.ref b354), .val (.ref b395), .val (.ref b436), .val (.ref y), .val (.ref u1), .val (.ref u2), .val (.ref b508), .unset, .unset] [(.int m2), (.ref b1112), (.int cv)])) (fun _ kt => XS.iload X1112.here hx rfl (hb hby at_401) rfl kt) ?_
                      rcases q_m2 with rfl | rfl | rfl | rfl | rfl | rfl | rfl | rfl
                      ·
                        have F1124 : Old Z n0 h1112 := (Old.ext (Old.keep (Old.keep (Old.keep F1033 K1035_ (allS ge_b508 all0)) K1057_ (allS ge_b508 (allS ge1055 all0))) K1069_ (allS ge_b508 (allS ge1055 all0))) E1112)
                        obtain ⟨cq1126, kq1126, qa1126, qb1126, qc1126⟩ := isOf hZ1112 e1112 gE1112
                        obtain ⟨_, _, ⟨T1125, L1125, k1125, n1125⟩, -, X1125, ⟨Lc1125, hQ1125, l1125, y1125, z1125⟩, st1125⟩ := X1112.virtualBack hx (y := yN0) (z := yN0) hown1112 (mvT hZ1112 (own_k hw 72 rfl)) (mvT hZ1112 (own_k hw 73 rfl)) (notFace_of_selects (args := #[]) (mvT hZ1112 (own_k hw 75 rfl))) (mvT hZ1112 (own_k hw 75 rfl)) (mvT hZ1112 (own_k hw 74 rfl)) (by decide) (backOf (W := 1) (own_ca l Z a0 hw [] b1112 zc d1112 (0 : Int32) fmt kd1112 (7 : Int32) [(.int 86), (.int 69), (.int 72), (.int 73), (.int 67), (.int 76), (.int 69)] (86 : Int32) (86 : Int32) h1112 n0 Z1114 F1124 pr2 pr3 pr4 pr5 gE1112 gC1112 gV1112 gA1112 (show ¬ (0 : Int32) < 0 ∧ (0 : Int32) < (7 : Int32) from (by decide)) rfl (show nar .char (((86 : Int32) &&& (255 : Int32)).toUInt32.toUInt16.toUInt32.toInt32) = (86 : Int32) from (by decide)) (show nar .char (86 : Int32) = (86 : Int32) from (by decide))) hZ1112 (own_k hw 76 rfl) (own_k hw 4 rfl) (by decide) (by decide)) qa1126 qc1126 (g := (mkF m 403 #[.val (.int p1), .val (.int p2), .val (.int p3), .val (.int p4), .val (.int p5), .val (.int 3), .val (.int kk), .val (.int f7), .val (.int f8), .val (.int 0), .val (.int cv), .val (.ref b354), .val (.ref b395), .val (.ref b436), .val (.ref y), .val (.ref u1), .val (.ref u2), .val (.ref b508), .unset, .unset] [(.int 0), (.ref b1112), (.int cv)])) rfl hml.symm (Steps.refl _) (argsL := [(.int 0)]) (rest := [(.int cv)]) (lenOf own_pd18 rfl) rfl (own_w0 rfl rfl) (hb hby at_403) (fun _ _ => ⟨rfl, e1112, (by decide : 21 + 0 ≤ 40), (by decide : 266 + 0 ≤ 3264)⟩)
                        dsimp only [Pt.U, Pt.locs, Pt.cells, Pt.slots] at X1125 l1125 y1125 z1125 st1125 hQ1125
                        subst l1125 y1125 z1125
                        obtain ⟨rfl, N1125, e1125⟩ := hQ1125
                        have N1127 := Fr.app N1076 N1125
                        refine own_tr (T' := T1125) (g' := (mkF m 406 #[.val (.int p1), .val (.int p2), .val (.int p3), .val (.int p4), .val (.int p5), .val (.int 3), .val (.int kk), .val (.int f7), .val (.int f8), .val (.int 0), .val (.int cv), .val (.ref b354), .val (.ref b395), .val (.ref b436), .val (.ref y), .val (.ref u1), .val (.ref u2), .val (.ref b508), .unset, .unset] [(.int 86), (.int cv)])) st1125 ?_
                        by_cases hc1128 : cv = (86 : Int32)
                        ·
                          refine own_st (T' := T1125) (g' := (mkF m 414 #[.val (.int p1), .val (.int p2), .val (.int p3), .val (.int p4), .val (.int p5), .val (.int 3), .val (.int kk), .val (.int f7), .val (.int f8), .val (.int 0), .val (.int cv), .val (.ref b354), .val (.ref b395), .val (.ref b436), .val (.ref y), .val (.ref u1), .val (.ref u2), .val (.ref b508), .unset, .unset] [(.int 1)])) (fun _ kt => XS.icmpNo X1125.here hx rfl (hb hby at_406) rfl (XT.ii_ne_f hc1128) (XS.iconst X1125.here hx rfl (hb hby at_409) (XS.goto X1125.here hx rfl (pc0 := 410) (pc' := 414) rfl (hb hby at_410) (by decide) (by decide) kt))) ?_
                          have F1129 : Fld Z h1112 y "java/lang/String" "coder" "B" (.int 0) := (Fld.ext E1112 (Fld.keep (Fld.keep (Fld.keep (Fld.keep (Fld.ext E508 F503) K520_ (ninS ne509 nin0)) K1035_ (ninS ne509 nin0)) K1057_ (ninS ne509 (ninS ne1049 nin0))) K1069_ (ninS ne509 (ninS ne1049 nin0))))
                          have F1130 : Exa Z h1112 b508 "java/util/ArrayList" := (Exa.ext E1112 P1071)
                          have F1131 : Fld Z h1112 b508 "java/util/AbstractList" "modCount" "I" (.int ((((0 : Int32) + (1 : Int32)) + (1 : Int32)) + (1 : Int32))) := (Fld.ext E1112 P1072)
                          have F1132 : Fld Z h1112 b508 "java/util/ArrayList" "elementData" "[Ljava/lang/Object;" (.ref b_1035) := (Fld.ext E1112 P1073)
                          have F1133 : Fld Z h1112 b508 "java/util/ArrayList" "size" "I" (.int 3) := (Fld.ext E1112 P1074)
                          exact J1080 _ _ _ _ _ (1 : Int32) ⟨N1127, Z1114, F1124, CR1113, hS1112, hk1112, hZ1112, hown1112, F1115, F1129, F1116, F1117, F1118, F1119, F1130, F1131, F1132, F1133, F1122, (by unfold own_l18; rw [if_pos hc1103]; simp +decide [own_ex, hc1128])⟩ (X1125.mono (by decide) (by decide)) e1125
                        ·
                          refine own_st (T' := T1125) (g' := (mkF m 414 #[.val (.int p1), .val (.int p2), .val (.int p3), .val (.int p4), .val (.int p5), .val (.int 3), .val (.int kk), .val (.int f7), .val (.int f8), .val (.int 0), .val (.int cv), .val (.ref b354), .val (.ref b395), .val (.ref b436), .val (.ref y), .val (.ref u1), .val (.ref u2), .val (.ref b508), .unset, .unset] [(.int 0)])) (fun _ kt => XS.icmpYes X1125.here hx rfl (pc0 := 406) (pc' := 413) rfl (hb hby at_406) rfl (XT.ii_ne_t hc1128) (by decide) (by decide) (XS.iconst X1125.here hx rfl (hb hby at_413) kt)) ?_
                          have F1134 : Fld Z h1112 y "java/lang/String" "coder" "B" (.int 0) := (Fld.ext E1112 (Fld.keep (Fld.keep (Fld.keep (Fld.keep (Fld.ext E508 F503) K520_ (ninS ne509 nin0)) K1035_ (ninS ne509 nin0)) K1057_ (ninS ne509 (ninS ne1049 nin0))) K1069_ (ninS ne509 (ninS ne1049 nin0))))
                          have F1135 : Exa Z h1112 b508 "java/util/ArrayList" := (Exa.ext E1112 P1071)
                          have F1136 : Fld Z h1112 b508 "java/util/AbstractList" "modCount" "I" (.int ((((0 : Int32) + (1 : Int32)) + (1 : Int32)) + (1 : Int32))) := (Fld.ext E1112 P1072)
                          have F1137 : Fld Z h1112 b508 "java/util/ArrayList" "elementData" "[Ljava/lang/Object;" (.ref b_1035) := (Fld.ext E1112 P1073)
                          have F1138 : Fld Z h1112 b508 "java/util/ArrayList" "size" "I" (.int 3) := (Fld.ext E1112 P1074)
                          exact J1080 _ _ _ _ _ (0 : Int32) ⟨N1127, Z1114, F1124, CR1113, hS1112, hk1112, hZ1112, hown1112, F1115, F1134, F1116, F1117, F1118, F1119, F1135, F1136, F1137, F1138, F1122, (by unfold own_l18; rw [if_pos hc1103]; simp +decide [own_ex, hc1128])⟩ (X1125.mono (by decide) (by decide)) e1125
                      ·
                        have F1139 : Old Z n0 h1112 := (Old.ext (Old.keep (Old.keep (Old.keep F1033 K1035_ (allS ge_b508 all0)) K1057_ (allS ge_b508 (allS ge1055 all0))) K1069_ (allS ge_b508 (allS ge1055 all0))) E1112)
                        obtain ⟨cq1141, kq1141, qa1141, qb1141, qc1141⟩ := isOf hZ1112 e1112 gE1112
                        obtain ⟨_, _, ⟨T1140, L1140, k1140, n1140⟩, -, X1140, ⟨Lc1140, hQ1140, l1140, y1140, z1140⟩, st1140⟩ := X1112.virtualBack hx (y := yN0) (z := yN0) hown1112 (mvT hZ1112 (own_k hw 72 rfl)) (mvT hZ1112 (own_k hw 73 rfl)) (notFace_of_selects (args := #[]) (mvT hZ1112 (own_k hw 75 rfl))) (mvT hZ1112 (own_k hw 75 rfl)) (mvT hZ1112 (own_k hw 74 rfl)) (by decide) (backOf (W := 1) (own_ca l Z a0 hw [] b1112 zc d1112 (1 : Int32) fmt kd1112 (7 : Int32) [(.int 86), (.int 69), (.int 72), (.int 73), (.int 67), (.int 76), (.int 69)] (69 : Int32) (69 : Int32) h1112 n0 Z1114 F1139 pr2 pr3 pr4 pr5 gE1112 gC1112 gV1112 gA1112 (show ¬ (1 : Int32) < 0 ∧ (1 : Int32) < (7 : Int32) from (by decide)) rfl (show nar .char (((69 : Int32) &&& (255 : Int32)).toUInt32.toUInt16.toUInt32.toInt32) = (69 : Int32) from (by decide)) (show nar .char (69 : Int32) = (69 : Int32) from (by decide))) hZ1112 (own_k hw 76 rfl) (own_k hw 4 rfl) (by decide) (by decide)) qa1141 qc1141 (g := (mkF m 403 #[.val (.int p1), .val (.int p2), .val (.int p3), .val (.int p4), .val (.int p5), .val (.int 3), .val (.int kk), .val (.int f7), .val (.int f8), .val (.int 1), .val (.int cv), .val (.ref b354), .val (.ref b395), .val (.ref b436), .val (.ref y), .val (.ref u1), .val (.ref u2), .val (.ref b508), .unset, .unset] [(.int 1), (.ref b1112), (.int cv)])) rfl hml.symm (Steps.refl _) (argsL := [(.int 1)]) (rest := [(.int cv)]) (lenOf own_pd18 rfl) rfl (own_w0 rfl rfl) (hb hby at_403) (fun _ _ => ⟨rfl, e1112, (by decide : 21 + 0 ≤ 40), (by decide : 266 + 0 ≤ 3264)⟩)
                        dsimp only [Pt.U, Pt.locs, Pt.cells, Pt.slots] at X1140 l1140 y1140 z1140 st1140 hQ1140
                        subst l1140 y1140 z1140
                        obtain ⟨rfl, N1140, e1140⟩ := hQ1140
                        have N1142 := Fr.app N1076 N1140
                        refine own_tr (T' := T1140) (g' := (mkF m 406 #[.val (.int p1), .val (.int p2), .val (.int p3), .val (.int p4), .val (.int p5), .val (.int 3), .val (.int kk), .val (.int f7), .val (.int f8), .val (.int 1), .val (.int cv), .val (.ref b354), .val (.ref b395), .val (.ref b436), .val (.ref y), .val (.ref u1), .val (.ref u2), .val (.ref b508), .unset, .unset] [(.int 69), (.int cv)])) st1140 ?_
                        by_cases hc1143 : cv = (69 : Int32)
                        ·
                          refine own_st (T' := T1140) (g' := (mkF m 414 #[.val (.int p1), .val (.int p2), .val (.int p3), .val (.int p4), .val (.int p5), .val (.int 3), .val (.int kk), .val (.int f7), .val (.int f8), .val (.int 1), .val (.int cv), .val (.ref b354), .val (.ref b395), .val (.ref b436), .val (.ref y), .val (.ref u1), .val (.ref u2), .val (.ref b508), .unset, .unset] [(.int 1)])) (fun _ kt => XS.icmpNo X1140.here hx rfl (hb hby at_406) rfl (XT.ii_ne_f hc1143) (XS.iconst X1140.here hx rfl (hb hby at_409) (XS.goto X1140.here hx rfl (pc0 := 410) (pc' := 414) rfl (hb hby at_410) (by decide) (by decide) kt))) ?_
                          have F1144 : Fld Z h1112 y "java/lang/String" "coder" "B" (.int 0) := (Fld.ext E1112 (Fld.keep (Fld.keep (Fld.keep (Fld.keep (Fld.ext E508 F503) K520_ (ninS ne509 nin0)) K1035_ (ninS ne509 nin0)) K1057_ (ninS ne509 (ninS ne1049 nin0))) K1069_ (ninS ne509 (ninS ne1049 nin0))))
                          have F1145 : Exa Z h1112 b508 "java/util/ArrayList" := (Exa.ext E1112 P1071)
                          have F1146 : Fld Z h1112 b508 "java/util/AbstractList" "modCount" "I" (.int ((((0 : Int32) + (1 : Int32)) + (1 : Int32)) + (1 : Int32))) := (Fld.ext E1112 P1072)
                          have F1147 : Fld Z h1112 b508 "java/util/ArrayList" "elementData" "[Ljava/lang/Object;" (.ref b_1035) := (Fld.ext E1112 P1073)
                          have F1148 : Fld Z h1112 b508 "java/util/ArrayList" "size" "I" (.int 3) := (Fld.ext E1112 P1074)
                          exact J1080 _ _ _ _ _ (1 : Int32) ⟨N1142, Z1114, F1139, CR1113, hS1112, hk1112, hZ1112, hown1112, F1115, F1144, F1116, F1117, F1118, F1119, F1145, F1146, F1147, F1148, F1122, (by unfold own_l18; rw [if_pos hc1103]; simp +decide [own_ex, hc1143])⟩ (X1140.mono (by decide) (by decide)) e1140
                        ·
                          refine own_st (T' := T1140) (g' := (mkF m 414 #[.val (.int p1), .val (.int p2), .val (.int p3), .val (.int p4), .val (.int p5), .val (.int 3), .val (.int kk), .val (.int f7), .val (.int f8), .val (.int 1), .val (.int cv), .val (.ref b354), .val (.ref b395), .val (.ref b436), .val (.ref y), .val (.ref u1), .val (.ref u2), .val (.ref b508), .unset, .unset] [(.int 0)])) (fun _ kt => XS.icmpYes X1140.here hx rfl (pc0 := 406) (pc' := 413) rfl (hb hby at_406) rfl (XT.ii_ne_t hc1143) (by decide) (by decide) (XS.iconst X1140.here hx rfl (hb hby at_413) kt)) ?_
                          have F1149 : Fld Z h1112 y "java/lang/String" "coder" "B" (.int 0) := (Fld.ext E1112 (Fld.keep (Fld.keep (Fld.keep (Fld.keep (Fld.ext E508 F503) K520_ (ninS ne509 nin0)) K1035_ (ninS ne509 nin0)) K1057_ (ninS ne509 (ninS ne1049 nin0))) K1069_ (ninS ne509 (ninS ne1049 nin0))))
                          have F1150 : Exa Z h1112 b508 "java/util/ArrayList" := (Exa.ext E1112 P1071)
                          have F1151 : Fld Z h1112 b508 "java/util/AbstractList" "modCount" "I" (.int ((((0 : Int32) + (1 : Int32)) + (1 : Int32)) + (1 : Int32))) := (Fld.ext E1112 P1072)
                          have F1152 : Fld Z h1112 b508 "java/util/ArrayList" "elementData" "[Ljava/lang/Object;" (.ref b_1035) := (Fld.ext E1112 P1073)
                          have F1153 : Fld Z h1112 b508 "java/util/ArrayList" "size" "I" (.int 3) := (Fld.ext E1112 P1074)
                          exact J1080 _ _ _ _ _ (0 : Int32) ⟨N1142, Z1114, F1139, CR1113, hS1112, hk1112, hZ1112, hown1112, F1115, F1149, F1116, F1117, F1118, F1119, F1150, F1151, F1152, F1153, F1122, (by unfold own_l18; rw [if_pos hc1103]; simp +decide [own_ex, hc1143])⟩ (X1140.mono (by decide) (by decide)) e1140
                      ·
                        have F1154 : Old Z n0 h1112 := (Old.ext (Old.keep (Old.keep (Old.keep F1033 K1035_ (allS ge_b508 all0)) K1057_ (allS ge_b508 (allS ge1055 all0))) K1069_ (allS ge_b508 (allS ge1055 all0))) E1112)
                        obtain ⟨cq1156, kq1156, qa1156, qb1156, qc1156⟩ := isOf hZ1112 e1112 gE1112
                        obtain ⟨_, _, ⟨T1155, L1155, k1155, n1155⟩, -, X1155, ⟨Lc1155, hQ1155, l1155, y1155, z1155⟩, st1155⟩ := X1112.virtualBack hx (y := yN0) (z := yN0) hown1112 (mvT hZ1112 (own_k hw 72 rfl)) (mvT hZ1112 (own_k hw 73 rfl)) (notFace_of_selects (args := #[]) (mvT hZ1112 (own_k hw 75 rfl))) (mvT hZ1112 (own_k hw 75 rfl)) (mvT hZ1112 (own_k hw 74 rfl)) (by decide) (backOf (W := 1) (own_ca l Z a0 hw [] b1112 zc d1112 (2 : Int32) fmt kd1112 (7 : Int32) [(.int 86), (.int 69), (.int 72), (.int 73), (.int 67), (.int 76), (.int 69)] (72 : Int32) (72 : Int32) h1112 n0 Z1114 F1154 pr2 pr3 pr4 pr5 gE1112 gC1112 gV1112 gA1112 (show ¬ (2 : Int32) < 0 ∧ (2 : Int32) < (7 : Int32) from (by decide)) rfl (show nar .char (((72 : Int32) &&& (255 : Int32)).toUInt32.toUInt16.toUInt32.toInt32) = (72 : Int32) from (by decide)) (show nar .char (72 : Int32) = (72 : Int32) from (by decide))) hZ1112 (own_k hw 76 rfl) (own_k hw 4 rfl) (by decide) (by decide)) qa1156 qc1156 (g := (mkF m 403 #[.val (.int p1), .val (.int p2), .val (.int p3), .val (.int p4), .val (.int p5), .val (.int 3), .val (.int kk), .val (.int f7), .val (.int f8), .val (.int 2), .val (.int cv), .val (.ref b354), .val (.ref b395), .val (.ref b436), .val (.ref y), .val (.ref u1), .val (.ref u2), .val (.ref b508), .unset, .unset] [(.int 2), (.ref b1112), (.int cv)])) rfl hml.symm (Steps.refl _) (argsL := [(.int 2)]) (rest := [(.int cv)]) (lenOf own_pd18 rfl) rfl (own_w0 rfl rfl) (hb hby at_403) (fun _ _ => ⟨rfl, e1112, (by decide : 21 + 0 ≤ 40), (by decide : 266 + 0 ≤ 3264)⟩)
                        dsimp only [Pt.U, Pt.locs, Pt.cells, Pt.slots] at X1155 l1155 y1155 z1155 st1155 hQ1155
                        subst l1155 y1155 z1155
                        obtain ⟨rfl, N1155, e1155⟩ := hQ1155
                        have N1157 := Fr.app N1076 N1155
                        refine own_tr (T' := T1155) (g' := (mkF m 406 #[.val (.int p1), .val (.int p2), .val (.int p3), .val (.int p4), .val (.int p5), .val (.int 3), .val (.int kk), .val (.int f7), .val (.int f8), .val (.int 2), .val (.int cv), .val (.ref b354), .val (.ref b395), .val (.ref b436), .val (.ref y), .val (.ref u1), .val (.ref u2), .val (.ref b508), .unset, .unset] [(.int 72), (.int cv)])) st1155 ?_
                        by_cases hc1158 : cv = (72 : Int32)
                        ·
                          refine own_st (T' := T1155) (g' := (mkF m 414 #[.val (.int p1), .val (.int p2), .val (.int p3), .val (.int p4), .val (.int p5), .val (.int 3), .val (.int kk), .val (.int f7), .val (.int f8), .val (.int 2), .val (.int cv), .val (.ref b354), .val (.ref b395), .val (.ref b436), .val (.ref y), .val (.ref u1), .val (.ref u2), .val (.ref b508), .unset, .unset] [(.int 1)])) (fun _ kt => XS.icmpNo X1155.here hx rfl (hb hby at_406) rfl (XT.ii_ne_f hc1158) (XS.iconst X1155.here hx rfl (hb hby at_409) (XS.goto X1155.here hx rfl (pc0 := 410) (pc' := 414) rfl (hb hby at_410) (by decide) (by decide) kt))) ?_
                          have F1159 : Fld Z h1112 y "java/lang/String" "coder" "B" (.int 0) := (Fld.ext E1112 (Fld.keep (Fld.keep (Fld.keep (Fld.keep (Fld.ext E508 F503) K520_ (ninS ne509 nin0)) K1035_ (ninS ne509 nin0)) K1057_ (ninS ne509 (ninS ne1049 nin0))) K1069_ (ninS ne509 (ninS ne1049 nin0))))
                          have F1160 : Exa Z h1112 b508 "java/util/ArrayList" := (Exa.ext E1112 P1071)
                          have F1161 : Fld Z h1112 b508 "java/util/AbstractList" "modCount" "I" (.int ((((0 : Int32) + (1 : Int32)) + (1 : Int32)) + (1 : Int32))) := (Fld.ext E1112 P1072)
                          have F1162 : Fld Z h1112 b508 "java/util/ArrayList" "elementData" "[Ljava/lang/Object;" (.ref b_1035) := (Fld.ext E1112 P1073)
                          have F1163 : Fld Z h1112 b508 "java/util/ArrayList" "size" "I" (.int 3) := (Fld.ext E1112 P1074)
                          exact J1080 _ _ _ _ _ (1 : Int32) ⟨N1157, Z1114, F1154, CR1113, hS1112, hk1112, hZ1112, hown1112, F1115, F1159, F1116, F1117, F1118, F1119, F1160, F1161, F1162, F1163, F1122, (by unfold own_l18; rw [if_pos hc1103]; simp +decide [own_ex, hc1158])⟩ (X1155.mono (by decide) (by decide)) e1155
                        ·
                          refine own_st (T' := T1155) (g' := (mkF m 414 #[.val (.int p1), .val (.int p2), .val (.int p3), .val (.int p4), .val (.int p5), .val (.int 3), .val (.int kk), .val (.int f7), .val (.int f8), .val (.int 2), .val (.int cv), .val (.ref b354), .val (.ref b395), .val (.ref b436), .val (.ref y), .val (.ref u1), .val (.ref u2), .val (.ref b508), .unset, .unset] [(.int 0)])) (fun _ kt => XS.icmpYes X1155.here hx rfl (pc0 := 406) (pc' := 413) rfl (hb hby at_406) rfl (XT.ii_ne_t hc1158) (by decide) (by decide) (XS.iconst X1155.here hx rfl (hb hby at_413) kt)) ?_
                          have F1164 : Fld Z h1112 y "java/lang/String" "coder" "B" (.int 0) := (Fld.ext E1112 (Fld.keep (Fld.keep (Fld.keep (Fld.keep (Fld.ext E508 F503) K520_ (ninS ne509 nin0)) K1035_ (ninS ne509 nin0)) K1057_ (ninS ne509 (ninS ne1049 nin0))) K1069_ (ninS ne509 (ninS ne1049 nin0))))
                          have F1165 : Exa Z h1112 b508 "java/util/ArrayList" := (Exa.ext E1112 P1071)
                          have F1166 : Fld Z h1112 b508 "java/util/AbstractList" "modCount" "I" (.int ((((0 : Int32) + (1 : Int32)) + (1 : Int32)) + (1 : Int32))) := (Fld.ext E1112 P1072)
                          have F1167 : Fld Z h1112 b508 "java/util/ArrayList" "elementData" "[Ljava/lang/Object;" (.ref b_1035) := (Fld.ext E1112 P1073)
                          have F1168 : Fld Z h1112 b508 "java/util/ArrayList" "size" "I" (.int 3) := (Fld.ext E1112 P1074)
                          exact J1080 _ _ _ _ _ (0 : Int32) ⟨N1157, Z1114, F1154, CR1113, hS1112, hk1112, hZ1112, hown1112, F1115, F1164, F1116, F1117, F1118, F1119, F1165, F1166, F1167, F1168, F1122, (by unfold own_l18; rw [if_pos hc1103]; simp +decide [own_ex, hc1158])⟩ (X1155.mono (by decide) (by decide)) e1155
                      ·
                        have F1169 : Old Z n0 h1112 := (Old.ext (Old.keep (Old.keep (Old.keep F1033 K1035_ (allS ge_b508 all0)) K1057_ (allS ge_b508 (allS ge1055 all0))) K1069_ (allS ge_b508 (allS ge1055 all0))) E1112)
                        obtain ⟨cq1171, kq1171, qa1171, qb1171, qc1171⟩ := isOf hZ1112 e1112 gE1112
                        obtain ⟨_, _, ⟨T1170, L1170, k1170, n1170⟩, -, X1170, ⟨Lc1170, hQ1170, l1170, y1170, z1170⟩, st1170⟩ := X1112.virtualBack hx (y := yN0) (z := yN0) hown1112 (mvT hZ1112 (own_k hw 72 rfl)) (mvT hZ1112 (own_k hw 73 rfl)) (notFace_of_selects (args := #[]) (mvT hZ1112 (own_k hw 75 rfl))) (mvT hZ1112 (own_k hw 75 rfl)) (mvT hZ1112 (own_k hw 74 rfl)) (by decide) (backOf (W := 1) (own_ca l Z a0 hw [] b1112 zc d1112 (3 : Int32) fmt kd1112 (7 : Int32) [(.int 86), (.int 69), (.int 72), (.int 73), (.int 67), (.int 76), (.int 69)] (73 : Int32) (73 : Int32) h1112 n0 Z1114 F1169 pr2 pr3 pr4 pr5 gE1112 gC1112 gV1112 gA1112 (show ¬ (3 : Int32) < 0 ∧ (3 : Int32) < (7 : Int32) from (by decide)) rfl (show nar .char (((73 : Int32) &&& (255 : Int32)).toUInt32.toUInt16.toUInt32.toInt32) = (73 : Int32) from (by decide)) (show nar .char (73 : Int32) = (73 : Int32) from (by decide))) hZ1112 (own_k hw 76 rfl) (own_k hw 4 rfl) (by decide) (by decide)) qa1171 qc1171 (g := (mkF m 403 #[.val (.int p1), .val (.int p2), .val (.int p3), .val (.int p4), .val (.int p5), .val (.int 3), .val (.int kk), .val (.int f7), .val (.int f8), .val (.int 3), .val (.int cv), .val (.ref b354), .val (.ref b395), .val (.ref b436), .val (.ref y), .val (.ref u1), .val (.ref u2), .val (.ref b508), .unset, .unset] [(.int 3), (.ref b1112), (.int cv)])) rfl hml.symm (Steps.refl _) (argsL := [(.int 3)]) (rest := [(.int cv)]) (lenOf own_pd18 rfl) rfl (own_w0 rfl rfl) (hb hby at_403) (fun _ _ => ⟨rfl, e1112, (by decide : 21 + 0 ≤ 40), (by decide : 266 + 0 ≤ 3264)⟩)
                        dsimp only [Pt.U, Pt.locs, Pt.cells, Pt.slots] at X1170 l1170 y1170 z1170 st1170 hQ1170
                        subst l1170 y1170 z1170
                        obtain ⟨rfl, N1170, e1170⟩ := hQ1170
                        have N1172 := Fr.app N1076 N1170
                        refine own_tr (T' := T1170) (g' := (mkF m 406 #[.val (.int p1), .val (.int p2), .val (.int p3), .val (.int p4), .val (.int p5), .val (.int 3), .val (.int kk), .val (.int f7), .val (.int f8), .val (.int 3), .val (.int cv), .val (.ref b354), .val (.ref b395), .val (.ref b436), .val (.ref y), .val (.ref u1), .val (.ref u2), .val (.ref b508), .unset, .unset] [(.int 73), (.int cv)])) st1170 ?_
                        by_cases hc1173 : cv = (73 : Int32)
                        ·
                          refine own_st (T' := T1170) (g' := (mkF m 414 #[.val (.int p1), .val (.int p2), .val (.int p3), .val (.int p4), .val (.int p5), .val (.int 3), .val (.int kk), .val (.int f7), .val (.int f8), .val (.int 3), .val (.int cv), .val (.ref b354), .val (.ref b395), .val (.ref b436), .val (.ref y), .val (.ref u1), .val (.ref u2), .val (.ref b508), .unset, .unset] [(.int 1)])) (fun _ kt => XS.icmpNo X1170.here hx rfl (hb hby at_406) rfl (XT.ii_ne_f hc1173) (XS.iconst X1170.here hx rfl (hb hby at_409) (XS.goto X1170.here hx rfl (pc0 := 410) (pc' := 414) rfl (hb hby at_410) (by decide) (by decide) kt))) ?_
                          have F1174 : Fld Z h1112 y "java/lang/String" "coder" "B" (.int 0) := (Fld.ext E1112 (Fld.keep (Fld.keep (Fld.keep (Fld.keep (Fld.ext E508 F503) K520_ (ninS ne509 nin0)) K1035_ (ninS ne509 nin0)) K1057_ (ninS ne509 (ninS ne1049 nin0))) K1069_ (ninS ne509 (ninS ne1049 nin0))))
                          have F1175 : Exa Z h1112 b508 "java/util/ArrayList" := (Exa.ext E1112 P1071)
                          have F1176 : Fld Z h1112 b508 "java/util/AbstractList" "modCount" "I" (.int ((((0 : Int32) + (1 : Int32)) + (1 : Int32)) + (1 : Int32))) := (Fld.ext E1112 P1072)
                          have F1177 : Fld Z h1112 b508 "java/util/ArrayList" "elementData" "[Ljava/lang/Object;" (.ref b_1035) := (Fld.ext E1112 P1073)
                          have F1178 : Fld Z h1112 b508 "java/util/ArrayList" "size" "I" (.int 3) := (Fld.ext E1112 P1074)
                          exact J1080 _ _ _ _ _ (1 : Int32) ⟨N1172, Z1114, F1169, CR1113, hS1112, hk1112, hZ1112, hown1112, F1115, F1174, F1116, F1117, F1118, F1119, F1175, F1176, F1177, F1178, F1122, (by unfold own_l18; rw [if_pos hc1103]; simp +decide [own_ex, hc1173])⟩ (X1170.mono (by decide) (by decide)) e1170
                        ·
                          refine own_st (T' := T1170) (g' := (mkF m 414 #[.val (.int p1), .val (.int p2), .val (.int p3), .val (.int p4), .val (.int p5), .val (.int 3), .val (.int kk), .val (.int f7), .val (.int f8), .val (.int 3), .val (.int cv), .val (.ref b354), .val (.ref b395), .val (.ref b436), .val (.ref y), .val (.ref u1), .val (.ref u2), .val (.ref b508), .unset, .unset] [(.int 0)])) (fun _ kt => XS.icmpYes X1170.here hx rfl (pc0 := 406) (pc' := 413) rfl (hb hby at_406) rfl (XT.ii_ne_t hc1173) (by decide) (by decide) (XS.iconst X1170.here hx rfl (hb hby at_413) kt)) ?_
                          have F1179 : Fld Z h1112 y "java/lang/String" "coder" "B" (.int 0) := (Fld.ext E1112 (Fld.keep (Fld.keep (Fld.keep (Fld.keep (Fld.ext E508 F503) K520_ (ninS ne509 nin0)) K1035_ (ninS ne509 nin0)) K1057_ (ninS ne509 (ninS ne1049 nin0))) K1069_ (ninS ne509 (ninS ne1049 nin0))))
                          have F1180 : Exa Z h1112 b508 "java/util/ArrayList" := (Exa.ext E1112 P1071)
                          have F1181 : Fld Z h1112 b508 "java/util/AbstractList" "modCount" "I" (.int ((((0 : Int32) + (1 : Int32)) + (1 : Int32)) + (1 : Int32))) := (Fld.ext E1112 P1072)
                          have F1182 : Fld Z h1112 b508 "java/util/ArrayList" "elementData" "[Ljava/lang/Object;" (.ref b_1035) := (Fld.ext E1112 P1073)
                          have F1183 : Fld Z h1112 b508 "java/util/ArrayList" "size" "I" (.int 3) := (Fld.ext E1112 P1074)
                          exact J1080 _ _ _ _ _ (0 : Int32) ⟨N1172, Z1114, F1169, CR1113, hS1112, hk1112, hZ1112, hown1112, F1115, F1179, F1116, F1117, F1118, F1119, F1180, F1181, F1182, F1183, F1122, (by unfold own_l18; rw [if_pos hc1103]; simp +decide [own_ex, hc1173])⟩ (X1170.mono (by decide) (by decide)) e1170
                      ·
                        have F1184 : Old Z n0 h1112 := (Old.ext (Old.keep (Old.keep (Old.keep F1033 K1035_ (allS ge_b508 all0)) K1057_ (allS ge_b508 (allS ge1055 all0))) K1069_ (allS ge_b508 (allS ge1055 all0))) E1112)
                        obtain ⟨cq1186, kq1186, qa1186, qb1186, qc1186⟩ := isOf hZ1112 e1112 gE1112
                        obtain ⟨_, _, ⟨T1185, L1185, k1185, n1185⟩, -, X1185, ⟨Lc1185, hQ1185, l1185, y1185, z1185⟩, st1185⟩ := X1112.virtualBack hx (y := yN0) (z := yN0) hown1112 (mvT hZ1112 (own_k hw 72 rfl)) (mvT hZ1112 (own_k hw 73 rfl)) (notFace_of_selects (args := #[]) (mvT hZ1112 (own_k hw 75 rfl))) (mvT hZ1112 (own_k hw 75 rfl)) (mvT hZ1112 (own_k hw 74 rfl)) (by decide) (backOf (W := 1) (own_ca l Z a0 hw [] b1112 zc d1112 (4 : Int32) fmt kd1112 (7 : Int32) [(.int 86), (.int 69), (.int 72), (.int 73), (.int 67), (.int 76), (.int 69)] (67 : Int32) (67 : Int32) h1112 n0 Z1114 F1184 pr2 pr3 pr4 pr5 gE1112 gC1112 gV1112 gA1112 (show ¬ (4 : Int32) < 0 ∧ (4 : Int32) < (7 : Int32) from (by decide)) rfl (show nar .char (((67 : Int32) &&& (255 : Int32)).toUInt32.toUInt16.toUInt32.toInt32) = (67 : Int32) from (by decide)) (show nar .char (67 : Int32) = (67 : Int32) from (by decide))) hZ1112 (own_k hw 76 rfl) (own_k hw 4 rfl) (by decide) (by decide)) qa1186 qc1186 (g := (mkF m 403 #[.val (.int p1), .val (.int p2), .val (.int p3), .val (.int p4), .val (.int p5), .val (.int 3), .val (.int kk), .val (.int f7), .val (.int f8), .val (.int 4), .val (.int cv), .val (.ref b354), .val (.ref b395), .val (.ref b436), .val (.ref y), .val (.ref u1), .val (.ref u2), .val (.ref b508), .unset, .unset] [(.int 4), (.ref b1112), (.int cv)])) rfl hml.symm (Steps.refl _) (argsL := [(.int 4)]) (rest := [(.int cv)]) (lenOf own_pd18 rfl) rfl (own_w0 rfl rfl) (hb hby at_403) (fun _ _ => ⟨rfl, e1112, (by decide : 21 + 0 ≤ 40), (by decide : 266 + 0 ≤ 3264)⟩)
                        dsimp only [Pt.U, Pt.locs, Pt.cells, Pt.slots] at X1185 l1185 y1185 z1185 st1185 hQ1185
                        subst l1185 y1185 z1185
                        obtain ⟨rfl, N1185, e1185⟩ := hQ1185
                        have N1187 := Fr.app N1076 N1185
                        refine own_tr (T' := T1185) (g' := (mkF m 406 #[.val (.int p1), .val (.int p2), .val (.int p3), .val (.int p4), .val (.int p5), .val (.int 3), .val (.int kk), .val (.int f7), .val (.int f8), .val (.int 4), .val (.int cv), .val (.ref b354), .val (.ref b395), .val (.ref b436), .val (.ref y), .val (.ref u1), .val (.ref u2), .val (.ref b508), .unset, .unset] [(.int 67), (.int cv)])) st1185 ?_
                        by_cases hc1188 : cv = (67 : Int32)
                        ·
                          refine own_st (T' := T1185) (g' := (mkF m 414 #[.val (.int p1), .val (.int p2), .val (.int p3), .val (.int p4), .val (.int p5), .val (.int 3), .val (.int kk), .val (.int f7), .val (.int f8), .val (.int 4), .val (.int cv), .val (.ref b354), .val (.ref b395), .val (.ref b436), .val (.ref y), .val (.ref u1), .val (.ref u2), .val (.ref b508), .unset, .unset] [(.int 1)])) (fun _ kt => XS.icmpNo X1185.here hx rfl (hb hby at_406) rfl (XT.ii_ne_f hc1188) (XS.iconst X1185.here hx rfl (hb hby at_409) (XS.goto X1185.here hx rfl (pc0 := 410) (pc' := 414) rfl (hb hby at_410) (by decide) (by decide) kt))) ?_
                          have F1189 : Fld Z h1112 y "java/lang/String" "coder" "B" (.int 0) := (Fld.ext E1112 (Fld.keep (Fld.keep (Fld.keep (Fld.keep (Fld.ext E508 F503) K520_ (ninS ne509 nin0)) K1035_ (ninS ne509 nin0)) K1057_ (ninS ne509 (ninS ne1049 nin0))) K1069_ (ninS ne509 (ninS ne1049 nin0))))
                          have F1190 : Exa Z h1112 b508 "java/util/ArrayList" := (Exa.ext E1112 P1071)
                          have F1191 : Fld Z h1112 b508 "java/util/AbstractList" "modCount" "I" (.int ((((0 : Int32) + (1 : Int32)) + (1 : Int32)) + (1 : Int32))) := (Fld.ext E1112 P1072)
                          have F1192 : Fld Z h1112 b508 "java/util/ArrayList" "elementData" "[Ljava/lang/Object;" (.ref b_1035) := (Fld.ext E1112 P1073)
                          have F1193 : Fld Z h1112 b508 "java/util/ArrayList" "size" "I" (.int 3) := (Fld.ext E1112 P1074)
                          exact J1080 _ _ _ _ _ (1 : Int32) ⟨N1187, Z1114, F1184, CR1113, hS1112, hk1112, hZ1112, hown1112, F1115, F1189, F1116, F1117, F1118, F1119, F1190, F1191, F1192, F1193, F1122, (by unfold own_l18; rw [if_pos hc1103]; simp +decide [own_ex, hc1188])⟩ (X1185.mono (by decide) (by decide)) e1185
                        ·
                          refine own_st (T' := T1185) (g' := (mkF m 414 #[.val (.int p1), .val (.int p2), .val (.int p3), .val (.int p4), .val (.int p5), .val (.int 3), .val (.int kk), .val (.int f7), .val (.int f8), .val (.int 4), .val (.int cv), .val (.ref b354), .val (.ref b395), .val (.ref b436), .val (.ref y), .val (.ref u1), .val (.ref u2), .val (.ref b508), .unset, .unset] [(.int 0)])) (fun _ kt => XS.icmpYes X1185.here hx rfl (pc0 := 406) (pc' := 413) rfl (hb hby at_406) rfl (XT.ii_ne_t hc1188) (by decide) (by decide) (XS.iconst X1185.here hx rfl (hb hby at_413) kt)) ?_
                          have F1194 : Fld Z h1112 y "java/lang/String" "coder" "B" (.int 0) := (Fld.ext E1112 (Fld.keep (Fld.keep (Fld.keep (Fld.keep (Fld.ext E508 F503) K520_ (ninS ne509 nin0)) K1035_ (ninS ne509 nin0)) K1057_ (ninS ne509 (ninS ne1049 nin0))) K1069_ (ninS ne509 (ninS ne1049 nin0))))
                          have F1195 : Exa Z h1112 b508 "java/util/ArrayList" := (Exa.ext E1112 P1071)
                          have F1196 : Fld Z h1112 b508 "java/util/AbstractList" "modCount" "I" (.int ((((0 : Int32) + (1 : Int32)) + (1 : Int32)) + (1 : Int32))) := (Fld.ext E1112 P1072)
                          have F1197 : Fld Z h1112 b508 "java/util/ArrayList" "elementData" "[Ljava/lang/Object;" (.ref b_1035) := (Fld.ext E1112 P1073)
                          have F1198 : Fld Z h1112 b508 "java/util/ArrayList" "size" "I" (.int 3) := (Fld.ext E1112 P1074)
                          exact J1080 _ _ _ _ _ (0 : Int32) ⟨N1187, Z1114, F1184, CR1113, hS1112, hk1112, hZ1112, hown1112, F1115, F1194, F1116, F1117, F1118, F1119, F1195, F1196, F1197, F1198, F1122, (by unfold own_l18; rw [if_pos hc1103]; simp +decide [own_ex, hc1188])⟩ (X1185.mono (by decide) (by decide)) e1185
                      ·
                        have F1199 : Old Z n0 h1112 := (Old.ext (Old.keep (Old.keep (Old.keep F1033 K1035_ (allS ge_b508 all0)) K1057_ (allS ge_b508 (allS ge1055 all0))) K1069_ (allS ge_b508 (allS ge1055 all0))) E1112)
                        obtain ⟨cq1201, kq1201, qa1201, qb1201, qc1201⟩ := isOf hZ1112 e1112 gE1112
                        obtain ⟨_, _, ⟨T1200, L1200, k1200, n1200⟩, -, X1200, ⟨Lc1200, hQ1200, l1200, y1200, z1200⟩, st1200⟩ := X1112.virtualBack hx (y := yN0) (z := yN0) hown1112 (mvT hZ1112 (own_k hw 72 rfl)) (mvT hZ1112 (own_k hw 73 rfl)) (notFace_of_selects (args := #[]) (mvT hZ1112 (own_k hw 75 rfl))) (mvT hZ1112 (own_k hw 75 rfl)) (mvT hZ1112 (own_k hw 74 rfl)) (by decide) (backOf (W := 1) (own_ca l Z a0 hw [] b1112 zc d1112 (5 : Int32) fmt kd1112 (7 : Int32) [(.int 86), (.int 69), (.int 72), (.int 73), (.int 67), (.int 76), (.int 69)] (76 : Int32) (76 : Int32) h1112 n0 Z1114 F1199 pr2 pr3 pr4 pr5 gE1112 gC1112 gV1112 gA1112 (show ¬ (5 : Int32) < 0 ∧ (5 : Int32) < (7 : Int32) from (by decide)) rfl (show nar .char (((76 : Int32) &&& (255 : Int32)).toUInt32.toUInt16.toUInt32.toInt32) = (76 : Int32) from (by decide)) (show nar .char (76 : Int32) = (76 : Int32) from (by decide))) hZ1112 (own_k hw 76 rfl) (own_k hw 4 rfl) (by decide) (by decide)) qa1201 qc1201 (g := (mkF m 403 #[.val (.int p1), .val (.int p2), .val (.int p3), .val (.int p4), .val (.int p5), .val (.int 3), .val (.int kk), .val (.int f7), .val (.int f8), .val (.int 5), .val (.int cv), .val (.ref b354), .val (.ref b395), .val (.ref b436), .val (.ref y), .val (.ref u1), .val (.ref u2), .val (.ref b508), .unset, .unset] [(.int 5), (.ref b1112), (.int cv)])) rfl hml.symm (Steps.refl _) (argsL := [(.int 5)]) (rest := [(.int cv)]) (lenOf own_pd18 rfl) rfl (own_w0 rfl rfl) (hb hby at_403) (fun _ _ => ⟨rfl, e1112, (by decide : 21 + 0 ≤ 40), (by decide : 266 + 0 ≤ 3264)⟩)
                        dsimp only [Pt.U, Pt.locs, Pt.cells, Pt.slots] at X1200 l1200 y1200 z1200 st1200 hQ1200
                        subst l1200 y1200 z1200
                        obtain ⟨rfl, N1200, e1200⟩ := hQ1200
                        have N1202 := Fr.app N1076 N1200
                        refine own_tr (T' := T1200) (g' := (mkF m 406 #[.val (.int p1), .val (.int p2), .val (.int p3), .val (.int p4), .val (.int p5), .val (.int 3), .val (.int kk), .val (.int f7), .val (.int f8), .val (.int 5), .val (.int cv), .val (.ref b354), .val (.ref b395), .val (.ref b436), .val (.ref y), .val (.ref u1), .val (.ref u2), .val (.ref b508), .unset, .unset] [(.int 76), (.int cv)])) st1200 ?_
                        by_cases hc1203 : cv = (76 : Int32)
                        ·
                          refine own_st (T' := T1200) (g' := (mkF m 414 #[.val (.int p1), .val (.int p2), .val (.int p3), .val (.int p4), .val (.int p5), .val (.int 3), .val (.int kk), .val (.int f7), .val (.int f8), .val (.int 5), .val (.int cv), .val (.ref b354), .val (.ref b395), .val (.ref b436), .val (.ref y), .val (.ref u1), .val (.ref u2), .val (.ref b508), .unset, .unset] [(.int 1)])) (fun _ kt => XS.icmpNo X1200.here hx rfl (hb hby at_406) rfl (XT.ii_ne_f hc1203) (XS.iconst X1200.here hx rfl (hb hby at_409) (XS.goto X1200.here hx rfl (pc0 := 410) (pc' := 414) rfl (hb hby at_410) (by decide) (by decide) kt))) ?_
                          have F1204 : Fld Z h1112 y "java/lang/String" "coder" "B" (.int 0) := (Fld.ext E1112 (Fld.keep (Fld.keep (Fld.keep (Fld.keep (Fld.ext E508 F503) K520_ (ninS ne509 nin0)) K1035_ (ninS ne509 nin0)) K1057_ (ninS ne509 (ninS ne1049 nin0))) K1069_ (ninS ne509 (ninS ne1049 nin0))))
                          have F1205 : Exa Z h1112 b508 "java/util/ArrayList" := (Exa.ext E1112 P1071)
                          have F1206 : Fld Z h1112 b508 "java/util/AbstractList" "modCount" "I" (.int ((((0 : Int32) + (1 : Int32)) + (1 : Int32)) + (1 : Int32))) := (Fld.ext E1112 P1072)
                          have F1207 : Fld Z h1112 b508 "java/util/ArrayList" "elementData" "[Ljava/lang/Object;" (.ref b_1035) := (Fld.ext E1112 P1073)
                          have F1208 : Fld Z h1112 b508 "java/util/ArrayList" "size" "I" (.int 3) := (Fld.ext E1112 P1074)
                          exact J1080 _ _ _ _ _ (1 : Int32) ⟨N1202, Z1114, F1199, CR1113, hS1112, hk1112, hZ1112, hown1112, F1115, F1204, F1116, F1117, F1118, F1119, F1205, F1206, F1207, F1208, F1122, (by unfold own_l18; rw [if_pos hc1103]; simp +decide [own_ex, hc1203])⟩ (X1200.mono (by decide) (by decide)) e1200
                        ·
                          refine own_st (T' := T1200) (g' := (mkF m 414 #[.val (.int p1), .val (.int p2), .val (.int p3), .val (.int p4), .val (.int p5), .val (.int 3), .val (.int kk), .val (.int f7), .val (.int f8), .val (.int 5), .val (.int cv), .val (.ref b354), .val (.ref b395), .val (.ref b436), .val (.ref y), .val (.ref u1), .val (.ref u2), .val (.ref b508), .unset, .unset] [(.int 0)])) (fun _ kt => XS.icmpYes X1200.here hx rfl (pc0 := 406) (pc' := 413) rfl (hb hby at_406) rfl (XT.ii_ne_t hc1203) (by decide) (by decide) (XS.iconst X1200.here hx rfl (hb hby at_413) kt)) ?_
                          have F1209 : Fld Z h1112 y "java/lang/String" "coder" "B" (.int 0) := (Fld.ext E1112 (Fld.keep (Fld.keep (Fld.keep (Fld.keep (Fld.ext E508 F503) K520_ (ninS ne509 nin0)) K1035_ (ninS ne509 nin0)) K1057_ (ninS ne509 (ninS ne1049 nin0))) K1069_ (ninS ne509 (ninS ne1049 nin0))))
                          have F1210 : Exa Z h1112 b508 "java/util/ArrayList" := (Exa.ext E1112 P1071)
                          have F1211 : Fld Z h1112 b508 "java/util/AbstractList" "modCount" "I" (.int ((((0 : Int32) + (1 : Int32)) + (1 : Int32)) + (1 : Int32))) := (Fld.ext E1112 P1072)
                          have F1212 : Fld Z h1112 b508 "java/util/ArrayList" "elementData" "[Ljava/lang/Object;" (.ref b_1035) := (Fld.ext E1112 P1073)
                          have F1213 : Fld Z h1112 b508 "java/util/ArrayList" "size" "I" (.int 3) := (Fld.ext E1112 P1074)
                          exact J1080 _ _ _ _ _ (0 : Int32) ⟨N1202, Z1114, F1199, CR1113, hS1112, hk1112, hZ1112, hown1112, F1115, F1209, F1116, F1117, F1118, F1119, F1210, F1211, F1212, F1213, F1122, (by unfold own_l18; rw [if_pos hc1103]; simp +decide [own_ex, hc1203])⟩ (X1200.mono (by decide) (by decide)) e1200
                      ·
                        have F1214 : Old Z n0 h1112 := (Old.ext (Old.keep (Old.keep (Old.keep F1033 K1035_ (allS ge_b508 all0)) K1057_ (allS ge_b508 (allS ge1055 all0))) K1069_ (allS ge_b508 (allS ge1055 all0))) E1112)
                        obtain ⟨cq1216, kq1216, qa1216, qb1216, qc1216⟩ := isOf hZ1112 e1112 gE1112
                        obtain ⟨_, _, ⟨T1215, L1215, k1215, n1215⟩, -, X1215, ⟨Lc1215, hQ1215, l1215, y1215, z1215⟩, st1215⟩ := X1112.virtualBack hx (y := yN0) (z := yN0) hown1112 (mvT hZ1112 (own_k hw 72 rfl)) (mvT hZ1112 (own_k hw 73 rfl)) (notFace_of_selects (args := #[]) (mvT hZ1112 (own_k hw 75 rfl))) (mvT hZ1112 (own_k hw 75 rfl)) (mvT hZ1112 (own_k hw 74 rfl)) (by decide) (backOf (W := 1) (own_ca l Z a0 hw [] b1112 zc d1112 (6 : Int32) fmt kd1112 (7 : Int32) [(.int 86), (.int 69), (.int 72), (.int 73), (.int 67), (.int 76), (.int 69)] (69 : Int32) (69 : Int32) h1112 n0 Z1114 F1214 pr2 pr3 pr4 pr5 gE1112 gC1112 gV1112 gA1112 (show ¬ (6 : Int32) < 0 ∧ (6 : Int32) < (7 : Int32) from (by decide)) rfl (show nar .char (((69 : Int32) &&& (255 : Int32)).toUInt32.toUInt16.toUInt32.toInt32) = (69 : Int32) from (by decide)) (show nar .char (69 : Int32) = (69 : Int32) from (by decide))) hZ1112 (own_k hw 76 rfl) (own_k hw 4 rfl) (by decide) (by decide)) qa1216 qc1216 (g := (mkF m 403 #[.val (.int p1), .val (.int p2), .val (.int p3), .val (.int p4), .val (.int p5), .val (.int 3), .val (.int kk), .val (.int f7), .val (.int f8), .val (.int 6), .val (.int cv), .val (.ref b354), .val (.ref b395), .val (.ref b436), .val (.ref y), .val (.ref u1), .val (.ref u2), .val (.ref b508), .unset, .unset] [(.int 6), (.ref b1112), (.int cv)])) rfl hml.symm (Steps.refl _) (argsL := [(.int 6)]) (rest := [(.int cv)]) (lenOf own_pd18 rfl) rfl (own_w0 rfl rfl) (hb hby at_403) (fun _ _ => ⟨rfl, e1112, (by decide : 21 + 0 ≤ 40), (by decide : 266 + 0 ≤ 3264)⟩)
                        dsimp only [Pt.U, Pt.locs, Pt.cells, Pt.slots] at X1215 l1215 y1215 z1215 st1215 hQ1215
                        subst l1215 y1215 z1215
                        obtain ⟨rfl, N1215, e1215⟩ := hQ1215
                        have N1217 := Fr.app N1076 N1215
                        refine own_tr (T' := T1215) (g' := (mkF m 406 #[.val (.int p1), .val (.int p2), .val (.int p3), .val (.int p4), .val (.int p5), .val (.int 3), .val (.int kk), .val (.int f7), .val (.int f8), .val (.int 6), .val (.int cv), .val (.ref b354), .val (.ref b395), .val (.ref b436), .val (.ref y), .val (.ref u1), .val (.ref u2), .val (.ref b508), .unset, .unset] [(.int 69), (.int cv)])) st1215 ?_
                        by_cases hc1218 : cv = (69 : Int32)
                        ·
                          refine own_st (T' := T1215) (g' := (mkF m 414 #[.val (.int p1), .val (.int p2), .val (.int p3), .val (.int p4), .val (.int p5), .val (.int 3), .val (.int kk), .val (.int f7), .val (.int f8), .val (.int 6), .val (.int cv), .val (.ref b354), .val (.ref b395), .val (.ref b436), .val (.ref y), .val (.ref u1), .val (.ref u2), .val (.ref b508), .unset, .unset] [(.int 1)])) (fun _ kt => XS.icmpNo X1215.here hx rfl (hb hby at_406) rfl (XT.ii_ne_f hc1218) (XS.iconst X1215.here hx rfl (hb hby at_409) (XS.goto X1215.here hx rfl (pc0 := 410) (pc' := 414) rfl (hb hby at_410) (by decide) (by decide) kt))) ?_
                          have F1219 : Fld Z h1112 y "java/lang/String" "coder" "B" (.int 0) := (Fld.ext E1112 (Fld.keep (Fld.keep (Fld.keep (Fld.keep (Fld.ext E508 F503) K520_ (ninS ne509 nin0)) K1035_ (ninS ne509 nin0)) K1057_ (ninS ne509 (ninS ne1049 nin0))) K1069_ (ninS ne509 (ninS ne1049 nin0))))
                          have F1220 : Exa Z h1112 b508 "java/util/ArrayList" := (Exa.ext E1112 P1071)
                          have F1221 : Fld Z h1112 b508 "java/util/AbstractList" "modCount" "I" (.int ((((0 : Int32) + (1 : Int32)) + (1 : Int32)) + (1 : Int32))) := (Fld.ext E1112 P1072)
                          have F1222 : Fld Z h1112 b508 "java/util/ArrayList" "elementData" "[Ljava/lang/Object;" (.ref b_1035) := (Fld.ext E1112 P1073)
                          have F1223 : Fld Z h1112 b508 "java/util/ArrayList" "size" "I" (.int 3) := (Fld.ext E1112 P1074)
                          exact J1080 _ _ _ _ _ (1 : Int32) ⟨N1217, Z1114, F1214, CR1113, hS1112, hk1112, hZ1112, hown1112, F1115, F1219, F1116, F1117, F1118, F1119, F1220, F1221, F1222, F1223, F1122, (by unfold own_l18; rw [if_pos hc1103]; simp +decide [own_ex, hc1218])⟩ (X1215.mono (by decide) (by decide)) e1215
                        ·
                          refine own_st (T' := T1215) (g' := (mkF m 414 #[.val (.int p1), .val (.int p2), .val (.int p3), .val (.int p4), .val (.int p5), .val (.int 3), .val (.int kk), .val (.int f7), .val (.int f8), .val (.int 6), .val (.int cv), .val (.ref b354), .val (.ref b395), .val (.ref b436), .val (.ref y), .val (.ref u1), .val (.ref u2), .val (.ref b508), .unset, .unset] [(.int 0)])) (fun _ kt => XS.icmpYes X1215.here hx rfl (pc0 := 406) (pc' := 413) rfl (hb hby at_406) rfl (XT.ii_ne_t hc1218) (by decide) (by decide) (XS.iconst X1215.here hx rfl (hb hby at_413) kt)) ?_
                          have F1224 : Fld Z h1112 y "java/lang/String" "coder" "B" (.int 0) := (Fld.ext E1112 (Fld.keep (Fld.keep (Fld.keep (Fld.keep (Fld.ext E508 F503) K520_ (ninS ne509 nin0)) K1035_ (ninS ne509 nin0)) K1057_ (ninS ne509 (ninS ne1049 nin0))) K1069_ (ninS ne509 (ninS ne1049 nin0))))
                          have F1225 : Exa Z h1112 b508 "java/util/ArrayList" := (Exa.ext E1112 P1071)
                          have F1226 : Fld Z h1112 b508 "java/util/AbstractList" "modCount" "I" (.int ((((0 : Int32) + (1 : Int32)) + (1 : Int32)) + (1 : Int32))) := (Fld.ext E1112 P1072)
                          have F1227 : Fld Z h1112 b508 "java/util/ArrayList" "elementData" "[Ljava/lang/Object;" (.ref b_1035) := (Fld.ext E1112 P1073)
                          have F1228 : Fld Z h1112 b508 "java/util/ArrayList" "size" "I" (.int 3) := (Fld.ext E1112 P1074)
                          exact J1080 _ _ _ _ _ (0 : Int32) ⟨N1217, Z1114, F1214, CR1113, hS1112, hk1112, hZ1112, hown1112, F1115, F1224, F1116, F1117, F1118, F1119, F1225, F1226, F1227, F1228, F1122, (by unfold own_l18; rw [if_pos hc1103]; simp +decide [own_ex, hc1218])⟩ (X1215.mono (by decide) (by decide)) e1215
                      ·
                        exact absurd rfl hc1104
                  ·
                    refine own_st (T' := T1069) (g' := (mkF m 414 #[.val (.int p1), .val (.int p2), .val (.int p3), .val (.int p4), .val (.int p5), .val (.int 3), .val (.int kk), .val (.int f7), .val (.int f8), .val (.int m2), .val (.int cv), .val (.ref b354), .val (.ref b395), .val (.ref b436), .val (.ref y), .val (.ref u1), .val (.ref u2), .val (.ref b508), .unset, .unset] [(.int 0)])) (fun _ kt => XS.ifYes X1069.here hx rfl (pc0 := 387) (pc' := 413) rfl (hb hby at_387) rfl (XT.i0_ne_t hc1103) (by decide) (by decide) (XS.iconst X1069.here hx rfl (hb hby at_413) kt)) ?_
                    have F1229 : Old Z n0 T1069.heap := (Old.keep (Old.keep (Old.keep F1033 K1035_ (allS ge_b508 all0)) K1057_ (allS ge_b508 (allS ge1055 all0))) K1069_ (allS ge_b508 (allS ge1055 all0)))
                    have F1230 : Exa Z T1069.heap y "java/lang/String" := (Exa.keep (Exa.keep F1056 K1057_) K1069_)
                    have F1231 : Fld Z T1069.heap y "java/lang/String" "coder" "B" (.int 0) := (Fld.keep (Fld.keep (Fld.keep (Fld.keep (Fld.ext E508 F503) K520_ (ninS ne509 nin0)) K1035_ (ninS ne509 nin0)) K1057_ (ninS ne509 (ninS ne1049 nin0))) K1069_ (ninS ne509 (ninS ne1049 nin0)))
                    have F1232 : Fld Z T1069.heap y "java/lang/String" "value" "[B" (.ref t) := (Fld.keep (Fld.keep (Fld.keep (Fld.keep (Fld.ext E508 F504) K520_ (ninS ne509 nin0)) K1035_ (ninS ne509 nin0)) K1057_ (ninS ne509 (ninS ne1049 nin0))) K1069_ (ninS ne509 (ninS ne1049 nin0)))
                    have F1233 : Arv Z T1069.heap t kt .byte zz vl (.int 0) := (Arv.keep (Arv.keep (Arv.keep F1050 K1035_ (ninS ne510 nin0)) K1057_ (ninS ne510 (ninS ne1051 nin0))) K1069_ (ninS ne510 (ninS ne1051 nin0)))
                    have F1234 : Exa Z T1069.heap u1 "java/lang/String" := (Exa.keep (Exa.keep (Exa.keep F1034 K1035_) K1057_) K1069_)
                    have F1235 : Exa Z T1069.heap u2 "java/lang/String" := (Exa.keep F1068 K1069_)
                    exact J1080 _ _ _ _ _ (0 : Int32) ⟨N1076, Z1079, F1229, CR1078, hS501, hk1079, hZ501, hown501, F1230, F1231, F1232, F1233, F1234, F1235, P1071, P1072, P1073, P1074, P1075, (by unfold own_l18; rw [if_neg hc1103])⟩ (X1069.mono (by decide) (by decide)) rfl
            ·
              refine own_st (T' := T495) (g' := (mkF m 311 #[.val (.int p1), .val (.int p2), .val (.int p3), .val (.int p4), .val (.int p5), .val (.int nn), .val (.int kk), .val (.int f7), .val (.int f8), .val (.int m2), .val (.int cv), .val (.ref b354), .val (.ref b395), .val (.ref b436), .val (.ref y), .val (.ref u1), .unset, .unset, .unset, .unset] [(.int f8)])) (fun _ kt => XS.iload X495.here hx rfl (hb hby at_309) rfl kt) ?_
              by_cases hc1236 : f8 = 0
              ·
                refine own_st (T' := T495) (g' := (mkF m 329 #[.val (.int p1), .val (.int p2), .val (.int p3), .val (.int p4), .val (.int p5), .val (.int nn), .val (.int kk), .val (.int f7), .val (.int f8), .val (.int m2), .val (.int cv), .val (.ref b354), .val (.ref b395), .val (.ref b436), .val (.ref y), .val (.ref u1), .unset, .unset, .unset, .unset] [(.int (((XT.ushr p5 (8 : Int32)) &&& (255 : Int32)).toUInt32.toUInt16.toUInt32.toInt32))])) (fun _ kt => XS.ifYes X495.here hx rfl (pc0 := 311) (pc' := 319) rfl (hb hby at_311) rfl (XT.i0_eq_t hc1236) (by decide) (by decide) (XS.iload X495.here hx rfl (hb hby at_319) rfl (XS.bipush X495.here hx rfl (hb hby at_321) (XT.iushr X495.here hx rfl (hb hby at_323) rfl (XS.sipush X495.here hx rfl (hb hby at_324) (XS.iand X495.here hx rfl (hb hby at_327) rfl (XT.i2c X495.here hx rfl (hb hby at_328) rfl kt))))))) ?_
                obtain ⟨ch2, hch2⟩ : ∃ z : Int32, z = (((XT.ushr p5 (8 : Int32)) &&& (255 : Int32)).toUInt32.toUInt16.toUInt32.toInt32) := ⟨_, rfl⟩
                rw [← hch2]
                have b_ch2 : own_cc ch2 := hch2 ▸ own_mkc _
                obtain ⟨_, _, ⟨T1237, L1237, k1237, n1237⟩, -, X1237, ⟨Lc1237, hQ1237, l1237, y1237, z1237⟩, st1237⟩ := Jvm.LawKit.callS X495 hx (y := (⟨"java/lang/String", "valueOf", "(C)Ljava/lang/String;"⟩ : MethodName)) hown495 (mvT hZ495 (own_k hw 31 rfl)) (mvT hZ495 (own_k hw 32 rfl)) (mvT hZ495 (own_k hw 4 rfl)) (mvT hZ495 (own_k hw 33 rfl)) (by decide) (backOf (W := 0) (own_vo l Z a0 hw [] ch2 zc h495 n0 Z495 O495 pr2 pr3 b_ch2) hZ495 (own_k hw 33 rfl) (own_k hw 4 rfl) (by decide) (by decide)) (g := (mkF m 329 #[.val (.int p1), .val (.int p2), .val (.int p3), .val (.int p4), .val (.int p5), .val (.int nn), .val (.int kk), .val (.int f7), .val (.int f8), .val (.int m2), .val (.int cv), .val (.ref b354), .val (.ref b395), .val (.ref b436), .val (.ref y), .val (.ref u1), .unset, .unset, .unset, .unset] [(.int ch2)])) rfl hml.symm  (argsL := [(.int ch2)]) (rest := []) (lenOf own_pd19 rfl) rfl (own_w0 rfl rfl) (hb hby at_329) (fun _ _ => ⟨rfl, e495, (by decide : 13 + 2 ≤ 40), (by decide : 161 + 5 ≤ 3264)⟩)
                dsimp only [Pt.U, Pt.locs, Pt.cells, Pt.slots] at X1237 l1237 y1237 z1237 st1237 hQ1237
                subst l1237 y1237 z1237
                obtain ⟨y_1237, rfl, N1237, K1237_, P1238, P1239⟩ := hQ1237
                have N1240 := Fr.app N495 N1237
                have CR1241 : CHr Z own_EL s.vm h0 vm495 T1237.heap := CHr.trans CR495 (CHr.keep K1237_ sf0 CR495.1)
                have Z1242 : n0 ≤ T1237.heap.size := Nat.le_trans Z495 K1237_.1
                have hk1242 := Nat.le_trans hk495 K1237_.1
                have ne1243 : y ≠ y_1237 := Nat.ne_of_lt (Nat.lt_of_lt_of_le F496.lt P1239)
                have ne1244 : t ≠ y_1237 := Nat.ne_of_lt (Nat.lt_of_lt_of_le F499.lt P1239)
                have ne1245 : u1 ≠ y_1237 := Nat.ne_of_lt (Nat.lt_of_lt_of_le F500.lt P1239)
                have ge1246 : n0 ≤ y_1237 := Nat.le_trans Z495 P1239
                refine own_st (T' := T1237) (g' := (mkF m 332 #[.val (.int p1), .val (.int p2), .val (.int p3), .val (.int p4), .val (.int p5), .val (.int nn), .val (.int kk), .val (.int f7), .val (.int f8), .val (.int m2), .val (.int cv), .val (.ref b354), .val (.ref b395), .val (.ref b436), .val (.ref y), .val (.ref u1), .unset, .unset, .unset, .unset] [(.ref y_1237)])) st1237 ?_
                have F1247 : Old Z n0 T1237.heap := (Old.keep O495 K1237_ all0)
                have F1248 : Exa Z T1237.heap y "java/lang/String" := (Exa.keep F496 K1237_)
                have F1249 : Fld Z T1237.heap y "java/lang/String" "coder" "B" (.int 0) := (Fld.keep F497 K1237_ nin0)
                have F1250 : Fld Z T1237.heap y "java/lang/String" "value" "[B" (.ref t) := (Fld.keep F498 K1237_ nin0)
                have F1251 : Arv Z T1237.heap t kt .byte zz vl (.int 0) := (Arv.keep F499 K1237_ nin0)
                have F1252 : Exa Z T1237.heap u1 "java/lang/String" := (Exa.keep F500 K1237_)
                exact J501 _ _ _ _ _ y_1237 ⟨N1240, Z1242, F1247, CR1241, hS495, hk1242, hZ495, hown495, F1248, F1249, F1250, F1251, F1252, P1238⟩ (X1237.mono (by decide) (by decide)) rfl
              ·
                refine own_st (T' := T495) (g' := (mkF m 314 #[.val (.int p1), .val (.int p2), .val (.int p3), .val (.int p4), .val (.int p5), .val (.int nn), .val (.int kk), .val (.int f7), .val (.int f8), .val (.int m2), .val (.int cv), .val (.ref b354), .val (.ref b395), .val (.ref b436), .val (.ref y), .val (.ref u1), .unset, .unset, .unset, .unset] [])) (fun _ kt => XS.ifNo X495.here hx rfl (hb hby at_311) rfl (XT.i0_eq_f hc1236) kt) ?_
                obtain ⟨b1253, T1253, h1253, k1253, d1253, kd1253, X1253, e1253, E1253, hS1253, hk1253, hZ1253, hown1253, gE1253, gC1253, gV1253, gA1253, la1253, lb1253, hC1253, -, hsf1253, st1253⟩ := ldcCH X495 hx hZ495 hown495 (own_k hw 69 rfl) (own_wS hw) e495 hS495 hk495 (own_EW hw) (show ("com/example/tourwerk/tourwerk/problem/SolomonReaderRecognisesPinLaw", 15) ∈ own_EL by simp [own_EL]) CR495.1 (vs := [(.int 86), (.int 69), (.int 72), (.int 73), (.int 67), (.int 76), (.int 69)]) (z := (7 : Int32)) ⟨by decide +kernel, by first | rfl | decide +kernel⟩ (by decide) rfl (g := (mkF m 314 #[.val (.int p1), .val (.int p2), .val (.int p3), .val (.int p4), .val (.int p5), .val (.int nn), .val (.int kk), .val (.int f7), .val (.int f8), .val (.int m2), .val (.int cv), .val (.ref b354), .val (.ref b395), .val (.ref b436), .val (.ref y), .val (.ref u1), .unset, .unset, .unset, .unset] [])) rfl (hb hby at_314) (n := 28) (by decide +kernel) (by decide) (by decide) (by decide)
                have CR1254 : CHr Z own_EL s.vm h0 T1253.vm h1253 := CHr.trans CR495 hC1253
                have Z1255 : n0 ≤ h1253.size := Nat.le_trans Z495 E1253.1
                have hk1255 := Nat.le_trans hk495 E1253.1
                have F1256 : Exa Z h1253 y "java/lang/String" := (Exa.ext E1253 F496)
                have F1257 : Fld Z h1253 y "java/lang/String" "value" "[B" (.ref t) := (Fld.ext E1253 F498)
                have F1258 : Arv Z h1253 t kt .byte zz vl (.int 0) := (F499.ext E1253)
                have F1259 : Exa Z h1253 u1 "java/lang/String" := (Exa.ext E1253 F500)
                refine own_st (T' := T1253) (g' := (mkF m 316 #[.val (.int p1), .val (.int p2), .val (.int p3), .val (.int p4), .val (.int p5), .val (.int nn), .val (.int kk), .val (.int f7), .val (.int f8), .val (.int m2), .val (.int cv), .val (.ref b354), .val (.ref b395), .val (.ref b436), .val (.ref y), .val (.ref u1), .unset, .unset, .unset, .unset] [(.ref b1253)])) st1253 ?_
                refine own_st (T' := T1253) (g' := (mkF m 332 #[.val (.int p1), .val (.int p2), .val (.int p3), .val (.int p4), .val (.int p5), .val (.int nn), .val (.int kk), .val (.int f7), .val (.int f8), .val (.int m2), .val (.int cv), .val (.ref b354), .val (.ref b395), .val (.ref b436), .val (.ref y), .val (.ref u1), .unset, .unset, .unset, .unset] [(.ref b1253)])) (fun _ kt => XS.goto X1253.here hx rfl (pc0 := 316) (pc' := 332) rfl (hb hby at_316) (by decide) (by decide) kt) ?_
                have F1260 : Old Z n0 h1253 := (Old.ext O495 E1253)
                have F1261 : Fld Z h1253 y "java/lang/String" "coder" "B" (.int 0) := (Fld.ext E1253 F497)
                exact J501 _ _ _ _ _ b1253 ⟨N495, Z1255, F1260, CR1254, hS1253, hk1253, hZ1253, hown1253, F1256, F1261, F1257, F1258, F1259, gE1253⟩ (X1253.mono (by decide) (by decide)) e1253
          ·
            refine own_st (T' := T490) (g' := (mkF m 289 #[.val (.int p1), .val (.int p2), .val (.int p3), .val (.int p4), .val (.int p5), .val (.int nn), .val (.int kk), .val (.int f7), .val (.int f8), .val (.int m2), .val (.int cv), .val (.ref b354), .val (.ref b395), .val (.ref b436), .val (.ref y), .unset, .unset, .unset, .unset, .unset] [(.int f7)])) (fun _ kt => XS.iload X490.here hx rfl (hb hby at_287) rfl kt) ?_
            by_cases hc1262 : f7 = 0
            ·
              refine own_st (T' := T490) (g' := (mkF m 304 #[.val (.int p1), .val (.int p2), .val (.int p3), .val (.int p4), .val (.int p5), .val (.int nn), .val (.int kk), .val (.int f7), .val (.int f8), .val (.int m2), .val (.int cv), .val (.ref b354), .val (.ref b395), .val (.ref b436), .val (.ref y), .unset, .unset, .unset, .unset, .unset] [(.int ((p5 &&& (255 : Int32)).toUInt32.toUInt16.toUInt32.toInt32))])) (fun _ kt => XS.ifYes X490.here hx rfl (pc0 := 289) (pc' := 297) rfl (hb hby at_289) rfl (XT.i0_eq_t hc1262) (by decide) (by decide) (XS.iload X490.here hx rfl (hb hby at_297) rfl (XS.sipush X490.here hx rfl (hb hby at_299) (XS.iand X490.here hx rfl (hb hby at_302) rfl (XT.i2c X490.here hx rfl (hb hby at_303) rfl kt))))) ?_
              obtain ⟨ch1, hch1⟩ : ∃ z : Int32, z = ((p5 &&& (255 : Int32)).toUInt32.toUInt16.toUInt32.toInt32) := ⟨_, rfl⟩
              rw [← hch1]
              have b_ch1 : own_cc ch1 := hch1 ▸ own_mkc _
              obtain ⟨_, _, ⟨T1263, L1263, k1263, n1263⟩, -, X1263, ⟨Lc1263, hQ1263, l1263, y1263, z1263⟩, st1263⟩ := Jvm.LawKit.callS X490 hx (y := (⟨"java/lang/String", "valueOf", "(C)Ljava/lang/String;"⟩ : MethodName)) hown490 (mvT hZ490 (own_k hw 31 rfl)) (mvT hZ490 (own_k hw 32 rfl)) (mvT hZ490 (own_k hw 4 rfl)) (mvT hZ490 (own_k hw 33 rfl)) (by decide) (backOf (W := 0) (own_vo l Z a0 hw [] ch1 zc h490 n0 Z490 O490 pr2 pr3 b_ch1) hZ490 (own_k hw 33 rfl) (own_k hw 4 rfl) (by decide) (by decide)) (g := (mkF m 304 #[.val (.int p1), .val (.int p2), .val (.int p3), .val (.int p4), .val (.int p5), .val (.int nn), .val (.int kk), .val (.int f7), .val (.int f8), .val (.int m2), .val (.int cv), .val (.ref b354), .val (.ref b395), .val (.ref b436), .val (.ref y), .unset, .unset, .unset, .unset, .unset] [(.int ch1)])) rfl hml.symm  (argsL := [(.int ch1)]) (rest := []) (lenOf own_pd19 rfl) rfl (own_w0 rfl rfl) (hb hby at_304) (fun _ _ => ⟨rfl, e490, (by decide : 9 + 2 ≤ 40), (by decide : 101 + 5 ≤ 3264)⟩)
              dsimp only [Pt.U, Pt.locs, Pt.cells, Pt.slots] at X1263 l1263 y1263 z1263 st1263 hQ1263
              subst l1263 y1263 z1263
              obtain ⟨y_1263, rfl, N1263, K1263_, P1264, P1265⟩ := hQ1263
              have N1266 := Fr.app N490 N1263
              have CR1267 : CHr Z own_EL s.vm h0 vm490 T1263.heap := CHr.trans CR490 (CHr.keep K1263_ sf0 CR490.1)
              have Z1268 : n0 ≤ T1263.heap.size := Nat.le_trans Z490 K1263_.1
              have hk1268 := Nat.le_trans hk490 K1263_.1
              have ne1269 : y ≠ y_1263 := Nat.ne_of_lt (Nat.lt_of_lt_of_le F491.lt P1265)
              have ne1270 : t ≠ y_1263 := Nat.ne_of_lt (Nat.lt_of_lt_of_le F494.lt P1265)
              have ge1271 : n0 ≤ y_1263 := Nat.le_trans Z490 P1265
              refine own_st (T' := T1263) (g' := (mkF m 307 #[.val (.int p1), .val (.int p2), .val (.int p3), .val (.int p4), .val (.int p5), .val (.int nn), .val (.int kk), .val (.int f7), .val (.int f8), .val (.int m2), .val (.int cv), .val (.ref b354), .val (.ref b395), .val (.ref b436), .val (.ref y), .unset, .unset, .unset, .unset, .unset] [(.ref y_1263)])) st1263 ?_
              have F1272 : Old Z n0 T1263.heap := (Old.keep O490 K1263_ all0)
              have F1273 : Exa Z T1263.heap y "java/lang/String" := (Exa.keep F491 K1263_)
              have F1274 : Fld Z T1263.heap y "java/lang/String" "coder" "B" (.int 0) := (Fld.keep F492 K1263_ nin0)
              have F1275 : Fld Z T1263.heap y "java/lang/String" "value" "[B" (.ref t) := (Fld.keep F493 K1263_ nin0)
              have F1276 : Arv Z T1263.heap t kt .byte zz vl (.int 0) := (Arv.keep F494 K1263_ nin0)
              exact J495 _ _ _ _ _ y_1263 ⟨N1266, Z1268, F1272, CR1267, hS490, hk1268, hZ490, hown490, F1273, F1274, F1275, F1276, P1264⟩ (X1263.mono (by decide) (by decide)) rfl
            ·
              refine own_st (T' := T490) (g' := (mkF m 292 #[.val (.int p1), .val (.int p2), .val (.int p3), .val (.int p4), .val (.int p5), .val (.int nn), .val (.int kk), .val (.int f7), .val (.int f8), .val (.int m2), .val (.int cv), .val (.ref b354), .val (.ref b395), .val (.ref b436), .val (.ref y), .unset, .unset, .unset, .unset, .unset] [])) (fun _ kt => XS.ifNo X490.here hx rfl (hb hby at_289) rfl (XT.i0_eq_f hc1262) kt) ?_
              obtain ⟨b1277, T1277, h1277, k1277, d1277, kd1277, X1277, e1277, E1277, hS1277, hk1277, hZ1277, hown1277, gE1277, gC1277, gV1277, gA1277, la1277, lb1277, hC1277, -, hsf1277, st1277⟩ := ldcCH X490 hx hZ490 hown490 (own_k hw 69 rfl) (own_wS hw) e490 hS490 hk490 (own_EW hw) (show ("com/example/tourwerk/tourwerk/problem/SolomonReaderRecognisesPinLaw", 15) ∈ own_EL by simp [own_EL]) CR490.1 (vs := [(.int 86), (.int 69), (.int 72), (.int 73), (.int 67), (.int 76), (.int 69)]) (z := (7 : Int32)) ⟨by decide +kernel, by first | rfl | decide +kernel⟩ (by decide) rfl (g := (mkF m 292 #[.val (.int p1), .val (.int p2), .val (.int p3), .val (.int p4), .val (.int p5), .val (.int nn), .val (.int kk), .val (.int f7), .val (.int f8), .val (.int m2), .val (.int cv), .val (.ref b354), .val (.ref b395), .val (.ref b436), .val (.ref y), .unset, .unset, .unset, .unset, .unset] [])) rfl (hb hby at_292) (n := 28) (by decide +kernel) (by decide) (by decide) (by decide)
              have CR1278 : CHr Z own_EL s.vm h0 T1277.vm h1277 := CHr.trans CR490 hC1277
              have Z1279 : n0 ≤ h1277.size := Nat.le_trans Z490 E1277.1
              have hk1279 := Nat.le_trans hk490 E1277.1
              have F1280 : Exa Z h1277 y "java/lang/String" := (Exa.ext E1277 F491)
              have F1281 : Fld Z h1277 y "java/lang/String" "value" "[B" (.ref t) := (Fld.ext E1277 F493)
              have F1282 : Arv Z h1277 t kt .byte zz vl (.int 0) := (F494.ext E1277)
              refine own_st (T' := T1277) (g' := (mkF m 294 #[.val (.int p1), .val (.int p2), .val (.int p3), .val (.int p4), .val (.int p5), .val (.int nn), .val (.int kk), .val (.int f7), .val (.int f8), .val (.int m2), .val (.int cv), .val (.ref b354), .val (.ref b395), .val (.ref b436), .val (.ref y), .unset, .unset, .unset, .unset, .unset] [(.ref b1277)])) st1277 ?_
              refine own_st (T' := T1277) (g' := (mkF m 307 #[.val (.int p1), .val (.int p2), .val (.int p3), .val (.int p4), .val (.int p5), .val (.int nn), .val (.int kk), .val (.int f7), .val (.int f8), .val (.int m2), .val (.int cv), .val (.ref b354), .val (.ref b395), .val (.ref b436), .val (.ref y), .unset, .unset, .unset, .unset, .unset] [(.ref b1277)])) (fun _ kt => XS.goto X1277.here hx rfl (pc0 := 294) (pc' := 307) rfl (hb hby at_294) (by decide) (by decide) kt) ?_
              have F1283 : Old Z n0 h1277 := (Old.ext O490 E1277)
              have F1284 : Fld Z h1277 y "java/lang/String" "coder" "B" (.int 0) := (Fld.ext E1277 F492)
              exact J495 _ _ _ _ _ b1277 ⟨N490, Z1279, F1283, CR1278, hS1277, hk1277, hZ1277, hown1277, F1280, F1284, F1281, F1282, gE1277⟩ (X1277.mono (by decide) (by decide)) e1277
        ·
          refine own_st (T' := T485) (g' := (mkF m 232 #[.val (.int p1), .val (.int p2), .val (.int p3), .val (.int p4), .val (.int p5), .val (.int nn), .val (.int kk), .val (.int f7), .val (.int f8), .val (.int m2), .val (.int cv), .val (.ref b354), .val (.ref b395), .val (.ref b436), .unset, .unset, .unset, .unset, .unset, .unset] [(.int kk)])) (fun _ kt => XS.iload X485.here hx rfl (hb hby at_230) rfl kt) ?_
          by_cases hc1285 : kk = 0
          ·
            refine own_st (T' := T485) (g' := (mkF m 235 #[.val (.int p1), .val (.int p2), .val (.int p3), .val (.int p4), .val (.int p5), .val (.int nn), .val (.int kk), .val (.int f7), .val (.int f8), .val (.int m2), .val (.int cv), .val (.ref b354), .val (.ref b395), .val (.ref b436), .unset, .unset, .unset, .unset, .unset, .unset] [])) (fun _ kt => XS.ifNo X485.here hx rfl (hb hby at_232) rfl (XT.i0_ne_f hc1285) kt) ?_
            obtain ⟨T1286, h1286, X1286, e1286, E1286, A1286, D1286, -, st1286⟩ := newO X485 hx hZ393 hown393 (own_k hw 2 rfl) (own_k hw 3 rfl) (own_k hw 4 rfl) e485 (g := (mkF m 235 #[.val (.int p1), .val (.int p2), .val (.int p3), .val (.int p4), .val (.int p5), .val (.int nn), .val (.int kk), .val (.int f7), .val (.int f8), .val (.int m2), .val (.int cv), .val (.ref b354), .val (.ref b395), .val (.ref b436), .unset, .unset, .unset, .unset, .unset, .unset] [])) rfl (hb hby at_235) (by decide) (by decide)
            obtain ⟨b1286, g1286⟩ : ∃ z, z = h485.size := ⟨_, rfl⟩
            rw [← g1286] at A1286 D1286 st1286
            have F1287 : Arv Z h485 b354 k354 .char (7 : Int32) [(.int x0), (.int x1), (.int x2), (.int x3), (.int x4), (.int x5), (.int x6)] (.int 0) := (Arv.other (Arv.other F479 W480 ne438) W485 ne438)
            have ne1288 : b354 ≠ b1286 := by rw [g1286]; exact Nat.ne_of_lt F1287.lt
            have F1289 : Arv Z h485 b395 k395 .char (6 : Int32) [(.int x0), (.int x1), (.int x2), (.int x3), (.int x4), (.int x5)] (.int 0) := (Arv.other (Arv.other (Arv.other (Arv.other (Arv.other (Arv.other (Arv.other (Arv.other (F435.ext E436) W445 ne439) W450 ne439) W456 ne439) W462 ne439) W468 ne439) W474 ne439) W480 ne439) W485 ne439)
            have ne1290 : b395 ≠ b1286 := by rw [g1286]; exact Nat.ne_of_lt F1289.lt
            have ne1291 : b436 ≠ b1286 := by rw [g1286]; exact Nat.ne_of_lt F489.lt
            have CR1292 : CHr Z own_EL s.vm h0 vm393 h1286 := CHr.trans CR487 (CHr.ext E1286 CR487.1)
            have Z1293 : n0 ≤ h1286.size := Nat.le_trans Z488 E1286.1
            have hk1293 := Nat.le_trans hk488 E1286.1
            have ge_b1286 : n0 ≤ b1286 := Nat.le_trans Z488 (Nat.le_of_eq g1286.symm)
            have S1294 : Safe Z own_EL vm393 h1286 b1286 := (Safe.ext E1286 CR487.1 (Safe.new (Nat.le_of_eq g1286.symm)))
            have F1295 : Fld Z h1286 b1286 "java/lang/String" "coder" "B" (.int 0) := D1286 (Or.inr (own_k hw 28 rfl)) (ty := .byte) (by decide)
            have F1296 : Fld Z h1286 b1286 "java/lang/String" "value" "[B" .null := D1286 (Or.inr (own_k hw 30 rfl)) (ty := (.array .byte)) (by decide)
            refine own_st (T' := T1286) (g' := (mkF m 238 #[.val (.int p1), .val (.int p2), .val (.int p3), .val (.int p4), .val (.int p5), .val (.int nn), .val (.int kk), .val (.int f7), .val (.int f8), .val (.int m2), .val (.int cv), .val (.ref b354), .val (.ref b395), .val (.ref b436), .unset, .unset, .unset, .unset, .unset, .unset] [(.ref b1286)])) st1286 ?_
            refine own_st (T' := T1286) (g' := (mkF m 241 #[.val (.int p1), .val (.int p2), .val (.int p3), .val (.int p4), .val (.int p5), .val (.int nn), .val (.int kk), .val (.int f7), .val (.int f8), .val (.int m2), .val (.int cv), .val (.ref b354), .val (.ref b395), .val (.ref b436), .unset, .unset, .unset, .unset, .unset, .unset] [(.ref b354), (.ref b1286), (.ref b1286)])) (fun _ kt => XS.dup X1286.here hx rfl (hb hby at_238) rfl rfl (XS.aload X1286.here hx rfl (hb hby at_239) rfl rfl kt)) ?_
            have F1297 : Arv Z h1286 b354 k354 .char (7 : Int32) [(.int x0), (.int x1), (.int x2), (.int x3), (.int x4), (.int x5), (.int x6)] (.int 0) := (F1287.ext E1286)
            have F1298 : Old Z n0 h1286 := (Old.ext (Old.wr (Old.wr (Old.wr (Old.wr (Old.wr (Old.wr (Old.wr (Old.wr (Old.ext (Old.wr (Old.wr (Old.wr (Old.wr (Old.wr (Old.wr (Old.ext O393 E395) W402 ge_b395) W407 ge_b395) W413 ge_b395) W419 ge_b395) W425 ge_b395) W431 ge_b395) E436) W445 ge_b436) W450 ge_b436) W456 ge_b436) W462 ge_b436) W468 ge_b436) W474 ge_b436) W480 ge_b436) W485 ge_b436) E1286)
            obtain ⟨_, _, ⟨T1299, L1299, k1299, n1299⟩, -, X1299, ⟨Lc1299, hQ1299, l1299, y1299, z1299⟩, st1299⟩ := X1286.specialBack hx (y := (⟨"java/lang/String", "<init>", "([C)V"⟩ : MethodName)) rfl hown393 (mvT hZ393 (own_k hw 5 rfl)) (mvT hZ393 (own_k hw 6 rfl)) (mvT hZ393 (own_k hw 7 rfl)) (by decide) (StrChars.Road.backV (W := 1) hZ393 (own_hws hw) (kI := 4) (own_k hw 3 rfl) (cs := ([x0, x1, x2, x3, x4, x5, x6] : List Int32)) (bs := (([x0, x1, x2, x3, x4, x5, x6] : List Int32)).map (fun c => c.toInt8.toInt32)) (n := 7) ge_b1286 Z1293 A1286 F1296 F1295 F1297 (Sta.ext F1298.2 pr2) pr3 rfl rfl (by decide) (by decide) (by intro c hc; simp only [List.mem_cons, List.not_mem_nil, or_false] at hc; rcases hc with rfl | rfl | rfl | rfl | rfl | rfl | rfl <;> first | exact ⟨hx0.1, hx0.2.1⟩ | exact ⟨hx1.1, hx1.2.1⟩ | exact ⟨hx2.1, hx2.2.1⟩ | exact ⟨hx3.1, hx3.2.1⟩ | exact ⟨hx4.1, hx4.2.1⟩ | exact ⟨hx5.1, hx5.2.1⟩ | exact ⟨hx6.1, hx6.2.1⟩) rfl (by decide) (by decide)) (g := (mkF m 241 #[.val (.int p1), .val (.int p2), .val (.int p3), .val (.int p4), .val (.int p5), .val (.int nn), .val (.int kk), .val (.int f7), .val (.int f8), .val (.int m2), .val (.int cv), .val (.ref b354), .val (.ref b395), .val (.ref b436), .unset, .unset, .unset, .unset, .unset, .unset] [(.ref b354), (.ref b1286), (.ref b1286)])) rfl hml.symm (Steps.refl _) (a := b1286) (argsL := [(.ref b354)]) (rest := [(.ref b1286)]) (lenOf own_pd20 rfl) rfl (own_w0 rfl rfl) (hb hby at_241) (fun _ _ => ⟨rfl, e1286, (by decide : 4 + 1 ≤ 40), (by decide : 25 + 7 ≤ 3264)⟩)
            dsimp only [Pt.U, Pt.locs, Pt.cells, Pt.slots] at X1299 l1299 y1299 z1299 st1299 hQ1299
            subst l1299 y1299 z1299
            obtain ⟨rfl, N1299, K1299_, gE1299, gC1299, t1299, kb1299, gt1299, hz1299, ht1299, gV1299, gA1299⟩ := hQ1299
            have N1300 := Fr.app N485 N1299
            have CR1301 : CHr Z own_EL s.vm h0 vm393 T1299.heap := CHr.trans CR1292 (CHr.keep K1299_ (sfS S1294 sf0) CR1292.1)
            have Z1302 : n0 ≤ T1299.heap.size := Nat.le_trans Z1293 K1299_.1
            have hk1302 := Nat.le_trans hk1293 K1299_.1
            have ne1303 : b354 ≠ t1299 := Nat.ne_of_lt (Nat.lt_of_lt_of_le F1297.lt hz1299)
            have F1304 : Arv Z h1286 b395 k395 .char (6 : Int32) [(.int x0), (.int x1), (.int x2), (.int x3), (.int x4), (.int x5)] (.int 0) := (F1289.ext E1286)
            have ne1305 : b395 ≠ t1299 := Nat.ne_of_lt (Nat.lt_of_lt_of_le F1304.lt hz1299)
            have F1306 : Arv Z h1286 b436 k436 .char (8 : Int32) [(.int x0), (.int x1), (.int x2), (.int x3), (.int x4), (.int x5), (.int x6), (.int dv)] (.int 0) := (F489.ext E1286)
            have ne1307 : b436 ≠ t1299 := Nat.ne_of_lt (Nat.lt_of_lt_of_le F1306.lt hz1299)
            have ne1308 : b1286 ≠ t1299 := Nat.ne_of_lt (Nat.lt_of_lt_of_le A1286.lt hz1299)
            refine own_tr (T' := T1299) (g' := (mkF m 244 #[.val (.int p1), .val (.int p2), .val (.int p3), .val (.int p4), .val (.int p5), .val (.int nn), .val (.int kk), .val (.int f7), .val (.int f8), .val (.int m2), .val (.int cv), .val (.ref b354), .val (.ref b395), .val (.ref b436), .unset, .unset, .unset, .unset, .unset, .unset] [(.ref b1286)])) st1299 ?_
            refine own_st (T' := T1299) (g' := (mkF m 285 #[.val (.int p1), .val (.int p2), .val (.int p3), .val (.int p4), .val (.int p5), .val (.int nn), .val (.int kk), .val (.int f7), .val (.int f8), .val (.int m2), .val (.int cv), .val (.ref b354), .val (.ref b395), .val (.ref b436), .unset, .unset, .unset, .unset, .unset, .unset] [(.ref b1286)])) (fun _ kt => XS.goto X1299.here hx rfl (pc0 := 244) (pc' := 285) rfl (hb hby at_244) (by decide) (by decide) kt) ?_
            have F1309 : Old Z n0 T1299.heap := (Old.keep F1298 K1299_ (allS ge_b1286 all0))
            exact J490 _ _ _ _ _ ⟨b1286, t1299, kb1299, (7 : Int32), [(.int x0.toInt8.toInt32), (.int x1.toInt8.toInt32), (.int x2.toInt8.toInt32), (.int x3.toInt8.toInt32), (.int x4.toInt8.toInt32), (.int x5.toInt8.toInt32), (.int x6.toInt8.toInt32)], (own_m7 x0 x1 x2 x3 x4 x5 x6)⟩ ⟨N1300, Z1302, F1309, CR1301, hS393, hk1302, hZ393, hown393, gE1299, gC1299, gV1299, gA1299, ⟨(Or.inl ⟨hc1285, rfl⟩), (Or.inl ⟨rfl, rfl, rfl⟩)⟩⟩ (X1299.mono (by decide) (by decide)) rfl
          ·
            refine own_st (T' := T485) (g' := (mkF m 250 #[.val (.int p1), .val (.int p2), .val (.int p3), .val (.int p4), .val (.int p5), .val (.int nn), .val (.int kk), .val (.int f7), .val (.int f8), .val (.int m2), .val (.int cv), .val (.ref b354), .val (.ref b395), .val (.ref b436), .unset, .unset, .unset, .unset, .unset, .unset] [(.int 1), (.int kk)])) (fun _ kt => XS.ifYes X485.here hx rfl (pc0 := 232) (pc' := 247) rfl (hb hby at_232) rfl (XT.i0_ne_t hc1285) (by decide) (by decide) (XS.iload X485.here hx rfl (hb hby at_247) rfl (XS.iconst X485.here hx rfl (hb hby at_249) kt))) ?_
            by_cases hc1310 : kk = (1 : Int32)
            ·
              refine own_st (T' := T485) (g' := (mkF m 253 #[.val (.int p1), .val (.int p2), .val (.int p3), .val (.int p4), .val (.int p5), .val (.int nn), .val (.int kk), .val (.int f7), .val (.int f8), .val (.int m2), .val (.int cv), .val (.ref b354), .val (.ref b395), .val (.ref b436), .unset, .unset, .unset, .unset, .unset, .unset] [])) (fun _ kt => XS.icmpNo X485.here hx rfl (hb hby at_250) rfl (XT.ii_ne_f hc1310) kt) ?_
              obtain ⟨T1311, h1311, X1311, e1311, E1311, A1311, D1311, -, st1311⟩ := newO X485 hx hZ393 hown393 (own_k hw 2 rfl) (own_k hw 3 rfl) (own_k hw 4 rfl) e485 (g := (mkF m 253 #[.val (.int p1), .val (.int p2), .val (.int p3), .val (.int p4), .val (.int p5), .val (.int nn), .val (.int kk), .val (.int f7), .val (.int f8), .val (.int m2), .val (.int cv), .val (.ref b354), .val (.ref b395), .val (.ref b436), .unset, .unset, .unset, .unset, .unset, .unset] [])) rfl (hb hby at_253) (by decide) (by decide)
              obtain ⟨b1311, g1311⟩ : ∃ z, z = h485.size := ⟨_, rfl⟩
              rw [← g1311] at A1311 D1311 st1311
              have F1312 : Arv Z h485 b354 k354 .char (7 : Int32) [(.int x0), (.int x1), (.int x2), (.int x3), (.int x4), (.int x5), (.int x6)] (.int 0) := (Arv.other (Arv.other F479 W480 ne438) W485 ne438)
              have ne1313 : b354 ≠ b1311 := by rw [g1311]; exact Nat.ne_of_lt F1312.lt
              have F1314 : Arv Z h485 b395 k395 .char (6 : Int32) [(.int x0), (.int x1), (.int x2), (.int x3), (.int x4), (.int x5)] (.int 0) := (Arv.other (Arv.other (Arv.other (Arv.other (Arv.other (Arv.other (Arv.other (Arv.other (F435.ext E436) W445 ne439) W450 ne439) W456 ne439) W462 ne439) W468 ne439) W474 ne439) W480 ne439) W485 ne439)
              have ne1315 : b395 ≠ b1311 := by rw [g1311]; exact Nat.ne_of_lt F1314.lt
              have ne1316 : b436 ≠ b1311 := by rw [g1311]; exact Nat.ne_of_lt F489.lt
              have CR1317 : CHr Z own_EL s.vm h0 vm393 h1311 := CHr.trans CR487 (CHr.ext E1311 CR487.1)
              have Z1318 : n0 ≤ h1311.size := Nat.le_trans Z488 E1311.1
              have hk1318 := Nat.le_trans hk488 E1311.1
              have ge_b1311 : n0 ≤ b1311 := Nat.le_trans Z488 (Nat.le_of_eq g1311.symm)
              have S1319 : Safe Z own_EL vm393 h1311 b1311 := (Safe.ext E1311 CR487.1 (Safe.new (Nat.le_of_eq g1311.symm)))
              have F1320 : Fld Z h1311 b1311 "java/lang/String" "coder" "B" (.int 0) := D1311 (Or.inr (own_k hw 28 rfl)) (ty := .byte) (by decide)
              have F1321 : Fld Z h1311 b1311 "java/lang/String" "value" "[B" .null := D1311 (Or.inr (own_k hw 30 rfl)) (ty := (.array .byte)) (by decide)
              refine own_st (T' := T1311) (g' := (mkF m 256 #[.val (.int p1), .val (.int p2), .val (.int p3), .val (.int p4), .val (.int p5), .val (.int nn), .val (.int kk), .val (.int f7), .val (.int f8), .val (.int m2), .val (.int cv), .val (.ref b354), .val (.ref b395), .val (.ref b436), .unset, .unset, .unset, .unset, .unset, .unset] [(.ref b1311)])) st1311 ?_
              refine own_st (T' := T1311) (g' := (mkF m 259 #[.val (.int p1), .val (.int p2), .val (.int p3), .val (.int p4), .val (.int p5), .val (.int nn), .val (.int kk), .val (.int f7), .val (.int f8), .val (.int m2), .val (.int cv), .val (.ref b354), .val (.ref b395), .val (.ref b436), .unset, .unset, .unset, .unset, .unset, .unset] [(.ref b395), (.ref b1311), (.ref b1311)])) (fun _ kt => XS.dup X1311.here hx rfl (hb hby at_256) rfl rfl (XS.aload X1311.here hx rfl (hb hby at_257) rfl rfl kt)) ?_
              have F1322 : Arv Z h1311 b395 k395 .char (6 : Int32) [(.int x0), (.int x1), (.int x2), (.int x3), (.int x4), (.int x5)] (.int 0) := (F1314.ext E1311)
              have F1323 : Old Z n0 h1311 := (Old.ext (Old.wr (Old.wr (Old.wr (Old.wr (Old.wr (Old.wr (Old.wr (Old.wr (Old.ext (Old.wr (Old.wr (Old.wr (Old.wr (Old.wr (Old.wr (Old.ext O393 E395) W402 ge_b395) W407 ge_b395) W413 ge_b395) W419 ge_b395) W425 ge_b395) W431 ge_b395) E436) W445 ge_b436) W450 ge_b436) W456 ge_b436) W462 ge_b436) W468 ge_b436) W474 ge_b436) W480 ge_b436) W485 ge_b436) E1311)
              obtain ⟨_, _, ⟨T1324, L1324, k1324, n1324⟩, -, X1324, ⟨Lc1324, hQ1324, l1324, y1324, z1324⟩, st1324⟩ := X1311.specialBack hx (y := (⟨"java/lang/String", "<init>", "([C)V"⟩ : MethodName)) rfl hown393 (mvT hZ393 (own_k hw 5 rfl)) (mvT hZ393 (own_k hw 6 rfl)) (mvT hZ393 (own_k hw 7 rfl)) (by decide) (StrChars.Road.backV (W := 1) hZ393 (own_hws hw) (kI := 4) (own_k hw 3 rfl) (cs := ([x0, x1, x2, x3, x4, x5] : List Int32)) (bs := (([x0, x1, x2, x3, x4, x5] : List Int32)).map (fun c => c.toInt8.toInt32)) (n := 6) ge_b1311 Z1318 A1311 F1321 F1320 F1322 (Sta.ext F1323.2 pr2) pr3 rfl rfl (by decide) (by decide) (by intro c hc; simp only [List.mem_cons, List.not_mem_nil, or_false] at hc; rcases hc with rfl | rfl | rfl | rfl | rfl | rfl <;> first | exact ⟨hx0.1, hx0.2.1⟩ | exact ⟨hx1.1, hx1.2.1⟩ | exact ⟨hx2.1, hx2.2.1⟩ | exact ⟨hx3.1, hx3.2.1⟩ | exact ⟨hx4.1, hx4.2.1⟩ | exact ⟨hx5.1, hx5.2.1⟩) rfl (by decide) (by decide)) (g := (mkF m 259 #[.val (.int p1), .val (.int p2), .val (.int p3), .val (.int p4), .val (.int p5), .val (.int nn), .val (.int kk), .val (.int f7), .val (.int f8), .val (.int m2), .val (.int cv), .val (.ref b354), .val (.ref b395), .val (.ref b436), .unset, .unset, .unset, .unset, .unset, .unset] [(.ref b395), (.ref b1311), (.ref b1311)])) rfl hml.symm (Steps.refl _) (a := b1311) (argsL := [(.ref b395)]) (rest := [(.ref b1311)]) (lenOf own_pd20 rfl) rfl (own_w0 rfl rfl) (hb hby at_259) (fun _ _ => ⟨rfl, e1311, (by decide : 4 + 1 ≤ 40), (by decide : 25 + 6 ≤ 3264)⟩)
              dsimp only [Pt.U, Pt.locs, Pt.cells, Pt.slots] at X1324 l1324 y1324 z1324 st1324 hQ1324
              subst l1324 y1324 z1324
              obtain ⟨rfl, N1324, K1324_, gE1324, gC1324, t1324, kb1324, gt1324, hz1324, ht1324, gV1324, gA1324⟩ := hQ1324
              have N1325 := Fr.app N485 N1324
              have CR1326 : CHr Z own_EL s.vm h0 vm393 T1324.heap := CHr.trans CR1317 (CHr.keep K1324_ (sfS S1319 sf0) CR1317.1)
              have Z1327 : n0 ≤ T1324.heap.size := Nat.le_trans Z1318 K1324_.1
              have hk1327 := Nat.le_trans hk1318 K1324_.1
              have F1328 : Arv Z h1311 b354 k354 .char (7 : Int32) [(.int x0), (.int x1), (.int x2), (.int x3), (.int x4), (.int x5), (.int x6)] (.int 0) := (F1312.ext E1311)
              have ne1329 : b354 ≠ t1324 := Nat.ne_of_lt (Nat.lt_of_lt_of_le F1328.lt hz1324)
              have ne1330 : b395 ≠ t1324 := Nat.ne_of_lt (Nat.lt_of_lt_of_le F1322.lt hz1324)
              have F1331 : Arv Z h1311 b436 k436 .char (8 : Int32) [(.int x0), (.int x1), (.int x2), (.int x3), (.int x4), (.int x5), (.int x6), (.int dv)] (.int 0) := (F489.ext E1311)
              have ne1332 : b436 ≠ t1324 := Nat.ne_of_lt (Nat.lt_of_lt_of_le F1331.lt hz1324)
              have ne1333 : b1311 ≠ t1324 := Nat.ne_of_lt (Nat.lt_of_lt_of_le A1311.lt hz1324)
              refine own_tr (T' := T1324) (g' := (mkF m 262 #[.val (.int p1), .val (.int p2), .val (.int p3), .val (.int p4), .val (.int p5), .val (.int nn), .val (.int kk), .val (.int f7), .val (.int f8), .val (.int m2), .val (.int cv), .val (.ref b354), .val (.ref b395), .val (.ref b436), .unset, .unset, .unset, .unset, .unset, .unset] [(.ref b1311)])) st1324 ?_
              refine own_st (T' := T1324) (g' := (mkF m 285 #[.val (.int p1), .val (.int p2), .val (.int p3), .val (.int p4), .val (.int p5), .val (.int nn), .val (.int kk), .val (.int f7), .val (.int f8), .val (.int m2), .val (.int cv), .val (.ref b354), .val (.ref b395), .val (.ref b436), .unset, .unset, .unset, .unset, .unset, .unset] [(.ref b1311)])) (fun _ kt => XS.goto X1324.here hx rfl (pc0 := 262) (pc' := 285) rfl (hb hby at_262) (by decide) (by decide) kt) ?_
              have F1334 : Old Z n0 T1324.heap := (Old.keep F1323 K1324_ (allS ge_b1311 all0))
              exact J490 _ _ _ _ _ ⟨b1311, t1324, kb1324, (6 : Int32), [(.int x0.toInt8.toInt32), (.int x1.toInt8.toInt32), (.int x2.toInt8.toInt32), (.int x3.toInt8.toInt32), (.int x4.toInt8.toInt32), (.int x5.toInt8.toInt32)], (0 : Int32)⟩ ⟨N1325, Z1327, F1334, CR1326, hS393, hk1327, hZ393, hown393, gE1324, gC1324, gV1324, gA1324, ⟨(Or.inr ⟨hc1285, rfl⟩), (Or.inr (Or.inl ⟨own_n67, rfl⟩))⟩⟩ (X1324.mono (by decide) (by decide)) rfl
            ·
              refine own_st (T' := T485) (g' := (mkF m 268 #[.val (.int p1), .val (.int p2), .val (.int p3), .val (.int p4), .val (.int p5), .val (.int nn), .val (.int kk), .val (.int f7), .val (.int f8), .val (.int m2), .val (.int cv), .val (.ref b354), .val (.ref b395), .val (.ref b436), .unset, .unset, .unset, .unset, .unset, .unset] [(.int 2), (.int kk)])) (fun _ kt => XS.icmpYes X485.here hx rfl (pc0 := 250) (pc' := 265) rfl (hb hby at_250) rfl (XT.ii_ne_t hc1310) (by decide) (by decide) (XS.iload X485.here hx rfl (hb hby at_265) rfl (XS.iconst X485.here hx rfl (hb hby at_267) kt))) ?_
              by_cases hc1335 : kk = (2 : Int32)
              ·
                refine own_st (T' := T485) (g' := (mkF m 271 #[.val (.int p1), .val (.int p2), .val (.int p3), .val (.int p4), .val (.int p5), .val (.int nn), .val (.int kk), .val (.int f7), .val (.int f8), .val (.int m2), .val (.int cv), .val (.ref b354), .val (.ref b395), .val (.ref b436), .unset, .unset, .unset, .unset, .unset, .unset] [])) (fun _ kt => XS.icmpNo X485.here hx rfl (hb hby at_268) rfl (XT.ii_ne_f hc1335) kt) ?_
                obtain ⟨T1336, h1336, X1336, e1336, E1336, A1336, D1336, -, st1336⟩ := newO X485 hx hZ393 hown393 (own_k hw 2 rfl) (own_k hw 3 rfl) (own_k hw 4 rfl) e485 (g := (mkF m 271 #[.val (.int p1), .val (.int p2), .val (.int p3), .val (.int p4), .val (.int p5), .val (.int nn), .val (.int kk), .val (.int f7), .val (.int f8), .val (.int m2), .val (.int cv), .val (.ref b354), .val (.ref b395), .val (.ref b436), .unset, .unset, .unset, .unset, .unset, .unset] [])) rfl (hb hby at_271) (by decide) (by decide)
                obtain ⟨b1336, g1336⟩ : ∃ z, z = h485.size := ⟨_, rfl⟩
                rw [← g1336] at A1336 D1336 st1336
                have F1337 : Arv Z h485 b354 k354 .char (7 : Int32) [(.int x0), (.int x1), (.int x2), (.int x3), (.int x4), (.int x5), (.int x6)] (.int 0) := (Arv.other (Arv.other F479 W480 ne438) W485 ne438)
                have ne1338 : b354 ≠ b1336 := by rw [g1336]; exact Nat.ne_of_lt F1337.lt
                have F1339 : Arv Z h485 b395 k395 .char (6 : Int32) [(.int x0), (.int x1), (.int x2), (.int x3), (.int x4), (.int x5)] (.int 0) := (Arv.other (Arv.other (Arv.other (Arv.other (Arv.other (Arv.other (Arv.other (Arv.other (F435.ext E436) W445 ne439) W450 ne439) W456 ne439) W462 ne439) W468 ne439) W474 ne439) W480 ne439) W485 ne439)
                have ne1340 : b395 ≠ b1336 := by rw [g1336]; exact Nat.ne_of_lt F1339.lt
                have ne1341 : b436 ≠ b1336 := by rw [g1336]; exact Nat.ne_of_lt F489.lt
                have CR1342 : CHr Z own_EL s.vm h0 vm393 h1336 := CHr.trans CR487 (CHr.ext E1336 CR487.1)
                have Z1343 : n0 ≤ h1336.size := Nat.le_trans Z488 E1336.1
                have hk1343 := Nat.le_trans hk488 E1336.1
                have ge_b1336 : n0 ≤ b1336 := Nat.le_trans Z488 (Nat.le_of_eq g1336.symm)
                have S1344 : Safe Z own_EL vm393 h1336 b1336 := (Safe.ext E1336 CR487.1 (Safe.new (Nat.le_of_eq g1336.symm)))
                have F1345 : Fld Z h1336 b1336 "java/lang/String" "coder" "B" (.int 0) := D1336 (Or.inr (own_k hw 28 rfl)) (ty := .byte) (by decide)
                have F1346 : Fld Z h1336 b1336 "java/lang/String" "value" "[B" .null := D1336 (Or.inr (own_k hw 30 rfl)) (ty := (.array .byte)) (by decide)
                refine own_st (T' := T1336) (g' := (mkF m 274 #[.val (.int p1), .val (.int p2), .val (.int p3), .val (.int p4), .val (.int p5), .val (.int nn), .val (.int kk), .val (.int f7), .val (.int f8), .val (.int m2), .val (.int cv), .val (.ref b354), .val (.ref b395), .val (.ref b436), .unset, .unset, .unset, .unset, .unset, .unset] [(.ref b1336)])) st1336 ?_
                refine own_st (T' := T1336) (g' := (mkF m 277 #[.val (.int p1), .val (.int p2), .val (.int p3), .val (.int p4), .val (.int p5), .val (.int nn), .val (.int kk), .val (.int f7), .val (.int f8), .val (.int m2), .val (.int cv), .val (.ref b354), .val (.ref b395), .val (.ref b436), .unset, .unset, .unset, .unset, .unset, .unset] [(.ref b436), (.ref b1336), (.ref b1336)])) (fun _ kt => XS.dup X1336.here hx rfl (hb hby at_274) rfl rfl (XS.aload X1336.here hx rfl (hb hby at_275) rfl rfl kt)) ?_
                have F1347 : Arv Z h1336 b436 k436 .char (8 : Int32) [(.int x0), (.int x1), (.int x2), (.int x3), (.int x4), (.int x5), (.int x6), (.int dv)] (.int 0) := (F489.ext E1336)
                have F1348 : Old Z n0 h1336 := (Old.ext (Old.wr (Old.wr (Old.wr (Old.wr (Old.wr (Old.wr (Old.wr (Old.wr (Old.ext (Old.wr (Old.wr (Old.wr (Old.wr (Old.wr (Old.wr (Old.ext O393 E395) W402 ge_b395) W407 ge_b395) W413 ge_b395) W419 ge_b395) W425 ge_b395) W431 ge_b395) E436) W445 ge_b436) W450 ge_b436) W456 ge_b436) W462 ge_b436) W468 ge_b436) W474 ge_b436) W480 ge_b436) W485 ge_b436) E1336)
                obtain ⟨_, _, ⟨T1349, L1349, k1349, n1349⟩, -, X1349, ⟨Lc1349, hQ1349, l1349, y1349, z1349⟩, st1349⟩ := X1336.specialBack hx (y := (⟨"java/lang/String", "<init>", "([C)V"⟩ : MethodName)) rfl hown393 (mvT hZ393 (own_k hw 5 rfl)) (mvT hZ393 (own_k hw 6 rfl)) (mvT hZ393 (own_k hw 7 rfl)) (by decide) (StrChars.Road.backV (W := 1) hZ393 (own_hws hw) (kI := 4) (own_k hw 3 rfl) (cs := ([x0, x1, x2, x3, x4, x5, x6, dv] : List Int32)) (bs := (([x0, x1, x2, x3, x4, x5, x6, dv] : List Int32)).map (fun c => c.toInt8.toInt32)) (n := 8) ge_b1336 Z1343 A1336 F1346 F1345 F1347 (Sta.ext F1348.2 pr2) pr3 rfl rfl (by decide) (by decide) (by intro c hc; simp only [List.mem_cons, List.not_mem_nil, or_false] at hc; rcases hc with rfl | rfl | rfl | rfl | rfl | rfl | rfl | rfl <;> first | exact ⟨hx0.1, hx0.2.1⟩ | exact ⟨hx1.1, hx1.2.1⟩ | exact ⟨hx2.1, hx2.2.1⟩ | exact ⟨hx3.1, hx3.2.1⟩ | exact ⟨hx4.1, hx4.2.1⟩ | exact ⟨hx5.1, hx5.2.1⟩ | exact ⟨hx6.1, hx6.2.1⟩ | exact ⟨b_dv.1, b_dv.2.1⟩) rfl (by decide) (by decide)) (g := (mkF m 277 #[.val (.int p1), .val (.int p2), .val (.int p3), .val (.int p4), .val (.int p5), .val (.int nn), .val (.int kk), .val (.int f7), .val (.int f8), .val (.int m2), .val (.int cv), .val (.ref b354), .val (.ref b395), .val (.ref b436), .unset, .unset, .unset, .unset, .unset, .unset] [(.ref b436), (.ref b1336), (.ref b1336)])) rfl hml.symm (Steps.refl _) (a := b1336) (argsL := [(.ref b436)]) (rest := [(.ref b1336)]) (lenOf own_pd20 rfl) rfl (own_w0 rfl rfl) (hb hby at_277) (fun _ _ => ⟨rfl, e1336, (by decide : 4 + 1 ≤ 40), (by decide : 25 + 8 ≤ 3264)⟩)
                dsimp only [Pt.U, Pt.locs, Pt.cells, Pt.slots] at X1349 l1349 y1349 z1349 st1349 hQ1349
                subst l1349 y1349 z1349
                obtain ⟨rfl, N1349, K1349_, gE1349, gC1349, t1349, kb1349, gt1349, hz1349, ht1349, gV1349, gA1349⟩ := hQ1349
                have N1350 := Fr.app N485 N1349
                have CR1351 : CHr Z own_EL s.vm h0 vm393 T1349.heap := CHr.trans CR1342 (CHr.keep K1349_ (sfS S1344 sf0) CR1342.1)
                have Z1352 : n0 ≤ T1349.heap.size := Nat.le_trans Z1343 K1349_.1
                have hk1352 := Nat.le_trans hk1343 K1349_.1
                have F1353 : Arv Z h1336 b354 k354 .char (7 : Int32) [(.int x0), (.int x1), (.int x2), (.int x3), (.int x4), (.int x5), (.int x6)] (.int 0) := (F1337.ext E1336)
                have ne1354 : b354 ≠ t1349 := Nat.ne_of_lt (Nat.lt_of_lt_of_le F1353.lt hz1349)
                have F1355 : Arv Z h1336 b395 k395 .char (6 : Int32) [(.int x0), (.int x1), (.int x2), (.int x3), (.int x4), (.int x5)] (.int 0) := (F1339.ext E1336)
                have ne1356 : b395 ≠ t1349 := Nat.ne_of_lt (Nat.lt_of_lt_of_le F1355.lt hz1349)
                have ne1357 : b436 ≠ t1349 := Nat.ne_of_lt (Nat.lt_of_lt_of_le F1347.lt hz1349)
                have ne1358 : b1336 ≠ t1349 := Nat.ne_of_lt (Nat.lt_of_lt_of_le A1336.lt hz1349)
                refine own_tr (T' := T1349) (g' := (mkF m 280 #[.val (.int p1), .val (.int p2), .val (.int p3), .val (.int p4), .val (.int p5), .val (.int nn), .val (.int kk), .val (.int f7), .val (.int f8), .val (.int m2), .val (.int cv), .val (.ref b354), .val (.ref b395), .val (.ref b436), .unset, .unset, .unset, .unset, .unset, .unset] [(.ref b1336)])) st1349 ?_
                refine own_st (T' := T1349) (g' := (mkF m 285 #[.val (.int p1), .val (.int p2), .val (.int p3), .val (.int p4), .val (.int p5), .val (.int nn), .val (.int kk), .val (.int f7), .val (.int f8), .val (.int m2), .val (.int cv), .val (.ref b354), .val (.ref b395), .val (.ref b436), .unset, .unset, .unset, .unset, .unset, .unset] [(.ref b1336)])) (fun _ kt => XS.goto X1349.here hx rfl (pc0 := 280) (pc' := 285) rfl (hb hby at_280) (by decide) (by decide) kt) ?_
                have F1359 : Old Z n0 T1349.heap := (Old.keep F1348 K1349_ (allS ge_b1336 all0))
                exact J490 _ _ _ _ _ ⟨b1336, t1349, kb1349, (8 : Int32), [(.int x0.toInt8.toInt32), (.int x1.toInt8.toInt32), (.int x2.toInt8.toInt32), (.int x3.toInt8.toInt32), (.int x4.toInt8.toInt32), (.int x5.toInt8.toInt32), (.int x6.toInt8.toInt32), (.int dv.toInt8.toInt32)], (0 : Int32)⟩ ⟨N1350, Z1352, F1359, CR1351, hS393, hk1352, hZ393, hown393, gE1349, gC1349, gV1349, gA1349, ⟨(Or.inr ⟨hc1285, rfl⟩), (Or.inr (Or.inl ⟨own_n87, rfl⟩))⟩⟩ (X1349.mono (by decide) (by decide)) rfl
              ·
                refine own_st (T' := T485) (g' := (mkF m 283 #[.val (.int p1), .val (.int p2), .val (.int p3), .val (.int p4), .val (.int p5), .val (.int nn), .val (.int kk), .val (.int f7), .val (.int f8), .val (.int m2), .val (.int cv), .val (.ref b354), .val (.ref b395), .val (.ref b436), .unset, .unset, .unset, .unset, .unset, .unset] [])) (fun _ kt => XS.icmpYes X485.here hx rfl (pc0 := 268) (pc' := 283) rfl (hb hby at_268) rfl (XT.ii_ne_t hc1335) (by decide) (by decide) kt) ?_
                obtain ⟨b1360, T1360, h1360, k1360, d1360, kd1360, X1360, e1360, E1360, hS1360, hk1360, hZ1360, hown1360, gE1360, gC1360, gV1360, gA1360, la1360, lb1360, hC1360, -, hsf1360, st1360⟩ := ldcCH X485 hx hZ393 hown393 (own_k hw 165 rfl) (own_wS hw) e485 hS393 hk488 (own_EW hw) (show ("com/example/tourwerk/tourwerk/problem/SolomonReaderRecognisesPinLaw", 13) ∈ own_EL by simp [own_EL]) CR487.1 (vs := [(.int 118), (.int 101), (.int 104), (.int 105), (.int 99), (.int 108), (.int 101)]) (z := (7 : Int32)) ⟨by decide +kernel, by first | rfl | decide +kernel⟩ (by decide) rfl (g := (mkF m 283 #[.val (.int p1), .val (.int p2), .val (.int p3), .val (.int p4), .val (.int p5), .val (.int nn), .val (.int kk), .val (.int f7), .val (.int f8), .val (.int m2), .val (.int cv), .val (.ref b354), .val (.ref b395), .val (.ref b436), .unset, .unset, .unset, .unset, .unset, .unset] [])) rfl (hb hby at_283) (n := 28) (by decide +kernel) (by decide) (by decide) (by decide)
                have CR1361 : CHr Z own_EL s.vm h0 T1360.vm h1360 := CHr.trans CR487 hC1360
                have Z1362 : n0 ≤ h1360.size := Nat.le_trans Z488 E1360.1
                have hk1362 := Nat.le_trans hk488 E1360.1
                have F1363 : Arv Z h1360 b354 k354 .char (7 : Int32) [(.int x0), (.int x1), (.int x2), (.int x3), (.int x4), (.int x5), (.int x6)] (.int 0) := ((Arv.other (Arv.other F479 W480 ne438) W485 ne438).ext E1360)
                have ne1364 := hsf1360 b354 (Safe.arv (State.Warmed39.alike hZ1360) F1363 (by decide))
                have F1365 : Arv Z h485 b395 k395 .char (6 : Int32) [(.int x0), (.int x1), (.int x2), (.int x3), (.int x4), (.int x5)] (.int 0) := (Arv.other (Arv.other (Arv.other (Arv.other (Arv.other (Arv.other (Arv.other (Arv.other (F435.ext E436) W445 ne439) W450 ne439) W456 ne439) W462 ne439) W468 ne439) W474 ne439) W480 ne439) W485 ne439)
                have F1366 : Safe Z own_EL T1360.vm h1360 b395 := (CHr.safe hC1360 F1365.lt (Safe.wr W485 F486 CR482.1 (Safe.wr W480 F481 CR476.1 (Safe.wr W474 F475 CR470.1 (Safe.wr W468 F469 CR464.1 (Safe.wr W462 F463 CR458.1 (Safe.wr W456 F457 CR452.1 (Safe.wr W450 F451 CR446.1 (Safe.wr W445 S442 CR440.1 (Safe.ext E436 CR433.1 (Safe.wr W431 F432 CR427.1 F432)))))))))))
                have ne1367 := hsf1360 b395 F1366
                have F1368 : Safe Z own_EL T1360.vm h1360 b436 := (CHr.safe hC1360 F489.lt (Safe.wr W485 F486 CR482.1 F486))
                have ne1369 := hsf1360 b436 F1368
                refine own_st (T' := T1360) (g' := (mkF m 285 #[.val (.int p1), .val (.int p2), .val (.int p3), .val (.int p4), .val (.int p5), .val (.int nn), .val (.int kk), .val (.int f7), .val (.int f8), .val (.int m2), .val (.int cv), .val (.ref b354), .val (.ref b395), .val (.ref b436), .unset, .unset, .unset, .unset, .unset, .unset] [(.ref b1360)])) st1360 ?_
                have F1370 : Old Z n0 h1360 := (Old.ext (Old.wr (Old.wr (Old.wr (Old.wr (Old.wr (Old.wr (Old.wr (Old.wr (Old.ext (Old.wr (Old.wr (Old.wr (Old.wr (Old.wr (Old.wr (Old.ext O393 E395) W402 ge_b395) W407 ge_b395) W413 ge_b395) W419 ge_b395) W425 ge_b395) W431 ge_b395) E436) W445 ge_b436) W450 ge_b436) W456 ge_b436) W462 ge_b436) W468 ge_b436) W474 ge_b436) W480 ge_b436) W485 ge_b436) E1360)
                exact J490 _ _ _ _ _ ⟨b1360, d1360, kd1360, (7 : Int32), [(.int 118), (.int 101), (.int 104), (.int 105), (.int 99), (.int 108), (.int 101)], (0 : Int32)⟩ ⟨N485, Z1362, F1370, CR1361, hS1360, hk1360, hZ1360, hown1360, gE1360, gC1360, gV1360, gA1360, ⟨(Or.inr ⟨hc1285, rfl⟩), (Or.inr (Or.inr ⟨rfl, rfl, rfl⟩))⟩⟩ (X1360.mono (by decide) (by decide)) e1360
      ·
        rcases q_mm with rfl | rfl | rfl | rfl | rfl | rfl | rfl | rfl
        ·
          refine own_st (T' := T388) (g' := (mkF m 114 #[.val (.int p1), .val (.int p2), .val (.int p3), .val (.int p4), .val (.int p5), .val (.int nn), .val (.int kk), .val (.int f7), .val (.int f8), .val (.int 0), .val (.int cv), .val (.ref b354), .unset, .unset, .unset, .unset, .unset, .unset, .unset, .unset] [(.int cv), (.int 0), (.ref b354)])) (fun _ kt => XS.iload X388.here hx rfl (hb hby at_101) rfl (XS.bipush X388.here hx rfl (hb hby at_103) (XS.icmpNo X388.here hx rfl (hb hby at_105) rfl (XT.ii_ge_f (by decide)) (XS.aload X388.here hx rfl (hb hby at_108) rfl rfl (XS.iload X388.here hx rfl (hb hby at_110) rfl (XS.iload X388.here hx rfl (hb hby at_112) rfl kt)))))) ?_
          obtain ⟨T1371, h1371, X1371, e1371, W1371, V1371, st1371⟩ := own_cst X388 hx hZ e388 F392 ⟨by decide, by decide⟩ (i := 0) rfl (by simp) (y := cv) b_cv.2.2 (g := (mkF m 114 #[.val (.int p1), .val (.int p2), .val (.int p3), .val (.int p4), .val (.int p5), .val (.int nn), .val (.int kk), .val (.int f7), .val (.int f8), .val (.int 0), .val (.int cv), .val (.ref b354), .unset, .unset, .unset, .unset, .unset, .unset, .unset, .unset] [(.int cv), (.int 0), (.ref b354)])) rfl rfl (hb hby at_114)
          have N1371 := Fr.snoc X1371 N388 ge_b354
          have F1372 : Safe Z own_EL s.vm h388 b354 := (Safe.wr W388 F389 CR385.1 F389)
          have CR1373 : CHr Z own_EL s.vm h0 s.vm h1371 := CHr.trans CR390 (CHr.wr W1371 F1372 CR390.1)
          have Z1374 : n0 ≤ h1371.size := Nat.le_trans Z391 (Nat.le_of_eq (Wr.size W1371).symm)
          have hk1374 := Nat.le_trans hk391 (Nat.le_of_eq (Wr.size W1371).symm)
          have F1375 : Arv Z h1371 b354 k354 .char (7 : Int32) [(.int cv), (.int 69), (.int 72), (.int 73), (.int 67), (.int 76), (.int 69)] (.int 0) := V1371
          refine own_st (T' := T1371) (g' := (mkF m 115 #[.val (.int p1), .val (.int p2), .val (.int p3), .val (.int p4), .val (.int p5), .val (.int nn), .val (.int kk), .val (.int f7), .val (.int f8), .val (.int 0), .val (.int cv), .val (.ref b354), .unset, .unset, .unset, .unset, .unset, .unset, .unset, .unset] [])) st1371 ?_
          have F1376 : Old Z n0 h1371 := (Old.wr (Old.wr (Old.wr (Old.wr (Old.wr (Old.wr (Old.wr (Old.wr (Old.ext pr1 E354) W359 ge_b354) W363 ge_b354) W368 ge_b354) W373 ge_b354) W378 ge_b354) W383 ge_b354) W388 ge_b354) W1371 ge_b354)
          exact J393 _ _ _ _ _ ⟨cv, (69 : Int32), (72 : Int32), (73 : Int32), (67 : Int32), (76 : Int32), (69 : Int32), (0 : Int32)⟩ ⟨N1371, Z1374, F1376, CR1373, hS, hk1374, hZ, hown, F1375, ⟨b_cv, own_c69, own_c72, own_c73, own_c67, own_c76, own_c69, own_rl0 _, own_ql0⟩⟩ (X1371.mono (by decide) (by decide)) e1371
        ·
          refine own_st (T' := T388) (g' := (mkF m 114 #[.val (.int p1), .val (.int p2), .val (.int p3), .val (.int p4), .val (.int p5), .val (.int nn), .val (.int kk), .val (.int f7), .val (.int f8), .val (.int 1), .val (.int cv), .val (.ref b354), .unset, .unset, .unset, .unset, .unset, .unset, .unset, .unset] [(.int cv), (.int 1), (.ref b354)])) (fun _ kt => XS.iload X388.here hx rfl (hb hby at_101) rfl (XS.bipush X388.here hx rfl (hb hby at_103) (XS.icmpNo X388.here hx rfl (hb hby at_105) rfl (XT.ii_ge_f (by decide)) (XS.aload X388.here hx rfl (hb hby at_108) rfl rfl (XS.iload X388.here hx rfl (hb hby at_110) rfl (XS.iload X388.here hx rfl (hb hby at_112) rfl kt)))))) ?_
          obtain ⟨T1377, h1377, X1377, e1377, W1377, V1377, st1377⟩ := own_cst X388 hx hZ e388 F392 ⟨by decide, by decide⟩ (i := 1) rfl (by simp) (y := cv) b_cv.2.2 (g := (mkF m 114 #[.val (.int p1), .val (.int p2), .val (.int p3), .val (.int p4), .val (.int p5), .val (.int nn), .val (.int kk), .val (.int f7), .val (.int f8), .val (.int 1), .val (.int cv), .val (.ref b354), .unset, .unset, .unset, .unset, .unset, .unset, .unset, .unset] [(.int cv), (.int 1), (.ref b354)])) rfl rfl (hb hby at_114)
          have N1377 := Fr.snoc X1377 N388 ge_b354
          have F1378 : Safe Z own_EL s.vm h388 b354 := (Safe.wr W388 F389 CR385.1 F389)
          have CR1379 : CHr Z own_EL s.vm h0 s.vm h1377 := CHr.trans CR390 (CHr.wr W1377 F1378 CR390.1)
          have Z1380 : n0 ≤ h1377.size := Nat.le_trans Z391 (Nat.le_of_eq (Wr.size W1377).symm)
          have hk1380 := Nat.le_trans hk391 (Nat.le_of_eq (Wr.size W1377).symm)
          have F1381 : Arv Z h1377 b354 k354 .char (7 : Int32) [(.int 86), (.int cv), (.int 72), (.int 73), (.int 67), (.int 76), (.int 69)] (.int 0) := V1377
          refine own_st (T' := T1377) (g' := (mkF m 115 #[.val (.int p1), .val (.int p2), .val (.int p3), .val (.int p4), .val (.int p5), .val (.int nn), .val (.int kk), .val (.int f7), .val (.int f8), .val (.int 1), .val (.int cv), .val (.ref b354), .unset, .unset, .unset, .unset, .unset, .unset, .unset, .unset] [])) st1377 ?_
          have F1382 : Old Z n0 h1377 := (Old.wr (Old.wr (Old.wr (Old.wr (Old.wr (Old.wr (Old.wr (Old.wr (Old.ext pr1 E354) W359 ge_b354) W363 ge_b354) W368 ge_b354) W373 ge_b354) W378 ge_b354) W383 ge_b354) W388 ge_b354) W1377 ge_b354)
          exact J393 _ _ _ _ _ ⟨(86 : Int32), cv, (72 : Int32), (73 : Int32), (67 : Int32), (76 : Int32), (69 : Int32), (1 : Int32)⟩ ⟨N1377, Z1380, F1382, CR1379, hS, hk1380, hZ, hown, F1381, ⟨own_c86, b_cv, own_c72, own_c73, own_c67, own_c76, own_c69, own_rl1 _, own_ql1⟩⟩ (X1377.mono (by decide) (by decide)) e1377
        ·
          refine own_st (T' := T388) (g' := (mkF m 114 #[.val (.int p1), .val (.int p2), .val (.int p3), .val (.int p4), .val (.int p5), .val (.int nn), .val (.int kk), .val (.int f7), .val (.int f8), .val (.int 2), .val (.int cv), .val (.ref b354), .unset, .unset, .unset, .unset, .unset, .unset, .unset, .unset] [(.int cv), (.int 2), (.ref b354)])) (fun _ kt => XS.iload X388.here hx rfl (hb hby at_101) rfl (XS.bipush X388.here hx rfl (hb hby at_103) (XS.icmpNo X388.here hx rfl (hb hby at_105) rfl (XT.ii_ge_f (by decide)) (XS.aload X388.here hx rfl (hb hby at_108) rfl rfl (XS.iload X388.here hx rfl (hb hby at_110) rfl (XS.iload X388.here hx rfl (hb hby at_112) rfl kt)))))) ?_
          obtain ⟨T1383, h1383, X1383, e1383, W1383, V1383, st1383⟩ := own_cst X388 hx hZ e388 F392 ⟨by decide, by decide⟩ (i := 2) rfl (by simp) (y := cv) b_cv.2.2 (g := (mkF m 114 #[.val (.int p1), .val (.int p2), .val (.int p3), .val (.int p4), .val (.int p5), .val (.int nn), .val (.int kk), .val (.int f7), .val (.int f8), .val (.int 2), .val (.int cv), .val (.ref b354), .unset, .unset, .unset, .unset, .unset, .unset, .unset, .unset] [(.int cv), (.int 2), (.ref b354)])) rfl rfl (hb hby at_114)
          have N1383 := Fr.snoc X1383 N388 ge_b354
          have F1384 : Safe Z own_EL s.vm h388 b354 := (Safe.wr W388 F389 CR385.1 F389)
          have CR1385 : CHr Z own_EL s.vm h0 s.vm h1383 := CHr.trans CR390 (CHr.wr W1383 F1384 CR390.1)
          have Z1386 : n0 ≤ h1383.size := Nat.le_trans Z391 (Nat.le_of_eq (Wr.size W1383).symm)
          have hk1386 := Nat.le_trans hk391 (Nat.le_of_eq (Wr.size W1383).symm)
          have F1387 : Arv Z h1383 b354 k354 .char (7 : Int32) [(.int 86), (.int 69), (.int cv), (.int 73), (.int 67), (.int 76), (.int 69)] (.int 0) := V1383
          refine own_st (T' := T1383) (g' := (mkF m 115 #[.val (.int p1), .val (.int p2), .val (.int p3), .val (.int p4), .val (.int p5), .val (.int nn), .val (.int kk), .val (.int f7), .val (.int f8), .val (.int 2), .val (.int cv), .val (.ref b354), .unset, .unset, .unset, .unset, .unset, .unset, .unset, .unset] [])) st1383 ?_
          have F1388 : Old Z n0 h1383 := (Old.wr (Old.wr (Old.wr (Old.wr (Old.wr (Old.wr (Old.wr (Old.wr (Old.ext pr1 E354) W359 ge_b354) W363 ge_b354) W368 ge_b354) W373 ge_b354) W378 ge_b354) W383 ge_b354) W388 ge_b354) W1383 ge_b354)
          exact J393 _ _ _ _ _ ⟨(86 : Int32), (69 : Int32), cv, (73 : Int32), (67 : Int32), (76 : Int32), (69 : Int32), (2 : Int32)⟩ ⟨N1383, Z1386, F1388, CR1385, hS, hk1386, hZ, hown, F1387, ⟨own_c86, own_c69, b_cv, own_c73, own_c67, own_c76, own_c69, own_rl2 _, own_ql2⟩⟩ (X1383.mono (by decide) (by decide)) e1383
        ·
          refine own_st (T' := T388) (g' := (mkF m 114 #[.val (.int p1), .val (.int p2), .val (.int p3), .val (.int p4), .val (.int p5), .val (.int nn), .val (.int kk), .val (.int f7), .val (.int f8), .val (.int 3), .val (.int cv), .val (.ref b354), .unset, .unset, .unset, .unset, .unset, .unset, .unset, .unset] [(.int cv), (.int 3), (.ref b354)])) (fun _ kt => XS.iload X388.here hx rfl (hb hby at_101) rfl (XS.bipush X388.here hx rfl (hb hby at_103) (XS.icmpNo X388.here hx rfl (hb hby at_105) rfl (XT.ii_ge_f (by decide)) (XS.aload X388.here hx rfl (hb hby at_108) rfl rfl (XS.iload X388.here hx rfl (hb hby at_110) rfl (XS.iload X388.here hx rfl (hb hby at_112) rfl kt)))))) ?_
          obtain ⟨T1389, h1389, X1389, e1389, W1389, V1389, st1389⟩ := own_cst X388 hx hZ e388 F392 ⟨by decide, by decide⟩ (i := 3) rfl (by simp) (y := cv) b_cv.2.2 (g := (mkF m 114 #[.val (.int p1), .val (.int p2), .val (.int p3), .val (.int p4), .val (.int p5), .val (.int nn), .val (.int kk), .val (.int f7), .val (.int f8), .val (.int 3), .val (.int cv), .val (.ref b354), .unset, .unset, .unset, .unset, .unset, .unset, .unset, .unset] [(.int cv), (.int 3), (.ref b354)])) rfl rfl (hb hby at_114)
          have N1389 := Fr.snoc X1389 N388 ge_b354
          have F1390 : Safe Z own_EL s.vm h388 b354 := (Safe.wr W388 F389 CR385.1 F389)
          have CR1391 : CHr Z own_EL s.vm h0 s.vm h1389 := CHr.trans CR390 (CHr.wr W1389 F1390 CR390.1)
          have Z1392 : n0 ≤ h1389.size := Nat.le_trans Z391 (Nat.le_of_eq (Wr.size W1389).symm)
          have hk1392 := Nat.le_trans hk391 (Nat.le_of_eq (Wr.size W1389).symm)
          have F1393 : Arv Z h1389 b354 k354 .char (7 : Int32) [(.int 86), (.int 69), (.int 72), (.int cv), (.int 67), (.int 76), (.int 69)] (.int 0) := V1389
          refine own_st (T' := T1389) (g' := (mkF m 115 #[.val (.int p1), .val (.int p2), .val (.int p3), .val (.int p4), .val (.int p5), .val (.int nn), .val (.int kk), .val (.int f7), .val (.int f8), .val (.int 3), .val (.int cv), .val (.ref b354), .unset, .unset, .unset, .unset, .unset, .unset, .unset, .unset] [])) st1389 ?_
          have F1394 : Old Z n0 h1389 := (Old.wr (Old.wr (Old.wr (Old.wr (Old.wr (Old.wr (Old.wr (Old.wr (Old.ext pr1 E354) W359 ge_b354) W363 ge_b354) W368 ge_b354) W373 ge_b354) W378 ge_b354) W383 ge_b354) W388 ge_b354) W1389 ge_b354)
          exact J393 _ _ _ _ _ ⟨(86 : Int32), (69 : Int32), (72 : Int32), cv, (67 : Int32), (76 : Int32), (69 : Int32), (3 : Int32)⟩ ⟨N1389, Z1392, F1394, CR1391, hS, hk1392, hZ, hown, F1393, ⟨own_c86, own_c69, own_c72, b_cv, own_c67, own_c76, own_c69, own_rl3 _, own_ql3⟩⟩ (X1389.mono (by decide) (by decide)) e1389
        ·
          refine own_st (T' := T388) (g' := (mkF m 114 #[.val (.int p1), .val (.int p2), .val (.int p3), .val (.int p4), .val (.int p5), .val (.int nn), .val (.int kk), .val (.int f7), .val (.int f8), .val (.int 4), .val (.int cv), .val (.ref b354), .unset, .unset, .unset, .unset, .unset, .unset, .unset, .unset] [(.int cv), (.int 4), (.ref b354)])) (fun _ kt => XS.iload X388.here hx rfl (hb hby at_101) rfl (XS.bipush X388.here hx rfl (hb hby at_103) (XS.icmpNo X388.here hx rfl (hb hby at_105) rfl (XT.ii_ge_f (by decide)) (XS.aload X388.here hx rfl (hb hby at_108) rfl rfl (XS.iload X388.here hx rfl (hb hby at_110) rfl (XS.iload X388.here hx rfl (hb hby at_112) rfl kt)))))) ?_
          obtain ⟨T1395, h1395, X1395, e1395, W1395, V1395, st1395⟩ := own_cst X388 hx hZ e388 F392 ⟨by decide, by decide⟩ (i := 4) rfl (by simp) (y := cv) b_cv.2.2 (g := (mkF m 114 #[.val (.int p1), .val (.int p2), .val (.int p3), .val (.int p4), .val (.int p5), .val (.int nn), .val (.int kk), .val (.int f7), .val (.int f8), .val (.int 4), .val (.int cv), .val (.ref b354), .unset, .unset, .unset, .unset, .unset, .unset, .unset, .unset] [(.int cv), (.int 4), (.ref b354)])) rfl rfl (hb hby at_114)
          have N1395 := Fr.snoc X1395 N388 ge_b354
          have F1396 : Safe Z own_EL s.vm h388 b354 := (Safe.wr W388 F389 CR385.1 F389)
          have CR1397 : CHr Z own_EL s.vm h0 s.vm h1395 := CHr.trans CR390 (CHr.wr W1395 F1396 CR390.1)
          have Z1398 : n0 ≤ h1395.size := Nat.le_trans Z391 (Nat.le_of_eq (Wr.size W1395).symm)
          have hk1398 := Nat.le_trans hk391 (Nat.le_of_eq (Wr.size W1395).symm)
          have F1399 : Arv Z h1395 b354 k354 .char (7 : Int32) [(.int 86), (.int 69), (.int 72), (.int 73), (.int cv), (.int 76), (.int 69)] (.int 0) := V1395
          refine own_st (T' := T1395) (g' := (mkF m 115 #[.val (.int p1), .val (.int p2), .val (.int p3), .val (.int p4), .val (.int p5), .val (.int nn), .val (.int kk), .val (.int f7), .val (.int f8), .val (.int 4), .val (.int cv), .val (.ref b354), .unset, .unset, .unset, .unset, .unset, .unset, .unset, .unset] [])) st1395 ?_
          have F1400 : Old Z n0 h1395 := (Old.wr (Old.wr (Old.wr (Old.wr (Old.wr (Old.wr (Old.wr (Old.wr (Old.ext pr1 E354) W359 ge_b354) W363 ge_b354) W368 ge_b354) W373 ge_b354) W378 ge_b354) W383 ge_b354) W388 ge_b354) W1395 ge_b354)
          exact J393 _ _ _ _ _ ⟨(86 : Int32), (69 : Int32), (72 : Int32), (73 : Int32), cv, (76 : Int32), (69 : Int32), (4 : Int32)⟩ ⟨N1395, Z1398, F1400, CR1397, hS, hk1398, hZ, hown, F1399, ⟨own_c86, own_c69, own_c72, own_c73, b_cv, own_c76, own_c69, own_rl4 _, own_ql4⟩⟩ (X1395.mono (by decide) (by decide)) e1395
        ·
          refine own_st (T' := T388) (g' := (mkF m 114 #[.val (.int p1), .val (.int p2), .val (.int p3), .val (.int p4), .val (.int p5), .val (.int nn), .val (.int kk), .val (.int f7), .val (.int f8), .val (.int 5), .val (.int cv), .val (.ref b354), .unset, .unset, .unset, .unset, .unset, .unset, .unset, .unset] [(.int cv), (.int 5), (.ref b354)])) (fun _ kt => XS.iload X388.here hx rfl (hb hby at_101) rfl (XS.bipush X388.here hx rfl (hb hby at_103) (XS.icmpNo X388.here hx rfl (hb hby at_105) rfl (XT.ii_ge_f (by decide)) (XS.aload X388.here hx rfl (hb hby at_108) rfl rfl (XS.iload X388.here hx rfl (hb hby at_110) rfl (XS.iload X388.here hx rfl (hb hby at_112) rfl kt)))))) ?_
          obtain ⟨T1401, h1401, X1401, e1401, W1401, V1401, st1401⟩ := own_cst X388 hx hZ e388 F392 ⟨by decide, by decide⟩ (i := 5) rfl (by simp) (y := cv) b_cv.2.2 (g := (mkF m 114 #[.val (.int p1), .val (.int p2), .val (.int p3), .val (.int p4), .val (.int p5), .val (.int nn), .val (.int kk), .val (.int f7), .val (.int f8), .val (.int 5), .val (.int cv), .val (.ref b354), .unset, .unset, .unset, .unset, .unset, .unset, .unset, .unset] [(.int cv), (.int 5), (.ref b354)])) rfl rfl (hb hby at_114)
          have N1401 := Fr.snoc X1401 N388 ge_b354
          have F1402 : Safe Z own_EL s.vm h388 b354 := (Safe.wr W388 F389 CR385.1 F389)
          have CR1403 : CHr Z own_EL s.vm h0 s.vm h1401 := CHr.trans CR390 (CHr.wr W1401 F1402 CR390.1)
          have Z1404 : n0 ≤ h1401.size := Nat.le_trans Z391 (Nat.le_of_eq (Wr.size W1401).symm)
          have hk1404 := Nat.le_trans hk391 (Nat.le_of_eq (Wr.size W1401).symm)
          have F1405 : Arv Z h1401 b354 k354 .char (7 : Int32) [(.int 86), (.int 69), (.int 72), (.int 73), (.int 67), (.int cv), (.int 69)] (.int 0) := V1401
          refine own_st (T' := T1401) (g' := (mkF m 115 #[.val (.int p1), .val (.int p2), .val (.int p3), .val (.int p4), .val (.int p5), .val (.int nn), .val (.int kk), .val (.int f7), .val (.int f8), .val (.int 5), .val (.int cv), .val (.ref b354), .unset, .unset, .unset, .unset, .unset, .unset, .unset, .unset] [])) st1401 ?_
          have F1406 : Old Z n0 h1401 := (Old.wr (Old.wr (Old.wr (Old.wr (Old.wr (Old.wr (Old.wr (Old.wr (Old.ext pr1 E354) W359 ge_b354) W363 ge_b354) W368 ge_b354) W373 ge_b354) W378 ge_b354) W383 ge_b354) W388 ge_b354) W1401 ge_b354)
          exact J393 _ _ _ _ _ ⟨(86 : Int32), (69 : Int32), (72 : Int32), (73 : Int32), (67 : Int32), cv, (69 : Int32), (5 : Int32)⟩ ⟨N1401, Z1404, F1406, CR1403, hS, hk1404, hZ, hown, F1405, ⟨own_c86, own_c69, own_c72, own_c73, own_c67, b_cv, own_c69, own_rl5 _, own_ql5⟩⟩ (X1401.mono (by decide) (by decide)) e1401
        ·
          refine own_st (T' := T388) (g' := (mkF m 114 #[.val (.int p1), .val (.int p2), .val (.int p3), .val (.int p4), .val (.int p5), .val (.int nn), .val (.int kk), .val (.int f7), .val (.int f8), .val (.int 6), .val (.int cv), .val (.ref b354), .unset, .unset, .unset, .unset, .unset, .unset, .unset, .unset] [(.int cv), (.int 6), (.ref b354)])) (fun _ kt => XS.iload X388.here hx rfl (hb hby at_101) rfl (XS.bipush X388.here hx rfl (hb hby at_103) (XS.icmpNo X388.here hx rfl (hb hby at_105) rfl (XT.ii_ge_f (by decide)) (XS.aload X388.here hx rfl (hb hby at_108) rfl rfl (XS.iload X388.here hx rfl (hb hby at_110) rfl (XS.iload X388.here hx rfl (hb hby at_112) rfl kt)))))) ?_
          obtain ⟨T1407, h1407, X1407, e1407, W1407, V1407, st1407⟩ := own_cst X388 hx hZ e388 F392 ⟨by decide, by decide⟩ (i := 6) rfl (by simp) (y := cv) b_cv.2.2 (g := (mkF m 114 #[.val (.int p1), .val (.int p2), .val (.int p3), .val (.int p4), .val (.int p5), .val (.int nn), .val (.int kk), .val (.int f7), .val (.int f8), .val (.int 6), .val (.int cv), .val (.ref b354), .unset, .unset, .unset, .unset, .unset, .unset, .unset, .unset] [(.int cv), (.int 6), (.ref b354)])) rfl rfl (hb hby at_114)
          have N1407 := Fr.snoc X1407 N388 ge_b354
          have F1408 : Safe Z own_EL s.vm h388 b354 := (Safe.wr W388 F389 CR385.1 F389)
          have CR1409 : CHr Z own_EL s.vm h0 s.vm h1407 := CHr.trans CR390 (CHr.wr W1407 F1408 CR390.1)
          have Z1410 : n0 ≤ h1407.size := Nat.le_trans Z391 (Nat.le_of_eq (Wr.size W1407).symm)
          have hk1410 := Nat.le_trans hk391 (Nat.le_of_eq (Wr.size W1407).symm)
          have F1411 : Arv Z h1407 b354 k354 .char (7 : Int32) [(.int 86), (.int 69), (.int 72), (.int 73), (.int 67), (.int 76), (.int cv)] (.int 0) := V1407
          refine own_st (T' := T1407) (g' := (mkF m 115 #[.val (.int p1), .val (.int p2), .val (.int p3), .val (.int p4), .val (.int p5), .val (.int nn), .val (.int kk), .val (.int f7), .val (.int f8), .val (.int 6), .val (.int cv), .val (.ref b354), .unset, .unset, .unset, .unset, .unset, .unset, .unset, .unset] [])) st1407 ?_
          have F1412 : Old Z n0 h1407 := (Old.wr (Old.wr (Old.wr (Old.wr (Old.wr (Old.wr (Old.wr (Old.wr (Old.ext pr1 E354) W359 ge_b354) W363 ge_b354) W368 ge_b354) W373 ge_b354) W378 ge_b354) W383 ge_b354) W388 ge_b354) W1407 ge_b354)
          exact J393 _ _ _ _ _ ⟨(86 : Int32), (69 : Int32), (72 : Int32), (73 : Int32), (67 : Int32), (76 : Int32), cv, (6 : Int32)⟩ ⟨N1407, Z1410, F1412, CR1409, hS, hk1410, hZ, hown, F1411, ⟨own_c86, own_c69, own_c72, own_c73, own_c67, own_c76, b_cv, own_rl6 _, own_ql6⟩⟩ (X1407.mono (by decide) (by decide)) e1407
        ·
          refine own_st (T' := T388) (g' := (mkF m 115 #[.val (.int p1), .val (.int p2), .val (.int p3), .val (.int p4), .val (.int p5), .val (.int nn), .val (.int kk), .val (.int f7), .val (.int f8), .val (.int 7), .val (.int cv), .val (.ref b354), .unset, .unset, .unset, .unset, .unset, .unset, .unset, .unset] [])) (fun _ kt => XS.iload X388.here hx rfl (hb hby at_101) rfl (XS.bipush X388.here hx rfl (hb hby at_103) (XS.icmpYes X388.here hx rfl (pc0 := 105) (pc' := 115) rfl (hb hby at_105) rfl (XT.ii_ge_t (by decide)) (by decide) (by decide) kt))) ?_
          have F1413 : Old Z n0 h388 := (Old.wr (Old.wr (Old.wr (Old.wr (Old.wr (Old.wr (Old.wr (Old.ext pr1 E354) W359 ge_b354) W363 ge_b354) W368 ge_b354) W373 ge_b354) W378 ge_b354) W383 ge_b354) W388 ge_b354)
          exact J393 _ _ _ _ _ ⟨(86 : Int32), (69 : Int32), (72 : Int32), (73 : Int32), (67 : Int32), (76 : Int32), (69 : Int32), (7 : Int32)⟩ ⟨N388, Z391, F1413, CR390, hS, hk391, hZ, hown, F392, ⟨own_c86, own_c69, own_c72, own_c73, own_c67, own_c76, own_c69, own_rl7 _, own_ql7⟩⟩ (X388.mono (by decide) (by decide)) e388
    ·
      by_cases hc1414 : ((XT.ushr p1 (5 : Int32)) &&& (1 : Int32)) = 0
      ·
        refine own_st (T' := s₁) (g' := (mkF m 40 #[.val (.int p1), .val (.int p2), .val (.int p3), .val (.int p4), .val (.int p5), .val (.int nn), .val (.int kk), .val (.int f7), .unset, .unset, .unset, .unset, .unset, .unset, .unset, .unset, .unset, .unset, .unset, .unset] [(.int 0)])) (fun _ kt => XS.ifYes X0.here hx rfl (pc0 := 32) (pc' := 39) rfl (hb hby at_32) rfl (XT.i0_eq_t hc1414) (by decide) (by decide) (XS.iconst X0.here hx rfl (hb hby at_39) kt)) ?_
        exact J353 (0 : Int32) trivial
      ·
        refine own_st (T' := s₁) (g' := (mkF m 40 #[.val (.int p1), .val (.int p2), .val (.int p3), .val (.int p4), .val (.int p5), .val (.int nn), .val (.int kk), .val (.int f7), .unset, .unset, .unset, .unset, .unset, .unset, .unset, .unset, .unset, .unset, .unset, .unset] [(.int 1)])) (fun _ kt => XS.ifNo X0.here hx rfl (hb hby at_32) rfl (XT.i0_eq_f hc1414) (XS.iconst X0.here hx rfl (hb hby at_35) (XS.goto X0.here hx rfl (pc0 := 36) (pc' := 40) rfl (hb hby at_36) (by decide) (by decide) kt))) ?_
        exact J353 (1 : Int32) trivial
  ·
    by_cases hc1415 : ((XT.ushr p1 (4 : Int32)) &&& (1 : Int32)) = 0
    ·
      refine own_st (T' := s₁) (g' := (mkF m 25 #[.val (.int p1), .val (.int p2), .val (.int p3), .val (.int p4), .val (.int p5), .val (.int nn), .val (.int kk), .unset, .unset, .unset, .unset, .unset, .unset, .unset, .unset, .unset, .unset, .unset, .unset, .unset] [(.int 0)])) (fun _ kt => XS.ifYes X0.here hx rfl (pc0 := 17) (pc' := 24) rfl (hb hby at_17) rfl (XT.i0_eq_t hc1415) (by decide) (by decide) (XS.iconst X0.here hx rfl (hb hby at_24) kt)) ?_
      exact J352 (0 : Int32) trivial
    ·
      refine own_st (T' := s₁) (g' := (mkF m 25 #[.val (.int p1), .val (.int p2), .val (.int p3), .val (.int p4), .val (.int p5), .val (.int nn), .val (.int kk), .unset, .unset, .unset, .unset, .unset, .unset, .unset, .unset, .unset, .unset, .unset, .unset, .unset] [(.int 1)])) (fun _ kt => XS.ifNo X0.here hx rfl (hb hby at_17) rfl (XT.i0_eq_f hc1415) (XS.iconst X0.here hx rfl (hb hby at_20) (XS.goto X0.here hx rfl (pc0 := 21) (pc' := 25) rfl (hb hby at_21) (by decide) (by decide) kt))) ?_
      exact J352 (1 : Int32) trivial
theorem own_lenq {Z : State} {args : Array Value} {t : Term} {a : Addr} {cl : Cell} {ty : FieldType} {z : Int32} (et : t.eval args Z none [] Z = some (.ref a)) (A : Arr Z Z.heap a cl ty) (h : (Term.length t).eval args Z none [] Z = some (.int z)) : cl.slots.size < 2 ^ 31 ∧ cl.slots.size.toInt32 = z := by
  simp only [Term.eval, Option.bind_eq_bind, et, Option.bind_some] at h
  obtain ⟨cell, hcell, h⟩ := Option.bind_eq_some_iff.mp h
  obtain ⟨h1, -⟩ := State.arrayAt?_spec hcell
  cases A.1.symm.trans h1
  by_cases hn : cl.slots.size < 2 ^ 31
  · rw [if_pos hn] at h; cases h; exact ⟨hn, rfl⟩
  · rw [if_neg hn] at h; cases h
theorem comes_1 {Post : Tables → Env → Array Value → State → Outcome → State → Prop} (hpost : ∀ tb e args s v u, (limb_1_1.after args s (.returned v) u = true ∧ limb_1_2.after args s (.returned v) u = true ∧ True) → ReturnedEndW s (.returned v) u (Jvm.fieldLocs frame_1_writes args s ++ Jvm.arrayLocs frame_1_arrays args s ++ Jvm.staticLocs frame_1_statics s) 40 3264 → Post tb e args s (.returned v) u) :
    ArmFor flags0 classFile x code maxLocals ret World_1 tables_1 room_1 Calls_1 rest_1 Pre_1 Post := by
  intro l hfl _ _ p e ha hc hk s m args below hf hA hF happ hP
  obtain ⟨hcalls, hrest, hpre⟩ := hP
  obtain ⟨-, -, -, hnamed, -, -, -, hat⟩ := (Spec.applies_iff hf).mp happ
  obtain ⟨hg, hn⟩ := and_e (Cond.before_iff.mp (show (Jvm.Cond.and given_1 narrow_1).before args s = true from hpre))
  obtain ⟨g0, hg⟩ := and_e hg
  obtain ⟨g1, hg⟩ := and_e hg
  obtain ⟨g2, hg⟩ := and_e hg
  obtain ⟨g3, hg⟩ := and_e hg
  obtain ⟨g4, hg⟩ := and_e hg
  obtain ⟨w0, w1, w2, w3, w4, rfl⟩ : ∃ w0 w1 w2 w3 w4 : Value, args = #[w0, w1, w2, w3, w4] := by
    have hs : args.size = 5 := by simpa [Cond.value, given_1] using g0
    obtain ⟨L⟩ := args
    match L, hs with
    | [w0, w1, w2, w3, w4], _ => exact ⟨w0, w1, w2, w3, w4, rfl⟩
  have hw := fun d (hd : d ∈ tables_1) => atoms_spec (ws := Jvm.Cond.code x code maxLocals ret :: tables_1) hat d (List.mem_cons_of_mem _ hd)
  have hfit : Fit s := fun {y c} hc i hi => by
    obtain ⟨ha, rfl⟩ := Array.getElem?_eq_some_iff.mp hc
    have q := List.all_eq_true.mp ((Array.all_eq_true_iff_forall_mem.mp hF) _ (Array.getElem_mem ha)) i (List.mem_range.mpr hi)
    simpa [Array.getElem?_eq_getElem hi] using q
  obtain ⟨i0, e0⟩ := is_v g1
  obtain rfl : w0 = (.int i0) := Option.some.inj e0
  obtain ⟨i1, e1⟩ := is_v g2
  obtain rfl : w1 = (.int i1) := Option.some.inj e1
  obtain ⟨i2, e2⟩ := is_v g3
  obtain rfl : w2 = (.int i2) := Option.some.inj e2
  obtain ⟨i3, e3⟩ := is_v g4
  obtain rfl : w3 = (.int i3) := Option.some.inj e3
  obtain ⟨i4, e4⟩ := is_v hg
  obtain rfl : w4 = (.int i4) := Option.some.inj e4
  obtain ⟨hsets, hown0⟩ := atoms_of _ (rest_1_c_eq ▸ (show rest_1_c.before _ s = true from hrest))
  have n5 := not_v (Cond.before_iff.mp (hsets _ (List.mem_of_getElem? (i := 2) rfl)))
  obtain ⟨zc, ez⟩ := is_v (Cond.before_iff.mp (hsets _ (List.mem_of_getElem? (i := 1) rfl)))
  have S1 : Sta s s.heap "java/lang/String" "COMPACT_STRINGS" "Z" (.int zc) := Sta.start ez (Or.inl (hsets _ (List.mem_of_getElem? (i := 0) rfl)))
  have hz : ¬ (zc = (0 : Int32)) := gotF (Cond.eq_ints ez (Term.int_eval (0))) n5
  have hCH : CHv s own_EL s.vm s.heap := CHv.start (own_EW hw) (fun p hp => hcalls.1 p hp) (hsets _ (List.mem_of_getElem? (i := 2) rfl)) (own_k hw 20 rfl) (own_k hw 3 rfl)
  obtain ⟨fmt, e8f, r8⟩ := isR_v (Cond.before_iff.mp (hsets _ (List.mem_of_getElem? (i := 8) rfl)))
  have S2 : Sta s s.heap "jdk/internal/util/Preconditions" "SIOOBE_FORMATTER" "Ljava/util/function/BiFunction;" fmt := Sta.start e8f (Or.inl (hsets _ (List.mem_of_getElem? (i := 7) rfl)))
  have y15 := Cond.before_iff.mp (hsets _ (List.mem_of_getElem? (i := 15) rfl))
  have y17 := Cond.before_iff.mp (hsets _ (List.mem_of_getElem? (i := 17) rfl))
  obtain ⟨de, ed⟩ := arr_v y15
  obtain ⟨cd, Ad⟩ := Arr.start ed y15
  have ld := own_lenq ed Ad (eqv_i (Term.int_eval (0)) y17)
  have DV : Arv s s.heap de cd.cls (.object "java/lang/Object") (0 : Int32) [] .null := Arv.start hfit Ad ld.1 ld.2 (by decide) rfl trivial
  have SD : Sta s s.heap "java/util/ArrayList" "DEFAULTCAPACITY_EMPTY_ELEMENTDATA" "[Ljava/lang/Object;" (.ref de) := Sta.start ed (Or.inr ⟨(own_k hw 47 rfl), hsets _ (List.mem_of_getElem? (i := 11) rfl)⟩)
  obtain ⟨n, o, h1, h2, h3, _, L, rfl, ⟨rfl, N⟩, -, hq⟩ := own_law l s _ hw tables_1 i0 i1 i2 i3 i4 zc fmt de _ s.heap s.heap.size (Nat.le_refl _) (Old.start s) S1 hz S2 r8 SD DV p e ha hc hk s m _ below hf ((Spec.applies_iff_loose hf).mp happ).1 ⟨rfl, State.Warmed39.refl s, rfl, hCH⟩ trivial
  refine ⟨n, _, h1, h2, h3, hpost _ _ _ _ _ _ ⟨Cond.after_iff.mpr rfl, Cond.after_iff.mpr (eq_i res_at (Term.int_eval (1)) rfl), trivial⟩ ⟨hq.1, hq.2.1, hq.2.2.1, (hq.2.2.2.sift fun y hy => Or.inr (N y hy)).mono (by decide) (by decide)⟩⟩
theorem main_1_1 : Claimed_1_1 := comes_1 fun _ _ _ _ _ _ h hF => ⟨h.1, hF⟩
theorem main_1_2 : Claimed_1_2 := comes_1 fun _ _ _ _ _ _ h hF => ⟨h.2.1, hF⟩
end Jvm.Pilot.@@N@@
namespace Jvm.Pilot.@@N@@
open Jvm Jvm.ClassFile Sem Op Lib Jvm.Free Jvm.Stand Jvm.Pilot.@@N@@.Jvm.D
/-! MADE BY PROGRAM (witnessworld.py) out of the Statement's table words and the real class files: 31 classes; the members and pool entries that the words name. The judged class is class 1, her method 1. -/
namespace start1
open Jvm.ClassFile
def u (s : String) : CpInfo := .utf8 (stringToUtf16 s)
/-- a pool by its gaps: so many unusable entries, then the entry; so many at the end -/
def gap : Nat → List CpInfo → List CpInfo
  | 0, r => r
  | n + 1, r => .unusable :: gap n r
def poolList (es : List (Nat × CpInfo)) (last : Nat) : List CpInfo := es.foldr (fun e r => gap e.1 (e.2 :: r)) (gap last [])
def pool (es : List (Nat × CpInfo)) (last : Nat) : Array CpInfo := ⟨poolList es last⟩
def fileOf (pool : Array CpInfo) (this : Nat) (attrs : Array Attribute := #[]) (ms : Array MethodInfo := #[]) (fl : Nat := 33) (sup : Nat := 0) (ifs : Array Nat := #[]) (fds : Array FieldInfo := #[]) : ClassFile where
  minorVersion := 0
  majorVersion := 65
  constantPool := pool
  accessFlags := fl
  thisClass := this
  superClass := sup
  interfaces := ifs
  fields := fds
  methods := ms
  attributes := attrs
def plain (name : String) (sup : Option ClassId) : Class where
  name := name
  kind := .ordinary
  loader := none
  accessFlags := 33
  super := sup
  interfaces := #[]
  cf := none
  fields := #[]
  methods := #[]
  instanceTypes := #[]
  staticTypes := #[]
  resolved := #[]
  callSites := []
  init := .initialized
  statics := none
  mirror := none

def pool0 : Array CpInfo := pool [(5, u "<init>"), (0, u "()V"), (1, .class_ 10), (1, u "java/lang/Object")] 113

def k0c0 : Code := { maxStack := 0, maxLocals := 1, code := object_method_1_code, exceptionTable := #[], attributes := #[] }
def k0m0 : Method := { name := "<init>", desc := "()V", sig := { parameters := [], returnType := none }, accessFlags := 1, code := some k0c0 }
/-- java/lang/Object -/
def k0 : Class := { plain "java/lang/Object" none with
  accessFlags := 33
  interfaces := #[]
  cf := some (fileOf pool0 8 #[] #[{ accessFlags := 1, nameIndex := 5, descriptorIndex := 6, attributes := #[] }] 33 0 #[] #[])
  fields := #[]
  methods := #[k0m0]
  instanceTypes := #[]
  staticTypes := #[]
  resolved := Array.replicate 124 none
  statics := none }

def pool1 : Array CpInfo := pool [(2, .class_ 4), (0, .nameAndType 5 6), (0, u "java/lang/Object"), (0, u "<init>"), (0, u "()V"), (0, .integer 2147483647), (0, .class_ 9), (0, u "java/lang/String"), (0, .methodref 8 11), (0, .nameAndType 5 12), (0, u "([C)V"), (0, .string 14), (0, u "vehicle"), (0, .string 16), (0, u "VEHICLE"), (0, .methodref 8 18), (0, .nameAndType 19 20), (0, u "valueOf"), (0, u "(C)Ljava/lang/String;"), (0, .class_ 22), (0, u "java/util/ArrayList"), (0, .methodref 21 3), (0, .methodref 21 25), (0, .nameAndType 26 27), (0, u "add"), (0, u "(Ljava/lang/Object;)Z"), (0, .methodref 8 29), (0, .nameAndType 30 31), (0, u "charAt"), (0, u "(I)C"), (0, .methodref 33 34), (0, .class_ 35), (0, .nameAndType 36 37), (0, u "com/example/tourwerk/tourwerk/problem/SolomonReader"), (0, u "recognises"), (0, u "(Ljava/util/List;)Z"), (0, .class_ 39), (0, u "com/example/tourwerk/tourwerk/problem/SolomonReaderRecognisesPinLaw"), (2, u "law"), (0, u "(IIIII)Z")] 5

def k1m0 : Method := { name := "<init>", desc := "()V", sig := { parameters := [], returnType := none }, accessFlags := 1, code := none }
def k1c1 : Code := { maxStack := 5, maxLocals := 20, code := code, exceptionTable := #[], attributes := #[] }
def k1m1 : Method := { name := "law", desc := "(IIIII)Z", sig := { parameters := [.int, .int, .int, .int, .int], returnType := some .boolean }, accessFlags := 9, code := some k1c1 }
/-- com/example/tourwerk/tourwerk/problem/SolomonReaderRecognisesPinLaw -/
def k1 : Class := { plain "com/example/tourwerk/tourwerk/problem/SolomonReaderRecognisesPinLaw" (some 0) with
  accessFlags := 49
  interfaces := #[]
  cf := some (fileOf pool1 38 #[] #[{ accessFlags := 1, nameIndex := 5, descriptorIndex := 6, attributes := #[] }, { accessFlags := 9, nameIndex := 42, descriptorIndex := 43, attributes := #[] }] 49 2 #[] #[])
  fields := #[]
  methods := #[k1m0, k1m1]
  instanceTypes := #[]
  staticTypes := #[]
  resolved := Array.replicate 49 none
  statics := none }

def pool2 : Array CpInfo := pool [(1, .class_ 2), (0, u "java/io/Serializable"), (0, .class_ 4), (0, u "java/lang/Object")] 2

/-- java/io/Serializable -/
def k2 : Class := { plain "java/io/Serializable" (some 0) with
  accessFlags := 1537
  interfaces := #[]
  cf := some (fileOf pool2 1 #[] #[] 1537 3 #[] #[])
  fields := #[]
  methods := #[]
  instanceTypes := #[]
  staticTypes := #[]
  resolved := Array.replicate 7 none
  statics := none }

def pool3 : Array CpInfo := pool [(1, .class_ 2), (0, u "java/lang/Comparable"), (0, .class_ 4), (0, u "java/lang/Object")] 7

/-- java/lang/Comparable -/
def k3 : Class := { plain "java/lang/Comparable" (some 0) with
  accessFlags := 1537
  interfaces := #[]
  cf := some (fileOf pool3 1 #[] #[] 1537 3 #[] #[])
  fields := #[]
  methods := #[]
  instanceTypes := #[]
  staticTypes := #[]
  resolved := Array.replicate 12 none
  statics := none }

def pool4 : Array CpInfo := pool [(2, .class_ 4), (1, u "java/lang/CharSequence"), (42, .class_ 48), (0, u "java/lang/CharSequence$1CodePointIterator"), (10, .class_ 60), (0, u "java/lang/CharSequence$1CharIterator"), (5, .class_ 67), (0, u "java/lang/Object")] 63

/-- java/lang/CharSequence -/
def k4 : Class := { plain "java/lang/CharSequence" (some 0) with
  accessFlags := 1537
  interfaces := #[]
  cf := some (fileOf pool4 2 #[.nestMembers #[47, 59]] #[] 1537 66 #[] #[])
  fields := #[]
  methods := #[]
  instanceTypes := #[]
  staticTypes := #[]
  resolved := Array.replicate 131 none
  statics := none }

def pool5 : Array CpInfo := pool [(1, .class_ 2), (0, u "java/lang/constant/Constable"), (0, .class_ 4), (0, u "java/lang/Object")] 6

/-- java/lang/constant/Constable -/
def k5 : Class := { plain "java/lang/constant/Constable" (some 0) with
  accessFlags := 1537
  interfaces := #[]
  cf := some (fileOf pool5 1 #[] #[] 1537 3 #[] #[])
  fields := #[]
  methods := #[]
  instanceTypes := #[]
  staticTypes := #[]
  resolved := Array.replicate 11 none
  statics := none }

def pool6 : Array CpInfo := pool [(1, .class_ 2), (0, u "java/lang/constant/ConstantDesc"), (0, .class_ 4), (0, u "java/lang/Object")] 32

/-- java/lang/constant/ConstantDesc -/
def k6 : Class := { plain "java/lang/constant/ConstantDesc" (some 0) with
  accessFlags := 1537
  interfaces := #[]
  cf := some (fileOf pool6 1 #[] #[] 1537 3 #[] #[])
  fields := #[]
  methods := #[]
  instanceTypes := #[]
  staticTypes := #[]
  resolved := Array.replicate 37 none
  statics := none }

def pool7 : Array CpInfo := pool [(1, .methodref 2 3), (0, .class_ 4), (0, .nameAndType 5 6), (0, u "java/lang/Object"), (0, u "<init>"), (0, u "()V"), (2, .fieldref 10 11), (0, .class_ 12), (0, .nameAndType 13 14), (0, u "java/lang/String"), (0, u "value"), (0, u "[B"), (0, .fieldref 10 16), (0, .nameAndType 17 18), (0, u "coder"), (0, u "B"), (2, u "hash"), (0, u "I"), (2, u "hashIsZero"), (0, u "Z"), (0, .methodref 10 28), (0, .nameAndType 5 29), (0, u "([CIILjava/lang/Void;)V"), (8, .fieldref 10 39), (0, .nameAndType 40 26), (0, u "COMPACT_STRINGS"), (1, .class_ 44), (1, u "java/lang/StringUTF16"), (0, u "compress"), (1, .methodref 42 48), (0, .nameAndType 49 50), (0, u "coderFromArrayLen"), (0, u "([BI)B"), (2, u "toBytes"), (53, .class_ 109), (1, u "java/lang/StringLatin1"), (32, u "()Z"), (34, .methodref 42 178), (0, .nameAndType 45 179), (0, u "([CII)[B"), (29, .methodref 10 210), (0, .nameAndType 5 211), (0, u "([BB)V"), (151, u "([BI)C"), (5, u "(C)Z"), (21, u "(II)V"), (35, u "(I)C"), (64, .methodref 10 493), (0, .nameAndType 494 142), (0, u "isLatin1"), (0, .methodref 107 496), (0, .nameAndType 497 363), (0, u "charAt"), (3, u "checkIndex"), (39, .methodref 107 542), (0, .nameAndType 543 544), (0, u "equals"), (0, u "([B[B)Z"), (28, u "(Ljava/lang/Object;)Z"), (1, .class_ 576), (0, u "java/lang/CharSequence"), (22, u "CASE_INSENSITIVE_ORDER"), (0, u "Ljava/util/Comparator;"), (181, u "valueOf"), (0, u "(C)Ljava/lang/String;"), (226, u "([C)V"), (4, .methodref 107 1016), (0, .nameAndType 1017 369), (0, u "canEncode"), (0, .methodref 107 1019), (0, .nameAndType 53 1020), (0, u "(C)[B"), (32, .fieldref 1054 1055), (0, .class_ 1056), (0, .nameAndType 1057 1058), (0, u "jdk/internal/util/Preconditions"), (0, u "SIOOBE_FORMATTER"), (0, u "Ljava/util/function/BiFunction;"), (0, .methodref 1054 1060), (0, .nameAndType 501 1061), (0, u "(IILjava/util/function/BiFunction;)I"), (39, u "serialPersistentFields"), (0, u "[Ljava/io/ObjectStreamField;"), (0, .class_ 1104), (0, u "java/lang/String$CaseInsensitiveComparator"), (1, .class_ 1107), (0, u "java/io/Serializable"), (0, .class_ 1109), (0, u "java/lang/Comparable"), (0, .class_ 1111), (0, u "java/lang/constant/Constable"), (0, .class_ 1113), (0, u "java/lang/constant/ConstantDesc"), (2, u "serialVersionUID"), (0, u "J"), (3, u "REPL"), (0, u "C"), (2, u "LATIN1"), (1, u "UTF16")] 323

def k7m0 : Method := { name := "<init>", desc := "()V", sig := { parameters := [], returnType := none }, accessFlags := 1, code := none }
def k7c1 : Code := { maxStack := 5, maxLocals := 2, code := jdk_42_method_3_code, exceptionTable := #[], attributes := #[] }
def k7m1 : Method := { name := "<init>", desc := "([C)V", sig := { parameters := [(.array .char)], returnType := none }, accessFlags := 1, code := some k7c1 }
def k7c2 : Code := { maxStack := 2, maxLocals := 2, code := jdk_42_method_56_code, exceptionTable := #[], attributes := #[] }
def k7m2 : Method := { name := "charAt", desc := "(I)C", sig := { parameters := [.int], returnType := some .char }, accessFlags := 1, code := some k7c2 }
def k7c3 : Code := { maxStack := 2, maxLocals := 3, code := jdk_42_method_66_code, exceptionTable := #[], attributes := #[] }
def k7m3 : Method := { name := "equals", desc := "(Ljava/lang/Object;)Z", sig := { parameters := [(.object "java/lang/Object")], returnType := some .boolean }, accessFlags := 1, code := some k7c3 }
def k7c4 : Code := { maxStack := 4, maxLocals := 1, code := jdk_42_method_139_code, exceptionTable := #[], attributes := #[] }
def k7m4 : Method := { name := "valueOf", desc := "(C)Ljava/lang/String;", sig := { parameters := [.char], returnType := some (.object "java/lang/String") }, accessFlags := 9, code := some k7c4 }
def k7c5 : Code := { maxStack := 4, maxLocals := 6, code := jdk_42_method_149_code, exceptionTable := #[], attributes := #[] }
def k7m5 : Method := { name := "<init>", desc := "([CIILjava/lang/Void;)V", sig := { parameters := [(.array .char), .int, .int, (.object "java/lang/Void")], returnType := none }, accessFlags := 2, code := some k7c5 }
def k7c6 : Code := { maxStack := 2, maxLocals := 3, code := jdk_42_method_151_code, exceptionTable := #[], attributes := #[] }
def k7m6 : Method := { name := "<init>", desc := "([BB)V", sig := { parameters := [(.array .byte), .byte], returnType := none }, accessFlags := 0, code := some k7c6 }
def k7c7 : Code := { maxStack := 1, maxLocals := 1, code := jdk_42_method_154_code, exceptionTable := #[], attributes := #[] }
def k7m7 : Method := { name := "isLatin1", desc := "()Z", sig := { parameters := [], returnType := some .boolean }, accessFlags := 0, code := some k7c7 }
def k7c8 : Code := { maxStack := 3, maxLocals := 2, code := jdk_42_method_155_code, exceptionTable := #[], attributes := #[] }
def k7m8 : Method := { name := "checkIndex", desc := "(II)V", sig := { parameters := [.int, .int], returnType := none }, accessFlags := 8, code := some k7c8 }
/-- java/lang/String -/
def k7 : Class := { plain "java/lang/String" (some 0) with
  accessFlags := 49
  interfaces := #[2, 3, 4, 5, 6]
  cf := some (fileOf pool7 10 #[.nestMembers #[1103]] #[{ accessFlags := 1, nameIndex := 5, descriptorIndex := 6, attributes := #[] }, { accessFlags := 1, nameIndex := 5, descriptorIndex := 1010, attributes := #[] }, { accessFlags := 1, nameIndex := 497, descriptorIndex := 427, attributes := #[] }, { accessFlags := 1, nameIndex := 543, descriptorIndex := 573, attributes := #[] }, { accessFlags := 9, nameIndex := 782, descriptorIndex := 783, attributes := #[] }, { accessFlags := 2, nameIndex := 5, descriptorIndex := 29, attributes := #[] }, { accessFlags := 0, nameIndex := 5, descriptorIndex := 211, attributes := #[] }, { accessFlags := 0, nameIndex := 494, descriptorIndex := 142, attributes := #[] }, { accessFlags := 8, nameIndex := 501, descriptorIndex := 391, attributes := #[] }] 49 2 #[1106, 1108, 575, 1110, 1112] #[{ accessFlags := 18, nameIndex := 13, descriptorIndex := 14, attributes := #[] }, { accessFlags := 18, nameIndex := 17, descriptorIndex := 18, attributes := #[] }, { accessFlags := 2, nameIndex := 21, descriptorIndex := 22, attributes := #[] }, { accessFlags := 2, nameIndex := 25, descriptorIndex := 26, attributes := #[] }, { accessFlags := 26, nameIndex := 1116, descriptorIndex := 1117, attributes := #[] }, { accessFlags := 24, nameIndex := 40, descriptorIndex := 26, attributes := #[] }, { accessFlags := 26, nameIndex := 1101, descriptorIndex := 1102, attributes := #[] }, { accessFlags := 26, nameIndex := 1121, descriptorIndex := 1122, attributes := #[] }, { accessFlags := 25, nameIndex := 599, descriptorIndex := 600, attributes := #[] }, { accessFlags := 24, nameIndex := 1125, descriptorIndex := 18, attributes := #[] }, { accessFlags := 24, nameIndex := 1127, descriptorIndex := 18, attributes := #[] }])
  fields := #[{ name := "value", type := (.array .byte), accessFlags := 18, slot := 0, constantValue := 0 }, { name := "coder", type := .byte, accessFlags := 18, slot := 1, constantValue := 0 }, { name := "hash", type := .int, accessFlags := 2, slot := 2, constantValue := 0 }, { name := "hashIsZero", type := .boolean, accessFlags := 2, slot := 3, constantValue := 0 }, { name := "serialVersionUID", type := .long, accessFlags := 26, slot := 0, constantValue := 0 }, { name := "COMPACT_STRINGS", type := .boolean, accessFlags := 24, slot := 1, constantValue := 0 }, { name := "serialPersistentFields", type := (.array (.object "java/io/ObjectStreamField")), accessFlags := 26, slot := 2, constantValue := 0 }, { name := "REPL", type := .char, accessFlags := 26, slot := 3, constantValue := 0 }, { name := "CASE_INSENSITIVE_ORDER", type := (.object "java/util/Comparator"), accessFlags := 25, slot := 4, constantValue := 0 }, { name := "LATIN1", type := .byte, accessFlags := 24, slot := 5, constantValue := 0 }, { name := "UTF16", type := .byte, accessFlags := 24, slot := 6, constantValue := 0 }]
  methods := #[k7m0, k7m1, k7m2, k7m3, k7m4, k7m5, k7m6, k7m7, k7m8]
  instanceTypes := #[(.array .byte), .byte, .int, .boolean]
  staticTypes := #[.long, .boolean, (.array (.object "java/io/ObjectStreamField")), .char, (.object "java/util/Comparator"), .byte, .byte]
  resolved := Array.replicate 1451 none
  statics := some 0 }

def pool8 : Array CpInfo := pool [(6, .class_ 8), (1, u "java/lang/Object"), (0, u "<init>"), (0, u "()V"), (1, .class_ 14), (1, u "java/lang/StringUTF16"), (31, u "$assertionsDisabled"), (0, u "Z"), (13, u "HI_BYTE_SHIFT"), (0, u "I"), (2, u "LO_BYTE_SHIFT"), (49, .methodref 12 116), (0, .nameAndType 117 118), (0, u "compress"), (0, u "([CI[BII)I"), (3, u "([CII)[B"), (138, u "coderFromArrayLen"), (0, u "([BI)B"), (106, .class_ 371), (1, u "java/lang/StringUTF16$LinesSpliterator"), (58, u "MAX_LENGTH"), (196, .class_ 628), (0, u "java/lang/StringUTF16$CodePointsSpliterator"), (0, .class_ 630), (0, u "java/lang/StringUTF16$CharsSpliterator")] 4

def k8m0 : Method := { name := "<init>", desc := "()V", sig := { parameters := [], returnType := none }, accessFlags := 0, code := none }
def k8c1 : Code := { maxStack := 2, maxLocals := 2, code := jdk_52_method_15_code, exceptionTable := #[], attributes := #[] }
def k8m1 : Method := { name := "coderFromArrayLen", desc := "([BI)B", sig := { parameters := [(.array .byte), .int], returnType := some .byte }, accessFlags := 8, code := some k8c1 }
def k8c2 : Code := { maxStack := 5, maxLocals := 6, code := jdk_52_method_16_code, exceptionTable := #[], attributes := #[] }
def k8m2 : Method := { name := "compress", desc := "([CII)[B", sig := { parameters := [(.array .char), .int, .int], returnType := some (.array .byte) }, accessFlags := 9, code := some k8c2 }
def k8c3 : Code := { maxStack := 3, maxLocals := 7, code := jdk_52_method_21_code, exceptionTable := #[], attributes := #[] }
def k8m3 : Method := { name := "compress", desc := "([CI[BII)I", sig := { parameters := [(.array .char), .int, (.array .byte), .int, .int], returnType := some .int }, accessFlags := 9, code := some k8c3 }
/-- java/lang/StringUTF16 -/
def k8 : Class := { plain "java/lang/StringUTF16" (some 0) with
  accessFlags := 48
  interfaces := #[]
  cf := some (fileOf pool8 12 #[.nestMembers #[627, 629, 369]] #[{ accessFlags := 0, nameIndex := 9, descriptorIndex := 10, attributes := #[] }, { accessFlags := 8, nameIndex := 261, descriptorIndex := 262, attributes := #[] }, { accessFlags := 9, nameIndex := 117, descriptorIndex := 122, attributes := #[] }, { accessFlags := 9, nameIndex := 117, descriptorIndex := 118, attributes := #[] }] 48 6 #[] #[{ accessFlags := 26, nameIndex := 61, descriptorIndex := 62, attributes := #[] }, { accessFlags := 26, nameIndex := 65, descriptorIndex := 62, attributes := #[] }, { accessFlags := 24, nameIndex := 430, descriptorIndex := 62, attributes := #[] }, { accessFlags := 4120, nameIndex := 46, descriptorIndex := 47, attributes := #[] }])
  fields := #[{ name := "HI_BYTE_SHIFT", type := .int, accessFlags := 26, slot := 0, constantValue := 0 }, { name := "LO_BYTE_SHIFT", type := .int, accessFlags := 26, slot := 1, constantValue := 0 }, { name := "MAX_LENGTH", type := .int, accessFlags := 24, slot := 2, constantValue := 0 }, { name := "$assertionsDisabled", type := .boolean, accessFlags := 4120, slot := 3, constantValue := 0 }]
  methods := #[k8m0, k8m1, k8m2, k8m3]
  instanceTypes := #[]
  staticTypes := #[.int, .int, .int, .boolean]
  resolved := Array.replicate 635 none
  statics := none }

def pool9 : Array CpInfo := pool [(1, .class_ 2), (0, u "java/lang/String"), (1, .class_ 6), (1, u "java/lang/Object"), (0, u "<init>"), (0, u "()V"), (0, .methodref 1 10), (0, .nameAndType 11 12), (0, u "checkIndex"), (0, u "(II)V"), (1, .class_ 16), (1, u "java/lang/StringLatin1"), (36, u "([BI)C"), (36, u "canEncode"), (14, u "(C)Z"), (15, u "$assertionsDisabled"), (0, u "Z"), (98, .class_ 223), (1, u "java/lang/StringLatin1$LinesSpliterator"), (28, u "charAt"), (28, u "equals"), (0, u "([B[B)Z"), (97, u "toBytes"), (1, u "(C)[B"), (7, .class_ 391), (0, u "java/lang/StringLatin1$CharsSpliterator")] 3

def k9m0 : Method := { name := "<init>", desc := "()V", sig := { parameters := [], returnType := none }, accessFlags := 0, code := none }
def k9c1 : Code := { maxStack := 2, maxLocals := 2, code := jdk_43_method_2_code, exceptionTable := #[], attributes := #[] }
def k9m1 : Method := { name := "charAt", desc := "([BI)C", sig := { parameters := [(.array .byte), .int], returnType := some .char }, accessFlags := 9, code := some k9c1 }
def k9c2 : Code := { maxStack := 2, maxLocals := 1, code := jdk_43_method_3_code, exceptionTable := #[], attributes := #[] }
def k9m2 : Method := { name := "canEncode", desc := "(C)Z", sig := { parameters := [.char], returnType := some .boolean }, accessFlags := 9, code := some k9c2 }
def k9c3 : Code := { maxStack := 3, maxLocals := 3, code := jdk_43_method_13_code, exceptionTable := #[], attributes := #[] }
def k9m3 : Method := { name := "equals", desc := "([B[B)Z", sig := { parameters := [(.array .byte), (.array .byte)], returnType := some .boolean }, accessFlags := 9, code := some k9c3 }
def k9c4 : Code := { maxStack := 4, maxLocals := 1, code := jdk_43_method_46_code, exceptionTable := #[], attributes := #[] }
def k9m4 : Method := { name := "toBytes", desc := "(C)[B", sig := { parameters := [.char], returnType := some (.array .byte) }, accessFlags := 9, code := some k9c4 }
/-- java/lang/StringLatin1 -/
def k9 : Class := { plain "java/lang/StringLatin1" (some 0) with
  accessFlags := 48
  interfaces := #[]
  cf := some (fileOf pool9 14 #[.nestMembers #[390, 221]] #[{ accessFlags := 0, nameIndex := 7, descriptorIndex := 8, attributes := #[] }, { accessFlags := 9, nameIndex := 252, descriptorIndex := 53, attributes := #[] }, { accessFlags := 9, nameIndex := 90, descriptorIndex := 105, attributes := #[] }, { accessFlags := 9, nameIndex := 281, descriptorIndex := 282, attributes := #[] }, { accessFlags := 9, nameIndex := 380, descriptorIndex := 382, attributes := #[] }] 48 4 #[] #[{ accessFlags := 4120, nameIndex := 121, descriptorIndex := 122, attributes := #[] }])
  fields := #[{ name := "$assertionsDisabled", type := .boolean, accessFlags := 4120, slot := 0, constantValue := 0 }]
  methods := #[k9m0, k9m1, k9m2, k9m3, k9m4]
  instanceTypes := #[]
  staticTypes := #[.boolean]
  resolved := Array.replicate 395 none
  statics := none }

def pool10 : Array CpInfo := pool [(8, .class_ 10), (1, u "java/lang/Iterable"), (24, .class_ 36), (0, u "java/lang/Object")] 25

/-- java/lang/Iterable -/
def k10 : Class := { plain "java/lang/Iterable" (some 0) with
  accessFlags := 1537
  interfaces := #[]
  cf := some (fileOf pool10 8 #[] #[] 1537 35 #[] #[])
  fields := #[]
  methods := #[]
  instanceTypes := #[]
  staticTypes := #[]
  resolved := Array.replicate 62 none
  statics := none }

def pool11 : Array CpInfo := pool [(10, .class_ 12), (1, u "java/util/Collection"), (47, .class_ 61), (0, u "java/lang/Object"), (0, .class_ 63), (0, u "java/lang/Iterable")] 51

/-- java/util/Collection -/
def k11 : Class := { plain "java/util/Collection" (some 0) with
  accessFlags := 1537
  interfaces := #[10]
  cf := some (fileOf pool11 10 #[] #[] 1537 60 #[62] #[])
  fields := #[]
  methods := #[]
  instanceTypes := #[]
  staticTypes := #[]
  resolved := Array.replicate 115 none
  statics := none }

def pool12 : Array CpInfo := pool [(1, .methodref 2 3), (0, .class_ 4), (0, .nameAndType 5 6), (0, u "java/lang/Object"), (0, u "<init>"), (0, u "()V"), (1, .class_ 10), (1, u "java/util/AbstractCollection"), (66, .class_ 78), (0, u "java/util/Collection")] 81

def k12c0 : Code := { maxStack := 1, maxLocals := 1, code := jdk_22_method_1_code, exceptionTable := #[], attributes := #[] }
def k12m0 : Method := { name := "<init>", desc := "()V", sig := { parameters := [], returnType := none }, accessFlags := 4, code := some k12c0 }
/-- java/util/AbstractCollection -/
def k12 : Class := { plain "java/util/AbstractCollection" (some 0) with
  accessFlags := 1057
  interfaces := #[11]
  cf := some (fileOf pool12 8 #[] #[{ accessFlags := 4, nameIndex := 5, descriptorIndex := 6, attributes := #[] }] 1057 2 #[77] #[])
  fields := #[]
  methods := #[k12m0]
  instanceTypes := #[]
  staticTypes := #[]
  resolved := Array.replicate 160 none
  statics := none }

def pool13 : Array CpInfo := pool [(8, .class_ 10), (1, u "java/util/SequencedCollection"), (15, .class_ 27), (0, u "java/lang/Object"), (0, .class_ 29), (0, u "java/util/Collection")] 27

/-- java/util/SequencedCollection -/
def k13 : Class := { plain "java/util/SequencedCollection" (some 0) with
  accessFlags := 1537
  interfaces := #[11]
  cf := some (fileOf pool13 8 #[] #[] 1537 26 #[28] #[])
  fields := #[]
  methods := #[]
  instanceTypes := #[]
  staticTypes := #[]
  resolved := Array.replicate 57 none
  statics := none }

def pool14 : Array CpInfo := pool [(8, .class_ 10), (1, u "java/util/List"), (64, u "get"), (0, u "(I)Ljava/lang/Object;"), (2, u "size"), (0, u "()I"), (22, .class_ 104), (0, u "java/lang/Object"), (15, .class_ 121), (0, u "java/util/SequencedCollection")] 129

def k14m0 : Method := { name := "size", desc := "()I", sig := { parameters := [], returnType := some .int }, accessFlags := 1025, code := none }
def k14m1 : Method := { name := "get", desc := "(I)Ljava/lang/Object;", sig := { parameters := [.int], returnType := some (.object "java/lang/Object") }, accessFlags := 1025, code := none }
/-- java/util/List -/
def k14 : Class := { plain "java/util/List" (some 0) with
  accessFlags := 1537
  interfaces := #[13]
  cf := some (fileOf pool14 8 #[] #[{ accessFlags := 1025, nameIndex := 79, descriptorIndex := 80, attributes := #[] }, { accessFlags := 1025, nameIndex := 75, descriptorIndex := 76, attributes := #[] }] 1537 103 #[120] #[])
  fields := #[]
  methods := #[k14m0, k14m1]
  instanceTypes := #[]
  staticTypes := #[]
  resolved := Array.replicate 251 none
  statics := none }

def pool15 : Array CpInfo := pool [(1, .methodref 2 3), (0, .class_ 4), (0, .nameAndType 5 6), (0, u "java/util/AbstractCollection"), (0, u "<init>"), (0, u "()V"), (0, .fieldref 8 9), (0, .class_ 10), (0, .nameAndType 11 12), (0, u "java/util/AbstractList"), (0, u "modCount"), (0, u "I"), (64, .class_ 78), (0, u "java/util/AbstractList$Itr"), (3, .class_ 83), (0, u "java/util/AbstractList$ListItr"), (9, .class_ 94), (0, u "java/util/AbstractList$RandomAccessSubList"), (3, .class_ 99), (0, u "java/util/AbstractList$SubList"), (33, .class_ 134), (0, u "java/util/List"), (73, .class_ 209), (0, u "java/util/AbstractList$SubList$1"), (0, .class_ 211), (0, u "java/util/AbstractList$RandomAccessSpliterator")] 6

def k15c0 : Code := { maxStack := 2, maxLocals := 1, code := jdk_39_method_1_code, exceptionTable := #[], attributes := #[] }
def k15m0 : Method := { name := "<init>", desc := "()V", sig := { parameters := [], returnType := none }, accessFlags := 4, code := some k15c0 }
/-- java/util/AbstractList -/
def k15 : Class := { plain "java/util/AbstractList" (some 12) with
  accessFlags := 1057
  interfaces := #[14]
  cf := some (fileOf pool15 8 #[.nestMembers #[93, 98, 208, 210, 82, 77]] #[{ accessFlags := 4, nameIndex := 5, descriptorIndex := 6, attributes := #[] }] 1057 2 #[133] #[{ accessFlags := 132, nameIndex := 11, descriptorIndex := 12, attributes := #[] }])
  fields := #[{ name := "modCount", type := .int, accessFlags := 132, slot := 0, constantValue := 0 }]
  methods := #[k15m0]
  instanceTypes := #[.int]
  staticTypes := #[]
  resolved := Array.replicate 218 none
  statics := none }

def pool16 : Array CpInfo := pool [(1, .class_ 2), (0, u "java/util/RandomAccess"), (0, .class_ 4), (0, u "java/lang/Object")] 2

/-- java/util/RandomAccess -/
def k16 : Class := { plain "java/util/RandomAccess" (some 0) with
  accessFlags := 1537
  interfaces := #[]
  cf := some (fileOf pool16 1 #[] #[] 1537 3 #[] #[])
  fields := #[]
  methods := #[]
  instanceTypes := #[]
  staticTypes := #[]
  resolved := Array.replicate 7 none
  statics := none }

def pool17 : Array CpInfo := pool [(1, .class_ 2), (0, u "java/lang/Cloneable"), (0, .class_ 4), (0, u "java/lang/Object")] 2

/-- java/lang/Cloneable -/
def k17 : Class := { plain "java/lang/Cloneable" (some 0) with
  accessFlags := 1537
  interfaces := #[]
  cf := some (fileOf pool17 1 #[] #[] 1537 3 #[] #[])
  fields := #[]
  methods := #[]
  instanceTypes := #[]
  staticTypes := #[]
  resolved := Array.replicate 7 none
  statics := none }

def pool18 : Array CpInfo := pool [(1, .methodref 2 3), (0, .class_ 4), (0, .nameAndType 5 6), (0, u "java/util/AbstractList"), (0, u "<init>"), (0, u "()V"), (0, .class_ 8), (0, u "java/lang/Object"), (0, .fieldref 10 11), (0, .class_ 12), (0, .nameAndType 13 14), (0, u "java/util/ArrayList"), (0, u "elementData"), (0, u "[Ljava/lang/Object;"), (2, u "EMPTY_ELEMENTDATA"), (21, .fieldref 10 40), (0, .nameAndType 41 14), (0, u "DEFAULTCAPACITY_EMPTY_ELEMENTDATA"), (5, u "()[Ljava/lang/Object;"), (0, .fieldref 10 49), (0, .nameAndType 50 51), (0, u "size"), (0, u "I"), (11, .fieldref 10 64), (0, .nameAndType 65 51), (0, u "modCount"), (3, .methodref 10 70), (0, .nameAndType 71 72), (0, u "grow"), (0, u "(I)[Ljava/lang/Object;"), (6, .methodref 80 81), (0, .class_ 82), (0, .nameAndType 83 84), (0, u "java/lang/Math"), (0, u "max"), (0, u "(II)I"), (11, u "(Ljava/lang/Object;)Z"), (21, .methodref 119 120), (0, .class_ 121), (0, .nameAndType 122 84), (0, u "java/util/Objects"), (0, u "checkIndex"), (0, .methodref 10 124), (0, .nameAndType 13 125), (0, u "(I)Ljava/lang/Object;"), (3, .methodref 10 130), (0, .nameAndType 71 47), (0, .methodref 10 132), (0, .nameAndType 133 134), (0, u "add"), (0, u "(Ljava/lang/Object;[Ljava/lang/Object;I)V"), (13, .class_ 149), (0, u "java/util/List"), (36, u "()I"), (75, .class_ 263), (0, u "java/util/ArrayList$ListItr"), (3, .class_ 268), (0, u "java/util/ArrayList$Itr"), (7, .class_ 277), (0, u "java/util/ArrayList$SubList"), (12, .class_ 291), (0, u "java/util/ArrayList$ArrayListSpliterator"), (37, .class_ 330), (0, u "java/util/RandomAccess"), (0, .class_ 332), (0, u "java/lang/Cloneable"), (0, .class_ 334), (0, u "java/io/Serializable"), (0, u "serialVersionUID"), (0, u "J"), (3, u "DEFAULT_CAPACITY"), (40, u "get"), (118, .class_ 501), (0, u "java/util/ArrayList$SubList$2"), (0, .class_ 503), (0, u "java/util/ArrayList$SubList$1")] 5

def k18c0 : Code := { maxStack := 2, maxLocals := 1, code := jdk_38_method_2_code, exceptionTable := #[], attributes := #[] }
def k18m0 : Method := { name := "<init>", desc := "()V", sig := { parameters := [], returnType := none }, accessFlags := 1, code := some k18c0 }
def k18c1 : Code := { maxStack := 4, maxLocals := 4, code := jdk_38_method_6_code, exceptionTable := #[], attributes := #[] }
def k18m1 : Method := { name := "grow", desc := "(I)[Ljava/lang/Object;", sig := { parameters := [.int], returnType := some (.array (.object "java/lang/Object")) }, accessFlags := 2, code := some k18c1 }
def k18c2 : Code := { maxStack := 3, maxLocals := 1, code := jdk_38_method_7_code, exceptionTable := #[], attributes := #[] }
def k18m2 : Method := { name := "grow", desc := "()[Ljava/lang/Object;", sig := { parameters := [], returnType := some (.array (.object "java/lang/Object")) }, accessFlags := 2, code := some k18c2 }
def k18c3 : Code := { maxStack := 1, maxLocals := 1, code := jdk_38_method_8_code, exceptionTable := #[], attributes := #[] }
def k18m3 : Method := { name := "size", desc := "()I", sig := { parameters := [], returnType := some .int }, accessFlags := 1, code := some k18c3 }
def k18c4 : Code := { maxStack := 2, maxLocals := 2, code := jdk_38_method_18_code, exceptionTable := #[], attributes := #[] }
def k18m4 : Method := { name := "elementData", desc := "(I)Ljava/lang/Object;", sig := { parameters := [.int], returnType := some (.object "java/lang/Object") }, accessFlags := 0, code := some k18c4 }
def k18c5 : Code := { maxStack := 2, maxLocals := 2, code := jdk_38_method_20_code, exceptionTable := #[], attributes := #[] }
def k18m5 : Method := { name := "get", desc := "(I)Ljava/lang/Object;", sig := { parameters := [.int], returnType := some (.object "java/lang/Object") }, accessFlags := 1, code := some k18c5 }
def k18c6 : Code := { maxStack := 3, maxLocals := 4, code := jdk_38_method_24_code, exceptionTable := #[], attributes := #[] }
def k18m6 : Method := { name := "add", desc := "(Ljava/lang/Object;[Ljava/lang/Object;I)V", sig := { parameters := [(.object "java/lang/Object"), (.array (.object "java/lang/Object")), .int], returnType := none }, accessFlags := 2, code := some k18c6 }
def k18c7 : Code := { maxStack := 4, maxLocals := 2, code := jdk_38_method_25_code, exceptionTable := #[], attributes := #[] }
def k18m7 : Method := { name := "add", desc := "(Ljava/lang/Object;)Z", sig := { parameters := [(.object "java/lang/Object")], returnType := some .boolean }, accessFlags := 1, code := some k18c7 }
/-- java/util/ArrayList -/
def k18 : Class := { plain "java/util/ArrayList" (some 15) with
  accessFlags := 33
  interfaces := #[14, 16, 17, 2]
  cf := some (fileOf pool18 10 #[.nestMembers #[290, 276, 500, 502, 262, 267]] #[{ accessFlags := 1, nameIndex := 5, descriptorIndex := 6, attributes := #[] }, { accessFlags := 2, nameIndex := 71, descriptorIndex := 72, attributes := #[] }, { accessFlags := 2, nameIndex := 71, descriptorIndex := 47, attributes := #[] }, { accessFlags := 1, nameIndex := 50, descriptorIndex := 186, attributes := #[] }, { accessFlags := 0, nameIndex := 13, descriptorIndex := 125, attributes := #[] }, { accessFlags := 1, nameIndex := 381, descriptorIndex := 125, attributes := #[] }, { accessFlags := 2, nameIndex := 133, descriptorIndex := 134, attributes := #[] }, { accessFlags := 1, nameIndex := 133, descriptorIndex := 96, attributes := #[] }] 33 2 #[148, 329, 331, 333] #[{ accessFlags := 26, nameIndex := 335, descriptorIndex := 336, attributes := #[] }, { accessFlags := 26, nameIndex := 340, descriptorIndex := 51, attributes := #[] }, { accessFlags := 26, nameIndex := 17, descriptorIndex := 14, attributes := #[] }, { accessFlags := 26, nameIndex := 41, descriptorIndex := 14, attributes := #[] }, { accessFlags := 128, nameIndex := 13, descriptorIndex := 14, attributes := #[] }, { accessFlags := 2, nameIndex := 50, descriptorIndex := 51, attributes := #[] }])
  fields := #[{ name := "serialVersionUID", type := .long, accessFlags := 26, slot := 0, constantValue := 0 }, { name := "DEFAULT_CAPACITY", type := .int, accessFlags := 26, slot := 1, constantValue := 0 }, { name := "EMPTY_ELEMENTDATA", type := (.array (.object "java/lang/Object")), accessFlags := 26, slot := 2, constantValue := 0 }, { name := "DEFAULTCAPACITY_EMPTY_ELEMENTDATA", type := (.array (.object "java/lang/Object")), accessFlags := 26, slot := 3, constantValue := 0 }, { name := "elementData", type := (.array (.object "java/lang/Object")), accessFlags := 128, slot := 1, constantValue := 0 }, { name := "size", type := .int, accessFlags := 2, slot := 2, constantValue := 0 }]
  methods := #[k18m0, k18m1, k18m2, k18m3, k18m4, k18m5, k18m6, k18m7]
  instanceTypes := #[.int, (.array (.object "java/lang/Object")), .int]
  staticTypes := #[.long, .int, (.array (.object "java/lang/Object")), (.array (.object "java/lang/Object"))]
  resolved := Array.replicate 509 none
  statics := some 1 }

def pool19 : Array CpInfo := pool [(2, .class_ 4), (1, u "java/lang/Object"), (0, u "<init>"), (0, u "()V"), (17, .class_ 26), (1, u "jdk/internal/util/Preconditions"), (6, u "checkIndex"), (21, .class_ 56), (0, u "jdk/internal/util/Preconditions$4"), (57, .class_ 115), (0, u "jdk/internal/util/Preconditions$1"), (7, u "SIOOBE_FORMATTER"), (0, u "Ljava/util/function/BiFunction;"), (0, .class_ 126), (0, u "jdk/internal/util/Preconditions$2"), (3, u "AIOOBE_FORMATTER"), (0, .class_ 132), (0, u "jdk/internal/util/Preconditions$3"), (3, u "IOOBE_FORMATTER"), (41, u "(IILjava/util/function/BiFunction;)I")] 15

def k19m0 : Method := { name := "<init>", desc := "()V", sig := { parameters := [], returnType := none }, accessFlags := 1, code := none }
def k19c1 : Code := { maxStack := 3, maxLocals := 3, code := jdk_41_method_11_code, exceptionTable := #[], attributes := #[] }
def k19m1 : Method := { name := "checkIndex", desc := "(IILjava/util/function/BiFunction;)I", sig := { parameters := [.int, .int, (.object "java/util/function/BiFunction")], returnType := some .int }, accessFlags := 9, code := some k19c1 }
/-- jdk/internal/util/Preconditions -/
def k19 : Class := { plain "jdk/internal/util/Preconditions" (some 0) with
  accessFlags := 33
  interfaces := #[]
  cf := some (fileOf pool19 24 #[.nestMembers #[55, 131, 125, 114]] #[{ accessFlags := 1, nameIndex := 5, descriptorIndex := 6, attributes := #[] }, { accessFlags := 9, nameIndex := 33, descriptorIndex := 178, attributes := #[] }] 33 2 #[] #[{ accessFlags := 25, nameIndex := 123, descriptorIndex := 124, attributes := #[] }, { accessFlags := 25, nameIndex := 130, descriptorIndex := 124, attributes := #[] }, { accessFlags := 25, nameIndex := 136, descriptorIndex := 124, attributes := #[] }])
  fields := #[{ name := "SIOOBE_FORMATTER", type := (.object "java/util/function/BiFunction"), accessFlags := 25, slot := 0, constantValue := 0 }, { name := "AIOOBE_FORMATTER", type := (.object "java/util/function/BiFunction"), accessFlags := 25, slot := 1, constantValue := 0 }, { name := "IOOBE_FORMATTER", type := (.object "java/util/function/BiFunction"), accessFlags := 25, slot := 2, constantValue := 0 }]
  methods := #[k19m0, k19m1]
  instanceTypes := #[]
  staticTypes := #[(.object "java/util/function/BiFunction"), (.object "java/util/function/BiFunction"), (.object "java/util/function/BiFunction")]
  resolved := Array.replicate 194 none
  statics := some 2 }

def pool20 : Array CpInfo := pool [(2, .class_ 4), (1, u "java/lang/Object"), (3, .class_ 10), (1, u "com/example/tourwerk/tourwerk/problem/SolomonReader"), (0, u "_lines"), (0, u "Lcom/example/tourwerk/tourwerk/problem/Lines;"), (12, .interfaceMethodref 26 27), (0, .class_ 28), (0, .nameAndType 29 30), (0, u "java/util/List"), (0, u "size"), (0, u "()I"), (0, .interfaceMethodref 26 32), (0, .nameAndType 33 34), (0, u "get"), (0, u "(I)Ljava/lang/Object;"), (0, .class_ 36), (0, u "java/lang/String"), (0, .string 38), (0, u "VEHICLE"), (0, .methodref 35 40), (0, .nameAndType 41 42), (0, u "equals"), (0, u "(Ljava/lang/Object;)Z"), (103, u "recognises"), (0, u "(Ljava/util/List;)Z")] 40

def k20c0 : Code := { maxStack := 2, maxLocals := 1, code := prog_24_method_3_code, exceptionTable := #[], attributes := #[] }
def k20m0 : Method := { name := "recognises", desc := "(Ljava/util/List;)Z", sig := { parameters := [(.object "java/util/List")], returnType := some .boolean }, accessFlags := 8, code := some k20c0 }
/-- com/example/tourwerk/tourwerk/problem/SolomonReader -/
def k20 : Class := { plain "com/example/tourwerk/tourwerk/problem/SolomonReader" (some 0) with
  accessFlags := 49
  interfaces := #[]
  cf := some (fileOf pool20 8 #[] #[{ accessFlags := 8, nameIndex := 146, descriptorIndex := 147, attributes := #[] }] 49 2 #[] #[{ accessFlags := 18, nameIndex := 11, descriptorIndex := 12, attributes := #[] }])
  fields := #[{ name := "_lines", type := (.object "com/example/tourwerk/tourwerk/problem/Lines"), accessFlags := 18, slot := 0, constantValue := 0 }]
  methods := #[k20m0]
  instanceTypes := #[(.object "com/example/tourwerk/tourwerk/problem/Lines")]
  staticTypes := #[]
  resolved := Array.replicate 188 none
  statics := none }

def pool21 : Array CpInfo := pool [(1, .class_ 2), (0, u "java/lang/Math"), (1, .class_ 6), (1, u "java/lang/Object"), (0, u "<init>"), (0, u "()V"), (89, .class_ 100), (1, u "java/lang/Math$RandomNumberGeneratorHolder"), (71, u "negativeZeroFloatBits"), (0, u "J"), (2, u "negativeZeroDoubleBits"), (21, u "max"), (46, u "$assertionsDisabled"), (0, u "Z"), (88, u "(II)I"), (2, u "twoToTheDoubleScaleDown"), (0, u "D"), (4, u "twoToTheDoubleScaleUp"), (9, u "E"), (3, u "PI"), (2, u "TAU"), (2, u "DEGREES_TO_RADIANS"), (0, u "RADIANS_TO_DEGREES")] 94

def k21m0 : Method := { name := "<init>", desc := "()V", sig := { parameters := [], returnType := none }, accessFlags := 2, code := none }
def k21c1 : Code := { maxStack := 2, maxLocals := 2, code := jdk_29_method_65_code, exceptionTable := #[], attributes := #[] }
def k21m1 : Method := { name := "max", desc := "(II)I", sig := { parameters := [.int, .int], returnType := some .int }, accessFlags := 9, code := some k21c1 }
/-- java/lang/Math -/
def k21 : Class := { plain "java/lang/Math" (some 0) with
  accessFlags := 49
  interfaces := #[]
  cf := some (fileOf pool21 1 #[.nestMembers #[98]] #[{ accessFlags := 2, nameIndex := 7, descriptorIndex := 8, attributes := #[] }, { accessFlags := 9, nameIndex := 198, descriptorIndex := 335, attributes := #[] }] 49 4 #[] #[{ accessFlags := 25, nameIndex := 354, descriptorIndex := 339, attributes := #[] }, { accessFlags := 25, nameIndex := 358, descriptorIndex := 339, attributes := #[] }, { accessFlags := 25, nameIndex := 361, descriptorIndex := 339, attributes := #[] }, { accessFlags := 26, nameIndex := 364, descriptorIndex := 339, attributes := #[] }, { accessFlags := 26, nameIndex := 365, descriptorIndex := 339, attributes := #[] }, { accessFlags := 26, nameIndex := 172, descriptorIndex := 173, attributes := #[] }, { accessFlags := 26, nameIndex := 176, descriptorIndex := 173, attributes := #[] }, { accessFlags := 8, nameIndex := 344, descriptorIndex := 339, attributes := #[] }, { accessFlags := 8, nameIndex := 338, descriptorIndex := 339, attributes := #[] }, { accessFlags := 4120, nameIndex := 245, descriptorIndex := 246, attributes := #[] }])
  fields := #[{ name := "E", type := .double, accessFlags := 25, slot := 0, constantValue := 0 }, { name := "PI", type := .double, accessFlags := 25, slot := 1, constantValue := 0 }, { name := "TAU", type := .double, accessFlags := 25, slot := 2, constantValue := 0 }, { name := "DEGREES_TO_RADIANS", type := .double, accessFlags := 26, slot := 3, constantValue := 0 }, { name := "RADIANS_TO_DEGREES", type := .double, accessFlags := 26, slot := 4, constantValue := 0 }, { name := "negativeZeroFloatBits", type := .long, accessFlags := 26, slot := 5, constantValue := 0 }, { name := "negativeZeroDoubleBits", type := .long, accessFlags := 26, slot := 6, constantValue := 0 }, { name := "twoToTheDoubleScaleUp", type := .double, accessFlags := 8, slot := 7, constantValue := 0 }, { name := "twoToTheDoubleScaleDown", type := .double, accessFlags := 8, slot := 8, constantValue := 0 }, { name := "$assertionsDisabled", type := .boolean, accessFlags := 4120, slot := 9, constantValue := 0 }]
  methods := #[k21m0, k21m1]
  instanceTypes := #[]
  staticTypes := #[.double, .double, .double, .double, .double, .long, .long, .double, .double, .boolean]
  resolved := Array.replicate 460 none
  statics := none }

def pool22 : Array CpInfo := pool [(2, .class_ 4), (1, u "java/lang/Object"), (0, u "<init>"), (0, u "()V"), (35, .class_ 44), (1, u "java/util/Objects"), (60, .methodref 106 107), (0, .class_ 108), (0, .nameAndType 109 110), (0, u "jdk/internal/util/Preconditions"), (0, u "checkIndex"), (0, u "(IILjava/util/function/BiFunction;)I"), (60, u "(II)I")] 12

def k22m0 : Method := { name := "<init>", desc := "()V", sig := { parameters := [], returnType := none }, accessFlags := 2, code := none }
def k22c1 : Code := { maxStack := 3, maxLocals := 2, code := jdk_31_method_17_code, exceptionTable := #[], attributes := #[] }
def k22m1 : Method := { name := "checkIndex", desc := "(II)I", sig := { parameters := [.int, .int], returnType := some .int }, accessFlags := 9, code := some k22c1 }
/-- java/util/Objects -/
def k22 : Class := { plain "java/util/Objects" (some 0) with
  accessFlags := 49
  interfaces := #[]
  cf := some (fileOf pool22 42 #[] #[{ accessFlags := 2, nameIndex := 5, descriptorIndex := 6, attributes := #[] }, { accessFlags := 9, nameIndex := 109, descriptorIndex := 171, attributes := #[] }] 49 2 #[] #[])
  fields := #[]
  methods := #[k22m0, k22m1]
  instanceTypes := #[]
  staticTypes := #[]
  resolved := Array.replicate 184 none
  statics := none }

def pool23 : Array CpInfo := pool [(9, u "<init>"), (6, .class_ 18), (1, u "java/lang/Object"), (0, u "()V"), (1, .class_ 23), (1, u "jdk/internal/util/ArraysSupport"), (0, u "LOG2_ARRAY_LONG_INDEX_SCALE"), (0, u "I"), (2, u "U"), (0, u "Ljdk/internal/misc/Unsafe;"), (8, u "BIG_ENDIAN"), (0, u "Z"), (8, u "LOG2_BYTE_BIT_SIZE"), (4, u "LOG2_ARRAY_INT_INDEX_SCALE"), (54, u "JLA"), (0, u "Ljdk/internal/access/JavaLangAccess;"), (11, u "LOG2_ARRAY_BOOLEAN_INDEX_SCALE"), (9, u "LOG2_ARRAY_BYTE_INDEX_SCALE"), (5, u "LOG2_ARRAY_CHAR_INDEX_SCALE"), (5, u "LOG2_ARRAY_SHORT_INDEX_SCALE"), (18, u "LOG2_ARRAY_FLOAT_INDEX_SCALE"), (24, u "LOG2_ARRAY_DOUBLE_INDEX_SCALE"), (89, u "T_BOOLEAN"), (2, u "T_CHAR"), (1, u "T_FLOAT"), (1, u "T_DOUBLE"), (1, u "T_BYTE"), (1, u "T_SHORT"), (1, u "T_INT"), (1, u "T_LONG"), (1, u "SOFT_MAX_ARRAY_LENGTH")] 83

def k23m0 : Method := { name := "<init>", desc := "()V", sig := { parameters := [], returnType := none }, accessFlags := 2, code := none }
/-- jdk/internal/util/ArraysSupport -/
def k23 : Class := { plain "jdk/internal/util/ArraysSupport" (some 0) with
  accessFlags := 33
  interfaces := #[]
  cf := some (fileOf pool23 21 #[] #[{ accessFlags := 2, nameIndex := 9, descriptorIndex := 19, attributes := #[] }] 33 16 #[] #[{ accessFlags := 24, nameIndex := 28, descriptorIndex := 29, attributes := #[] }, { accessFlags := 26, nameIndex := 38, descriptorIndex := 39, attributes := #[] }, { accessFlags := 25, nameIndex := 121, descriptorIndex := 25, attributes := #[] }, { accessFlags := 25, nameIndex := 131, descriptorIndex := 25, attributes := #[] }, { accessFlags := 25, nameIndex := 137, descriptorIndex := 25, attributes := #[] }, { accessFlags := 25, nameIndex := 143, descriptorIndex := 25, attributes := #[] }, { accessFlags := 25, nameIndex := 53, descriptorIndex := 25, attributes := #[] }, { accessFlags := 25, nameIndex := 24, descriptorIndex := 25, attributes := #[] }, { accessFlags := 25, nameIndex := 162, descriptorIndex := 25, attributes := #[] }, { accessFlags := 25, nameIndex := 187, descriptorIndex := 25, attributes := #[] }, { accessFlags := 26, nameIndex := 48, descriptorIndex := 25, attributes := #[] }, { accessFlags := 25, nameIndex := 277, descriptorIndex := 25, attributes := #[] }, { accessFlags := 25, nameIndex := 280, descriptorIndex := 25, attributes := #[] }, { accessFlags := 25, nameIndex := 282, descriptorIndex := 25, attributes := #[] }, { accessFlags := 25, nameIndex := 284, descriptorIndex := 25, attributes := #[] }, { accessFlags := 25, nameIndex := 286, descriptorIndex := 25, attributes := #[] }, { accessFlags := 25, nameIndex := 288, descriptorIndex := 25, attributes := #[] }, { accessFlags := 25, nameIndex := 290, descriptorIndex := 25, attributes := #[] }, { accessFlags := 25, nameIndex := 292, descriptorIndex := 25, attributes := #[] }, { accessFlags := 26, nameIndex := 108, descriptorIndex := 109, attributes := #[] }, { accessFlags := 25, nameIndex := 294, descriptorIndex := 25, attributes := #[] }])
  fields := #[{ name := "U", type := (.object "jdk/internal/misc/Unsafe"), accessFlags := 24, slot := 0, constantValue := 0 }, { name := "BIG_ENDIAN", type := .boolean, accessFlags := 26, slot := 1, constantValue := 0 }, { name := "LOG2_ARRAY_BOOLEAN_INDEX_SCALE", type := .int, accessFlags := 25, slot := 2, constantValue := 0 }, { name := "LOG2_ARRAY_BYTE_INDEX_SCALE", type := .int, accessFlags := 25, slot := 3, constantValue := 0 }, { name := "LOG2_ARRAY_CHAR_INDEX_SCALE", type := .int, accessFlags := 25, slot := 4, constantValue := 0 }, { name := "LOG2_ARRAY_SHORT_INDEX_SCALE", type := .int, accessFlags := 25, slot := 5, constantValue := 0 }, { name := "LOG2_ARRAY_INT_INDEX_SCALE", type := .int, accessFlags := 25, slot := 6, constantValue := 0 }, { name := "LOG2_ARRAY_LONG_INDEX_SCALE", type := .int, accessFlags := 25, slot := 7, constantValue := 0 }, { name := "LOG2_ARRAY_FLOAT_INDEX_SCALE", type := .int, accessFlags := 25, slot := 8, constantValue := 0 }, { name := "LOG2_ARRAY_DOUBLE_INDEX_SCALE", type := .int, accessFlags := 25, slot := 9, constantValue := 0 }, { name := "LOG2_BYTE_BIT_SIZE", type := .int, accessFlags := 26, slot := 10, constantValue := 0 }, { name := "T_BOOLEAN", type := .int, accessFlags := 25, slot := 11, constantValue := 0 }, { name := "T_CHAR", type := .int, accessFlags := 25, slot := 12, constantValue := 0 }, { name := "T_FLOAT", type := .int, accessFlags := 25, slot := 13, constantValue := 0 }, { name := "T_DOUBLE", type := .int, accessFlags := 25, slot := 14, constantValue := 0 }, { name := "T_BYTE", type := .int, accessFlags := 25, slot := 15, constantValue := 0 }, { name := "T_SHORT", type := .int, accessFlags := 25, slot := 16, constantValue := 0 }, { name := "T_INT", type := .int, accessFlags := 25, slot := 17, constantValue := 0 }, { name := "T_LONG", type := .int, accessFlags := 25, slot := 18, constantValue := 0 }, { name := "JLA", type := (.object "jdk/internal/access/JavaLangAccess"), accessFlags := 26, slot := 19, constantValue := 0 }, { name := "SOFT_MAX_ARRAY_LENGTH", type := .int, accessFlags := 25, slot := 20, constantValue := 0 }]
  methods := #[k23m0]
  instanceTypes := #[]
  staticTypes := #[(.object "jdk/internal/misc/Unsafe"), .boolean, .int, .int, .int, .int, .int, .int, .int, .int, .int, .int, .int, .int, .int, .int, .int, .int, .int, (.object "jdk/internal/access/JavaLangAccess"), .int]
  resolved := Array.replicate 378 none
  statics := none }

/-- the primitive byte -/
def k24 : Class := { plain "byte" none with kind := .primitive 'B', accessFlags := 0x411 }
/-- [B -/
def k25 : Class := { plain "[B" (some 0) with kind := .array 24 .byte, interfaces := #[17, 2], accessFlags := 1041 }

/-- the primitive char -/
def k26 : Class := { plain "char" none with kind := .primitive 'C', accessFlags := 0x411 }
/-- [C -/
def k27 : Class := { plain "[C" (some 0) with kind := .array 26 .char, interfaces := #[17, 2], accessFlags := 1041 }

/-- the primitive int -/
def k28 : Class := { plain "int" none with kind := .primitive 'I', accessFlags := 0x411 }
/-- [I -/
def k29 : Class := { plain "[I" (some 0) with kind := .array 28 .int, interfaces := #[17, 2], accessFlags := 1041 }

/-- [Ljava/lang/Object; -/
def k30 : Class := { plain "[Ljava/lang/Object;" (some 0) with kind := .array 0 (.object "java/lang/Object"), interfaces := #[17, 2], accessFlags := 1041 }

def heap : Heap := #[{ cls := 7, slots := #[.long 0, .int 1, .null, .int 0, .null, .int 0, .int 0], vm := .statics 7 },
  { cls := 18, slots := #[.long 0, .int 0, .ref 3, .ref 4], vm := .statics 18 },
  { cls := 19, slots := #[.null, .null, .null], vm := .statics 19 },
  { cls := 30, slots := #[], vm := .none },
  { cls := 30, slots := #[], vm := .none }]
def classes : Array Class := #[k0, k1, k2, k3, k4, k5, k6, k7, k8, k9, k10, k11, k12, k13, k14, k15, k16, k17, k18, k19, k20, k21, k22, k23, k24, k25, k26, k27, k28, k29, k30]
def interned : List (Array UInt16 × Addr) := []
def slotsUsed : Nat := 14
def theMethod : MethodId := ⟨1, 1⟩
def args0 : Array Value := #[.int 5, .int 5, .int 5, .int 5, .int 5]
def aboutOver (below : List Frame) : State where
  vm := { classes := classes, interned := interned.toArray }
  heap := heap
  slotsUsed := slotsUsed
  threads := #[{ frames := .invoking theMethod args0 :: below }]
def below0 : List Frame := [.native { method := ⟨0, 0⟩, args := #[] }]
def about1 : State := aboutOver below0
def p0 : Program := .bare "" "" ""
def e0 : Env := launch0.env 0 0 0
theorem w_frames : about1.frames = Frame.invoking theMethod args0 :: below0 := rfl
set_option maxRecDepth 65536 in
theorem w_args : argsFit about1.vm theMethod args0 = true := by decide +kernel
set_option maxRecDepth 65536 in
theorem w_heap : heapFits about1 = true := by decide +kernel
set_option maxRecDepth 65536 in
theorem w_runnable : about1.curStatus? = some .runnable := by decide +kernel
set_option maxRecDepth 65536 in
theorem w_alone : about1.alone = true := by decide +kernel
set_option maxRecDepth 65536 in
theorem w_named : about1.methodNamed? x = some theMethod := by decide +kernel
set_option maxRecDepth 65536 in
theorem w_hears : about1.hears theMethod below0 = true := by decide +kernel
set_option maxRecDepth 65536 in
theorem w_ripe : about1.ripe theMethod args0 below0 = true := by decide +kernel
theorem w_running : about1.status = .running := rfl
set_option maxRecDepth 65536 in
theorem w_room : about1.hasRoom e0.platform room_1 = true :=
  launch0.hasRoom_least _ room_1 (by decide +kernel) (by decide +kernel) (by decide +kernel) (by decide +kernel) (by decide +kernel) (by decide +kernel)
theorem allAtoms_all (ts : List Jvm.Cond) (a : Array Jvm.Value) (st : Jvm.State) : (allAtoms ts).before a st = ts.all (fun c => c.before a st) := by
  induction ts with
  | nil => rfl
  | cons c t ih =>
    show (Jvm.Cond.and c (allAtoms t)).before a st = _
    rw [Jvm.Cond.before_and, ih, List.all_cons]
def words1 : List Jvm.Cond := Jvm.Cond.code x code maxLocals ret :: tables_1
/-- a 'code' word, met by the world's own term for the bytes: nothing is compared byte by byte -/
theorem code_word {y : MethodName} {bytes : ByteArray} {mx : Nat} {rt : Option FieldType} {a : Array Value} {s : State} {m : MethodId} {meth : Method} {c : Code} (h1 : s.methodNamed? y = some m) (h2 : s.vm.method? m = some meth) (h3 : meth.code = some c) (h4 : c.code = bytes)
    (h5 : (c.maxLocals == mx && c.exceptionTable.isEmpty && decide (c.maxStack ≤ mostOperands) && decide (meth.sig.returnType = rt) && !meth.locks && decide (parseMethodDescriptor y.desc = some meth.sig)) = true) : (Jvm.Cond.code y bytes mx rt).before a s = true := by
  simp only [Bool.and_eq_true, beq_iff_eq, Bool.not_eq_true', decide_eq_true_eq] at h5
  obtain ⟨⟨⟨⟨⟨g1, g2⟩, g3⟩, g4⟩, g5⟩, g6⟩ := h5
  simp [Cond.before, Cond.holds, Cond.value, h1, h2, h3, h4, g1, g2, g3, g4, g5, g6]
def isCode : Jvm.Cond → Bool
  | .code _ _ _ _ => true
  | _ => false
theorem all_split {L : List Jvm.Cond} {P : Jvm.Cond → Bool} (h1 : L.all (fun c => isCode c || P c) = true) (h2 : ∀ c ∈ L.filter isCode, P c = true) : L.all P = true := by
  refine List.all_eq_true.mpr fun c hc => ?_
  have h := List.all_eq_true.mp h1 c hc
  rcases Bool.eq_false_or_eq_true (isCode c) with hi | hi
  · exact h2 c (List.mem_filter.mpr ⟨hc, hi⟩)
  · simpa [hi] using h
set_option maxRecDepth 65536 in
theorem w_c0 : (Jvm.Cond.code x code maxLocals ret).before args0 about1 = true := code_word (m := ⟨1, 1⟩) (meth := k1m1) (c := k1c1) (by decide +kernel) rfl rfl rfl (by decide +kernel)
set_option maxRecDepth 65536 in
theorem w_c1 : (Jvm.Cond.code ({ cls := "java/lang/String", name := "<init>", desc := "([C)V" } : Jvm.MethodName) jdk_42_method_3_code (2 : Nat) (Option.none : Option Jvm.ClassFile.FieldType)).before args0 about1 = true := code_word (m := ⟨7, 1⟩) (meth := k7m1) (c := k7c1) (by decide +kernel) rfl rfl rfl (by decide +kernel)
set_option maxRecDepth 65536 in
theorem w_c2 : (Jvm.Cond.code ({ cls := "java/lang/String", name := "<init>", desc := "([CIILjava/lang/Void;)V" } : Jvm.MethodName) jdk_42_method_149_code (6 : Nat) (Option.none : Option Jvm.ClassFile.FieldType)).before args0 about1 = true := code_word (m := ⟨7, 5⟩) (meth := k7m5) (c := k7c5) (by decide +kernel) rfl rfl rfl (by decide +kernel)
set_option maxRecDepth 65536 in
theorem w_c3 : (Jvm.Cond.code ({ cls := "java/lang/Object", name := "<init>", desc := "()V" } : Jvm.MethodName) object_method_1_code (1 : Nat) (Option.none : Option Jvm.ClassFile.FieldType)).before args0 about1 = true := code_word (m := ⟨0, 0⟩) (meth := k0m0) (c := k0c0) (by decide +kernel) rfl rfl rfl (by decide +kernel)
set_option maxRecDepth 65536 in
theorem w_c4 : (Jvm.Cond.code ({ cls := "java/lang/StringUTF16", name := "compress", desc := "([CII)[B" } : Jvm.MethodName) jdk_52_method_16_code (6 : Nat) (Option.some (Jvm.ClassFile.FieldType.array Jvm.ClassFile.FieldType.byte))).before args0 about1 = true := code_word (m := ⟨8, 2⟩) (meth := k8m2) (c := k8c2) (by decide +kernel) rfl rfl rfl (by decide +kernel)
set_option maxRecDepth 65536 in
theorem w_c5 : (Jvm.Cond.code ({ cls := "java/lang/StringUTF16", name := "compress", desc := "([CI[BII)I" } : Jvm.MethodName) jdk_52_method_21_code (7 : Nat) (Option.some Jvm.ClassFile.FieldType.int)).before args0 about1 = true := code_word (m := ⟨8, 3⟩) (meth := k8m3) (c := k8c3) (by decide +kernel) rfl rfl rfl (by decide +kernel)
set_option maxRecDepth 65536 in
theorem w_c6 : (Jvm.Cond.code ({ cls := "java/lang/StringUTF16", name := "coderFromArrayLen", desc := "([BI)B" } : Jvm.MethodName) jdk_52_method_15_code (2 : Nat) (Option.some Jvm.ClassFile.FieldType.byte)).before args0 about1 = true := code_word (m := ⟨8, 1⟩) (meth := k8m1) (c := k8c1) (by decide +kernel) rfl rfl rfl (by decide +kernel)
set_option maxRecDepth 65536 in
theorem w_c7 : (Jvm.Cond.code ({ cls := "java/lang/String", name := "valueOf", desc := "(C)Ljava/lang/String;" } : Jvm.MethodName) jdk_42_method_139_code (1 : Nat) (Option.some (Jvm.ClassFile.FieldType.object "java/lang/String"))).before args0 about1 = true := code_word (m := ⟨7, 4⟩) (meth := k7m4) (c := k7c4) (by decide +kernel) rfl rfl rfl (by decide +kernel)
set_option maxRecDepth 65536 in
theorem w_c8 : (Jvm.Cond.code ({ cls := "java/lang/StringLatin1", name := "canEncode", desc := "(C)Z" } : Jvm.MethodName) jdk_43_method_3_code (1 : Nat) (Option.some Jvm.ClassFile.FieldType.boolean)).before args0 about1 = true := code_word (m := ⟨9, 2⟩) (meth := k9m2) (c := k9c2) (by decide +kernel) rfl rfl rfl (by decide +kernel)
set_option maxRecDepth 65536 in
theorem w_c9 : (Jvm.Cond.code ({ cls := "java/lang/StringLatin1", name := "toBytes", desc := "(C)[B" } : Jvm.MethodName) jdk_43_method_46_code (1 : Nat) (Option.some (Jvm.ClassFile.FieldType.array Jvm.ClassFile.FieldType.byte))).before args0 about1 = true := code_word (m := ⟨9, 4⟩) (meth := k9m4) (c := k9c4) (by decide +kernel) rfl rfl rfl (by decide +kernel)
set_option maxRecDepth 65536 in
theorem w_c10 : (Jvm.Cond.code ({ cls := "java/lang/String", name := "<init>", desc := "([BB)V" } : Jvm.MethodName) jdk_42_method_151_code (3 : Nat) (Option.none : Option Jvm.ClassFile.FieldType)).before args0 about1 = true := code_word (m := ⟨7, 6⟩) (meth := k7m6) (c := k7c6) (by decide +kernel) rfl rfl rfl (by decide +kernel)
set_option maxRecDepth 65536 in
theorem w_c11 : (Jvm.Cond.code ({ cls := "java/util/ArrayList", name := "<init>", desc := "()V" } : Jvm.MethodName) jdk_38_method_2_code (1 : Nat) (Option.none : Option Jvm.ClassFile.FieldType)).before args0 about1 = true := code_word (m := ⟨18, 0⟩) (meth := k18m0) (c := k18c0) (by decide +kernel) rfl rfl rfl (by decide +kernel)
set_option maxRecDepth 65536 in
theorem w_c12 : (Jvm.Cond.code ({ cls := "java/util/AbstractList", name := "<init>", desc := "()V" } : Jvm.MethodName) jdk_39_method_1_code (1 : Nat) (Option.none : Option Jvm.ClassFile.FieldType)).before args0 about1 = true := code_word (m := ⟨15, 0⟩) (meth := k15m0) (c := k15c0) (by decide +kernel) rfl rfl rfl (by decide +kernel)
set_option maxRecDepth 65536 in
theorem w_c13 : (Jvm.Cond.code ({ cls := "java/util/AbstractCollection", name := "<init>", desc := "()V" } : Jvm.MethodName) jdk_22_method_1_code (1 : Nat) (Option.none : Option Jvm.ClassFile.FieldType)).before args0 about1 = true := code_word (m := ⟨12, 0⟩) (meth := k12m0) (c := k12c0) (by decide +kernel) rfl rfl rfl (by decide +kernel)
set_option maxRecDepth 65536 in
theorem w_c14 : (Jvm.Cond.code ({ cls := "java/lang/String", name := "charAt", desc := "(I)C" } : Jvm.MethodName) jdk_42_method_56_code (2 : Nat) (Option.some Jvm.ClassFile.FieldType.char)).before args0 about1 = true := code_word (m := ⟨7, 2⟩) (meth := k7m2) (c := k7c2) (by decide +kernel) rfl rfl rfl (by decide +kernel)
set_option maxRecDepth 65536 in
theorem w_c15 : (Jvm.Cond.code ({ cls := "java/lang/String", name := "isLatin1", desc := "()Z" } : Jvm.MethodName) jdk_42_method_154_code (1 : Nat) (Option.some Jvm.ClassFile.FieldType.boolean)).before args0 about1 = true := code_word (m := ⟨7, 7⟩) (meth := k7m7) (c := k7c7) (by decide +kernel) rfl rfl rfl (by decide +kernel)
set_option maxRecDepth 65536 in
theorem w_c16 : (Jvm.Cond.code ({ cls := "java/lang/StringLatin1", name := "charAt", desc := "([BI)C" } : Jvm.MethodName) jdk_43_method_2_code (2 : Nat) (Option.some Jvm.ClassFile.FieldType.char)).before args0 about1 = true := code_word (m := ⟨9, 1⟩) (meth := k9m1) (c := k9c1) (by decide +kernel) rfl rfl rfl (by decide +kernel)
set_option maxRecDepth 65536 in
theorem w_c17 : (Jvm.Cond.code ({ cls := "java/lang/String", name := "checkIndex", desc := "(II)V" } : Jvm.MethodName) jdk_42_method_155_code (2 : Nat) (Option.none : Option Jvm.ClassFile.FieldType)).before args0 about1 = true := code_word (m := ⟨7, 8⟩) (meth := k7m8) (c := k7c8) (by decide +kernel) rfl rfl rfl (by decide +kernel)
set_option maxRecDepth 65536 in
theorem w_c18 : (Jvm.Cond.code ({ cls := "jdk/internal/util/Preconditions", name := "checkIndex", desc := "(IILjava/util/function/BiFunction;)I" } : Jvm.MethodName) jdk_41_method_11_code (3 : Nat) (Option.some Jvm.ClassFile.FieldType.int)).before args0 about1 = true := code_word (m := ⟨19, 1⟩) (meth := k19m1) (c := k19c1) (by decide +kernel) rfl rfl rfl (by decide +kernel)
set_option maxRecDepth 65536 in
theorem w_c19 : (Jvm.Cond.code ({ cls := "com/example/tourwerk/tourwerk/problem/SolomonReader", name := "recognises", desc := "(Ljava/util/List;)Z" } : Jvm.MethodName) prog_24_method_3_code (1 : Nat) (Option.some Jvm.ClassFile.FieldType.boolean)).before args0 about1 = true := code_word (m := ⟨20, 0⟩) (meth := k20m0) (c := k20c0) (by decide +kernel) rfl rfl rfl (by decide +kernel)
set_option maxRecDepth 65536 in
theorem w_c20 : (Jvm.Cond.code ({ cls := "java/util/ArrayList", name := "size", desc := "()I" } : Jvm.MethodName) jdk_38_method_8_code (1 : Nat) (Option.some Jvm.ClassFile.FieldType.int)).before args0 about1 = true := code_word (m := ⟨18, 3⟩) (meth := k18m3) (c := k18c3) (by decide +kernel) rfl rfl rfl (by decide +kernel)
set_option maxRecDepth 65536 in
theorem w_c21 : (Jvm.Cond.code ({ cls := "java/util/ArrayList", name := "add", desc := "(Ljava/lang/Object;)Z" } : Jvm.MethodName) jdk_38_method_25_code (2 : Nat) (Option.some Jvm.ClassFile.FieldType.boolean)).before args0 about1 = true := code_word (m := ⟨18, 7⟩) (meth := k18m7) (c := k18c7) (by decide +kernel) rfl rfl rfl (by decide +kernel)
set_option maxRecDepth 65536 in
theorem w_c22 : (Jvm.Cond.code ({ cls := "java/util/ArrayList", name := "add", desc := "(Ljava/lang/Object;[Ljava/lang/Object;I)V" } : Jvm.MethodName) jdk_38_method_24_code (4 : Nat) (Option.none : Option Jvm.ClassFile.FieldType)).before args0 about1 = true := code_word (m := ⟨18, 6⟩) (meth := k18m6) (c := k18c6) (by decide +kernel) rfl rfl rfl (by decide +kernel)
set_option maxRecDepth 65536 in
theorem w_c23 : (Jvm.Cond.code ({ cls := "java/util/ArrayList", name := "grow", desc := "()[Ljava/lang/Object;" } : Jvm.MethodName) jdk_38_method_7_code (1 : Nat) (Option.some (Jvm.ClassFile.FieldType.array (Jvm.ClassFile.FieldType.object "java/lang/Object")))).before args0 about1 = true := code_word (m := ⟨18, 2⟩) (meth := k18m2) (c := k18c2) (by decide +kernel) rfl rfl rfl (by decide +kernel)
set_option maxRecDepth 65536 in
theorem w_c24 : (Jvm.Cond.code ({ cls := "java/util/ArrayList", name := "grow", desc := "(I)[Ljava/lang/Object;" } : Jvm.MethodName) jdk_38_method_6_code (4 : Nat) (Option.some (Jvm.ClassFile.FieldType.array (Jvm.ClassFile.FieldType.object "java/lang/Object")))).before args0 about1 = true := code_word (m := ⟨18, 1⟩) (meth := k18m1) (c := k18c1) (by decide +kernel) rfl rfl rfl (by decide +kernel)
set_option maxRecDepth 65536 in
theorem w_c25 : (Jvm.Cond.code ({ cls := "java/lang/Math", name := "max", desc := "(II)I" } : Jvm.MethodName) jdk_29_method_65_code (2 : Nat) (Option.some Jvm.ClassFile.FieldType.int)).before args0 about1 = true := code_word (m := ⟨21, 1⟩) (meth := k21m1) (c := k21c1) (by decide +kernel) rfl rfl rfl (by decide +kernel)
set_option maxRecDepth 65536 in
theorem w_c26 : (Jvm.Cond.code ({ cls := "java/util/ArrayList", name := "get", desc := "(I)Ljava/lang/Object;" } : Jvm.MethodName) jdk_38_method_20_code (2 : Nat) (Option.some (Jvm.ClassFile.FieldType.object "java/lang/Object"))).before args0 about1 = true := code_word (m := ⟨18, 5⟩) (meth := k18m5) (c := k18c5) (by decide +kernel) rfl rfl rfl (by decide +kernel)
set_option maxRecDepth 65536 in
theorem w_c27 : (Jvm.Cond.code ({ cls := "java/util/Objects", name := "checkIndex", desc := "(II)I" } : Jvm.MethodName) jdk_31_method_17_code (2 : Nat) (Option.some Jvm.ClassFile.FieldType.int)).before args0 about1 = true := code_word (m := ⟨22, 1⟩) (meth := k22m1) (c := k22c1) (by decide +kernel) rfl rfl rfl (by decide +kernel)
set_option maxRecDepth 65536 in
theorem w_c28 : (Jvm.Cond.code ({ cls := "java/util/ArrayList", name := "elementData", desc := "(I)Ljava/lang/Object;" } : Jvm.MethodName) jdk_38_method_18_code (2 : Nat) (Option.some (Jvm.ClassFile.FieldType.object "java/lang/Object"))).before args0 about1 = true := code_word (m := ⟨18, 4⟩) (meth := k18m4) (c := k18c4) (by decide +kernel) rfl rfl rfl (by decide +kernel)
set_option maxRecDepth 65536 in
theorem w_c29 : (Jvm.Cond.code ({ cls := "java/lang/String", name := "equals", desc := "(Ljava/lang/Object;)Z" } : Jvm.MethodName) jdk_42_method_66_code (3 : Nat) (Option.some Jvm.ClassFile.FieldType.boolean)).before args0 about1 = true := code_word (m := ⟨7, 3⟩) (meth := k7m3) (c := k7c3) (by decide +kernel) rfl rfl rfl (by decide +kernel)
set_option maxRecDepth 65536 in
theorem w_c30 : (Jvm.Cond.code ({ cls := "java/lang/StringLatin1", name := "equals", desc := "([B[B)Z" } : Jvm.MethodName) jdk_43_method_13_code (3 : Nat) (Option.some Jvm.ClassFile.FieldType.boolean)).before args0 about1 = true := code_word (m := ⟨9, 3⟩) (meth := k9m3) (c := k9c3) (by decide +kernel) rfl rfl rfl (by decide +kernel)
def codes1 : List Jvm.Cond := [Jvm.Cond.code x code maxLocals ret, Jvm.Cond.code ({ cls := "java/lang/String", name := "<init>", desc := "([C)V" } : Jvm.MethodName) jdk_42_method_3_code (2 : Nat) (Option.none : Option Jvm.ClassFile.FieldType), Jvm.Cond.code ({ cls := "java/lang/String", name := "<init>", desc := "([CIILjava/lang/Void;)V" } : Jvm.MethodName) jdk_42_method_149_code (6 : Nat) (Option.none : Option Jvm.ClassFile.FieldType), Jvm.Cond.code ({ cls := "java/lang/Object", name := "<init>", desc := "()V" } : Jvm.MethodName) object_method_1_code (1 : Nat) (Option.none : Option Jvm.ClassFile.FieldType), Jvm.Cond.code ({ cls := "java/lang/StringUTF16", name := "compress", desc := "([CII)[B" } : Jvm.MethodName) jdk_52_method_16_code (6 : Nat) (Option.some (Jvm.ClassFile.FieldType.array Jvm.ClassFile.FieldType.byte)), Jvm.Cond.code ({ cls := "java/lang/StringUTF16", name := "compress", desc := "([CI[BII)I" } : Jvm.MethodName) jdk_52_method_21_code (7 : Nat) (Option.some Jvm.ClassFile.FieldType.int), Jvm.Cond.code ({ cls := "java/lang/StringUTF16", name := "coderFromArrayLen", desc := "([BI)B" } : Jvm.MethodName) jdk_52_method_15_code (2 : Nat) (Option.some Jvm.ClassFile.FieldType.byte), Jvm.Cond.code ({ cls := "java/lang/String", name := "valueOf", desc := "(C)Ljava/lang/String;" } : Jvm.MethodName) jdk_42_method_139_code (1 : Nat) (Option.some (Jvm.ClassFile.FieldType.object "java/lang/String")), Jvm.Cond.code ({ cls := "java/lang/StringLatin1", name := "canEncode", desc := "(C)Z" } : Jvm.MethodName) jdk_43_method_3_code (1 : Nat) (Option.some Jvm.ClassFile.FieldType.boolean), Jvm.Cond.code ({ cls := "java/lang/StringLatin1", name := "toBytes", desc := "(C)[B" } : Jvm.MethodName) jdk_43_method_46_code (1 : Nat) (Option.some (Jvm.ClassFile.FieldType.array Jvm.ClassFile.FieldType.byte)), Jvm.Cond.code ({ cls := "java/lang/String", name := "<init>", desc := "([BB)V" } : Jvm.MethodName) jdk_42_method_151_code (3 : Nat) (Option.none : Option Jvm.ClassFile.FieldType), Jvm.Cond.code ({ cls := "java/util/ArrayList", name := "<init>", desc := "()V" } : Jvm.MethodName) jdk_38_method_2_code (1 : Nat) (Option.none : Option Jvm.ClassFile.FieldType), Jvm.Cond.code ({ cls := "java/util/AbstractList", name := "<init>", desc := "()V" } : Jvm.MethodName) jdk_39_method_1_code (1 : Nat) (Option.none : Option Jvm.ClassFile.FieldType), Jvm.Cond.code ({ cls := "java/util/AbstractCollection", name := "<init>", desc := "()V" } : Jvm.MethodName) jdk_22_method_1_code (1 : Nat) (Option.none : Option Jvm.ClassFile.FieldType), Jvm.Cond.code ({ cls := "java/lang/String", name := "charAt", desc := "(I)C" } : Jvm.MethodName) jdk_42_method_56_code (2 : Nat) (Option.some Jvm.ClassFile.FieldType.char), Jvm.Cond.code ({ cls := "java/lang/String", name := "isLatin1", desc := "()Z" } : Jvm.MethodName) jdk_42_method_154_code (1 : Nat) (Option.some Jvm.ClassFile.FieldType.boolean), Jvm.Cond.code ({ cls := "java/lang/StringLatin1", name := "charAt", desc := "([BI)C" } : Jvm.MethodName) jdk_43_method_2_code (2 : Nat) (Option.some Jvm.ClassFile.FieldType.char), Jvm.Cond.code ({ cls := "java/lang/String", name := "checkIndex", desc := "(II)V" } : Jvm.MethodName) jdk_42_method_155_code (2 : Nat) (Option.none : Option Jvm.ClassFile.FieldType), Jvm.Cond.code ({ cls := "jdk/internal/util/Preconditions", name := "checkIndex", desc := "(IILjava/util/function/BiFunction;)I" } : Jvm.MethodName) jdk_41_method_11_code (3 : Nat) (Option.some Jvm.ClassFile.FieldType.int), Jvm.Cond.code ({ cls := "com/example/tourwerk/tourwerk/problem/SolomonReader", name := "recognises", desc := "(Ljava/util/List;)Z" } : Jvm.MethodName) prog_24_method_3_code (1 : Nat) (Option.some Jvm.ClassFile.FieldType.boolean), Jvm.Cond.code ({ cls := "java/util/ArrayList", name := "size", desc := "()I" } : Jvm.MethodName) jdk_38_method_8_code (1 : Nat) (Option.some Jvm.ClassFile.FieldType.int), Jvm.Cond.code ({ cls := "java/util/ArrayList", name := "add", desc := "(Ljava/lang/Object;)Z" } : Jvm.MethodName) jdk_38_method_25_code (2 : Nat) (Option.some Jvm.ClassFile.FieldType.boolean), Jvm.Cond.code ({ cls := "java/util/ArrayList", name := "add", desc := "(Ljava/lang/Object;[Ljava/lang/Object;I)V" } : Jvm.MethodName) jdk_38_method_24_code (4 : Nat) (Option.none : Option Jvm.ClassFile.FieldType), Jvm.Cond.code ({ cls := "java/util/ArrayList", name := "grow", desc := "()[Ljava/lang/Object;" } : Jvm.MethodName) jdk_38_method_7_code (1 : Nat) (Option.some (Jvm.ClassFile.FieldType.array (Jvm.ClassFile.FieldType.object "java/lang/Object"))), Jvm.Cond.code ({ cls := "java/util/ArrayList", name := "grow", desc := "(I)[Ljava/lang/Object;" } : Jvm.MethodName) jdk_38_method_6_code (4 : Nat) (Option.some (Jvm.ClassFile.FieldType.array (Jvm.ClassFile.FieldType.object "java/lang/Object"))), Jvm.Cond.code ({ cls := "java/lang/Math", name := "max", desc := "(II)I" } : Jvm.MethodName) jdk_29_method_65_code (2 : Nat) (Option.some Jvm.ClassFile.FieldType.int), Jvm.Cond.code ({ cls := "java/util/ArrayList", name := "get", desc := "(I)Ljava/lang/Object;" } : Jvm.MethodName) jdk_38_method_20_code (2 : Nat) (Option.some (Jvm.ClassFile.FieldType.object "java/lang/Object")), Jvm.Cond.code ({ cls := "java/util/Objects", name := "checkIndex", desc := "(II)I" } : Jvm.MethodName) jdk_31_method_17_code (2 : Nat) (Option.some Jvm.ClassFile.FieldType.int), Jvm.Cond.code ({ cls := "java/util/ArrayList", name := "elementData", desc := "(I)Ljava/lang/Object;" } : Jvm.MethodName) jdk_38_method_18_code (2 : Nat) (Option.some (Jvm.ClassFile.FieldType.object "java/lang/Object")), Jvm.Cond.code ({ cls := "java/lang/String", name := "equals", desc := "(Ljava/lang/Object;)Z" } : Jvm.MethodName) jdk_42_method_66_code (3 : Nat) (Option.some Jvm.ClassFile.FieldType.boolean), Jvm.Cond.code ({ cls := "java/lang/StringLatin1", name := "equals", desc := "([B[B)Z" } : Jvm.MethodName) jdk_43_method_13_code (3 : Nat) (Option.some Jvm.ClassFile.FieldType.boolean)]
set_option maxRecDepth 65536 in
theorem codes_eq : words1.filter isCode = codes1 := rfl
theorem w_codes : ∀ c ∈ words1.filter isCode, c.before args0 about1 = true := by
  rw [codes_eq]
  intro c hc
  simp only [codes1, List.mem_cons, List.not_mem_nil, or_false] at hc
  rcases hc with rfl | rfl | rfl | rfl | rfl | rfl | rfl | rfl | rfl | rfl | rfl | rfl | rfl | rfl | rfl | rfl | rfl | rfl | rfl | rfl | rfl | rfl | rfl | rfl | rfl | rfl | rfl | rfl | rfl | rfl | rfl
  · exact w_c0
  · exact w_c1
  · exact w_c2
  · exact w_c3
  · exact w_c4
  · exact w_c5
  · exact w_c6
  · exact w_c7
  · exact w_c8
  · exact w_c9
  · exact w_c10
  · exact w_c11
  · exact w_c12
  · exact w_c13
  · exact w_c14
  · exact w_c15
  · exact w_c16
  · exact w_c17
  · exact w_c18
  · exact w_c19
  · exact w_c20
  · exact w_c21
  · exact w_c22
  · exact w_c23
  · exact w_c24
  · exact w_c25
  · exact w_c26
  · exact w_c27
  · exact w_c28
  · exact w_c29
  · exact w_c30
set_option maxRecDepth 65536 in
theorem w_t1 : (words1.take 24).all (fun c => isCode c || c.before args0 about1) = true := by decide +kernel
set_option maxRecDepth 65536 in
theorem w_t2 : ((words1.drop 24).take 24).all (fun c => isCode c || c.before args0 about1) = true := by decide +kernel
set_option maxRecDepth 65536 in
theorem w_t3 : (((words1.drop 24).drop 24).take 24).all (fun c => isCode c || c.before args0 about1) = true := by decide +kernel
set_option maxRecDepth 65536 in
theorem w_t4 : ((((words1.drop 24).drop 24).drop 24).take 24).all (fun c => isCode c || c.before args0 about1) = true := by decide +kernel
set_option maxRecDepth 65536 in
theorem w_t5 : (((((words1.drop 24).drop 24).drop 24).drop 24).take 24).all (fun c => isCode c || c.before args0 about1) = true := by decide +kernel
set_option maxRecDepth 65536 in
theorem w_t6 : ((((((words1.drop 24).drop 24).drop 24).drop 24).drop 24).take 24).all (fun c => isCode c || c.before args0 about1) = true := by decide +kernel
set_option maxRecDepth 65536 in
theorem w_t7 : ((((((words1.drop 24).drop 24).drop 24).drop 24).drop 24).drop 24).all (fun c => isCode c || c.before args0 about1) = true := by decide +kernel
theorem w_tables : (allAtoms (Jvm.Cond.code x code maxLocals ret :: tables_1)).before args0 about1 = true := by
  rw [allAtoms_all]
  show words1.all (fun c => c.before args0 about1) = true
  refine all_split ?_ w_codes
  rw [← List.take_append_drop 24 words1, List.all_append, w_t1, ← List.take_append_drop 24 (words1.drop 24), List.all_append, w_t2, ← List.take_append_drop 24 ((words1.drop 24).drop 24), List.all_append, w_t3, ← List.take_append_drop 24 (((words1.drop 24).drop 24).drop 24), List.all_append, w_t4, ← List.take_append_drop 24 ((((words1.drop 24).drop 24).drop 24).drop 24), List.all_append, w_t5, ← List.take_append_drop 24 (((((words1.drop 24).drop 24).drop 24).drop 24).drop 24), List.all_append, w_t6, w_t7]
  rfl
set_option maxRecDepth 65536 in
theorem w_rest : rest_1_c.before args0 about1 = true := by decide +kernel
set_option maxRecDepth 65536 in
theorem w_case : (Jvm.Cond.and given_1 narrow_1).before args0 about1 = true := by decide +kernel
set_option maxRecDepth 65536 in
theorem w_consts : constsHeld consts_1 about1 := Jvm.Lit.constsHeldB_iff.mp (by decide +kernel)
theorem w_applies : (headSpec (Jvm.Cond.code x code maxLocals ret :: tables_1) room_1).applies x e0.platform about1 = true :=
  (Spec.applies_iff w_frames).mpr ⟨w_running, w_runnable, w_alone, w_named, w_hears, w_ripe, w_room, w_tables⟩
theorem atStart : AtStart classFile x code maxLocals ret World_1 tables_1 room_1 Calls_1 rest_1 Pre_1 launch0 p0 e0 about1 theMethod args0 below0 :=
  ⟨lists_1, trivial, launch0.admits_env _ _ _, launch0.least_env, fairChoices_fair.cas, fairChoices_fair.clock, w_frames, w_args, w_heap, w_applies, ⟨w_consts, trivial⟩, w_rest, w_case⟩
end start1
theorem witness_1 : WitnessClaimed_1 := ⟨start1.p0, start1.e0, start1.about1, start1.theMethod, start1.args0, start1.below0, start1.atStart⟩
end Jvm.Pilot.@@N@@
