import JvmDerived
import JvmDerived.Pilot.@@N@@Statement
import JvmDerived.Pilot.@@N@@Code
set_option linter.unusedVariables false
set_option linter.unusedSimpArgs false
@@BLOCK:HandJ.lean.txt@@
@@BLOCK:SymMore.lean.txt@@
namespace Jvm.Pilot.@@N@@
open Jvm Jvm.ClassFile Sem Op Lib Jvm.Free Jvm.Stand Jvm.LawKit Jvm.RoadKit Bundle Jvm.Pilot.@@N@@.Jvm.D
abbrev oI (x : Int32) : Slot := .val (.int x)
abbrev oJ (n : Nat) : Slot := .val (.int (Int32.ofNat n))
abbrev vJ (n : Nat) : Value := .int (Int32.ofNat n)
abbrev dk (c : ByteArray) (n : Nat) (i : Instr) (k : Nat) : Prop := decode c n = .ok (i, k)
abbrev oR (x : Addr) : Slot := .val (.ref x)
theorem own_k {Z : State} {a0 : Array Value} (hw : ∀ d ∈ tables_1, d.before a0 Z = true) {d : Jvm.Cond} (i : Nat) (h : tables_1[i]? = some d) : d.before a0 Z = true := hw d (List.mem_of_getElem? h)
theorem own_nn32 {n : Nat} (h : n < 2147483648) : ¬ Int32.ofNat n < 0 := by
  rw [Int32.lt_iff_toInt_lt, Int32.toInt_ofNat_of_lt (by omega), show (0 : Int32).toInt = 0 from rfl]
  omega
/-- from here the run ends as F says -/
def own_G (p : Program) (e : Env) (below : List Frame) (T : State) (g : JFrame) (F : State → Prop) : Prop := ∃ s₂, Steps p.tables e below (T.setTop g) s₂ ∧ F s₂
theorem own_st {p : Program} {e : Env} {below : List Frame} {T T' : State} {g g' : JFrame} {F : State → Prop} (h : ∀ target, Steps p.tables e below (T'.setTop g') target → Steps p.tables e below (T.setTop g) target) (k : own_G p e below T' g' F) : own_G p e below T g F := by
  obtain ⟨s2, a, b⟩ := k
  exact ⟨s2, h _ a, b⟩
theorem own_tr {p : Program} {e : Env} {below : List Frame} {T T' : State} {g g' : JFrame} {F : State → Prop} (h : Steps p.tables e below (T.setTop g) (T'.setTop g')) (k : own_G p e below T' g' F) : own_G p e below T g F := by
  obtain ⟨s2, a, b⟩ := k
  exact ⟨s2, h.trans a, b⟩
theorem own_end {p : Program} {e : Env} {below : List Frame} {T s2 : State} {g : JFrame} {F : State → Prop} (h : Steps p.tables e below (T.setTop g) s2) (k : F s2) : own_G p e below T g F := ⟨s2, h, k⟩
theorem own_join {α : Type} {p : Program} {e : Env} {below : List Frame} {T : State} {g : JFrame} {gj : α → JFrame} {P : α → Prop} {F : State → Prop} (k : ∀ q, P q → own_G p e below T (gj q) F) (h : (∀ q, P q → own_G p e below T (gj q) F) → own_G p e below T g F) : own_G p e below T g F := h k
abbrev own_E (s : State) (below : List Frame) (R : Room) (Q : Option Value → Heap → List Loc → Prop) : State → Prop := fun s₂ => ∃ o, s₂.status = .running ∧ Ended s₂ below o ∧ ∃ v L, o = .returned v ∧ Q v s₂.heap L ∧ FrameEnd s o s₂ L R.cells R.slots
abbrev own_EndW (s : State) (below : List Frame) (R : Room) (Q : Option Value → Heap → List Loc → Prop) : State → Prop := fun s₂ => ∃ o, s₂.status = .running ∧ Ended s₂ below o ∧ ∃ v L, o = .returned v ∧ Q v s₂.heap L ∧ ReturnedEndW s o s₂ L R.cells R.slots
abbrev own_EndH (Z : State) (EL : List (String × Nat)) (s : State) (below : List Frame) (R : Room) (Q : Option Value → Heap → List Loc → Prop) : State → Prop := fun s₂ => ∃ o, s₂.status = .running ∧ Ended s₂ below o ∧ ∃ v L, o = .returned v ∧ Q v s₂.heap L ∧ CHr Z EL s.vm s.heap s₂.vm s₂.heap ∧ ReturnedEndW s o s₂ L R.cells R.slots
abbrev own_M (l : Launch) (y : MethodName) (bs : ByteArray) (ml : Nat) (rt : Option FieldType) (ws : List Jvm.Cond) (R : Room) (as' : Array Value) (Z : State) (h0 : Heap) (Q : Option Value → Heap → List Loc → Prop) : Prop :=
  MetFree l y (head1 (Jvm.Cond.code y bs ml rt :: ws) R) (fun av U => av = as' ∧ Z.Warmed39 U.vm ∧ U.heap = h0) (fun _ _ _ _ _ => True) (fun _ U o U' => ∃ v L, o = .returned v ∧ Q v U'.heap L ∧ FrameEnd U o U' L R.cells R.slots)
abbrev own_MW (l : Launch) (y : MethodName) (bs : ByteArray) (ml : Nat) (rt : Option FieldType) (ws : List Jvm.Cond) (R : Room) (as' : Array Value) (Z : State) (h0 : Heap) (Q : Option Value → Heap → List Loc → Prop) : Prop :=
  MetFree l y (head1 (Jvm.Cond.code y bs ml rt :: ws) R) (fun av U => av = as' ∧ Z.Warmed39 U.vm ∧ U.heap = h0) (fun _ _ _ _ _ => True) (fun _ U o U' => ∃ v L, o = .returned v ∧ Q v U'.heap L ∧ ReturnedEndW U o U' L R.cells R.slots)
abbrev own_MH (EL : List (String × Nat)) (l : Launch) (y : MethodName) (bs : ByteArray) (ml : Nat) (rt : Option FieldType) (ws : List Jvm.Cond) (R : Room) (as' : Array Value) (Z : State) (h0 : Heap) (Q : Option Value → Heap → List Loc → Prop) : Prop :=
  MetFree l y (head1 (Jvm.Cond.code y bs ml rt :: ws) R) (fun av U => av = as' ∧ Z.Warmed39 U.vm ∧ U.heap = h0 ∧ CHv Z EL U.vm h0) (fun _ _ _ _ _ => True) (fun _ U o U' => ∃ v L, o = .returned v ∧ Q v U'.heap L ∧ CHr Z EL U.vm U.heap U'.vm U'.heap ∧ ReturnedEndW U o U' L R.cells R.slots)
theorem own_go {l : Launch} {y : MethodName} {bs : ByteArray} {ml : Nat} {rt : Option FieldType} {ws : List Jvm.Cond} {R : Room} {as' : Array Value} {Z : State} {h0 : Heap} {Q : Option Value → Heap → List Loc → Prop} (hpn : plainFor y = true) {ff : MethodId → JFrame} (hff : ∀ m, entryFrame m as' ml = ff m)
    (body : ∀ p e s m below meth c s₁, BodyLoose p l y (head1 (Jvm.Cond.code y bs ml rt :: ws) R) bs ml rt e s m as' below meth c s₁ → p.tables.exec = Jvm.exec → c.code = bs → c.maxLocals = ml → Z.Warmed39 s.vm → s.heap = h0 → s.vm.findClass y.cls = some m.cls → meth.name = y.name → Stand p l e R s m as' below meth c s₁ [] 0 0 → s₁.heap = h0 → own_G p e below s₁ (ff m) (own_E s below R Q)) : own_M l y bs ml rt ws R as' Z h0 Q := by
  refine MetFree.of_bodySF hpn hisR ?_
  intro p e s m args below meth c s₁ Bd hml0 hP hK
  obtain ⟨rfl, hZ, hh⟩ := hP
  obtain ⟨s2, g1, o, g2⟩ := body p e s m below meth c s₁ Bd Bd.exec Bd.bytes hml0 hZ hh (findClass_of_methodNamed Bd.named) (name_of_methodNamed Bd.named Bd.method).1 (Stand.of_body Bd) (by rw [← hh, Bd.state]; rfl)
  exact ⟨s2, o, castTop (hff m) g1, g2⟩
theorem own_goW {l : Launch} {y : MethodName} {bs : ByteArray} {ml : Nat} {rt : Option FieldType} {ws : List Jvm.Cond} {R : Room} {as' : Array Value} {Z : State} {h0 : Heap} {Q : Option Value → Heap → List Loc → Prop} (hpn : plainFor y = true) {ff : MethodId → JFrame} (hff : ∀ m, entryFrame m as' ml = ff m)
    (body : ∀ p e s m below meth c s₁, BodyLoose p l y (head1 (Jvm.Cond.code y bs ml rt :: ws) R) bs ml rt e s m as' below meth c s₁ → p.tables.exec = Jvm.exec → c.code = bs → c.maxLocals = ml → Z.Warmed39 s.vm → s.heap = h0 → s.vm.findClass y.cls = some m.cls → meth.name = y.name → Stand p l e R (s.setVm s.vm) m as' below meth c s₁ [] 0 0 → s₁.heap = h0 → s.Since s.vm h0.size → own_G p e below s₁ (ff m) (own_EndW s below R Q)) : own_MW l y bs ml rt ws R as' Z h0 Q := by
  refine MetFree.of_bodySF hpn hisR ?_
  intro p e s m args below meth c s₁ Bd hml0 hP hK
  obtain ⟨rfl, hZ, hh⟩ := hP
  obtain ⟨s2, g1, o, g2⟩ := body p e s m below meth c s₁ Bd Bd.exec Bd.bytes hml0 hZ hh (findClass_of_methodNamed Bd.named) (name_of_methodNamed Bd.named Bd.method).1 (Stand.of_body Bd) (by rw [← hh, Bd.state]; rfl) ((State.WarmedH.refl s).since _)
  exact ⟨s2, o, castTop (hff m) g1, g2⟩
theorem own_goH {EL : List (String × Nat)} {l : Launch} {y : MethodName} {bs : ByteArray} {ml : Nat} {rt : Option FieldType} {ws : List Jvm.Cond} {R : Room} {as' : Array Value} {Z : State} {h0 : Heap} {Q : Option Value → Heap → List Loc → Prop} (hpn : plainFor y = true) {ff : MethodId → JFrame} (hff : ∀ m, entryFrame m as' ml = ff m)
    (body : ∀ p e s m below meth c s₁, BodyLoose p l y (head1 (Jvm.Cond.code y bs ml rt :: ws) R) bs ml rt e s m as' below meth c s₁ → p.tables.exec = Jvm.exec → c.code = bs → c.maxLocals = ml → Z.Warmed39 s.vm → s.heap = h0 → s.vm.findClass y.cls = some m.cls → meth.name = y.name → Stand p l e R (s.setVm s.vm) m as' below meth c s₁ [] 0 0 → s₁.heap = h0 → s.Since s.vm h0.size → CHr Z EL s.vm h0 s.vm h0 → own_G p e below s₁ (ff m) (own_EndH Z EL s below R Q)) : own_MH EL l y bs ml rt ws R as' Z h0 Q := by
  refine MetFree.of_bodySF hpn hisR ?_
  intro p e s m args below meth c s₁ Bd hml0 hP hK
  obtain ⟨rfl, hZ, hh, hCH⟩ := hP
  obtain ⟨s2, g1, o, g2⟩ := body p e s m below meth c s₁ Bd Bd.exec Bd.bytes hml0 hZ hh (findClass_of_methodNamed Bd.named) (name_of_methodNamed Bd.named Bd.method).1 (Stand.of_body Bd) (by rw [← hh, Bd.state]; rfl) ((State.WarmedH.refl s).since _) (CHr.refl hCH)
  exact ⟨s2, o, castTop (hff m) g1, g2⟩
theorem own_pop2 {tb : Tables} [Ours tb] {e : Env} {below : List Frame} {T target : State} {m : MethodId} {c : Code} {g : JFrame} (h : At T m c below) (hx : tb.exec = Jvm.exec) (hg : g.method = m) {x : Value} {rest : List Value} (hd : decode c.code g.pc = .ok (.pop2, 1)) (hs : g.stack = x :: rest) (hc : x.category = 2)
    (hr : Steps tb e below (T.setTop { g with pc := g.pc + 1, stack := rest }) target) : Steps tb e below (T.setTop g) target := by
  subst hg
  jvm_step h [h.top, hx, hd, hs, hc]
  exact hr
theorem own_w0 {g : JFrame} {rest : List Value} {W : Nat} (h : g.monitorRoom = 0) (k : (rest.map fun v => v.category).sum = W) : 2 * g.monitorRoom + (rest.map fun v => v.category).sum ≤ W := by
  rw [h, k]; omega
section Own
variable {p : Program} {l : Launch} {e : Env} {R : Room} {s : State} {m : MethodId} {args : Array Value} {below : List Frame} {meth : Method} {c : Code} {T : State} {locs : List Loc} {cells slots : Nat} {Z : State} {h h' : Heap} {a : Addr} {k : ClassId} {ty : FieldType} {z j : Int32} {vs : List Value} {d v : Value} {g : JFrame} {rest : List Value}
theorem own_joinT {α : Type} {gj : α → JFrame} {P : α → Prop} {F : State → Prop} (X : Stand p l e R s m args below meth c T locs cells slots) (eT : T.heap = h)
    (k : ∀ T' q, P q → Stand p l e R s m args below meth c T' locs cells slots → T'.heap = h → own_G p e below T' (gj q) F) (r : (∀ T' q, P q → Stand p l e R s m args below meth c T' locs cells slots → T'.heap = h → own_G p e below T' (gj q) F) → own_G p e below T g F) : own_G p e below T g F := r k
theorem own_loop {α : Type} {gj : α → JFrame} {P : Nat → α → Prop} {F : State → Prop} (X : Stand p l e R s m args below meth c T locs cells slots) (eT : T.heap = h)
    (k : ∀ n, (∀ i, i < n → ∀ T' q, P i q → Stand p l e R s m args below meth c T' locs cells slots → T'.heap = h → own_G p e below T' (gj q) F) → ∀ T' q, P n q → Stand p l e R s m args below meth c T' locs cells slots → T'.heap = h → own_G p e below T' (gj q) F)
    (r : (∀ n T' q, P n q → Stand p l e R s m args below meth c T' locs cells slots → T'.heap = h → own_G p e below T' (gj q) F) → own_G p e below T g F) : own_G p e below T g F :=
  r fun n => Nat.strongRecOn n fun n ih => k n ih
theorem own_joinH {α : Type} {gj : α → JFrame} {P : List Loc → Heap → α → Prop} {F : State → Prop} {cells' slots' : Nat} (X : Stand p l e R s m args below meth c T locs cells slots)
    (k : ∀ T' L h' q, P L h' q → Stand p l e R s m args below meth c T' L cells' slots' → T'.heap = h' → own_G p e below T' (gj q) F) (r : (∀ T' L h' q, P L h' q → Stand p l e R s m args below meth c T' L cells' slots' → T'.heap = h' → own_G p e below T' (gj q) F) → own_G p e below T g F) : own_G p e below T g F := r k
theorem own_loopH {α : Type} {gj : α → JFrame} {P : Nat → List Loc → Heap → α → Prop} {F : State → Prop} {cs sl : Nat → Nat} (X : Stand p l e R s m args below meth c T locs cells slots)
    (k : ∀ n, (∀ i, i < n → ∀ T' L h' q, P i L h' q → Stand p l e R s m args below meth c T' L (cs i) (sl i) → T'.heap = h' → own_G p e below T' (gj q) F) → ∀ T' L h' q, P n L h' q → Stand p l e R s m args below meth c T' L (cs n) (sl n) → T'.heap = h' → own_G p e below T' (gj q) F)
    (r : (∀ n T' L h' q, P n L h' q → Stand p l e R s m args below meth c T' L (cs n) (sl n) → T'.heap = h' → own_G p e below T' (gj q) F) → own_G p e below T g F) : own_G p e below T g F :=
  r fun n => Nat.strongRecOn n fun n ih => k n ih
theorem own_joinHV {α : Type} {gj : α → JFrame} {P : Vm → Nat → List Loc → Heap → α → Prop} {F : State → Prop} {cells' slots' : Nat} {vm0 : Vm} (X : Stand p l e R (s.setVm vm0) m args below meth c T locs cells slots)
    (k : ∀ vm1 k1 T' L h' q, P vm1 k1 L h' q → Stand p l e R (s.setVm vm1) m args below meth c T' L cells' slots' → T'.heap = h' → own_G p e below T' (gj q) F) (r : (∀ vm1 k1 T' L h' q, P vm1 k1 L h' q → Stand p l e R (s.setVm vm1) m args below meth c T' L cells' slots' → T'.heap = h' → own_G p e below T' (gj q) F) → own_G p e below T g F) : own_G p e below T g F := r k
theorem own_alen (X : Stand p l e R s m args below meth c T locs cells slots) (hx : p.tables.exec = Jvm.exec) (hZ : Z.Warmed39 s.vm) (eT : T.heap = h) (F : Arv Z h a k ty z vs d) (hg : g.method = m) (hs : g.stack = .ref a :: rest) (hd : decode c.code g.pc = .ok (.arraylength, 1)) :
    ∀ target, Steps p.tables e below (T.setTop { g with pc := g.pc + 1, stack := .int z :: rest }) target → Steps p.tables e below (T.setTop g) target := by
  obtain ⟨cl, A, -, S, M, -⟩ := F
  intro target hr
  refine X.arraylength hx (cell := cl) (by rw [eT]; exact A.1) (State.isArrayOf_alike hZ.alike A.2.1) hg hs hd target ?_
  rw [len_of S M]; exact hr
theorem own_ial (X : Stand p l e R s m args below meth c T locs cells slots) (hx : p.tables.exec = Jvm.exec) (hZ : Z.Warmed39 s.vm) (eT : T.heap = h) (F : Arv Z h a k .int z vs d) (hj : ¬ j < 0 ∧ j < z) (hv : vs.getD j.toNatClampNeg d = v) (hg : g.method = m) (hs : g.stack = .int j :: .ref a :: rest) (hd : decode c.code g.pc = .ok (.iaload, 1)) :
    ∀ target, Steps p.tables e below (T.setTop { g with pc := g.pc + 1, stack := v :: rest }) target → Steps p.tables e below (T.setTop g) target := by
  obtain ⟨cl, A, -, S, M, H, -⟩ := F
  intro target hr
  exact X.iaload hx (by rw [eT]; exact A.1) (State.isArrayOf_alike hZ.alike A.2.1) A.2.2 (inb_of S hj) (H.at (inb_of S hj) hv) hg hs hd target hr
theorem own_cal (X : Stand p l e R s m args below meth c T locs cells slots) (hx : p.tables.exec = Jvm.exec) (hZ : Z.Warmed39 s.vm) (eT : T.heap = h) (F : Arv Z h a k .char z vs d) (hj : ¬ j < 0 ∧ j < z) (hv : vs.getD j.toNatClampNeg d = v) (hg : g.method = m) (hs : g.stack = .int j :: .ref a :: rest) (hd : decode c.code g.pc = .ok (.caload, 1)) :
    ∀ target, Steps p.tables e below (T.setTop { g with pc := g.pc + 1, stack := v :: rest }) target → Steps p.tables e below (T.setTop g) target := by
  obtain ⟨cl, A, -, S, M, H, -⟩ := F
  intro target hr
  exact X.caload hx (by rw [eT]; exact A.1) (State.isArrayOf_alike hZ.alike A.2.1) A.2.2 (inb_of S hj) (H.at (inb_of S hj) hv) hg hs hd target hr
theorem own_bal (X : Stand p l e R s m args below meth c T locs cells slots) (hx : p.tables.exec = Jvm.exec) (hZ : Z.Warmed39 s.vm) (eT : T.heap = h) (F : Arv Z h a k .byte z vs d) (hj : ¬ j < 0 ∧ j < z) (hv : vs.getD j.toNatClampNeg d = v) (hg : g.method = m) (hs : g.stack = .int j :: .ref a :: rest) (hd : decode c.code g.pc = .ok (.baload, 1)) :
    ∀ target, Steps p.tables e below (T.setTop { g with pc := g.pc + 1, stack := v :: rest }) target → Steps p.tables e below (T.setTop g) target := by
  obtain ⟨cl, A, -, S, M, H, -⟩ := F
  intro target hr
  exact X.baloadBytes hx (by rw [eT]; exact A.1) (State.isArrayOf_alike hZ.alike A.2.1) A.2.2 (inb_of S hj) (H.at (inb_of S hj) hv) hg hs hd target hr
theorem own_lal (X : Stand p l e R s m args below meth c T locs cells slots) (hx : p.tables.exec = Jvm.exec) (hZ : Z.Warmed39 s.vm) (eT : T.heap = h) (F : Arv Z h a k .long z vs d) (hj : ¬ j < 0 ∧ j < z) (hv : vs.getD j.toNatClampNeg d = v) (hg : g.method = m) (hs : g.stack = .int j :: .ref a :: rest) (hd : decode c.code g.pc = .ok (.laload, 1)) :
    ∀ target, Steps p.tables e below (T.setTop { g with pc := g.pc + 1, stack := v :: rest }) target → Steps p.tables e below (T.setTop g) target := by
  obtain ⟨cl, A, -, S, M, H, -⟩ := F
  intro target hr
  exact X.laload hx (by rw [eT]; exact A.1) (State.isArrayOf_alike hZ.alike A.2.1) A.2.2 (inb_of S hj) (H.at (inb_of S hj) hv) hg hs hd target hr
theorem own_dal (X : Stand p l e R s m args below meth c T locs cells slots) (hx : p.tables.exec = Jvm.exec) (hZ : Z.Warmed39 s.vm) (eT : T.heap = h) (F : Arv Z h a k .double z vs d) (hj : ¬ j < 0 ∧ j < z) (hv : vs.getD j.toNatClampNeg d = v) (hg : g.method = m) (hs : g.stack = .int j :: .ref a :: rest) (hd : decode c.code g.pc = .ok (.daload, 1)) :
    ∀ target, Steps p.tables e below (T.setTop { g with pc := g.pc + 1, stack := v :: rest }) target → Steps p.tables e below (T.setTop g) target := by
  obtain ⟨cl, A, -, S, M, H, -⟩ := F
  intro target hr
  exact X.daload hx (by rw [eT]; exact A.1) (State.isArrayOf_alike hZ.alike A.2.1) A.2.2 (inb_of S hj) (H.at (inb_of S hj) hv) hg hs hd target hr
theorem own_aal (X : Stand p l e R s m args below meth c T locs cells slots) (hx : p.tables.exec = Jvm.exec) (hZ : Z.Warmed39 s.vm) (eT : T.heap = h) (F : Arv Z h a k ty z vs d) (hty : ty.isReference = true) (hj : ¬ j < 0 ∧ j < z) (hv : vs.getD j.toNatClampNeg d = v) (hg : g.method = m) (hs : g.stack = .int j :: .ref a :: rest) (hd : decode c.code g.pc = .ok (.aaload, 1)) :
    ∀ target, Steps p.tables e below (T.setTop { g with pc := g.pc + 1, stack := v :: rest }) target → Steps p.tables e below (T.setTop g) target := by
  obtain ⟨cl, A, -, S, M, H, -⟩ := F
  intro target hr
  exact X.aaload hx (by rw [eT]; exact A.1) (State.isArrayOf_alike hZ.alike A.2.1) hty A.2.2 (inb_of S hj) (H.at (inb_of S hj) hv) hg hs hd target hr
theorem own_ist (X : Stand p l e R s m args below meth c T locs cells slots) (hx : p.tables.exec = Jvm.exec) (hZ : Z.Warmed39 s.vm) (eT : T.heap = h) (F : Arv Z h a k .int z vs d) (hj : ¬ j < 0 ∧ j < z) {i : Nat} (hi : j.toNatClampNeg = i) (hl : i < vs.length) {x : Int32} (hg : g.method = m) (hs : g.stack = .int x :: .int j :: .ref a :: rest) (hd : decode c.code g.pc = .ok (.iastore, 1)) :
    ∃ T' h', Stand p l e R s m args below meth c T' (locs ++ [⟨a, j.toNatClampNeg⟩]) cells slots ∧ T'.heap = h' ∧ Wr h h' a j.toNatClampNeg (.int x) ∧ Arv Z h' a k .int z (vs.set i (.int x)) d ∧ ∀ target, Steps p.tables e below (T'.setTop { g with pc := g.pc + 1, stack := rest }) target → Steps p.tables e below (T.setTop g) target := by
  obtain ⟨cl, A, q, S, M, H, G⟩ := F
  obtain ⟨T', h', X', e', W, st⟩ := stI X hx hZ eT A (inb_of S hj) hg hs hd
  exact ⟨T', h', X', e', W, Arv.set A q S M H G rfl W i hi hl, st⟩
theorem own_lst (X : Stand p l e R s m args below meth c T locs cells slots) (hx : p.tables.exec = Jvm.exec) (hZ : Z.Warmed39 s.vm) (eT : T.heap = h) (F : Arv Z h a k .long z vs d) (hj : ¬ j < 0 ∧ j < z) {i : Nat} (hi : j.toNatClampNeg = i) (hl : i < vs.length) {x : Int64} (hg : g.method = m) (hs : g.stack = .long x :: .int j :: .ref a :: rest) (hd : decode c.code g.pc = .ok (.lastore, 1)) :
    ∃ T' h', Stand p l e R s m args below meth c T' (locs ++ [⟨a, j.toNatClampNeg⟩]) cells slots ∧ T'.heap = h' ∧ Wr h h' a j.toNatClampNeg (.long x) ∧ Arv Z h' a k .long z (vs.set i (.long x)) d ∧ ∀ target, Steps p.tables e below (T'.setTop { g with pc := g.pc + 1, stack := rest }) target → Steps p.tables e below (T.setTop g) target := by
  obtain ⟨cl, A, q, S, M, H, G⟩ := F
  obtain ⟨T', h', X', e', W, st⟩ := stJ X hx hZ eT A (inb_of S hj) hg hs hd
  exact ⟨T', h', X', e', W, Arv.set A q S M H G rfl W i hi hl, st⟩
theorem own_dst (X : Stand p l e R s m args below meth c T locs cells slots) (hx : p.tables.exec = Jvm.exec) (hZ : Z.Warmed39 s.vm) (eT : T.heap = h) (F : Arv Z h a k .double z vs d) (hj : ¬ j < 0 ∧ j < z) {i : Nat} (hi : j.toNatClampNeg = i) (hl : i < vs.length) {x : UInt64} (hg : g.method = m) (hs : g.stack = .double x :: .int j :: .ref a :: rest) (hd : decode c.code g.pc = .ok (.dastore, 1)) :
    ∃ T' h', Stand p l e R s m args below meth c T' (locs ++ [⟨a, j.toNatClampNeg⟩]) cells slots ∧ T'.heap = h' ∧ Wr h h' a j.toNatClampNeg (.double x) ∧ Arv Z h' a k .double z (vs.set i (.double x)) d ∧ ∀ target, Steps p.tables e below (T'.setTop { g with pc := g.pc + 1, stack := rest }) target → Steps p.tables e below (T.setTop g) target := by
  obtain ⟨cl, A, q, S, M, H, G⟩ := F
  obtain ⟨T', h', X', e', W, st⟩ := stD X hx hZ eT A (inb_of S hj) hg hs hd
  exact ⟨T', h', X', e', W, Arv.set A q S M H G rfl W i hi hl, st⟩
theorem own_cst (X : Stand p l e R s m args below meth c T locs cells slots) (hx : p.tables.exec = Jvm.exec) (hZ : Z.Warmed39 s.vm) (eT : T.heap = h) (F : Arv Z h a k .char z vs d) (hj : ¬ j < 0 ∧ j < z) {i : Nat} (hi : j.toNatClampNeg = i) (hl : i < vs.length) {x y : Int32} (hn : nar .char x = y) (hg : g.method = m) (hs : g.stack = .int x :: .int j :: .ref a :: rest) (hd : decode c.code g.pc = .ok (.castore, 1)) :
    ∃ T' h', Stand p l e R s m args below meth c T' (locs ++ [⟨a, j.toNatClampNeg⟩]) cells slots ∧ T'.heap = h' ∧ Wr h h' a j.toNatClampNeg (.int y) ∧ Arv Z h' a k .char z (vs.set i (.int y)) d ∧ ∀ target, Steps p.tables e below (T'.setTop { g with pc := g.pc + 1, stack := rest }) target → Steps p.tables e below (T.setTop g) target := by
  obtain ⟨cl, A, q, S, M, H, G⟩ := F
  obtain ⟨T', h', X', e', W, st⟩ := stC X hx hZ eT A (inb_of S hj) hg hs hd
  rw [hn] at W
  exact ⟨T', h', X', e', W, Arv.set A q S M H G (by rw [← hn]; exact fits_nar_char x) W i hi hl, st⟩
theorem own_bst (X : Stand p l e R s m args below meth c T locs cells slots) (hx : p.tables.exec = Jvm.exec) (hZ : Z.Warmed39 s.vm) (eT : T.heap = h) (F : Arv Z h a k .byte z vs d) (hj : ¬ j < 0 ∧ j < z) {i : Nat} (hi : j.toNatClampNeg = i) (hl : i < vs.length) {x y : Int32} (hn : nar .byte x = y) (hg : g.method = m) (hs : g.stack = .int x :: .int j :: .ref a :: rest) (hd : decode c.code g.pc = .ok (.bastore, 1)) :
    ∃ T' h', Stand p l e R s m args below meth c T' (locs ++ [⟨a, j.toNatClampNeg⟩]) cells slots ∧ T'.heap = h' ∧ Wr h h' a j.toNatClampNeg (.int y) ∧ Arv Z h' a k .byte z (vs.set i (.int y)) d ∧ ∀ target, Steps p.tables e below (T'.setTop { g with pc := g.pc + 1, stack := rest }) target → Steps p.tables e below (T.setTop g) target := by
  obtain ⟨cl, A, q, S, M, H, G⟩ := F
  obtain ⟨T', h', X', e', W, st⟩ := stB X hx hZ eT A (inb_of S hj) hg hs hd
  rw [hn] at W
  exact ⟨T', h', X', e', W, Arv.set A q S M H G (by rw [← hn]; exact fits_nar_byte x) W i hi hl, st⟩
theorem own_ast (X : Stand p l e R s m args below meth c T locs cells slots) (hx : p.tables.exec = Jvm.exec) (hZ : Z.Warmed39 s.vm) (eT : T.heap = h) (F : Arv Z h a k ty z vs d) (hty : ty.isReference = true) (hj : ¬ j < 0 ∧ j < z) {i : Nat} (hi : j.toNatClampNeg = i) (hl : i < vs.length) (hv : fits ty v = true) (Q : Sto Z h a v) (hg : g.method = m) (hs : g.stack = v :: .int j :: .ref a :: rest) (hd : decode c.code g.pc = .ok (.aastore, 1)) :
    ∃ T' h', Stand p l e R s m args below meth c T' (locs ++ [⟨a, j.toNatClampNeg⟩]) cells slots ∧ T'.heap = h' ∧ Wr h h' a j.toNatClampNeg v ∧ Arv Z h' a k ty z (vs.set i v) d ∧ ∀ target, Steps p.tables e below (T'.setTop { g with pc := g.pc + 1, stack := rest }) target → Steps p.tables e below (T.setTop g) target := by
  obtain ⟨cl, A, q, S, M, H, G⟩ := F
  obtain ⟨T', h', X', e', W, st⟩ := stR X hx hZ eT A (inb_of S hj) hty Q hg hs hd
  exact ⟨T', h', X', e', W, Arv.set A q S M H G hv W i hi hl, st⟩
theorem own_retJ (X : Stand p l e R s m args below meth c T locs cells slots) (hx : p.tables.exec = Jvm.exec) {pc : Nat} {Ls : Array Slot} {w : Int64} (hret : meth.sig.returnType = some .long) (hd : decode c.code pc = .ok (.lreturn, 1)) {fs : List Frame}
    (hl : ∀ (f : JFrame) (acts : List Action), f.method = m → f.locked = none → f.entered = [] → (doReturn e (T.setTop f) acts (some (.long w))).1 = T.setFrames fs) : Steps p.tables e below (T.setTop (mkF m pc Ls (.long w :: rest))) (T.setFrames fs) :=
  retOut X hx hret rfl (Or.inr (Or.inl ⟨rfl, rfl, w, rfl⟩)) hd hl
theorem own_retD (X : Stand p l e R s m args below meth c T locs cells slots) (hx : p.tables.exec = Jvm.exec) {pc : Nat} {Ls : Array Slot} {w : UInt64} (hret : meth.sig.returnType = some .double) (hd : decode c.code pc = .ok (.dreturn, 1)) {fs : List Frame}
    (hl : ∀ (f : JFrame) (acts : List Action), f.method = m → f.locked = none → f.entered = [] → (doReturn e (T.setTop f) acts (some (.double w))).1 = T.setFrames fs) : Steps p.tables e below (T.setTop (mkF m pc Ls (.double w :: rest))) (T.setFrames fs) :=
  retOut X hx hret rfl (Or.inr (Or.inr (Or.inl ⟨rfl, rfl, w, rfl⟩))) hd hl
theorem own_retI (X : Stand p l e R s m args below meth c T locs cells slots) (hx : p.tables.exec = Jvm.exec) {pc : Nat} {Ls : Array Slot} {w : Int32} (hret : meth.sig.returnType = some .int) (hd : decode c.code pc = .ok (.ireturn, 1)) {fs : List Frame}
    (hl : ∀ (f : JFrame) (acts : List Action), f.method = m → f.locked = none → f.entered = [] → (doReturn e (T.setTop f) acts (some (.int w))).1 = T.setFrames fs) : Steps p.tables e below (T.setTop (mkF m pc Ls (.int w :: rest))) (T.setFrames fs) :=
  retOut X hx hret rfl (Or.inl ⟨rfl, Or.inl rfl, w, rfl⟩) hd hl
theorem own_retA (X : Stand p l e R s m args below meth c T locs cells slots) (hx : p.tables.exec = Jvm.exec) {pc : Nat} {Ls : Array Slot} {w : Value} {t : FieldType} (hret : meth.sig.returnType = some t) (ht : t.isReference = true) (hn : narrow t w = w) (hw : w.isRef = true) (hd : decode c.code pc = .ok (.areturn, 1)) {fs : List Frame}
    (hl : ∀ (f : JFrame) (acts : List Action), f.method = m → f.locked = none → f.entered = [] → (doReturn e (T.setTop f) acts (some w)).1 = T.setFrames fs) : Steps p.tables e below (T.setTop (mkF m pc Ls (w :: rest))) (T.setFrames fs) :=
  retOut X hx hret hn (Or.inr (Or.inr (Or.inr (Or.inr ⟨rfl, ht, hw⟩)))) hd hl
end Own
set_option maxRecDepth 65536
set_option maxHeartbeats 40000000
abbrev yN0 : MethodName := ⟨"com/example/millrace/millrace/cluster/SharesOwnersPinLaw", "at", "([IIIIZII)Z"⟩
abbrev yN1 : MethodName := ⟨"java/util/ArrayList", "add", "(Ljava/lang/Object;)Z"⟩
abbrev yN2 : MethodName := ⟨"com/example/millrace/millrace/cluster/Placement", "first", "(I)I"⟩
abbrev yN3 : MethodName := ⟨"com/example/millrace/millrace/cluster/Placement", "workers", "()I"⟩
abbrev yN4 : MethodName := ⟨"java/util/BitSet", "wordIndex", "(I)I"⟩
abbrev yN5 : MethodName := ⟨"java/util/List", "add", "(Ljava/lang/Object;)Z"⟩
abbrev yN6 : MethodName := ⟨"com/example/millrace/millrace/cluster/Shares", "owners", "()[I"⟩
abbrev yN7 : MethodName := ⟨"java/util/AbstractCollection", "<init>", "()V"⟩
abbrev yN8 : MethodName := ⟨"java/util/ArrayList", "<init>", "()V"⟩
abbrev yN9 : MethodName := ⟨"com/example/millrace/millrace/cluster/Shares$Backup", "<init>", "(II)V"⟩
abbrev yN10 : MethodName := ⟨"java/util/Arrays", "fill", "([JJ)V"⟩
abbrev yN11 : MethodName := ⟨"java/util/ArrayList", "add", "(Ljava/lang/Object;[Ljava/lang/Object;I)V"⟩
abbrev yN12 : MethodName := ⟨"java/lang/Math", "max", "(II)I"⟩
abbrev yN13 : MethodName := ⟨"java/util/ArrayList$Itr", "hasNext", "()Z"⟩
abbrev yN14 : MethodName := ⟨"java/util/AbstractMap", "<init>", "()V"⟩
abbrev yN15 : MethodName := ⟨"java/util/AbstractList", "<init>", "()V"⟩
abbrev yN16 : MethodName := ⟨"java/util/BitSet", "<init>", "()V"⟩
abbrev yN17 : MethodName := ⟨"java/util/BitSet", "checkInvariants", "()V"⟩
abbrev yN18 : MethodName := ⟨"java/util/BitSet", "set", "(I)V"⟩
abbrev yN19 : MethodName := ⟨"java/util/BitSet", "clear", "(I)V"⟩
abbrev yN20 : MethodName := ⟨"java/util/ArrayDeque", "clear", "()V"⟩
abbrev yN21 : MethodName := ⟨"java/util/ArrayList", "<init>", "(I)V"⟩
abbrev yN22 : MethodName := ⟨"com/example/millrace/millrace/cluster/Placement", "partitions", "()I"⟩
abbrev yN23 : MethodName := ⟨"com/example/millrace/millrace/cluster/Placement", "owner", "(I)I"⟩
abbrev yN24 : MethodName := ⟨"com/example/millrace/millrace/cluster/Placement", "backups", "()[[I"⟩
abbrev yN25 : MethodName := ⟨"java/util/ArrayList$Itr", "checkForComodification", "()V"⟩
abbrev yN26 : MethodName := ⟨"com/example/millrace/millrace/cluster/Retained", "keepForReplay", "(I)V"⟩
abbrev yN27 : MethodName := ⟨"com/example/millrace/millrace/cluster/Shares", "give", "(IILcom/example/millrace/millrace/cluster/Partitions$Saved;Lcom/example/millrace/millrace/cluster/Partitions$Saved;)Lcom/example/millrace/millrace/cluster/Partitions$Adoption;"⟩
abbrev yN28 : MethodName := ⟨"com/example/millrace/millrace/cluster/SharesOwnersPinLaw", "all", "([IIIZII)Z"⟩
abbrev yN29 : MethodName := ⟨"java/util/AbstractSet", "<init>", "()V"⟩
abbrev yN30 : MethodName := ⟨"java/lang/Number", "<init>", "()V"⟩
abbrev yN31 : MethodName := ⟨"java/lang/Record", "<init>", "()V"⟩
abbrev yN32 : MethodName := ⟨"java/util/TreeMap", "<init>", "()V"⟩
abbrev yN33 : MethodName := ⟨"java/util/HashMap", "<init>", "()V"⟩
abbrev yN34 : MethodName := ⟨"java/util/HashSet", "<init>", "()V"⟩
abbrev yN35 : MethodName := ⟨"java/lang/Long", "<init>", "(J)V"⟩
abbrev yN36 : MethodName := ⟨"java/lang/Long", "valueOf", "(J)Ljava/lang/Long;"⟩
abbrev yN37 : MethodName := ⟨"com/example/millrace/millrace/cluster/Partitions$Adoption", "<init>", "(IZJIIJ)V"⟩
abbrev yN38 : MethodName := ⟨"java/util/BitSet", "initWords", "(I)V"⟩
abbrev yN39 : MethodName := ⟨"java/util/BitSet", "ensureCapacity", "(I)V"⟩
abbrev yN40 : MethodName := ⟨"java/util/BitSet", "expandTo", "(I)V"⟩
abbrev yN41 : MethodName := ⟨"java/util/BitSet", "recalculateWordsInUse", "()V"⟩
abbrev yN42 : MethodName := ⟨"java/util/ArrayDeque", "<init>", "()V"⟩
abbrev yN43 : MethodName := ⟨"java/util/ArrayDeque", "circularClear", "([Ljava/lang/Object;II)V"⟩
abbrev yN44 : MethodName := ⟨"com/example/millrace/millrace/cluster/Shares$Share", "<init>", "(I)V"⟩
abbrev yN45 : MethodName := ⟨"com/example/millrace/millrace/cluster/Places", "<init>", "(I)V"⟩
abbrev yN46 : MethodName := ⟨"com/example/millrace/millrace/cluster/Retained", "<init>", "(I)V"⟩
abbrev yN47 : MethodName := ⟨"com/example/millrace/millrace/cluster/Coverage$Owner", "<init>", "()V"⟩
abbrev yN48 : MethodName := ⟨"com/example/millrace/millrace/cluster/Coverage", "<init>", "(II)V"⟩
abbrev yN49 : MethodName := ⟨"java/util/DualPivotQuicksort", "insertionSort", "([III)V"⟩
abbrev yN50 : MethodName := ⟨"java/util/DualPivotQuicksort", "sort", "(Ljava/util/DualPivotQuicksort$Sorter;[IIII)V"⟩
abbrev yN51 : MethodName := ⟨"java/util/DualPivotQuicksort", "sort", "([IIII)V"⟩
abbrev yN52 : MethodName := ⟨"java/util/Arrays", "sort", "([I)V"⟩
abbrev yN53 : MethodName := ⟨"com/example/millrace/millrace/cluster/Placement", "<init>", "(III)V"⟩
abbrev yN54 : MethodName := ⟨"java/util/ArrayList", "grow", "(I)[Ljava/lang/Object;"⟩
abbrev yN55 : MethodName := ⟨"java/util/ArrayList", "grow", "()[Ljava/lang/Object;"⟩
abbrev yN56 : MethodName := ⟨"com/example/millrace/millrace/cluster/Shares", "<init>", "(Lcom/example/millrace/millrace/cluster/Placement;Z)V"⟩
abbrev yN57 : MethodName := ⟨"java/util/ArrayList$Itr", "<init>", "(Ljava/util/ArrayList;)V"⟩
abbrev yN58 : MethodName := ⟨"java/util/ArrayList", "iterator", "()Ljava/util/Iterator;"⟩
abbrev yN59 : MethodName := ⟨"java/util/ArrayList$Itr", "next", "()Ljava/lang/Object;"⟩
abbrev yN60 : MethodName := ⟨"java/util/Iterator", "hasNext", "()Z"⟩
abbrev zC0 : String := "java/util/BitSet"
abbrev zC1 : String := "java/util/ArrayList"
abbrev zC2 : String := "com/example/millrace/millrace/cluster/Placement"
abbrev zC3 : String := "java/lang/Object"
abbrev zC4 : String := "com/example/millrace/millrace/cluster/Shares"
abbrev zC5 : String := "com/example/millrace/millrace/cluster/Shares$Share"
abbrev zC6 : String := "com/example/millrace/millrace/cluster/Retained"
abbrev zC7 : String := "[Ljava/lang/Object;"
abbrev zC8 : String := "java/util/ArrayList$Itr"
abbrev zC9 : String := "java/util/ArrayDeque"
abbrev zC10 : String := "java/util/AbstractList"
abbrev zC11 : String := "java/util/List"
abbrev zC12 : String := "java/lang/Long"
abbrev zC13 : String := "com/example/millrace/millrace/cluster/Shares$Backup"
abbrev zC14 : String := "com/example/millrace/millrace/cluster/Coverage"
abbrev zC15 : String := "com/example/millrace/millrace/cluster/Partitions$Adoption"
abbrev zC16 : String := "Ljava/util/List;"
abbrev zC17 : String := "com/example/millrace/millrace/cluster/Places"
abbrev zC18 : String := "[Ljava/util/BitSet;"
abbrev zC19 : String := "[Lcom/example/millrace/millrace/cluster/Shares$Share;"
abbrev zC20 : String := "[Ljava/lang/Long;"
abbrev zC21 : String := "java/util/TreeMap"
abbrev zC22 : String := "com/example/millrace/millrace/cluster/Coverage$Owner"
abbrev zC23 : String := "Ljava/util/ArrayList;"
abbrev zC24 : String := "Lcom/example/millrace/millrace/cluster/Retained;"
abbrev zC25 : String := "java/util/HashMap"
abbrev zC26 : String := "Ljava/util/ArrayDeque;"
abbrev zC27 : String := "com/example/millrace/millrace/cluster/Packed"
abbrev zC28 : String := "java/util/HashSet"
abbrev zC29 : String := "java/util/Comparator"
abbrev zC30 : String := "[Lcom/example/millrace/millrace/cluster/Packed;"
abbrev zC31 : String := "Lcom/example/millrace/millrace/cluster/Places;"
abbrev zC32 : String := "java/util/Set"
abbrev zC33 : String := "Ljava/util/Comparator;"
abbrev zC34 : String := "Ljava/util/HashMap;"
abbrev zC35 : String := "Ljava/util/Set;"
abbrev zC36 : String := "Lcom/example/millrace/millrace/cluster/Placement;"
abbrev zC37 : String := "Lcom/example/millrace/millrace/cluster/Coverage;"
abbrev zC38 : String := "java/util/Iterator"
abbrev c8 := jdk_22_method_1_code
theorem d8_0 : dk c8 0 (.aload_n 0) 1 := by decide +kernel
theorem d8_1 : dk c8 1 (.invokespecial 1) 3 := by decide +kernel
theorem d8_4 : dk c8 4 (.return_) 1 := by decide +kernel
theorem own_ef1 (m : MethodId) (x0 : Addr) : entryFrame m #[(.ref x0)] 1 = mkF m 0 #[.val (.ref x0)] [] := by first | (simp [entryFrame, mkF, argsToLocals, Value.category]; done) | rfl
def own_acQ (Z : State) (a : Addr) (h0 : Heap) (n0 : Nat) (v : Option Value) (h : Heap) (L : List Loc) : Prop := v = none ∧ Fr n0 L ∧ h = h0
theorem own_pn1 : plainName "java/util/AbstractCollection" = true := by first | (simp [plainName, overriddenIn]; done) | decide +kernel
abbrev own_acR : Room := { frames := 1, cells := 0, slots := 0, locals := 12 }
theorem own_ac (l : Launch) (Z : State) (a0 : Array Value) (hw : ∀ d ∈ tables_1, d.before a0 Z = true) (ws : List Jvm.Cond) (a : Addr) (h0 : Heap) (n0 : Nat) (Z0 : n0 ≤ h0.size)  :
    own_M l yN7 jdk_22_method_1_code 1 none ws own_acR #[(.ref a)] Z h0 (own_acQ Z a h0 n0) := by
 refine own_go (plainFor_of_name own_pn1) (fun m => own_ef1 m a ) ?_
 intro p e s m below meth c s₁ Bd hx hby hml hZ hh hown hnm X0 e0
 have N0 := Fr.nil n0
 refine own_st (g' := (mkF m 1 #[oR a] [(.ref a)])) (fun _ kt => XS.aloadN X0.here hx rfl (hb hby d8_0) rfl rfl kt) ?_
 obtain ⟨T1, X1, e1, st1⟩ := initO X0 hx hZ hown (own_k hw 50 rfl) (own_k hw 11 rfl) (own_k hw 12 rfl) e0 (g := (mkF m 1 #[oR a] [(.ref a)])) rfl hml.symm rfl (hb hby d8_1) (by decide) (W := 0) (own_w0 rfl rfl) (by decide)
 refine own_st st1 ?_
 obtain ⟨fs, hr, hrun, hended, hW, hsame⟩ := X1.leave (v := none) (fun _ => rfl)
 refine own_end (X1.returnOut hx Bd.returns (hb hby d8_4) hr) ⟨_, hrun, hended, _, _, rfl, ?_, ⟨_, rfl⟩, hW, hsame.mono (by decide) (by decide)⟩
 show own_acQ Z _ h0 n0 _ T1.heap _
 rw [e1]
 exact ⟨rfl, N0, rfl⟩
abbrev c14 := jdk_71_method_1_code
theorem d14_0 : dk c14 0 (.aload_n 0) 1 := by decide +kernel
theorem d14_1 : dk c14 1 (.invokespecial 1) 3 := by decide +kernel
theorem d14_4 : dk c14 4 (.return_) 1 := by decide +kernel
def own_amQ (Z : State) (a : Addr) (h0 : Heap) (n0 : Nat) (v : Option Value) (h : Heap) (L : List Loc) : Prop := v = none ∧ Fr n0 L ∧ h = h0
theorem own_pn2 : plainName "java/util/AbstractMap" = true := by first | (simp [plainName, overriddenIn]; done) | decide +kernel
abbrev own_amR : Room := { frames := 1, cells := 0, slots := 0, locals := 12 }
theorem own_am (l : Launch) (Z : State) (a0 : Array Value) (hw : ∀ d ∈ tables_1, d.before a0 Z = true) (ws : List Jvm.Cond) (a : Addr) (h0 : Heap) (n0 : Nat) (Z0 : n0 ≤ h0.size)  :
    own_M l yN14 jdk_71_method_1_code 1 none ws own_amR #[(.ref a)] Z h0 (own_amQ Z a h0 n0) := by
 refine own_go (plainFor_of_name own_pn2) (fun m => own_ef1 m a ) ?_
 intro p e s m below meth c s₁ Bd hx hby hml hZ hh hown hnm X0 e0
 have N0 := Fr.nil n0
 refine own_st (g' := (mkF m 1 #[oR a] [(.ref a)])) (fun _ kt => XS.aloadN X0.here hx rfl (hb hby d14_0) rfl rfl kt) ?_
 obtain ⟨T2, X2, e2, st2⟩ := initO X0 hx hZ hown (own_k hw 107 rfl) (own_k hw 11 rfl) (own_k hw 12 rfl) e0 (g := (mkF m 1 #[oR a] [(.ref a)])) rfl hml.symm rfl (hb hby d14_1) (by decide) (W := 0) (own_w0 rfl rfl) (by decide)
 refine own_st st2 ?_
 obtain ⟨fs, hr, hrun, hended, hW, hsame⟩ := X2.leave (v := none) (fun _ => rfl)
 refine own_end (X2.returnOut hx Bd.returns (hb hby d14_4) hr) ⟨_, hrun, hended, _, _, rfl, ?_, ⟨_, rfl⟩, hW, hsame.mono (by decide) (by decide)⟩
 show own_amQ Z _ h0 n0 _ T2.heap _
 rw [e2]
 exact ⟨rfl, N0, rfl⟩
abbrev c22 := jdk_91_method_1_code
theorem d22_0 : dk c22 0 (.aload_n 0) 1 := by decide +kernel
theorem d22_1 : dk c22 1 (.invokespecial 1) 3 := by decide +kernel
theorem own_pd1 : parseMethodDescriptor "()V" = some ⟨[], none⟩ := by decide +kernel
theorem d22_4 : dk c22 4 (.return_) 1 := by decide +kernel
def own_asQ (Z : State) (a : Addr) (h0 : Heap) (n0 : Nat) (v : Option Value) (h : Heap) (L : List Loc) : Prop := v = none ∧ Fr n0 L ∧ h = h0
theorem own_pn3 : plainName "java/util/AbstractSet" = true := by first | (simp [plainName, overriddenIn]; done) | decide +kernel
abbrev own_asR : Room := { frames := 2, cells := 0, slots := 0, locals := 24 }
theorem own_as (l : Launch) (Z : State) (a0 : Array Value) (hw : ∀ d ∈ tables_1, d.before a0 Z = true) (ws : List Jvm.Cond) (a : Addr) (h0 : Heap) (n0 : Nat) (Z0 : n0 ≤ h0.size)  :
    own_M l yN29 jdk_91_method_1_code 1 none ws own_asR #[(.ref a)] Z h0 (own_asQ Z a h0 n0) := by
 refine own_go (plainFor_of_name own_pn3) (fun m => own_ef1 m a ) ?_
 intro p e s m below meth c s₁ Bd hx hby hml hZ hh hown hnm X0 e0
 have N0 := Fr.nil n0
 refine own_st (g' := (mkF m 1 #[oR a] [(.ref a)])) (fun _ kt => XS.aloadN X0.here hx rfl (hb hby d22_0) rfl rfl kt) ?_
 obtain ⟨_, _, ⟨T3, L3, k3, n3⟩, -, X3, ⟨Lc3, hQ3, l3, y3, z3⟩, st3⟩ := X0.specialBack hx (y := yN7) rfl hown (mvT hZ (own_k hw 203 rfl)) (mvT hZ (own_k hw 45 rfl)) (mvT hZ (own_k hw 49 rfl)) (by decide) (backOf (W := 0) (own_ac l Z a0 hw [] a h0 n0 Z0 ) hZ (own_k hw 49 rfl) (own_k hw 48 rfl) (by decide) (by decide)) (g := (mkF m 1 #[oR a] [(.ref a)])) rfl hml.symm (Steps.refl _) (a := a) (argsL := []) (rest := []) (lenOf own_pd1 rfl) rfl (own_w0 rfl rfl) (hb hby d22_1) (fun _ _ => ⟨rfl, e0, (by decide : 0 + 0 ≤ 0), (by decide : 0 + 0 ≤ 0)⟩)
 dsimp only [Pt.U, Pt.locs, Pt.cells, Pt.slots] at X3 l3 y3 z3 st3 hQ3
 subst l3 y3 z3
 obtain ⟨rfl, N3, e3⟩ := hQ3
 have N4 := Fr.app N0 N3
 refine own_tr st3 ?_
 obtain ⟨fs, hr, hrun, hended, hW, hsame⟩ := X3.leave (v := none) (fun _ => rfl)
 refine own_end (X3.returnOut hx Bd.returns (hb hby d22_4) hr) ⟨_, hrun, hended, _, _, rfl, ?_, ⟨_, rfl⟩, hW, hsame.mono (by decide) (by decide)⟩
 show own_asQ Z _ h0 n0 _ T3.heap _
 rw [e3]
 exact ⟨rfl, N4, rfl⟩
abbrev c45 := jdk_18_method_1_code
theorem d45_0 : dk c45 0 (.aload_n 0) 1 := by decide +kernel
theorem d45_1 : dk c45 1 (.invokespecial 1) 3 := by decide +kernel
theorem d45_4 : dk c45 4 (.return_) 1 := by decide +kernel
def own_nuQ (Z : State) (a : Addr) (h0 : Heap) (n0 : Nat) (v : Option Value) (h : Heap) (L : List Loc) : Prop := v = none ∧ Fr n0 L ∧ h = h0
theorem own_pn4 : plainName "java/lang/Number" = true := by first | (simp [plainName, overriddenIn]; done) | decide +kernel
abbrev own_nuR : Room := { frames := 1, cells := 0, slots := 0, locals := 12 }
theorem own_nu (l : Launch) (Z : State) (a0 : Array Value) (hw : ∀ d ∈ tables_1, d.before a0 Z = true) (ws : List Jvm.Cond) (a : Addr) (h0 : Heap) (n0 : Nat) (Z0 : n0 ≤ h0.size)  :
    own_M l yN30 jdk_18_method_1_code 1 none ws own_nuR #[(.ref a)] Z h0 (own_nuQ Z a h0 n0) := by
 refine own_go (plainFor_of_name own_pn4) (fun m => own_ef1 m a ) ?_
 intro p e s m below meth c s₁ Bd hx hby hml hZ hh hown hnm X0 e0
 have N0 := Fr.nil n0
 refine own_st (g' := (mkF m 1 #[oR a] [(.ref a)])) (fun _ kt => XS.aloadN X0.here hx rfl (hb hby d45_0) rfl rfl kt) ?_
 obtain ⟨T5, X5, e5, st5⟩ := initO X0 hx hZ hown (own_k hw 383 rfl) (own_k hw 11 rfl) (own_k hw 12 rfl) e0 (g := (mkF m 1 #[oR a] [(.ref a)])) rfl hml.symm rfl (hb hby d45_1) (by decide) (W := 0) (own_w0 rfl rfl) (by decide)
 refine own_st st5 ?_
 obtain ⟨fs, hr, hrun, hended, hW, hsame⟩ := X5.leave (v := none) (fun _ => rfl)
 refine own_end (X5.returnOut hx Bd.returns (hb hby d45_4) hr) ⟨_, hrun, hended, _, _, rfl, ?_, ⟨_, rfl⟩, hW, hsame.mono (by decide) (by decide)⟩
 show own_nuQ Z _ h0 n0 _ T5.heap _
 rw [e5]
 exact ⟨rfl, N0, rfl⟩
abbrev c47 := jdk_30_method_1_code
theorem d47_0 : dk c47 0 (.aload_n 0) 1 := by decide +kernel
theorem d47_1 : dk c47 1 (.invokespecial 1) 3 := by decide +kernel
theorem d47_4 : dk c47 4 (.return_) 1 := by decide +kernel
def own_recQ (Z : State) (a : Addr) (h0 : Heap) (n0 : Nat) (v : Option Value) (h : Heap) (L : List Loc) : Prop := v = none ∧ Fr n0 L ∧ h = h0
theorem own_pn5 : plainName "java/lang/Record" = true := by first | (simp [plainName, overriddenIn]; done) | decide +kernel
abbrev own_recR : Room := { frames := 1, cells := 0, slots := 0, locals := 12 }
theorem own_rec (l : Launch) (Z : State) (a0 : Array Value) (hw : ∀ d ∈ tables_1, d.before a0 Z = true) (ws : List Jvm.Cond) (a : Addr) (h0 : Heap) (n0 : Nat) (Z0 : n0 ≤ h0.size)  :
    own_M l yN31 jdk_30_method_1_code 1 none ws own_recR #[(.ref a)] Z h0 (own_recQ Z a h0 n0) := by
 refine own_go (plainFor_of_name own_pn5) (fun m => own_ef1 m a ) ?_
 intro p e s m below meth c s₁ Bd hx hby hml hZ hh hown hnm X0 e0
 have N0 := Fr.nil n0
 refine own_st (g' := (mkF m 1 #[oR a] [(.ref a)])) (fun _ kt => XS.aloadN X0.here hx rfl (hb hby d47_0) rfl rfl kt) ?_
 obtain ⟨T6, X6, e6, st6⟩ := initO X0 hx hZ hown (own_k hw 402 rfl) (own_k hw 11 rfl) (own_k hw 12 rfl) e0 (g := (mkF m 1 #[oR a] [(.ref a)])) rfl hml.symm rfl (hb hby d47_1) (by decide) (W := 0) (own_w0 rfl rfl) (by decide)
 refine own_st st6 ?_
 obtain ⟨fs, hr, hrun, hended, hW, hsame⟩ := X6.leave (v := none) (fun _ => rfl)
 refine own_end (X6.returnOut hx Bd.returns (hb hby d47_4) hr) ⟨_, hrun, hended, _, _, rfl, ?_, ⟨_, rfl⟩, hW, hsame.mono (by decide) (by decide)⟩
 show own_recQ Z _ h0 n0 _ T6.heap _
 rw [e6]
 exact ⟨rfl, N0, rfl⟩
abbrev c7 := jdk_39_method_1_code
theorem d7_0 : dk c7 0 (.aload_n 0) 1 := by decide +kernel
theorem d7_1 : dk c7 1 (.invokespecial 1) 3 := by decide +kernel
theorem d7_4 : dk c7 4 (.aload_n 0) 1 := by decide +kernel
theorem d7_5 : dk c7 5 (.iconst 0) 1 := by decide +kernel
theorem d7_6 : dk c7 6 (.putfield 7) 3 := by decide +kernel
theorem d7_9 : dk c7 9 (.return_) 1 := by decide +kernel
def own_ablQ (Z : State) (a : Addr) (h0 : Heap) (n0 : Nat) (v : Option Value) (h : Heap) (L : List Loc) : Prop := v = none ∧ Fr n0 L ∧ Keep h0 h [a] ∧ (Exa Z h a zC1) ∧ (Fld Z h a zC10 "modCount" "I" (.int 0)) ∧ (Fld Z h a zC1 "elementData" zC7 .null) ∧ (Fld Z h a zC1 "size" "I" (.int 0))
theorem own_pn6 : plainName "java/util/AbstractList" = true := by first | (simp [plainName, overriddenIn]; done) | decide +kernel
abbrev own_ablR : Room := { frames := 2, cells := 0, slots := 0, locals := 24 }
theorem own_abl (l : Launch) (Z : State) (a0 : Array Value) (hw : ∀ d ∈ tables_1, d.before a0 Z = true) (ws : List Jvm.Cond) (a : Addr) (h0 : Heap) (n0 : Nat) (Z0 : n0 ≤ h0.size) (pr1 : Exa Z h0 a zC1) (pr2 : n0 ≤ a) (pr3 : Fld Z h0 a zC10 "modCount" "I" (.int 0)) (pr4 : Fld Z h0 a zC1 "elementData" zC7 .null) (pr5 : Fld Z h0 a zC1 "size" "I" (.int 0)) :
    own_M l yN15 jdk_39_method_1_code 1 none ws own_ablR #[(.ref a)] Z h0 (own_ablQ Z a h0 n0) := by
 refine own_go (plainFor_of_name own_pn6) (fun m => own_ef1 m a ) ?_
 intro p e s m below meth c s₁ Bd hx hby hml hZ hh hown hnm X0 e0
 have N0 := Fr.nil n0
 have K0 : Keep h0 h0 [a] := Keep.refl h0 _
 refine own_st (g' := (mkF m 1 #[oR a] [(.ref a)])) (fun _ kt => XS.aloadN X0.here hx rfl (hb hby d7_0) rfl rfl kt) ?_
 obtain ⟨_, _, ⟨T7, L7, k7, n7⟩, -, X7, ⟨Lc7, hQ7, l7, y7, z7⟩, st7⟩ := X0.specialBack hx (y := yN7) rfl hown (mvT hZ (own_k hw 44 rfl)) (mvT hZ (own_k hw 45 rfl)) (mvT hZ (own_k hw 49 rfl)) (by decide) (backOf (W := 0) (own_ac l Z a0 hw [] a h0 n0 Z0 ) hZ (own_k hw 49 rfl) (own_k hw 48 rfl) (by decide) (by decide)) (g := (mkF m 1 #[oR a] [(.ref a)])) rfl hml.symm (Steps.refl _) (a := a) (argsL := []) (rest := []) (lenOf own_pd1 rfl) rfl (own_w0 rfl rfl) (hb hby d7_1) (fun _ _ => ⟨rfl, e0, (by decide : 0 + 0 ≤ 0), (by decide : 0 + 0 ≤ 0)⟩)
 dsimp only [Pt.U, Pt.locs, Pt.cells, Pt.slots] at X7 l7 y7 z7 st7 hQ7
 subst l7 y7 z7
 obtain ⟨rfl, N7, e7⟩ := hQ7
 have N8 := Fr.app N0 N7
 refine own_tr st7 ?_
 refine own_st (g' := (mkF m 6 #[oR a] [(.int 0), (.ref a)])) (fun _ kt => XS.aloadN X7.here hx rfl (hb hby d7_4) rfl rfl (XS.iconst X7.here hx rfl (hb hby d7_5) kt)) ?_
 obtain ⟨T9, h9, X9, e9, W9, st9⟩ := putF X7 hx hZ hown (host := "") (Or.inl (own_k hw 51 rfl)) Via.refl e7 pr3 pr1 (Or.inl (own_k hw 52 rfl)) (own_k hw 33 rfl) (ty := .int) (by decide) rfl rfl (g := (mkF m 6 #[oR a] [(.int 0), (.ref a)])) rfl rfl (hb hby d7_6)
 have N9 := Fr.snoc X9 N8 pr2
 have Z10 := Nat.le_trans Z0 (Nat.le_of_eq (Wr.size W9).symm)
 have K10 := (Keep.wr K0 W9 (Or.inl (List.mem_of_getElem? (i := 0) rfl)))
 have F11 : Fld Z h9 a zC10 "modCount" "I" (.int 0) := Fld.same W9 pr3
 refine own_st st9 ?_
 obtain ⟨fs, hr, hrun, hended, hW, hsame⟩ := X9.leave (v := none) (fun _ => rfl)
 refine own_end (X9.returnOut hx Bd.returns (hb hby d7_9) hr) ⟨_, hrun, hended, _, _, rfl, ?_, ⟨_, rfl⟩, hW, hsame.mono (by decide) (by decide)⟩
 have F12 := (Exa.wr W9 pr1)
 have F13 := (Fld.other W9 pr4 (Or.inr (slot_ne (Or.inl (own_k hw 55 rfl)) (Or.inl (own_k hw 52 rfl)) (by decide) (t := (.array (.object zC3))) (t' := .int) (by decide) (by decide))))
 have F14 := (Fld.other W9 pr5 (Or.inr (slot_ne (Or.inl (own_k hw 126 rfl)) (Or.inl (own_k hw 52 rfl)) (by decide) (t := .int) (t' := .int) (by decide) (by decide))))
 show own_ablQ Z _ h0 n0 _ T9.heap _
 rw [e9]
 exact ⟨rfl, N9, K10, F12, F11, F13, F14⟩
abbrev c6 := jdk_38_method_2_code
theorem d6_0 : dk c6 0 (.aload_n 0) 1 := by decide +kernel
theorem d6_1 : dk c6 1 (.invokespecial 1) 3 := by decide +kernel
theorem d6_4 : dk c6 4 (.aload_n 0) 1 := by decide +kernel
theorem d6_5 : dk c6 5 (.getstatic 39) 3 := by decide +kernel
theorem d6_8 : dk c6 8 (.putfield 9) 3 := by decide +kernel
theorem d6_11 : dk c6 11 (.return_) 1 := by decide +kernel
def own_aliQ (Z : State) (a : Addr) (de : Addr) (h0 : Heap) (n0 : Nat) (v : Option Value) (h : Heap) (L : List Loc) : Prop := v = none ∧ Fr n0 L ∧ Keep h0 h [a] ∧ (Exa Z h a zC1) ∧ (Fld Z h a zC10 "modCount" "I" (.int 0)) ∧ (Fld Z h a zC1 "elementData" zC7 (.ref de)) ∧ (Fld Z h a zC1 "size" "I" (.int 0))
theorem own_pn7 : plainName "java/util/ArrayList" = true := by first | (simp [plainName, overriddenIn]; done) | decide +kernel
abbrev own_aliR : Room := { frames := 3, cells := 0, slots := 0, locals := 36 }
theorem own_ali (l : Launch) (Z : State) (a0 : Array Value) (hw : ∀ d ∈ tables_1, d.before a0 Z = true) (ws : List Jvm.Cond) (a : Addr) (de : Addr) (h0 : Heap) (n0 : Nat) (Z0 : n0 ≤ h0.size) (pr1 : Old Z n0 h0) (pr2 : Sta Z Z.heap zC1 "DEFAULTCAPACITY_EMPTY_ELEMENTDATA" zC7 (.ref de)) (pr3 : Exa Z h0 a zC1) (pr4 : n0 ≤ a) (pr5 : Fld Z h0 a zC10 "modCount" "I" (.int 0)) (pr6 : Fld Z h0 a zC1 "elementData" zC7 .null) (pr7 : Fld Z h0 a zC1 "size" "I" (.int 0)) :
    own_M l yN8 jdk_38_method_2_code 1 none ws own_aliR #[(.ref a)] Z h0 (own_aliQ Z a de h0 n0) := by
 refine own_go (plainFor_of_name own_pn7) (fun m => own_ef1 m a ) ?_
 intro p e s m below meth c s₁ Bd hx hby hml hZ hh hown hnm X0 e0
 have N0 := Fr.nil n0
 have K0 : Keep h0 h0 [a] := Keep.refl h0 _
 refine own_st (g' := (mkF m 1 #[oR a] [(.ref a)])) (fun _ kt => XS.aloadN X0.here hx rfl (hb hby d6_0) rfl rfl kt) ?_
 obtain ⟨_, _, ⟨T15, L15, k15, n15⟩, -, X15, ⟨Lc15, hQ15, l15, y15, z15⟩, st15⟩ := X0.specialBack hx (y := yN15) rfl hown (mvT hZ (own_k hw 38 rfl)) (mvT hZ (own_k hw 39 rfl)) (mvT hZ (own_k hw 43 rfl)) (by decide) (backOf (W := 0) (own_abl l Z a0 hw [] a h0 n0 Z0 pr3 pr4 pr5 pr6 pr7) hZ (own_k hw 43 rfl) (own_k hw 42 rfl) (by decide) (by decide)) (g := (mkF m 1 #[oR a] [(.ref a)])) rfl hml.symm (Steps.refl _) (a := a) (argsL := []) (rest := []) (lenOf own_pd1 rfl) rfl (own_w0 rfl rfl) (hb hby d6_1) (fun _ _ => ⟨rfl, e0, (by decide : 0 + 0 ≤ 0), (by decide : 0 + 0 ≤ 0)⟩)
 dsimp only [Pt.U, Pt.locs, Pt.cells, Pt.slots] at X15 l15 y15 z15 st15 hQ15
 subst l15 y15 z15
 obtain ⟨rfl, N15, K15_, P16, P17, P18, P19⟩ := hQ15
 have N20 := Fr.app N0 N15
 have Z21 := Nat.le_trans Z0 K15_.1
 have K21 := (Keep.trans K0 K15_ (allS (Or.inl (List.mem_of_getElem? (i := 0) rfl)) all0))
 refine own_tr st15 ?_
 refine own_st (g' := (mkF m 5 #[oR a] [(.ref a)])) (fun _ kt => XS.aloadN X15.here hx rfl (hb hby d6_4) rfl rfl kt) ?_
 have F22 := (Old.keep pr1 K15_ (allS pr4 all0))
 obtain ⟨T23, X23, e23, st23⟩ := getS2 X15 hx hZ hown (host := "") (Or.inl (own_k hw 53 rfl)) Via.refl rfl (Sta.ext F22.2 pr2) (g := (mkF m 5 #[oR a] [(.ref a)])) rfl (hb hby d6_5)
 refine own_st st23 ?_
 obtain ⟨T24, h24, X24, e24, W24, st24⟩ := putF X23 hx hZ hown (host := "") (Or.inl (own_k hw 54 rfl)) Via.refl e23 P18 P16 (Or.inl (own_k hw 55 rfl)) (own_k hw 33 rfl) (ty := (.array (.object zC3))) (by decide) rfl rfl (g := (mkF m 8 #[oR a] [(.ref de), (.ref a)])) rfl rfl (hb hby d6_8)
 have N24 := Fr.snoc X24 N20 pr4
 have Z25 := Nat.le_trans Z21 (Nat.le_of_eq (Wr.size W24).symm)
 have K25 := (Keep.wr K21 W24 (Or.inl (List.mem_of_getElem? (i := 0) rfl)))
 have F26 : Fld Z h24 a zC1 "elementData" zC7 (.ref de) := Fld.same W24 P18
 refine own_st st24 ?_
 obtain ⟨fs, hr, hrun, hended, hW, hsame⟩ := X24.leave (v := none) (fun _ => rfl)
 refine own_end (X24.returnOut hx Bd.returns (hb hby d6_11) hr) ⟨_, hrun, hended, _, _, rfl, ?_, ⟨_, rfl⟩, hW, hsame.mono (by decide) (by decide)⟩
 have F27 := (Exa.wr W24 P16)
 have F28 := (Fld.other W24 P17 (Or.inr (slot_ne (Or.inl (own_k hw 52 rfl)) (Or.inl (own_k hw 55 rfl)) (by decide) (t := .int) (t' := (.array (.object zC3))) (by decide) (by decide))))
 have F29 := (Fld.other W24 P19 (Or.inr (slot_ne (Or.inl (own_k hw 126 rfl)) (Or.inl (own_k hw 55 rfl)) (by decide) (t := .int) (t' := (.array (.object zC3))) (by decide) (by decide))))
 show own_aliQ Z _ _ h0 n0 _ T24.heap _
 rw [e24]
 exact ⟨rfl, N24, K25, F27, F28, F26, F29⟩
abbrev c13 := jdk_2729_method_1_code
theorem d13_0 : dk c13 0 (.aload_n 0) 1 := by decide +kernel
theorem d13_1 : dk c13 1 (.invokespecial 1) 3 := by decide +kernel
theorem d13_4 : dk c13 4 (.aload_n 0) 1 := by decide +kernel
theorem d13_5 : dk c13 5 (.iconst 0) 1 := by decide +kernel
theorem d13_6 : dk c13 6 (.putfield 7) 3 := by decide +kernel
theorem d13_9 : dk c13 9 (.aload_n 0) 1 := by decide +kernel
theorem d13_10 : dk c13 10 (.iconst 0) 1 := by decide +kernel
theorem d13_11 : dk c13 11 (.putfield 13) 3 := by decide +kernel
theorem d13_14 : dk c13 14 (.aload_n 0) 1 := by decide +kernel
theorem d13_15 : dk c13 15 (.aconst_null) 1 := by decide +kernel
theorem d13_16 : dk c13 16 (.putfield 16) 3 := by decide +kernel
theorem d13_19 : dk c13 19 (.return_) 1 := by decide +kernel
def own_tmQ (Z : State) (a : Addr) (h0 : Heap) (n0 : Nat) (v : Option Value) (h : Heap) (L : List Loc) : Prop := v = none ∧ Fr n0 L ∧ Keep h0 h [a] ∧ (Exa Z h a zC21)
theorem own_pn8 : plainName "java/util/TreeMap" = true := by first | (simp [plainName, overriddenIn]; done) | decide +kernel
abbrev own_tmR : Room := { frames := 2, cells := 0, slots := 0, locals := 24 }
theorem own_tm (l : Launch) (Z : State) (a0 : Array Value) (hw : ∀ d ∈ tables_1, d.before a0 Z = true) (ws : List Jvm.Cond) (a : Addr) (h0 : Heap) (n0 : Nat) (Z0 : n0 ≤ h0.size) (pr1 : Exa Z h0 a zC21) (pr2 : n0 ≤ a) (pr3 : Fld Z h0 a zC21 "size" "I" (.int 0)) (pr4 : Fld Z h0 a zC21 "modCount" "I" (.int 0)) (pr5 : Fld Z h0 a zC21 "comparator" zC33 .null) :
    own_M l yN32 jdk_2729_method_1_code 1 none ws own_tmR #[(.ref a)] Z h0 (own_tmQ Z a h0 n0) := by
 refine own_go (plainFor_of_name own_pn8) (fun m => own_ef1 m a ) ?_
 intro p e s m below meth c s₁ Bd hx hby hml hZ hh hown hnm X0 e0
 have N0 := Fr.nil n0
 have K0 : Keep h0 h0 [a] := Keep.refl h0 _
 refine own_st (g' := (mkF m 1 #[oR a] [(.ref a)])) (fun _ kt => XS.aloadN X0.here hx rfl (hb hby d13_0) rfl rfl kt) ?_
 obtain ⟨_, _, ⟨T30, L30, k30, n30⟩, -, X30, ⟨Lc30, hQ30, l30, y30, z30⟩, st30⟩ := X0.specialBack hx (y := yN14) rfl hown (mvT hZ (own_k hw 101 rfl)) (mvT hZ (own_k hw 102 rfl)) (mvT hZ (own_k hw 106 rfl)) (by decide) (backOf (W := 0) (own_am l Z a0 hw [] a h0 n0 Z0 ) hZ (own_k hw 106 rfl) (own_k hw 105 rfl) (by decide) (by decide)) (g := (mkF m 1 #[oR a] [(.ref a)])) rfl hml.symm (Steps.refl _) (a := a) (argsL := []) (rest := []) (lenOf own_pd1 rfl) rfl (own_w0 rfl rfl) (hb hby d13_1) (fun _ _ => ⟨rfl, e0, (by decide : 0 + 0 ≤ 0), (by decide : 0 + 0 ≤ 0)⟩)
 dsimp only [Pt.U, Pt.locs, Pt.cells, Pt.slots] at X30 l30 y30 z30 st30 hQ30
 subst l30 y30 z30
 obtain ⟨rfl, N30, e30⟩ := hQ30
 have N31 := Fr.app N0 N30
 refine own_tr st30 ?_
 refine own_st (g' := (mkF m 6 #[oR a] [(.int 0), (.ref a)])) (fun _ kt => XS.aloadN X30.here hx rfl (hb hby d13_4) rfl rfl (XS.iconst X30.here hx rfl (hb hby d13_5) kt)) ?_
 obtain ⟨T32, h32, X32, e32, W32, st32⟩ := putF X30 hx hZ hown (host := "") (Or.inl (own_k hw 108 rfl)) Via.refl e30 pr3 pr1 (Or.inl (own_k hw 109 rfl)) (own_k hw 96 rfl) (ty := .int) (by decide) rfl rfl (g := (mkF m 6 #[oR a] [(.int 0), (.ref a)])) rfl rfl (hb hby d13_6)
 have N32 := Fr.snoc X32 N31 pr2
 have Z33 := Nat.le_trans Z0 (Nat.le_of_eq (Wr.size W32).symm)
 have K33 := (Keep.wr K0 W32 (Or.inl (List.mem_of_getElem? (i := 0) rfl)))
 have F34 : Fld Z h32 a zC21 "size" "I" (.int 0) := Fld.same W32 pr3
 refine own_st st32 ?_
 refine own_st (g' := (mkF m 11 #[oR a] [(.int 0), (.ref a)])) (fun _ kt => XS.aloadN X32.here hx rfl (hb hby d13_9) rfl rfl (XS.iconst X32.here hx rfl (hb hby d13_10) kt)) ?_
 have F35 := (Fld.other W32 pr4 (Or.inr (slot_ne (Or.inl (own_k hw 111 rfl)) (Or.inl (own_k hw 109 rfl)) (by decide) (t := .int) (t' := .int) (by decide) (by decide))))
 have F36 := (Exa.wr W32 pr1)
 obtain ⟨T37, h37, X37, e37, W37, st37⟩ := putF X32 hx hZ hown (host := "") (Or.inl (own_k hw 110 rfl)) Via.refl e32 F35 F36 (Or.inl (own_k hw 111 rfl)) (own_k hw 96 rfl) (ty := .int) (by decide) rfl rfl (g := (mkF m 11 #[oR a] [(.int 0), (.ref a)])) rfl rfl (hb hby d13_11)
 have N37 := Fr.snoc X37 N32 pr2
 have Z38 := Nat.le_trans Z33 (Nat.le_of_eq (Wr.size W37).symm)
 have K38 := (Keep.wr K33 W37 (Or.inl (List.mem_of_getElem? (i := 0) rfl)))
 have F39 : Fld Z h37 a zC21 "modCount" "I" (.int 0) := Fld.same W37 F35
 refine own_st st37 ?_
 refine own_st (g' := (mkF m 16 #[oR a] [.null, (.ref a)])) (fun _ kt => XS.aloadN X37.here hx rfl (hb hby d13_14) rfl rfl (XS.aconstNull X37.here hx rfl (hb hby d13_15) kt)) ?_
 have F40 := (Fld.other W37 (Fld.other W32 pr5 (Or.inr (slot_ne (Or.inr (own_k hw 113 rfl)) (Or.inl (own_k hw 109 rfl)) (by decide) (t := (.object zC29)) (t' := .int) (by decide) (by decide)))) (Or.inr (slot_ne (Or.inr (own_k hw 113 rfl)) (Or.inl (own_k hw 111 rfl)) (by decide) (t := (.object zC29)) (t' := .int) (by decide) (by decide))))
 have F41 := (Exa.wr W37 F36)
 obtain ⟨T42, h42, X42, e42, W42, st42⟩ := putF X37 hx hZ hown (host := "") (Or.inl (own_k hw 112 rfl)) Via.refl e37 F40 F41 (Or.inr ⟨(own_k hw 113 rfl), rfl, hnm⟩) (own_k hw 96 rfl) (ty := (.object zC29)) (by decide) rfl rfl (g := (mkF m 16 #[oR a] [.null, (.ref a)])) rfl rfl (hb hby d13_16)
 have N42 := Fr.snoc X42 N37 pr2
 have Z43 := Nat.le_trans Z38 (Nat.le_of_eq (Wr.size W42).symm)
 have K43 := (Keep.wr K38 W42 (Or.inl (List.mem_of_getElem? (i := 0) rfl)))
 have F44 : Fld Z h42 a zC21 "comparator" zC33 .null := Fld.same W42 F40
 refine own_st st42 ?_
 obtain ⟨fs, hr, hrun, hended, hW, hsame⟩ := X42.leave (v := none) (fun _ => rfl)
 refine own_end (X42.returnOut hx Bd.returns (hb hby d13_19) hr) ⟨_, hrun, hended, _, _, rfl, ?_, ⟨_, rfl⟩, hW, hsame.mono (by decide) (by decide)⟩
 have F45 := (Exa.wr W42 F41)
 show own_tmQ Z _ h0 n0 _ T42.heap _
 rw [e42]
 exact ⟨rfl, N42, K43, F45⟩
abbrev c23 := jdk_69_method_7_code
theorem d23_0 : dk c23 0 (.aload_n 0) 1 := by decide +kernel
theorem d23_1 : dk c23 1 (.invokespecial 43) 3 := by decide +kernel
theorem d23_4 : dk c23 4 (.aload_n 0) 1 := by decide +kernel
theorem d23_5 : dk c23 5 (.ldc 92) 2 := by decide +kernel
theorem d23_7 : dk c23 7 (.putfield 81) 3 := by decide +kernel
theorem d23_10 : dk c23 10 (.return_) 1 := by decide +kernel
def own_hmQ (Z : State) (a : Addr) (h0 : Heap) (n0 : Nat) (v : Option Value) (h : Heap) (L : List Loc) : Prop := v = none ∧ Fr n0 L ∧ Keep h0 h [a] ∧ (Exa Z h a zC25)
theorem own_pn9 : plainName "java/util/HashMap" = true := by first | (simp [plainName, overriddenIn]; done) | decide +kernel
abbrev own_hmR : Room := { frames := 2, cells := 0, slots := 0, locals := 24 }
theorem own_hm (l : Launch) (Z : State) (a0 : Array Value) (hw : ∀ d ∈ tables_1, d.before a0 Z = true) (ws : List Jvm.Cond) (a : Addr) (h0 : Heap) (n0 : Nat) (Z0 : n0 ≤ h0.size) (pr1 : Exa Z h0 a zC25) (pr2 : n0 ≤ a) (pr3 : Fld Z h0 a zC25 "loadFactor" "F" (.float (0 : UInt32))) :
    own_M l yN33 jdk_69_method_7_code 1 none ws own_hmR #[(.ref a)] Z h0 (own_hmQ Z a h0 n0) := by
 refine own_go (plainFor_of_name own_pn9) (fun m => own_ef1 m a ) ?_
 intro p e s m below meth c s₁ Bd hx hby hml hZ hh hown hnm X0 e0
 have N0 := Fr.nil n0
 have K0 : Keep h0 h0 [a] := Keep.refl h0 _
 refine own_st (g' := (mkF m 1 #[oR a] [(.ref a)])) (fun _ kt => XS.aloadN X0.here hx rfl (hb hby d23_0) rfl rfl kt) ?_
 obtain ⟨_, _, ⟨T46, L46, k46, n46⟩, -, X46, ⟨Lc46, hQ46, l46, y46, z46⟩, st46⟩ := X0.specialBack hx (y := yN14) rfl hown (mvT hZ (own_k hw 212 rfl)) (mvT hZ (own_k hw 102 rfl)) (mvT hZ (own_k hw 106 rfl)) (by decide) (backOf (W := 0) (own_am l Z a0 hw [] a h0 n0 Z0 ) hZ (own_k hw 106 rfl) (own_k hw 105 rfl) (by decide) (by decide)) (g := (mkF m 1 #[oR a] [(.ref a)])) rfl hml.symm (Steps.refl _) (a := a) (argsL := []) (rest := []) (lenOf own_pd1 rfl) rfl (own_w0 rfl rfl) (hb hby d23_1) (fun _ _ => ⟨rfl, e0, (by decide : 0 + 0 ≤ 0), (by decide : 0 + 0 ≤ 0)⟩)
 dsimp only [Pt.U, Pt.locs, Pt.cells, Pt.slots] at X46 l46 y46 z46 st46 hQ46
 subst l46 y46 z46
 obtain ⟨rfl, N46, e46⟩ := hQ46
 have N47 := Fr.app N0 N46
 refine own_tr st46 ?_
 refine own_st (g' := (mkF m 5 #[oR a] [(.ref a)])) (fun _ kt => XS.aloadN X46.here hx rfl (hb hby d23_4) rfl rfl kt) ?_
 refine own_st (g' := (mkF m 7 #[oR a] [(.float (1061158912 : UInt32)), (.ref a)])) (Stand.ldcFloatC X46 hx hown (mvT hZ (own_k hw 214 rfl)) (g := (mkF m 5 #[oR a] [(.ref a)])) rfl (hb hby d23_5)) ?_
 obtain ⟨T48, h48, X48, e48, W48, st48⟩ := putF X46 hx hZ hown (host := "") (Or.inl (own_k hw 215 rfl)) Via.refl e46 pr3 pr1 (Or.inr ⟨(own_k hw 216 rfl), rfl, hnm⟩) (own_k hw 206 rfl) (ty := .float) (by decide) rfl rfl (g := (mkF m 7 #[oR a] [(.float (1061158912 : UInt32)), (.ref a)])) rfl rfl (hb hby d23_7)
 have N48 := Fr.snoc X48 N47 pr2
 have Z49 := Nat.le_trans Z0 (Nat.le_of_eq (Wr.size W48).symm)
 have K49 := (Keep.wr K0 W48 (Or.inl (List.mem_of_getElem? (i := 0) rfl)))
 have F50 : Fld Z h48 a zC25 "loadFactor" "F" (.float (1061158912 : UInt32)) := Fld.same W48 pr3
 refine own_st st48 ?_
 obtain ⟨fs, hr, hrun, hended, hW, hsame⟩ := X48.leave (v := none) (fun _ => rfl)
 refine own_end (X48.returnOut hx Bd.returns (hb hby d23_10) hr) ⟨_, hrun, hended, _, _, rfl, ?_, ⟨_, rfl⟩, hW, hsame.mono (by decide) (by decide)⟩
 have F51 := (Exa.wr W48 pr1)
 show own_hmQ Z _ h0 n0 _ T48.heap _
 rw [e48]
 exact ⟨rfl, N48, K49, F51⟩
abbrev c21 := jdk_93_method_1_code
theorem d21_0 : dk c21 0 (.aload_n 0) 1 := by decide +kernel
theorem d21_1 : dk c21 1 (.invokespecial 1) 3 := by decide +kernel
theorem d21_4 : dk c21 4 (.aload_n 0) 1 := by decide +kernel
theorem d21_5 : dk c21 5 (.new 7) 3 := by decide +kernel
theorem d21_8 : dk c21 8 (.dup) 1 := by decide +kernel
theorem d21_9 : dk c21 9 (.invokespecial 9) 3 := by decide +kernel
theorem d21_12 : dk c21 12 (.putfield 10) 3 := by decide +kernel
theorem d21_15 : dk c21 15 (.return_) 1 := by decide +kernel
def own_hsQ (Z : State) (a : Addr) (h0 : Heap) (n0 : Nat) (v : Option Value) (h : Heap) (L : List Loc) : Prop := v = none ∧ Fr n0 L ∧ Keep h0 h [a] ∧ (Exa Z h a zC28)
theorem own_pn10 : plainName "java/util/HashSet" = true := by first | (simp [plainName, overriddenIn]; done) | decide +kernel
abbrev own_hsR : Room := { frames := 3, cells := 1, slots := 8, locals := 38 }
theorem own_hs (l : Launch) (Z : State) (a0 : Array Value) (hw : ∀ d ∈ tables_1, d.before a0 Z = true) (ws : List Jvm.Cond) (a : Addr) (h0 : Heap) (n0 : Nat) (Z0 : n0 ≤ h0.size) (pr1 : Exa Z h0 a zC28) (pr2 : n0 ≤ a) (pr3 : Fld Z h0 a zC28 "map" zC34 .null) :
    own_M l yN34 jdk_93_method_1_code 1 none ws own_hsR #[(.ref a)] Z h0 (own_hsQ Z a h0 n0) := by
 refine own_go (plainFor_of_name own_pn10) (fun m => own_ef1 m a ) ?_
 intro p e s m below meth c s₁ Bd hx hby hml hZ hh hown hnm X0 e0
 have N0 := Fr.nil n0
 have K0 : Keep h0 h0 [a] := Keep.refl h0 _
 refine own_st (g' := (mkF m 1 #[oR a] [(.ref a)])) (fun _ kt => XS.aloadN X0.here hx rfl (hb hby d21_0) rfl rfl kt) ?_
 obtain ⟨_, _, ⟨T52, L52, k52, n52⟩, -, X52, ⟨Lc52, hQ52, l52, y52, z52⟩, st52⟩ := X0.specialBack hx (y := yN29) rfl hown (mvT hZ (own_k hw 197 rfl)) (mvT hZ (own_k hw 198 rfl)) (mvT hZ (own_k hw 202 rfl)) (by decide) (backOf (W := 0) (own_as l Z a0 hw [] a h0 n0 Z0 ) hZ (own_k hw 202 rfl) (own_k hw 201 rfl) (by decide) (by decide)) (g := (mkF m 1 #[oR a] [(.ref a)])) rfl hml.symm (Steps.refl _) (a := a) (argsL := []) (rest := []) (lenOf own_pd1 rfl) rfl (own_w0 rfl rfl) (hb hby d21_1) (fun _ _ => ⟨rfl, e0, (by decide : 0 + 0 ≤ 1), (by decide : 0 + 0 ≤ 8)⟩)
 dsimp only [Pt.U, Pt.locs, Pt.cells, Pt.slots] at X52 l52 y52 z52 st52 hQ52
 subst l52 y52 z52
 obtain ⟨rfl, N52, e52⟩ := hQ52
 have N53 := Fr.app N0 N52
 refine own_tr st52 ?_
 refine own_st (g' := (mkF m 5 #[oR a] [(.ref a)])) (fun _ kt => XS.aloadN X52.here hx rfl (hb hby d21_4) rfl rfl kt) ?_
 obtain ⟨T54, h54, X54, e54, E54, A54, D54, -, st54⟩ := newO X52 hx hZ hown (own_k hw 205 rfl) (own_k hw 206 rfl) (own_k hw 207 rfl) e52 (g := (mkF m 5 #[oR a] [(.ref a)])) rfl (hb hby d21_5) (by decide) (by decide)
 obtain ⟨b54, g54⟩ : ∃ z, z = h0.size := ⟨_, rfl⟩
 rw [← g54] at A54 D54 st54
 have Z55 := Nat.le_trans Z0 E54.1
 have K55 := (Keep.ext K0 E54)
 have ge_b54 : n0 ≤ b54 := Nat.le_trans Z0 (Nat.le_of_eq g54.symm)
 have F56 : Fld Z h54 b54 zC25 "loadFactor" "F" (.float (0 : UInt32)) := D54 (Or.inr (own_k hw 216 rfl)) (ty := .float) (by decide)
 refine own_st st54 ?_
 refine own_st (g' := (mkF m 9 #[oR a] [(.ref b54), (.ref b54), (.ref a)])) (fun _ kt => XS.dup X54.here hx rfl (hb hby d21_8) rfl rfl kt) ?_
 obtain ⟨_, _, ⟨T57, L57, k57, n57⟩, -, X57, ⟨Lc57, hQ57, l57, y57, z57⟩, st57⟩ := X54.specialBack hx (y := yN33) rfl hown (mvT hZ (own_k hw 208 rfl)) (mvT hZ (own_k hw 209 rfl)) (mvT hZ (own_k hw 211 rfl)) (by decide) (backOf (W := 2) (own_hm l Z a0 hw [] b54 h54 n0 Z55 A54 ge_b54 F56) hZ (own_k hw 211 rfl) (own_k hw 207 rfl) (by decide) (by decide)) (g := (mkF m 9 #[oR a] [(.ref b54), (.ref b54), (.ref a)])) rfl hml.symm (Steps.refl _) (a := b54) (argsL := []) (rest := [(.ref b54), (.ref a)]) (lenOf own_pd1 rfl) rfl (own_w0 rfl rfl) (hb hby d21_9) (fun _ _ => ⟨rfl, e54, (by decide : 1 + 0 ≤ 1), (by decide : 8 + 0 ≤ 8)⟩)
 dsimp only [Pt.U, Pt.locs, Pt.cells, Pt.slots] at X57 l57 y57 z57 st57 hQ57
 subst l57 y57 z57
 obtain ⟨rfl, N57, K57_, P58⟩ := hQ57
 have N59 := Fr.app N53 N57
 have Z60 := Nat.le_trans Z55 K57_.1
 have K60 := (Keep.trans K55 K57_ (allS (Or.inr (Nat.le_trans K0.1 (Nat.le_of_eq g54.symm))) all0))
 refine own_tr st57 ?_
 have ne61 : a ≠ b54 := (Nat.ne_of_lt (Nat.lt_of_lt_of_le pr1.lt (Nat.le_of_eq g54.symm)))
 have F62 := (Fld.keep (Fld.ext E54 pr3) K57_ (ninS ne61 nin0))
 have F63 := (Exa.keep pr1 K60)
 obtain ⟨T64, h64, X64, e64, W64, st64⟩ := putF X57 hx hZ hown (host := "") (Or.inl (own_k hw 217 rfl)) Via.refl rfl F62 F63 (Or.inl (own_k hw 218 rfl)) (own_k hw 192 rfl) (ty := (.object zC25)) (by decide) rfl rfl (g := (mkF m 12 #[oR a] [(.ref b54), (.ref a)])) rfl rfl (hb hby d21_12)
 have N64 := Fr.snoc X64 N59 pr2
 have Z65 := Nat.le_trans Z60 (Nat.le_of_eq (Wr.size W64).symm)
 have K65 := (Keep.wr K60 W64 (Or.inl (List.mem_of_getElem? (i := 0) rfl)))
 have F66 : Fld Z h64 a zC28 "map" zC34 (.ref b54) := Fld.same W64 F62
 refine own_st st64 ?_
 obtain ⟨fs, hr, hrun, hended, hW, hsame⟩ := X64.leave (v := none) (fun _ => rfl)
 refine own_end (X64.returnOut hx Bd.returns (hb hby d21_15) hr) ⟨_, hrun, hended, _, _, rfl, ?_, ⟨_, rfl⟩, hW, hsame.mono (by decide) (by decide)⟩
 have F67 := (Exa.wr W64 F63)
 show own_hsQ Z _ h0 n0 _ T64.heap _
 rw [e64]
 exact ⟨rfl, N64, K65, F67⟩
abbrev c44 := jdk_35_method_26_code
theorem d44_0 : dk c44 0 (.aload_n 0) 1 := by decide +kernel
theorem d44_1 : dk c44 1 (.invokespecial 270) 3 := by decide +kernel
theorem d44_4 : dk c44 4 (.aload_n 0) 1 := by decide +kernel
theorem d44_5 : dk c44 5 (.lload_n 1) 1 := by decide +kernel
theorem d44_6 : dk c44 6 (.putfield 273) 3 := by decide +kernel
theorem d44_9 : dk c44 9 (.return_) 1 := by decide +kernel
theorem own_ef2 (m : MethodId) (x0 : Addr) (x1 : Int64) : entryFrame m #[(.ref x0), (.long x1)] 3 = mkF m 0 #[.val (.ref x0), .val (.long x1), .second] [] := by first | (simp [entryFrame, mkF, argsToLocals, Value.category]; done) | rfl
def own_liQ (Z : State) (a : Addr) (u : Int64) (h0 : Heap) (n0 : Nat) (v : Option Value) (h : Heap) (L : List Loc) : Prop := v = none ∧ Fr n0 L ∧ Keep h0 h [a] ∧ (Exa Z h a zC12)
theorem own_pn11 : plainName "java/lang/Long" = true := by first | (simp [plainName, overriddenIn]; done) | decide +kernel
abbrev own_liR : Room := { frames := 2, cells := 0, slots := 0, locals := 24 }
theorem own_li (l : Launch) (Z : State) (a0 : Array Value) (hw : ∀ d ∈ tables_1, d.before a0 Z = true) (ws : List Jvm.Cond) (a : Addr) (u : Int64) (h0 : Heap) (n0 : Nat) (Z0 : n0 ≤ h0.size) (pr1 : Exa Z h0 a zC12) (pr2 : n0 ≤ a) (pr3 : Fld Z h0 a zC12 "value" "J" (.long (0 : Int64))) :
    own_M l yN35 jdk_35_method_26_code 3 none ws own_liR #[(.ref a), (.long u)] Z h0 (own_liQ Z a u h0 n0) := by
 refine own_go (plainFor_of_name own_pn11) (fun m => own_ef2 m a u ) ?_
 intro p e s m below meth c s₁ Bd hx hby hml hZ hh hown hnm X0 e0
 have N0 := Fr.nil n0
 have K0 : Keep h0 h0 [a] := Keep.refl h0 _
 refine own_st (g' := (mkF m 1 #[oR a, .val (.long u), .second] [(.ref a)])) (fun _ kt => XS.aloadN X0.here hx rfl (hb hby d44_0) rfl rfl kt) ?_
 obtain ⟨_, _, ⟨T68, L68, k68, n68⟩, -, X68, ⟨Lc68, hQ68, l68, y68, z68⟩, st68⟩ := X0.specialBack hx (y := yN30) rfl hown (mvT hZ (own_k hw 377 rfl)) (mvT hZ (own_k hw 378 rfl)) (mvT hZ (own_k hw 382 rfl)) (by decide) (backOf (W := 0) (own_nu l Z a0 hw [] a h0 n0 Z0 ) hZ (own_k hw 382 rfl) (own_k hw 381 rfl) (by decide) (by decide)) (g := (mkF m 1 #[oR a, .val (.long u), .second] [(.ref a)])) rfl hml.symm (Steps.refl _) (a := a) (argsL := []) (rest := []) (lenOf own_pd1 rfl) rfl (own_w0 rfl rfl) (hb hby d44_1) (fun _ _ => ⟨rfl, e0, (by decide : 0 + 0 ≤ 0), (by decide : 0 + 0 ≤ 0)⟩)
 dsimp only [Pt.U, Pt.locs, Pt.cells, Pt.slots] at X68 l68 y68 z68 st68 hQ68
 subst l68 y68 z68
 obtain ⟨rfl, N68, e68⟩ := hQ68
 have N69 := Fr.app N0 N68
 refine own_tr st68 ?_
 refine own_st (g' := (mkF m 6 #[oR a, .val (.long u), .second] [(.long u), (.ref a)])) (fun _ kt => XS.aloadN X68.here hx rfl (hb hby d44_4) rfl rfl (XT.lloadN X68.here hx rfl (hb hby d44_5) rfl kt)) ?_
 obtain ⟨T70, h70, X70, e70, W70, st70⟩ := putF X68 hx hZ hown (host := "") (Or.inl (own_k hw 384 rfl)) Via.refl e68 pr3 pr1 (Or.inr ⟨(own_k hw 385 rfl), rfl, hnm⟩) (own_k hw 372 rfl) (ty := .long) (by decide) rfl rfl (g := (mkF m 6 #[oR a, .val (.long u), .second] [(.long u), (.ref a)])) rfl rfl (hb hby d44_6)
 have N70 := Fr.snoc X70 N69 pr2
 have Z71 := Nat.le_trans Z0 (Nat.le_of_eq (Wr.size W70).symm)
 have K71 := (Keep.wr K0 W70 (Or.inl (List.mem_of_getElem? (i := 0) rfl)))
 have F72 : Fld Z h70 a zC12 "value" "J" (.long u) := Fld.same W70 pr3
 refine own_st st70 ?_
 obtain ⟨fs, hr, hrun, hended, hW, hsame⟩ := X70.leave (v := none) (fun _ => rfl)
 refine own_end (X70.returnOut hx Bd.returns (hb hby d44_9) hr) ⟨_, hrun, hended, _, _, rfl, ?_, ⟨_, rfl⟩, hW, hsame.mono (by decide) (by decide)⟩
 have F73 := (Exa.wr W70 pr1)
 show own_liQ Z _ _ h0 n0 _ T70.heap _
 rw [e70]
 exact ⟨rfl, N70, K71, F73⟩
abbrev c43 := jdk_35_method_24_code
theorem d43_0 : dk c43 0 (.sipush 128) 3 := by decide +kernel
theorem d43_3 : dk c43 3 (.istore_n 2) 1 := by decide +kernel
theorem d43_4 : dk c43 4 (.lload_n 0) 1 := by decide +kernel
theorem d43_5 : dk c43 5 (.ldc2_w 230) 3 := by decide +kernel
theorem d43_8 : dk c43 8 (.lcmp) 1 := by decide +kernel
theorem d43_9 : dk c43 9 (.ifCond .lt 22) 3 := by decide +kernel
theorem d43_31 : dk c43 31 (.new 1) 3 := by decide +kernel
theorem d43_34 : dk c43 34 (.dup) 1 := by decide +kernel
theorem d43_35 : dk c43 35 (.lload_n 0) 1 := by decide +kernel
theorem d43_36 : dk c43 36 (.invokespecial 240) 3 := by decide +kernel
theorem own_pd2 : parseMethodDescriptor "(J)V" = some ⟨[.long], none⟩ := by decide +kernel
theorem d43_39 : dk c43 39 (.areturn) 1 := by decide +kernel
theorem own_ef3 (m : MethodId) (x0 : Int64) : entryFrame m #[(.long x0)] 3 = mkF m 0 #[.val (.long x0), .second, .unset] [] := by first | (simp [entryFrame, mkF, argsToLocals, Value.category]; done) | rfl
def own_lvoQ (Z : State)  (h0 : Heap) (n0 : Nat) (v : Option Value) (h : Heap) (L : List Loc) : Prop := ∃ (b : Addr), v = some (.ref b) ∧ Fr n0 L ∧ Keep h0 h [] ∧ (Exa Z h b zC12) ∧ (h0.size ≤ b)
abbrev own_lvoR : Room := { frames := 3, cells := 1, slots := 1, locals := 39 }
theorem own_lvo (l : Launch) (Z : State) (a0 : Array Value) (hw : ∀ d ∈ tables_1, d.before a0 Z = true) (ws : List Jvm.Cond)  (h0 : Heap) (n0 : Nat) (Z0 : n0 ≤ h0.size)  :
    own_M l yN36 jdk_35_method_24_code 3 (some (.object zC12)) ws own_lvoR #[(.long (-9223372036854775808 : Int64))] Z h0 (own_lvoQ Z  h0 n0) := by
 refine own_go (plainFor_of_name own_pn11) (fun m => own_ef3 m (-9223372036854775808 : Int64) ) ?_
 intro p e s m below meth c s₁ Bd hx hby hml hZ hh hown hnm X0 e0
 have N0 := Fr.nil n0
 have K0 : Keep h0 h0 [] := Keep.refl h0 _
 refine own_st (g' := (mkF m 5 #[.val (.long (-9223372036854775808 : Int64)), .second, oI 128] [(.long (-9223372036854775808 : Int64))])) (fun _ kt => XS.sipush X0.here hx rfl (hb hby d43_0) (XS.istoreN X0.here hx rfl (hb hby d43_3) rfl (l' := #[.val (.long (-9223372036854775808 : Int64)), .second, oI 128]) rfl (XT.lloadN X0.here hx rfl (hb hby d43_4) rfl kt))) ?_
 refine own_st (g' := (mkF m 8 #[.val (.long (-9223372036854775808 : Int64)), .second, oI 128] [(.long (-128 : Int64)), (.long (-9223372036854775808 : Int64))])) (Stand.ldc2Long X0 hx hown (mvT hZ (own_k hw 370 rfl)) (g := (mkF m 5 #[.val (.long (-9223372036854775808 : Int64)), .second, oI 128] [(.long (-9223372036854775808 : Int64))])) rfl (hb hby d43_5)) ?_
 refine own_st (g' := (mkF m 31 #[.val (.long (-9223372036854775808 : Int64)), .second, oI 128] [])) (fun _ kt => XT.lcmp X0.here hx rfl (hb hby d43_8) rfl (XS.ifYes X0.here hx rfl (pc0 := 9) (pc' := 31) rfl (hb hby d43_9) rfl (XT.ll_lt_t (by decide)) (by decide) (by decide) kt)) ?_
 obtain ⟨T74, h74, X74, e74, E74, A74, D74, -, st74⟩ := newO X0 hx hZ hown (own_k hw 371 rfl) (own_k hw 372 rfl) (own_k hw 368 rfl) e0 (g := (mkF m 31 #[.val (.long (-9223372036854775808 : Int64)), .second, oI 128] [])) rfl (hb hby d43_31) (by decide) (by decide)
 obtain ⟨b74, g74⟩ : ∃ z, z = h0.size := ⟨_, rfl⟩
 rw [← g74] at A74 D74 st74
 have Z75 := Nat.le_trans Z0 E74.1
 have K75 := (Keep.ext K0 E74)
 have ge_b74 : n0 ≤ b74 := Nat.le_trans Z0 (Nat.le_of_eq g74.symm)
 have F76 : Fld Z h74 b74 zC12 "value" "J" (.long (0 : Int64)) := D74 (Or.inr (own_k hw 385 rfl)) (ty := .long) (by decide)
 refine own_st st74 ?_
 refine own_st (g' := (mkF m 36 #[.val (.long (-9223372036854775808 : Int64)), .second, oI 128] [(.long (-9223372036854775808 : Int64)), (.ref b74), (.ref b74)])) (fun _ kt => XS.dup X74.here hx rfl (hb hby d43_34) rfl rfl (XT.lloadN X74.here hx rfl (hb hby d43_35) rfl kt)) ?_
 obtain ⟨_, _, ⟨T77, L77, k77, n77⟩, -, X77, ⟨Lc77, hQ77, l77, y77, z77⟩, st77⟩ := X74.specialBack hx (y := yN35) rfl hown (mvT hZ (own_k hw 373 rfl)) (mvT hZ (own_k hw 374 rfl)) (mvT hZ (own_k hw 376 rfl)) (by decide) (backOf (W := 1) (own_li l Z a0 hw [] b74 (-9223372036854775808 : Int64) h74 n0 Z75 A74 ge_b74 F76) hZ (own_k hw 376 rfl) (own_k hw 368 rfl) (by decide) (by decide)) (g := (mkF m 36 #[.val (.long (-9223372036854775808 : Int64)), .second, oI 128] [(.long (-9223372036854775808 : Int64)), (.ref b74), (.ref b74)])) rfl hml.symm (Steps.refl _) (a := b74) (argsL := [(.long (-9223372036854775808 : Int64))]) (rest := [(.ref b74)]) (lenOf own_pd2 rfl) rfl (own_w0 rfl rfl) (hb hby d43_36) (fun _ _ => ⟨rfl, e74, (by decide : 1 + 0 ≤ 1), (by decide : 1 + 0 ≤ 1)⟩)
 dsimp only [Pt.U, Pt.locs, Pt.cells, Pt.slots] at X77 l77 y77 z77 st77 hQ77
 subst l77 y77 z77
 obtain ⟨rfl, N77, K77_, P78⟩ := hQ77
 have N79 := Fr.app N0 N77
 have Z80 := Nat.le_trans Z75 K77_.1
 have K80 := (Keep.trans K75 K77_ (allS (Or.inr (Nat.le_trans K0.1 (Nat.le_of_eq g74.symm))) all0))
 refine own_tr st77 ?_
 obtain ⟨fs, hr, hrun, hended, hW, hsame⟩ := X77.leave (v := some (.ref b74)) (fun h => by rw [Bd.returns] at h; cases h)
 refine own_end (own_retA X77 hx Bd.returns rfl rfl rfl (hb hby d43_39) hr) ⟨_, hrun, hended, _, _, rfl, ?_, ⟨_, rfl⟩, hW, hsame.mono (by decide) (by decide)⟩
 show own_lvoQ Z  h0 n0 _ T77.heap _
 show own_lvoQ Z  h0 n0 _ T77.heap _
 exact ⟨b74, rfl, N79, K80, P78, (Nat.le_trans K0.1 (Nat.le_of_eq g74.symm))⟩
abbrev c46 := prog_80_method_1_code
theorem d46_0 : dk c46 0 (.aload_n 0) 1 := by decide +kernel
theorem d46_1 : dk c46 1 (.invokespecial 1) 3 := by decide +kernel
theorem d46_4 : dk c46 4 (.aload_n 0) 1 := by decide +kernel
theorem d46_5 : dk c46 5 (.iload_n 1) 1 := by decide +kernel
theorem d46_6 : dk c46 6 (.putfield 7) 3 := by decide +kernel
theorem d46_9 : dk c46 9 (.aload_n 0) 1 := by decide +kernel
theorem d46_10 : dk c46 10 (.iload_n 2) 1 := by decide +kernel
theorem d46_11 : dk c46 11 (.putfield 13) 3 := by decide +kernel
theorem d46_14 : dk c46 14 (.aload_n 0) 1 := by decide +kernel
theorem d46_15 : dk c46 15 (.lload_n 3) 1 := by decide +kernel
theorem d46_16 : dk c46 16 (.putfield 17) 3 := by decide +kernel
theorem d46_19 : dk c46 19 (.aload_n 0) 1 := by decide +kernel
theorem d46_20 : dk c46 20 (.iload 5) 2 := by decide +kernel
theorem d46_22 : dk c46 22 (.putfield 21) 3 := by decide +kernel
theorem d46_25 : dk c46 25 (.aload_n 0) 1 := by decide +kernel
theorem d46_26 : dk c46 26 (.iload 6) 2 := by decide +kernel
theorem d46_28 : dk c46 28 (.putfield 24) 3 := by decide +kernel
theorem d46_31 : dk c46 31 (.aload_n 0) 1 := by decide +kernel
theorem d46_32 : dk c46 32 (.lload 7) 2 := by decide +kernel
theorem d46_34 : dk c46 34 (.putfield 27) 3 := by decide +kernel
theorem d46_37 : dk c46 37 (.return_) 1 := by decide +kernel
theorem own_ef4 (m : MethodId) (x0 : Addr) (x1 : Int32) (x2 : Int32) (x3 : Int64) (x4 : Int32) (x5 : Int32) (x6 : Int64) : entryFrame m #[(.ref x0), (.int x1), (.int x2), (.long x3), (.int x4), (.int x5), (.long x6)] 9 = mkF m 0 #[.val (.ref x0), .val (.int x1), .val (.int x2), .val (.long x3), .second, .val (.int x4), .val (.int x5), .val (.long x6), .second] [] := by first | (simp [entryFrame, mkF, argsToLocals, Value.category]; done) | rfl
def own_adoQ (Z : State) (a : Addr) (u1 : Int32) (u3 : Int64) (u4 : Int32) (u5 : Int32) (u6 : Int64) (h0 : Heap) (n0 : Nat) (v : Option Value) (h : Heap) (L : List Loc) : Prop := v = none ∧ Fr n0 L ∧ Keep h0 h [a] ∧ (Exa Z h a zC15)
theorem own_pn12 : plainName "com/example/millrace/millrace/cluster/Partitions$Adoption" = true := by first | (simp [plainName, overriddenIn]; done) | decide +kernel
abbrev own_adoR : Room := { frames := 2, cells := 0, slots := 0, locals := 24 }
theorem own_ado (l : Launch) (Z : State) (a0 : Array Value) (hw : ∀ d ∈ tables_1, d.before a0 Z = true) (ws : List Jvm.Cond) (a : Addr) (u1 : Int32) (u3 : Int64) (u4 : Int32) (u5 : Int32) (u6 : Int64) (h0 : Heap) (n0 : Nat) (Z0 : n0 ≤ h0.size) (pr1 : Exa Z h0 a zC15) (pr2 : n0 ≤ a) (pr3 : Fld Z h0 a zC15 "partition" "I" (.int 0)) (pr4 : Fld Z h0 a zC15 "written" "Z" (.int 0)) (pr5 : Fld Z h0 a zC15 "writtenTo" "J" (.long (0 : Int64))) (pr6 : Fld Z h0 a zC15 "first" "I" (.int 0)) (pr7 : Fld Z h0 a zC15 "second" "I" (.int 0)) (pr8 : Fld Z h0 a zC15 "from" "J" (.long (0 : Int64))) :
    own_M l yN37 prog_80_method_1_code 9 none ws own_adoR #[(.ref a), (.int u1), (.int 0), (.long u3), (.int u4), (.int u5), (.long u6)] Z h0 (own_adoQ Z a u1 u3 u4 u5 u6 h0 n0) := by
 refine own_go (plainFor_of_name own_pn12) (fun m => own_ef4 m a u1 (0 : Int32) u3 u4 u5 u6 ) ?_
 intro p e s m below meth c s₁ Bd hx hby hml hZ hh hown hnm X0 e0
 have N0 := Fr.nil n0
 have K0 : Keep h0 h0 [a] := Keep.refl h0 _
 refine own_st (g' := (mkF m 1 #[oR a, oI u1, oI 0, .val (.long u3), .second, oI u4, oI u5, .val (.long u6), .second] [(.ref a)])) (fun _ kt => XS.aloadN X0.here hx rfl (hb hby d46_0) rfl rfl kt) ?_
 obtain ⟨_, _, ⟨T81, L81, k81, n81⟩, -, X81, ⟨Lc81, hQ81, l81, y81, z81⟩, st81⟩ := X0.specialBack hx (y := yN31) rfl hown (mvT hZ (own_k hw 397 rfl)) (mvT hZ (own_k hw 398 rfl)) (mvT hZ (own_k hw 401 rfl)) (by decide) (backOf (W := 0) (own_rec l Z a0 hw [] a h0 n0 Z0 ) hZ (own_k hw 401 rfl) (own_k hw 400 rfl) (by decide) (by decide)) (g := (mkF m 1 #[oR a, oI u1, oI 0, .val (.long u3), .second, oI u4, oI u5, .val (.long u6), .second] [(.ref a)])) rfl hml.symm (Steps.refl _) (a := a) (argsL := []) (rest := []) (lenOf own_pd1 rfl) rfl (own_w0 rfl rfl) (hb hby d46_1) (fun _ _ => ⟨rfl, e0, (by decide : 0 + 0 ≤ 0), (by decide : 0 + 0 ≤ 0)⟩)
 dsimp only [Pt.U, Pt.locs, Pt.cells, Pt.slots] at X81 l81 y81 z81 st81 hQ81
 subst l81 y81 z81
 obtain ⟨rfl, N81, e81⟩ := hQ81
 have N82 := Fr.app N0 N81
 refine own_tr st81 ?_
 refine own_st (g' := (mkF m 6 #[oR a, oI u1, oI 0, .val (.long u3), .second, oI u4, oI u5, .val (.long u6), .second] [(.int u1), (.ref a)])) (fun _ kt => XS.aloadN X81.here hx rfl (hb hby d46_4) rfl rfl (XS.iloadN X81.here hx rfl (hb hby d46_5) rfl kt)) ?_
 obtain ⟨T83, h83, X83, e83, W83, st83⟩ := putF X81 hx hZ hown (host := "") (Or.inl (own_k hw 403 rfl)) Via.refl e81 pr3 pr1 (Or.inr ⟨(own_k hw 404 rfl), rfl, hnm⟩) (own_k hw 387 rfl) (ty := .int) (by decide) rfl rfl (g := (mkF m 6 #[oR a, oI u1, oI 0, .val (.long u3), .second, oI u4, oI u5, .val (.long u6), .second] [(.int u1), (.ref a)])) rfl rfl (hb hby d46_6)
 have N83 := Fr.snoc X83 N82 pr2
 have Z84 := Nat.le_trans Z0 (Nat.le_of_eq (Wr.size W83).symm)
 have K84 := (Keep.wr K0 W83 (Or.inl (List.mem_of_getElem? (i := 0) rfl)))
 have F85 : Fld Z h83 a zC15 "partition" "I" (.int u1) := Fld.same W83 pr3
 refine own_st st83 ?_
 refine own_st (g' := (mkF m 11 #[oR a, oI u1, oI 0, .val (.long u3), .second, oI u4, oI u5, .val (.long u6), .second] [(.int 0), (.ref a)])) (fun _ kt => XS.aloadN X83.here hx rfl (hb hby d46_9) rfl rfl (XS.iloadN X83.here hx rfl (hb hby d46_10) rfl kt)) ?_
 have F86 := (Fld.other W83 pr4 (Or.inr (slot_ne (Or.inr (own_k hw 406 rfl)) (Or.inr (own_k hw 404 rfl)) (by decide) (t := .boolean) (t' := .int) (by decide) (by decide))))
 have F87 := (Exa.wr W83 pr1)
 obtain ⟨T88, h88, X88, e88, W88, st88⟩ := putF X83 hx hZ hown (host := "") (Or.inl (own_k hw 405 rfl)) Via.refl e83 F86 F87 (Or.inr ⟨(own_k hw 406 rfl), rfl, hnm⟩) (own_k hw 387 rfl) (ty := .boolean) (by decide) rfl rfl (g := (mkF m 11 #[oR a, oI u1, oI 0, .val (.long u3), .second, oI u4, oI u5, .val (.long u6), .second] [(.int 0), (.ref a)])) rfl rfl (hb hby d46_11)
 have N88 := Fr.snoc X88 N83 pr2
 have Z89 := Nat.le_trans Z84 (Nat.le_of_eq (Wr.size W88).symm)
 have K89 := (Keep.wr K84 W88 (Or.inl (List.mem_of_getElem? (i := 0) rfl)))
 have F90 : Fld Z h88 a zC15 "written" "Z" (.int 0) := Fld.same W88 F86
 refine own_st st88 ?_
 refine own_st (g' := (mkF m 16 #[oR a, oI u1, oI 0, .val (.long u3), .second, oI u4, oI u5, .val (.long u6), .second] [(.long u3), (.ref a)])) (fun _ kt => XS.aloadN X88.here hx rfl (hb hby d46_14) rfl rfl (XT.lloadN X88.here hx rfl (hb hby d46_15) rfl kt)) ?_
 have F91 := (Fld.other W88 (Fld.other W83 pr5 (Or.inr (slot_ne (Or.inr (own_k hw 408 rfl)) (Or.inr (own_k hw 404 rfl)) (by decide) (t := .long) (t' := .int) (by decide) (by decide)))) (Or.inr (slot_ne (Or.inr (own_k hw 408 rfl)) (Or.inr (own_k hw 406 rfl)) (by decide) (t := .long) (t' := .boolean) (by decide) (by decide))))
 have F92 := (Exa.wr W88 F87)
 obtain ⟨T93, h93, X93, e93, W93, st93⟩ := putF X88 hx hZ hown (host := "") (Or.inl (own_k hw 407 rfl)) Via.refl e88 F91 F92 (Or.inr ⟨(own_k hw 408 rfl), rfl, hnm⟩) (own_k hw 387 rfl) (ty := .long) (by decide) rfl rfl (g := (mkF m 16 #[oR a, oI u1, oI 0, .val (.long u3), .second, oI u4, oI u5, .val (.long u6), .second] [(.long u3), (.ref a)])) rfl rfl (hb hby d46_16)
 have N93 := Fr.snoc X93 N88 pr2
 have Z94 := Nat.le_trans Z89 (Nat.le_of_eq (Wr.size W93).symm)
 have K94 := (Keep.wr K89 W93 (Or.inl (List.mem_of_getElem? (i := 0) rfl)))
 have F95 : Fld Z h93 a zC15 "writtenTo" "J" (.long u3) := Fld.same W93 F91
 refine own_st st93 ?_
 refine own_st (g' := (mkF m 22 #[oR a, oI u1, oI 0, .val (.long u3), .second, oI u4, oI u5, .val (.long u6), .second] [(.int u4), (.ref a)])) (fun _ kt => XS.aloadN X93.here hx rfl (hb hby d46_19) rfl rfl (XS.iload X93.here hx rfl (hb hby d46_20) rfl kt)) ?_
 have F96 := (Fld.other W93 (Fld.other W88 (Fld.other W83 pr6 (Or.inr (slot_ne (Or.inr (own_k hw 410 rfl)) (Or.inr (own_k hw 404 rfl)) (by decide) (t := .int) (t' := .int) (by decide) (by decide)))) (Or.inr (slot_ne (Or.inr (own_k hw 410 rfl)) (Or.inr (own_k hw 406 rfl)) (by decide) (t := .int) (t' := .boolean) (by decide) (by decide)))) (Or.inr (slot_ne (Or.inr (own_k hw 410 rfl)) (Or.inr (own_k hw 408 rfl)) (by decide) (t := .int) (t' := .long) (by decide) (by decide))))
 have F97 := (Exa.wr W93 F92)
 obtain ⟨T98, h98, X98, e98, W98, st98⟩ := putF X93 hx hZ hown (host := "") (Or.inl (own_k hw 409 rfl)) Via.refl e93 F96 F97 (Or.inr ⟨(own_k hw 410 rfl), rfl, hnm⟩) (own_k hw 387 rfl) (ty := .int) (by decide) rfl rfl (g := (mkF m 22 #[oR a, oI u1, oI 0, .val (.long u3), .second, oI u4, oI u5, .val (.long u6), .second] [(.int u4), (.ref a)])) rfl rfl (hb hby d46_22)
 have N98 := Fr.snoc X98 N93 pr2
 have Z99 := Nat.le_trans Z94 (Nat.le_of_eq (Wr.size W98).symm)
 have K99 := (Keep.wr K94 W98 (Or.inl (List.mem_of_getElem? (i := 0) rfl)))
 have F100 : Fld Z h98 a zC15 "first" "I" (.int u4) := Fld.same W98 F96
 refine own_st st98 ?_
 refine own_st (g' := (mkF m 28 #[oR a, oI u1, oI 0, .val (.long u3), .second, oI u4, oI u5, .val (.long u6), .second] [(.int u5), (.ref a)])) (fun _ kt => XS.aloadN X98.here hx rfl (hb hby d46_25) rfl rfl (XS.iload X98.here hx rfl (hb hby d46_26) rfl kt)) ?_
 have F101 := (Fld.other W98 (Fld.other W93 (Fld.other W88 (Fld.other W83 pr7 (Or.inr (slot_ne (Or.inr (own_k hw 412 rfl)) (Or.inr (own_k hw 404 rfl)) (by decide) (t := .int) (t' := .int) (by decide) (by decide)))) (Or.inr (slot_ne (Or.inr (own_k hw 412 rfl)) (Or.inr (own_k hw 406 rfl)) (by decide) (t := .int) (t' := .boolean) (by decide) (by decide)))) (Or.inr (slot_ne (Or.inr (own_k hw 412 rfl)) (Or.inr (own_k hw 408 rfl)) (by decide) (t := .int) (t' := .long) (by decide) (by decide)))) (Or.inr (slot_ne (Or.inr (own_k hw 412 rfl)) (Or.inr (own_k hw 410 rfl)) (by decide) (t := .int) (t' := .int) (by decide) (by decide))))
 have F102 := (Exa.wr W98 F97)
 obtain ⟨T103, h103, X103, e103, W103, st103⟩ := putF X98 hx hZ hown (host := "") (Or.inl (own_k hw 411 rfl)) Via.refl e98 F101 F102 (Or.inr ⟨(own_k hw 412 rfl), rfl, hnm⟩) (own_k hw 387 rfl) (ty := .int) (by decide) rfl rfl (g := (mkF m 28 #[oR a, oI u1, oI 0, .val (.long u3), .second, oI u4, oI u5, .val (.long u6), .second] [(.int u5), (.ref a)])) rfl rfl (hb hby d46_28)
 have N103 := Fr.snoc X103 N98 pr2
 have Z104 := Nat.le_trans Z99 (Nat.le_of_eq (Wr.size W103).symm)
 have K104 := (Keep.wr K99 W103 (Or.inl (List.mem_of_getElem? (i := 0) rfl)))
 have F105 : Fld Z h103 a zC15 "second" "I" (.int u5) := Fld.same W103 F101
 refine own_st st103 ?_
 refine own_st (g' := (mkF m 34 #[oR a, oI u1, oI 0, .val (.long u3), .second, oI u4, oI u5, .val (.long u6), .second] [(.long u6), (.ref a)])) (fun _ kt => XS.aloadN X103.here hx rfl (hb hby d46_31) rfl rfl (XT.lload X103.here hx rfl (hb hby d46_32) rfl kt)) ?_
 have F106 := (Fld.other W103 (Fld.other W98 (Fld.other W93 (Fld.other W88 (Fld.other W83 pr8 (Or.inr (slot_ne (Or.inr (own_k hw 414 rfl)) (Or.inr (own_k hw 404 rfl)) (by decide) (t := .long) (t' := .int) (by decide) (by decide)))) (Or.inr (slot_ne (Or.inr (own_k hw 414 rfl)) (Or.inr (own_k hw 406 rfl)) (by decide) (t := .long) (t' := .boolean) (by decide) (by decide)))) (Or.inr (slot_ne (Or.inr (own_k hw 414 rfl)) (Or.inr (own_k hw 408 rfl)) (by decide) (t := .long) (t' := .long) (by decide) (by decide)))) (Or.inr (slot_ne (Or.inr (own_k hw 414 rfl)) (Or.inr (own_k hw 410 rfl)) (by decide) (t := .long) (t' := .int) (by decide) (by decide)))) (Or.inr (slot_ne (Or.inr (own_k hw 414 rfl)) (Or.inr (own_k hw 412 rfl)) (by decide) (t := .long) (t' := .int) (by decide) (by decide))))
 have F107 := (Exa.wr W103 F102)
 obtain ⟨T108, h108, X108, e108, W108, st108⟩ := putF X103 hx hZ hown (host := "") (Or.inl (own_k hw 413 rfl)) Via.refl e103 F106 F107 (Or.inr ⟨(own_k hw 414 rfl), rfl, hnm⟩) (own_k hw 387 rfl) (ty := .long) (by decide) rfl rfl (g := (mkF m 34 #[oR a, oI u1, oI 0, .val (.long u3), .second, oI u4, oI u5, .val (.long u6), .second] [(.long u6), (.ref a)])) rfl rfl (hb hby d46_34)
 have N108 := Fr.snoc X108 N103 pr2
 have Z109 := Nat.le_trans Z104 (Nat.le_of_eq (Wr.size W108).symm)
 have K109 := (Keep.wr K104 W108 (Or.inl (List.mem_of_getElem? (i := 0) rfl)))
 have F110 : Fld Z h108 a zC15 "from" "J" (.long u6) := Fld.same W108 F106
 refine own_st st108 ?_
 obtain ⟨fs, hr, hrun, hended, hW, hsame⟩ := X108.leave (v := none) (fun _ => rfl)
 refine own_end (X108.returnOut hx Bd.returns (hb hby d46_37) hr) ⟨_, hrun, hended, _, _, rfl, ?_, ⟨_, rfl⟩, hW, hsame.mono (by decide) (by decide)⟩
 have F111 := (Exa.wr W108 F107)
 show own_adoQ Z _ _ _ _ _ _ h0 n0 _ T108.heap _
 rw [e108]
 exact ⟨rfl, N108, K109, F111⟩
abbrev c26 := jdk_92_method_1_code
theorem d26_0 : dk c26 0 (.iload_n 0) 1 := by decide +kernel
theorem d26_1 : dk c26 1 (.bipush 6) 2 := by decide +kernel
theorem d26_3 : dk c26 3 (.ishr) 1 := by decide +kernel
theorem d26_4 : dk c26 4 (.ireturn) 1 := by decide +kernel
theorem own_ef5 (m : MethodId) (x0 : Int32) : entryFrame m #[(.int x0)] 1 = mkF m 0 #[.val (.int x0)] [] := by first | (simp [entryFrame, mkF, argsToLocals, Value.category]; done) | rfl
def own_wiQ (Z : State) (u : Int32) (h0 : Heap) (n0 : Nat) (v : Option Value) (h : Heap) (L : List Loc) : Prop := v = some (.int 0) ∧ Fr n0 L ∧ h = h0
theorem own_pn13 : plainName "java/util/BitSet" = true := by first | (simp [plainName, overriddenIn]; done) | decide +kernel
abbrev own_wiR : Room := { frames := 0, cells := 0, slots := 0, locals := 0 }
theorem own_wi (l : Launch) (Z : State) (a0 : Array Value) (hw : ∀ d ∈ tables_1, d.before a0 Z = true) (ws : List Jvm.Cond) (u : Int32) (h0 : Heap) (n0 : Nat) (Z0 : n0 ≤ h0.size) (pr1 : u >>> ((6 : Int32) &&& 31) = 0) :
    own_M l yN4 jdk_92_method_1_code 1 (some .int) ws own_wiR #[(.int u)] Z h0 (own_wiQ Z u h0 n0) := by
 refine own_go (plainFor_of_name own_pn13) (fun m => own_ef5 m u ) ?_
 intro p e s m below meth c s₁ Bd hx hby hml hZ hh hown hnm X0 e0
 have N0 := Fr.nil n0
 refine own_st (g' := (mkF m 4 #[oI u] [(.int (u >>> ((6 : Int32) &&& 31)))])) (fun _ kt => XS.iloadN X0.here hx rfl (hb hby d26_0) rfl (XS.bipush X0.here hx rfl (hb hby d26_1) (XT.ishr X0.here hx rfl (hb hby d26_3) rfl kt))) ?_
 obtain ⟨fs, hr, hrun, hended, hW, hsame⟩ := X0.leave (v := some (.int (u >>> ((6 : Int32) &&& 31)))) (fun h => by rw [Bd.returns] at h; cases h)
 refine own_end (own_retI X0 hx Bd.returns (hb hby d26_4) hr) ⟨_, hrun, hended, _, _, rfl, ?_, ⟨_, rfl⟩, hW, hsame.mono (by decide) (by decide)⟩
 show own_wiQ Z _ h0 n0 _ s₁.heap _
 rw [e0]
 exact ⟨(by rw [pr1]), N0, rfl⟩
abbrev c25 := jdk_92_method_6_code
theorem d25_0 : dk c25 0 (.aload_n 0) 1 := by decide +kernel
theorem d25_1 : dk c25 1 (.iload_n 1) 1 := by decide +kernel
theorem d25_2 : dk c25 2 (.iconst 1) 1 := by decide +kernel
theorem d25_3 : dk c25 3 (.isub) 1 := by decide +kernel
theorem d25_4 : dk c25 4 (.invokestatic 52) 3 := by decide +kernel
theorem own_pd3 : parseMethodDescriptor "(I)I" = some ⟨[.int], some .int⟩ := by decide +kernel
theorem d25_7 : dk c25 7 (.iconst 1) 1 := by decide +kernel
theorem d25_8 : dk c25 8 (.iadd) 1 := by decide +kernel
theorem d25_9 : dk c25 9 (.newarray .long) 2 := by decide +kernel
theorem d25_11 : dk c25 11 (.putfield 11) 3 := by decide +kernel
theorem d25_14 : dk c25 14 (.return_) 1 := by decide +kernel
theorem own_ef6 (m : MethodId) (x0 : Addr) (x1 : Int32) : entryFrame m #[(.ref x0), (.int x1)] 2 = mkF m 0 #[.val (.ref x0), .val (.int x1)] [] := by first | (simp [entryFrame, mkF, argsToLocals, Value.category]; done) | rfl
def own_iwQ (Z : State) (a : Addr) (h0 : Heap) (n0 : Nat) (v : Option Value) (h : Heap) (L : List Loc) : Prop := ∃ (t : Addr), ∃ (kt : ClassId), v = none ∧ Fr n0 L ∧ Keep h0 h [a] ∧ (Exa Z h a zC0) ∧ (Fld Z h a zC0 "wordsInUse" "I" (.int 0)) ∧ (Fld Z h a zC0 "words" "[J" (.ref t)) ∧ (Fld Z h a zC0 "sizeIsSticky" "Z" (.int 0)) ∧ (Arv Z h t kt .long (1 : Int32) [(Value.long (0 : Int64))] (Value.long (0 : Int64))) ∧ (h0.size ≤ t)
abbrev own_iwR : Room := { frames := 1, cells := 1, slots := 1, locals := 13 }
theorem own_iw (l : Launch) (Z : State) (a0 : Array Value) (hw : ∀ d ∈ tables_1, d.before a0 Z = true) (ws : List Jvm.Cond) (a : Addr) (h0 : Heap) (n0 : Nat) (Z0 : n0 ≤ h0.size) (pr1 : n0 ≤ a) (pr2 : Exa Z h0 a zC0) (pr3 : Fld Z h0 a zC0 "wordsInUse" "I" (.int 0)) (pr4 : Fld Z h0 a zC0 "words" "[J" .null) (pr5 : Fld Z h0 a zC0 "sizeIsSticky" "Z" (.int 0)) :
    own_M l yN38 jdk_92_method_6_code 2 none ws own_iwR #[(.ref a), (.int 64)] Z h0 (own_iwQ Z a h0 n0) := by
 refine own_go (plainFor_of_name own_pn13) (fun m => own_ef6 m a (64 : Int32) ) ?_
 intro p e s m below meth c s₁ Bd hx hby hml hZ hh hown hnm X0 e0
 have N0 := Fr.nil n0
 have K0 : Keep h0 h0 [a] := Keep.refl h0 _
 refine own_st (g' := (mkF m 4 #[oR a, oI 64] [(.int 63), (.ref a)])) (fun _ kt => XS.aloadN X0.here hx rfl (hb hby d25_0) rfl rfl (XS.iloadN X0.here hx rfl (hb hby d25_1) rfl (XS.iconst X0.here hx rfl (hb hby d25_2) (XS.isub X0.here hx rfl (hb hby d25_3) rfl kt)))) ?_
 obtain ⟨_, _, ⟨T112, L112, k112, n112⟩, -, X112, ⟨Lc112, hQ112, l112, y112, z112⟩, st112⟩ := Jvm.LawKit.callS X0 hx (y := yN4) hown (mvT hZ (own_k hw 244 rfl)) (mvT hZ (own_k hw 245 rfl)) (mvT hZ (own_k hw 230 rfl)) (mvT hZ (own_k hw 246 rfl)) (by decide) (backOf (W := 1) (own_wi l Z a0 hw [] (63 : Int32) h0 n0 Z0 (show (63 : Int32) >>> ((6 : Int32) &&& 31) = 0 from (by decide))) hZ (own_k hw 246 rfl) (own_k hw 230 rfl) (by decide) (by decide)) (g := (mkF m 4 #[oR a, oI 64] [(.int 63), (.ref a)])) rfl hml.symm  (argsL := [(.int 63)]) (rest := [(.ref a)]) (lenOf own_pd3 rfl) rfl (own_w0 rfl rfl) (hb hby d25_4) (fun _ _ => ⟨rfl, e0, (by decide : 0 + 0 ≤ 1), (by decide : 0 + 0 ≤ 1)⟩)
 dsimp only [Pt.U, Pt.locs, Pt.cells, Pt.slots] at X112 l112 y112 z112 st112 hQ112
 subst l112 y112 z112
 obtain ⟨rfl, N112, e112⟩ := hQ112
 have N113 := Fr.app N0 N112
 refine own_st st112 ?_
 refine own_st (g' := (mkF m 9 #[oR a, oI 64] [(.int 1), (.ref a)])) (fun _ kt => XS.iconst X112.here hx rfl (hb hby d25_7) (XS.iadd X112.here hx rfl (hb hby d25_8) rfl kt)) ?_
 obtain ⟨T114, h114, k114, X114, e114, E114, A114, st114⟩ := newP X112 hx hZ (aty := .long) (own_k hw 137 rfl) e112 (g := (mkF m 9 #[oR a, oI 64] [(.int 1), (.ref a)])) rfl (hb hby d25_9) rfl (by decide) (cap := 1) (by decide) (by decide) (by decide) (by decide)
 obtain ⟨b114, g114⟩ : ∃ z, z = h0.size := ⟨_, rfl⟩
 rw [← g114] at A114 st114
 have Z115 := Nat.le_trans Z0 E114.1
 have K115 := (Keep.ext K0 E114)
 have ge_b114 : n0 ≤ b114 := Nat.le_trans Z0 (Nat.le_of_eq g114.symm)
 have F116 : Arv Z h114 b114 k114 .long (1 : Int32) [(.long (0 : Int64))] (.long (0 : Int64)) := (Arv.new A114 (by decide)).pad (pad_rep [] (.long (0 : Int64)) 1)
 refine own_st st114 ?_
 have F117 := (Fld.ext E114 pr4)
 have F118 := (Exa.ext E114 pr2)
 obtain ⟨T119, h119, X119, e119, W119, st119⟩ := putF X114 hx hZ hown (host := "") (Or.inl (own_k hw 247 rfl)) Via.refl e114 F117 F118 (Or.inl (own_k hw 248 rfl)) (own_k hw 229 rfl) (ty := (.array .long)) (by decide) rfl rfl (g := (mkF m 11 #[oR a, oI 64] [(.ref b114), (.ref a)])) rfl rfl (hb hby d25_11)
 have N119 := Fr.snoc X119 N113 pr1
 have Z120 := Nat.le_trans Z115 (Nat.le_of_eq (Wr.size W119).symm)
 have K120 := (Keep.wr K115 W119 (Or.inl (List.mem_of_getElem? (i := 0) rfl)))
 have F121 : Fld Z h119 a zC0 "words" "[J" (.ref b114) := Fld.same W119 F117
 refine own_st st119 ?_
 obtain ⟨fs, hr, hrun, hended, hW, hsame⟩ := X119.leave (v := none) (fun _ => rfl)
 refine own_end (X119.returnOut hx Bd.returns (hb hby d25_14) hr) ⟨_, hrun, hended, _, _, rfl, ?_, ⟨_, rfl⟩, hW, hsame.mono (by decide) (by decide)⟩
 have F122 := (Exa.wr W119 F118)
 have F123 := (Fld.other W119 (Fld.ext E114 pr3) (Or.inr (slot_ne (Or.inl (own_k hw 236 rfl)) (Or.inl (own_k hw 248 rfl)) (by decide) (t := .int) (t' := (.array .long)) (by decide) (by decide))))
 have F124 := (Fld.other W119 (Fld.ext E114 pr5) (Or.inr (slot_ne (Or.inl (own_k hw 238 rfl)) (Or.inl (own_k hw 248 rfl)) (by decide) (t := .boolean) (t' := (.array .long)) (by decide) (by decide))))
 have ne125 : a ≠ b114 := (Nat.ne_of_lt (Nat.lt_of_lt_of_le pr2.lt (Nat.le_of_eq g114.symm)))
 have F126 := (Arv.other F116 W119 (Ne.symm ne125))
 show own_iwQ Z _ h0 n0 _ T119.heap _
 rw [e119]
 exact ⟨b114, k114, rfl, N119, K120, F122, F123, F121, F124, F126, (Nat.le_trans K0.1 (Nat.le_of_eq g114.symm))⟩
abbrev c24 := jdk_92_method_4_code
theorem d24_0 : dk c24 0 (.aload_n 0) 1 := by decide +kernel
theorem d24_1 : dk c24 1 (.invokespecial 21) 3 := by decide +kernel
theorem d24_4 : dk c24 4 (.aload_n 0) 1 := by decide +kernel
theorem d24_5 : dk c24 5 (.iconst 0) 1 := by decide +kernel
theorem d24_6 : dk c24 6 (.putfield 7) 3 := by decide +kernel
theorem d24_9 : dk c24 9 (.aload_n 0) 1 := by decide +kernel
theorem d24_10 : dk c24 10 (.iconst 0) 1 := by decide +kernel
theorem d24_11 : dk c24 11 (.putfield 24) 3 := by decide +kernel
theorem d24_14 : dk c24 14 (.aload_n 0) 1 := by decide +kernel
theorem d24_15 : dk c24 15 (.bipush 64) 2 := by decide +kernel
theorem d24_17 : dk c24 17 (.invokevirtual 27) 3 := by decide +kernel
theorem own_pd4 : parseMethodDescriptor "(I)V" = some ⟨[.int], none⟩ := by decide +kernel
theorem d24_20 : dk c24 20 (.aload_n 0) 1 := by decide +kernel
theorem d24_21 : dk c24 21 (.iconst 0) 1 := by decide +kernel
theorem d24_22 : dk c24 22 (.putfield 24) 3 := by decide +kernel
theorem d24_25 : dk c24 25 (.return_) 1 := by decide +kernel
def own_biQ (Z : State) (a : Addr) (h0 : Heap) (n0 : Nat) (v : Option Value) (h : Heap) (L : List Loc) : Prop := ∃ (t : Addr), ∃ (kt : ClassId), v = none ∧ Fr n0 L ∧ Keep h0 h [a] ∧ (Exa Z h a zC0) ∧ (Fld Z h a zC0 "wordsInUse" "I" (.int 0)) ∧ (Fld Z h a zC0 "words" "[J" (.ref t)) ∧ (Fld Z h a zC0 "sizeIsSticky" "Z" (.int 0)) ∧ (Arv Z h t kt .long (1 : Int32) [(Value.long (0 : Int64))] (Value.long (0 : Int64))) ∧ (h0.size ≤ t)
abbrev own_biR : Room := { frames := 2, cells := 1, slots := 1, locals := 26 }
theorem own_bi (l : Launch) (Z : State) (a0 : Array Value) (hw : ∀ d ∈ tables_1, d.before a0 Z = true) (ws : List Jvm.Cond) (a : Addr) (h0 : Heap) (n0 : Nat) (Z0 : n0 ≤ h0.size) (pr1 : n0 ≤ a) (pr2 : Exa Z h0 a zC0) (pr3 : Fld Z h0 a zC0 "wordsInUse" "I" (.int 0)) (pr4 : Fld Z h0 a zC0 "words" "[J" .null) (pr5 : Fld Z h0 a zC0 "sizeIsSticky" "Z" (.int 0)) :
    own_M l yN16 jdk_92_method_4_code 1 none ws own_biR #[(.ref a)] Z h0 (own_biQ Z a h0 n0) := by
 refine own_go (plainFor_of_name own_pn13) (fun m => own_ef1 m a ) ?_
 intro p e s m below meth c s₁ Bd hx hby hml hZ hh hown hnm X0 e0
 have N0 := Fr.nil n0
 have K0 : Keep h0 h0 [a] := Keep.refl h0 _
 refine own_st (g' := (mkF m 1 #[oR a] [(.ref a)])) (fun _ kt => XS.aloadN X0.here hx rfl (hb hby d24_0) rfl rfl kt) ?_
 obtain ⟨T127, X127, e127, st127⟩ := initO X0 hx hZ hown (own_k hw 234 rfl) (own_k hw 11 rfl) (own_k hw 12 rfl) e0 (g := (mkF m 1 #[oR a] [(.ref a)])) rfl hml.symm rfl (hb hby d24_1) (by decide) (W := 0) (own_w0 rfl rfl) (by decide)
 refine own_st st127 ?_
 refine own_st (g' := (mkF m 6 #[oR a] [(.int 0), (.ref a)])) (fun _ kt => XS.aloadN X127.here hx rfl (hb hby d24_4) rfl rfl (XS.iconst X127.here hx rfl (hb hby d24_5) kt)) ?_
 obtain ⟨T128, h128, X128, e128, W128, st128⟩ := putF X127 hx hZ hown (host := "") (Or.inl (own_k hw 235 rfl)) Via.refl e127 pr3 pr2 (Or.inl (own_k hw 236 rfl)) (own_k hw 229 rfl) (ty := .int) (by decide) rfl rfl (g := (mkF m 6 #[oR a] [(.int 0), (.ref a)])) rfl rfl (hb hby d24_6)
 have N128 := Fr.snoc X128 N0 pr1
 have Z129 := Nat.le_trans Z0 (Nat.le_of_eq (Wr.size W128).symm)
 have K129 := (Keep.wr K0 W128 (Or.inl (List.mem_of_getElem? (i := 0) rfl)))
 have F130 : Fld Z h128 a zC0 "wordsInUse" "I" (.int 0) := Fld.same W128 pr3
 refine own_st st128 ?_
 refine own_st (g' := (mkF m 11 #[oR a] [(.int 0), (.ref a)])) (fun _ kt => XS.aloadN X128.here hx rfl (hb hby d24_9) rfl rfl (XS.iconst X128.here hx rfl (hb hby d24_10) kt)) ?_
 have F131 := (Fld.other W128 pr5 (Or.inr (slot_ne (Or.inl (own_k hw 238 rfl)) (Or.inl (own_k hw 236 rfl)) (by decide) (t := .boolean) (t' := .int) (by decide) (by decide))))
 have F132 := (Exa.wr W128 pr2)
 obtain ⟨T133, h133, X133, e133, W133, st133⟩ := putF X128 hx hZ hown (host := "") (Or.inl (own_k hw 237 rfl)) Via.refl e128 F131 F132 (Or.inl (own_k hw 238 rfl)) (own_k hw 229 rfl) (ty := .boolean) (by decide) rfl rfl (g := (mkF m 11 #[oR a] [(.int 0), (.ref a)])) rfl rfl (hb hby d24_11)
 have N133 := Fr.snoc X133 N128 pr1
 have Z134 := Nat.le_trans Z129 (Nat.le_of_eq (Wr.size W133).symm)
 have K134 := (Keep.wr K129 W133 (Or.inl (List.mem_of_getElem? (i := 0) rfl)))
 have F135 : Fld Z h133 a zC0 "sizeIsSticky" "Z" (.int 0) := Fld.same W133 F131
 refine own_st st133 ?_
 refine own_st (g' := (mkF m 17 #[oR a] [(.int 64), (.ref a)])) (fun _ kt => XS.aloadN X133.here hx rfl (hb hby d24_14) rfl rfl (XS.bipush X133.here hx rfl (hb hby d24_15) kt)) ?_
 have F136 := (Exa.wr W133 F132)
 have F137 := (Fld.other W133 F130 (Or.inr (slot_ne (Or.inl (own_k hw 236 rfl)) (Or.inl (own_k hw 238 rfl)) (by decide) (t := .int) (t' := .boolean) (by decide) (by decide))))
 have F138 := (Fld.other W133 (Fld.other W128 pr4 (Or.inr (slot_ne (Or.inl (own_k hw 248 rfl)) (Or.inl (own_k hw 236 rfl)) (by decide) (t := (.array .long)) (t' := .int) (by decide) (by decide)))) (Or.inr (slot_ne (Or.inl (own_k hw 248 rfl)) (Or.inl (own_k hw 238 rfl)) (by decide) (t := (.array .long)) (t' := .boolean) (by decide) (by decide))))
 obtain ⟨cl140, hcl140, hob140⟩ := Exa.cell F136
 obtain ⟨_, _, ⟨T139, L139, k139, n139⟩, -, X139, ⟨Lc139, hQ139, l139, y139, z139⟩, st139⟩ := X133.privateBack hx (y := yN38) hown (mvT hZ (own_k hw 239 rfl)) (mvT hZ (own_k hw 240 rfl)) (mvT hZ (own_k hw 242 rfl)) (Cond.privateMethod_at (mvP hZ (own_k hw 241 rfl) (args := #[]))) (mvT hZ (own_k hw 243 rfl)) (by decide) (backOf (W := 0) (own_iw l Z a0 hw [] a h133 n0 Z134 pr1 F136 F137 F138 F135) hZ (own_k hw 243 rfl) (own_k hw 230 rfl) (by decide) (by decide)) (g := (mkF m 17 #[oR a] [(.int 64), (.ref a)])) rfl hml.symm (Steps.refl _) (a := a) (by rw [e133]; exact hcl140) hob140 (argsL := [(.int 64)]) (rest := []) (lenOf own_pd4 rfl) rfl (own_w0 rfl rfl) (hb hby d24_17) (fun _ _ => ⟨rfl, e133, (by decide : 0 + 1 ≤ 1), (by decide : 0 + 1 ≤ 1)⟩)
 dsimp only [Pt.U, Pt.locs, Pt.cells, Pt.slots] at X139 l139 y139 z139 st139 hQ139
 subst l139 y139 z139
 obtain ⟨t_139, kt_139, rfl, N139, K139_, P141, P142, P143, P144, P145, P146⟩ := hQ139
 have N147 := Fr.app N133 N139
 have Z148 := Nat.le_trans Z134 K139_.1
 have K148 := (Keep.trans K134 K139_ (allS (Or.inl (List.mem_of_getElem? (i := 0) rfl)) all0))
 have ge149 : n0 ≤ t_139 := Nat.le_trans Z134 P146
 refine own_tr st139 ?_
 refine own_st (g' := (mkF m 22 #[oR a] [(.int 0), (.ref a)])) (fun _ kt => XS.aloadN X139.here hx rfl (hb hby d24_20) rfl rfl (XS.iconst X139.here hx rfl (hb hby d24_21) kt)) ?_
 obtain ⟨T150, h150, X150, e150, W150, st150⟩ := putF X139 hx hZ hown (host := "") (Or.inl (own_k hw 237 rfl)) Via.refl rfl P144 P141 (Or.inl (own_k hw 238 rfl)) (own_k hw 229 rfl) (ty := .boolean) (by decide) rfl rfl (g := (mkF m 22 #[oR a] [(.int 0), (.ref a)])) rfl rfl (hb hby d24_22)
 have N150 := Fr.snoc X150 N147 pr1
 have Z151 := Nat.le_trans Z148 (Nat.le_of_eq (Wr.size W150).symm)
 have K151 := (Keep.wr K148 W150 (Or.inl (List.mem_of_getElem? (i := 0) rfl)))
 have F152 : Fld Z h150 a zC0 "sizeIsSticky" "Z" (.int 0) := Fld.same W150 P144
 refine own_st st150 ?_
 obtain ⟨fs, hr, hrun, hended, hW, hsame⟩ := X150.leave (v := none) (fun _ => rfl)
 refine own_end (X150.returnOut hx Bd.returns (hb hby d24_25) hr) ⟨_, hrun, hended, _, _, rfl, ?_, ⟨_, rfl⟩, hW, hsame.mono (by decide) (by decide)⟩
 have F153 := (Exa.wr W150 P141)
 have F154 := (Fld.other W150 P142 (Or.inr (slot_ne (Or.inl (own_k hw 236 rfl)) (Or.inl (own_k hw 238 rfl)) (by decide) (t := .int) (t' := .boolean) (by decide) (by decide))))
 have F155 := (Fld.other W150 P143 (Or.inr (slot_ne (Or.inl (own_k hw 248 rfl)) (Or.inl (own_k hw 238 rfl)) (by decide) (t := (.array .long)) (t' := .boolean) (by decide) (by decide))))
 have ne156 : a ≠ t_139 := (Nat.ne_of_lt (Nat.lt_of_lt_of_le F136.lt P146))
 have F157 := (Arv.other P145 W150 (Ne.symm ne156))
 show own_biQ Z _ h0 n0 _ T150.heap _
 rw [e150]
 exact ⟨t_139, kt_139, rfl, N150, K151, F153, F154, F155, F152, F157, (Nat.le_trans K134.1 P146)⟩
abbrev c31 := jdk_92_method_14_code
theorem d31_0 : dk c31 0 (.aload_n 0) 1 := by decide +kernel
theorem d31_1 : dk c31 1 (.getfield 11) 3 := by decide +kernel
theorem d31_4 : dk c31 4 (.arraylength) 1 := by decide +kernel
theorem d31_5 : dk c31 5 (.iload_n 1) 1 := by decide +kernel
theorem d31_6 : dk c31 6 (.if_icmp .ge 32) 3 := by decide +kernel
theorem d31_38 : dk c31 38 (.return_) 1 := by decide +kernel
theorem own_ef7 (m : MethodId) (x0 : Addr) (x1 : Int32) : entryFrame m #[(.ref x0), (.int x1)] 3 = mkF m 0 #[.val (.ref x0), .val (.int x1), .unset] [] := by first | (simp [entryFrame, mkF, argsToLocals, Value.category]; done) | rfl
def own_ecQ (Z : State) (a : Addr) (t : Addr) (kt : ClassId) (u : Int32) (x : Int64) (h0 : Heap) (n0 : Nat) (v : Option Value) (h : Heap) (L : List Loc) : Prop := v = none ∧ Fr n0 L ∧ h = h0
abbrev own_ecR : Room := { frames := 0, cells := 0, slots := 0, locals := 0 }
theorem own_ec (l : Launch) (Z : State) (a0 : Array Value) (hw : ∀ d ∈ tables_1, d.before a0 Z = true) (ws : List Jvm.Cond) (a : Addr) (t : Addr) (kt : ClassId) (u : Int32) (x : Int64) (h0 : Heap) (n0 : Nat) (Z0 : n0 ≤ h0.size) (pr1 : Exa Z h0 a zC0) (pr2 : Fld Z h0 a zC0 "wordsInUse" "I" (.int u)) (pr3 : Fld Z h0 a zC0 "words" "[J" (.ref t)) (pr4 : Fld Z h0 a zC0 "sizeIsSticky" "Z" (.int 0)) (pr5 : Arv Z h0 t kt .long (1 : Int32) [(.long x)] (Value.long (0 : Int64))) :
    own_M l yN39 jdk_92_method_14_code 3 none ws own_ecR #[(.ref a), (.int 1)] Z h0 (own_ecQ Z a t kt u x h0 n0) := by
 refine own_go (plainFor_of_name own_pn13) (fun m => own_ef7 m a (1 : Int32) ) ?_
 intro p e s m below meth c s₁ Bd hx hby hml hZ hh hown hnm X0 e0
 have N0 := Fr.nil n0
 refine own_st (g' := (mkF m 1 #[oR a, oI 1, .unset] [(.ref a)])) (fun _ kt => XS.aloadN X0.here hx rfl (hb hby d31_0) rfl rfl kt) ?_
 obtain ⟨T158, X158, e158, st158⟩ := getF X0 hx hZ hown (host := "") (Or.inl (own_k hw 247 rfl)) Via.refl e0 pr3 (g := (mkF m 1 #[oR a, oI 1, .unset] [(.ref a)])) rfl rfl (hb hby d31_1)
 refine own_st st158 ?_
 refine own_st (g' := (mkF m 5 #[oR a, oI 1, .unset] [(.int 1)])) (own_alen X158 hx hZ e158 pr5 (g := (mkF m 4 #[oR a, oI 1, .unset] [(.ref t)])) rfl rfl (hb hby d31_4)) ?_
 refine own_st (g' := (mkF m 38 #[oR a, oI 1, .unset] [])) (fun _ kt => XS.iloadN X158.here hx rfl (hb hby d31_5) rfl (XS.icmpYes X158.here hx rfl (pc0 := 6) (pc' := 38) rfl (hb hby d31_6) rfl (XT.ii_ge_t (by decide)) (by decide) (by decide) kt)) ?_
 obtain ⟨fs, hr, hrun, hended, hW, hsame⟩ := X158.leave (v := none) (fun _ => rfl)
 refine own_end (X158.returnOut hx Bd.returns (hb hby d31_38) hr) ⟨_, hrun, hended, _, _, rfl, ?_, ⟨_, rfl⟩, hW, hsame.mono (by decide) (by decide)⟩
 show own_ecQ Z _ _ _ _ _ h0 n0 _ T158.heap _
 rw [e158]
 exact ⟨rfl, N0, rfl⟩
abbrev c32 := jdk_92_method_2_code
theorem d32_0 : dk c32 0 (.getstatic 3) 3 := by decide +kernel
theorem d32_3 : dk c32 3 (.ifCond .ne 34) 3 := by decide +kernel
theorem d32_37 : dk c32 37 (.getstatic 3) 3 := by decide +kernel
theorem d32_40 : dk c32 40 (.ifCond .ne 30) 3 := by decide +kernel
theorem d32_70 : dk c32 70 (.getstatic 3) 3 := by decide +kernel
theorem d32_73 : dk c32 73 (.ifCond .ne 37) 3 := by decide +kernel
theorem d32_110 : dk c32 110 (.return_) 1 := by decide +kernel
def own_ckiQ (Z : State) (a : Addr) (h0 : Heap) (n0 : Nat) (v : Option Value) (h : Heap) (L : List Loc) : Prop := v = none ∧ Fr n0 L ∧ h = h0
abbrev own_ckiR : Room := { frames := 0, cells := 0, slots := 0, locals := 0 }
theorem own_cki (l : Launch) (Z : State) (a0 : Array Value) (hw : ∀ d ∈ tables_1, d.before a0 Z = true) (ws : List Jvm.Cond) (a : Addr) (h0 : Heap) (n0 : Nat) (Z0 : n0 ≤ h0.size) (pr1 : Old Z n0 h0) (pr2 : Sta Z Z.heap zC0 "$assertionsDisabled" "Z" (.int 1)) :
    own_M l yN17 jdk_92_method_2_code 1 none ws own_ckiR #[(.ref a)] Z h0 (own_ckiQ Z a h0 n0) := by
 refine own_go (plainFor_of_name own_pn13) (fun m => own_ef1 m a ) ?_
 intro p e s m below meth c s₁ Bd hx hby hml hZ hh hown hnm X0 e0
 have N0 := Fr.nil n0
 obtain ⟨T159, X159, e159, st159⟩ := getS2 X0 hx hZ hown (host := "") (Or.inl (own_k hw 290 rfl)) Via.refl e0 (Sta.ext pr1.2 pr2) (g := (mkF m 0 #[oR a] [])) rfl (hb hby d32_0)
 refine own_st st159 ?_
 refine own_st (g' := (mkF m 37 #[oR a] [])) (fun _ kt => XS.ifYes X159.here hx rfl (pc0 := 3) (pc' := 37) rfl (hb hby d32_3) rfl (XT.i0_ne_t (by decide)) (by decide) (by decide) kt) ?_
 obtain ⟨T160, X160, e160, st160⟩ := getS2 X159 hx hZ hown (host := "") (Or.inl (own_k hw 290 rfl)) Via.refl e159 (Sta.ext pr1.2 pr2) (g := (mkF m 37 #[oR a] [])) rfl (hb hby d32_37)
 refine own_st st160 ?_
 refine own_st (g' := (mkF m 70 #[oR a] [])) (fun _ kt => XS.ifYes X160.here hx rfl (pc0 := 40) (pc' := 70) rfl (hb hby d32_40) rfl (XT.i0_ne_t (by decide)) (by decide) (by decide) kt) ?_
 obtain ⟨T161, X161, e161, st161⟩ := getS2 X160 hx hZ hown (host := "") (Or.inl (own_k hw 290 rfl)) Via.refl e160 (Sta.ext pr1.2 pr2) (g := (mkF m 70 #[oR a] [])) rfl (hb hby d32_70)
 refine own_st st161 ?_
 refine own_st (g' := (mkF m 110 #[oR a] [])) (fun _ kt => XS.ifYes X161.here hx rfl (pc0 := 73) (pc' := 110) rfl (hb hby d32_73) rfl (XT.i0_ne_t (by decide)) (by decide) (by decide) kt) ?_
 obtain ⟨fs, hr, hrun, hended, hW, hsame⟩ := X161.leave (v := none) (fun _ => rfl)
 refine own_end (X161.returnOut hx Bd.returns (hb hby d32_110) hr) ⟨_, hrun, hended, _, _, rfl, ?_, ⟨_, rfl⟩, hW, hsame.mono (by decide) (by decide)⟩
 show own_ckiQ Z _ h0 n0 _ T161.heap _
 rw [e161]
 exact ⟨rfl, N0, rfl⟩
abbrev c30 := jdk_92_method_15_code
theorem d30_0 : dk c30 0 (.iload_n 1) 1 := by decide +kernel
theorem d30_1 : dk c30 1 (.iconst 1) 1 := by decide +kernel
theorem d30_2 : dk c30 2 (.iadd) 1 := by decide +kernel
theorem d30_3 : dk c30 3 (.istore_n 2) 1 := by decide +kernel
theorem d30_4 : dk c30 4 (.aload_n 0) 1 := by decide +kernel
theorem d30_5 : dk c30 5 (.getfield 7) 3 := by decide +kernel
theorem d30_8 : dk c30 8 (.iload_n 2) 1 := by decide +kernel
theorem d30_9 : dk c30 9 (.if_icmp .ge 13) 3 := by decide +kernel
theorem d30_12 : dk c30 12 (.aload_n 0) 1 := by decide +kernel
theorem d30_13 : dk c30 13 (.iload_n 2) 1 := by decide +kernel
theorem d30_14 : dk c30 14 (.invokevirtual 139) 3 := by decide +kernel
theorem d30_17 : dk c30 17 (.aload_n 0) 1 := by decide +kernel
theorem d30_18 : dk c30 18 (.iload_n 2) 1 := by decide +kernel
theorem d30_19 : dk c30 19 (.putfield 7) 3 := by decide +kernel
theorem d30_22 : dk c30 22 (.return_) 1 := by decide +kernel
def own_xpQ (Z : State) (a : Addr) (t : Addr) (kt : ClassId) (u : Int32) (x : Int64) (h0 : Heap) (n0 : Nat) (v : Option Value) (h : Heap) (L : List Loc) : Prop := v = none ∧ Fr n0 L ∧ Keep h0 h [a] ∧ (Exa Z h a zC0) ∧ (Fld Z h a zC0 "wordsInUse" "I" (.int 1)) ∧ (Fld Z h a zC0 "words" "[J" (.ref t)) ∧ (Fld Z h a zC0 "sizeIsSticky" "Z" (.int 0)) ∧ (Arv Z h t kt .long (1 : Int32) [(.long x)] (Value.long (0 : Int64)))
abbrev own_xpR : Room := { frames := 1, cells := 0, slots := 0, locals := 14 }
theorem own_xp (l : Launch) (Z : State) (a0 : Array Value) (hw : ∀ d ∈ tables_1, d.before a0 Z = true) (ws : List Jvm.Cond) (a : Addr) (t : Addr) (kt : ClassId) (u : Int32) (x : Int64) (h0 : Heap) (n0 : Nat) (Z0 : n0 ≤ h0.size) (pr1 : n0 ≤ a) (pr2 : u = 0 ∨ u = 1) (pr3 : Exa Z h0 a zC0) (pr4 : Fld Z h0 a zC0 "wordsInUse" "I" (.int u)) (pr5 : Fld Z h0 a zC0 "words" "[J" (.ref t)) (pr6 : Fld Z h0 a zC0 "sizeIsSticky" "Z" (.int 0)) (pr7 : Arv Z h0 t kt .long (1 : Int32) [(.long x)] (Value.long (0 : Int64))) :
    own_M l yN40 jdk_92_method_15_code 3 none ws own_xpR #[(.ref a), (.int 0)] Z h0 (own_xpQ Z a t kt u x h0 n0) := by
 refine own_go (plainFor_of_name own_pn13) (fun m => own_ef7 m a (0 : Int32) ) ?_
 intro p e s m below meth c s₁ Bd hx hby hml hZ hh hown hnm X0 e0
 have N0 := Fr.nil n0
 have K0 : Keep h0 h0 [a] := Keep.refl h0 _
 rcases pr2 with rfl | rfl
 ·
  refine own_st (g' := (mkF m 5 #[oR a, oI 0, oI 1] [(.ref a)])) (fun _ kt => XS.iloadN X0.here hx rfl (hb hby d30_0) rfl (XS.iconst X0.here hx rfl (hb hby d30_1) (XS.iadd X0.here hx rfl (hb hby d30_2) rfl (XS.istoreN X0.here hx rfl (hb hby d30_3) rfl (l' := #[oR a, oI 0, oI 1]) rfl (XS.aloadN X0.here hx rfl (hb hby d30_4) rfl rfl kt))))) ?_
  obtain ⟨T162, X162, e162, st162⟩ := getF X0 hx hZ hown (host := "") (Or.inl (own_k hw 235 rfl)) Via.refl e0 pr4 (g := (mkF m 5 #[oR a, oI 0, oI 1] [(.ref a)])) rfl rfl (hb hby d30_5)
  refine own_st st162 ?_
  refine own_st (g' := (mkF m 14 #[oR a, oI 0, oI 1] [(.int 1), (.ref a)])) (fun _ kt => XS.iloadN X162.here hx rfl (hb hby d30_8) rfl (XS.icmpNo X162.here hx rfl (hb hby d30_9) rfl (XT.ii_ge_f (by decide)) (XS.aloadN X162.here hx rfl (hb hby d30_12) rfl rfl (XS.iloadN X162.here hx rfl (hb hby d30_13) rfl kt)))) ?_
  obtain ⟨cl164, hcl164, hob164⟩ := Exa.cell pr3
  obtain ⟨_, _, ⟨T163, L163, k163, n163⟩, -, X163, ⟨Lc163, hQ163, l163, y163, z163⟩, st163⟩ := X162.privateBack hx (y := yN39) hown (mvT hZ (own_k hw 280 rfl)) (mvT hZ (own_k hw 281 rfl)) (mvT hZ (own_k hw 283 rfl)) (Cond.privateMethod_at (mvP hZ (own_k hw 282 rfl) (args := #[]))) (mvT hZ (own_k hw 284 rfl)) (by decide) (backOf (W := 0) (own_ec l Z a0 hw [] a t kt (0 : Int32) x h0 n0 Z0 pr3 pr4 pr5 pr6 pr7) hZ (own_k hw 284 rfl) (own_k hw 230 rfl) (by decide) (by decide)) (g := (mkF m 14 #[oR a, oI 0, oI 1] [(.int 1), (.ref a)])) rfl hml.symm (Steps.refl _) (a := a) (by rw [e162]; exact hcl164) hob164 (argsL := [(.int 1)]) (rest := []) (lenOf own_pd4 rfl) rfl (own_w0 rfl rfl) (hb hby d30_14) (fun _ _ => ⟨rfl, e162, (by decide : 0 + 0 ≤ 0), (by decide : 0 + 0 ≤ 0)⟩)
  dsimp only [Pt.U, Pt.locs, Pt.cells, Pt.slots] at X163 l163 y163 z163 st163 hQ163
  subst l163 y163 z163
  obtain ⟨rfl, N163, e163⟩ := hQ163
  have N165 := Fr.app N0 N163
  refine own_tr st163 ?_
  refine own_st (g' := (mkF m 19 #[oR a, oI 0, oI 1] [(.int 1), (.ref a)])) (fun _ kt => XS.aloadN X163.here hx rfl (hb hby d30_17) rfl rfl (XS.iloadN X163.here hx rfl (hb hby d30_18) rfl kt)) ?_
  obtain ⟨T166, h166, X166, e166, W166, st166⟩ := putF X163 hx hZ hown (host := "") (Or.inl (own_k hw 235 rfl)) Via.refl e163 pr4 pr3 (Or.inl (own_k hw 236 rfl)) (own_k hw 229 rfl) (ty := .int) (by decide) rfl rfl (g := (mkF m 19 #[oR a, oI 0, oI 1] [(.int 1), (.ref a)])) rfl rfl (hb hby d30_19)
  have N166 := Fr.snoc X166 N165 pr1
  have Z167 := Nat.le_trans Z0 (Nat.le_of_eq (Wr.size W166).symm)
  have K167 := (Keep.wr K0 W166 (Or.inl (List.mem_of_getElem? (i := 0) rfl)))
  have F168 : Fld Z h166 a zC0 "wordsInUse" "I" (.int 1) := Fld.same W166 pr4
  refine own_st st166 ?_
  obtain ⟨fs, hr, hrun, hended, hW, hsame⟩ := X166.leave (v := none) (fun _ => rfl)
  refine own_end (X166.returnOut hx Bd.returns (hb hby d30_22) hr) ⟨_, hrun, hended, _, _, rfl, ?_, ⟨_, rfl⟩, hW, hsame.mono (by decide) (by decide)⟩
  have F169 := (Exa.wr W166 pr3)
  have F170 := (Fld.other W166 pr5 (Or.inr (slot_ne (Or.inl (own_k hw 248 rfl)) (Or.inl (own_k hw 236 rfl)) (by decide) (t := (.array .long)) (t' := .int) (by decide) (by decide))))
  have F171 := (Fld.other W166 pr6 (Or.inr (slot_ne (Or.inl (own_k hw 238 rfl)) (Or.inl (own_k hw 236 rfl)) (by decide) (t := .boolean) (t' := .int) (by decide) (by decide))))
  have ne172 : a ≠ t := (Exa.neArv pr3 pr7 (own_k hw 229 rfl))
  have F173 := (Arv.other pr7 W166 (Ne.symm ne172))
  show own_xpQ Z _ _ _ _ _ h0 n0 _ T166.heap _
  rw [e166]
  exact ⟨rfl, N166, K167, F169, F168, F170, F171, F173⟩
 ·
  refine own_st (g' := (mkF m 5 #[oR a, oI 0, oI 1] [(.ref a)])) (fun _ kt => XS.iloadN X0.here hx rfl (hb hby d30_0) rfl (XS.iconst X0.here hx rfl (hb hby d30_1) (XS.iadd X0.here hx rfl (hb hby d30_2) rfl (XS.istoreN X0.here hx rfl (hb hby d30_3) rfl (l' := #[oR a, oI 0, oI 1]) rfl (XS.aloadN X0.here hx rfl (hb hby d30_4) rfl rfl kt))))) ?_
  obtain ⟨T174, X174, e174, st174⟩ := getF X0 hx hZ hown (host := "") (Or.inl (own_k hw 235 rfl)) Via.refl e0 pr4 (g := (mkF m 5 #[oR a, oI 0, oI 1] [(.ref a)])) rfl rfl (hb hby d30_5)
  refine own_st st174 ?_
  refine own_st (g' := (mkF m 22 #[oR a, oI 0, oI 1] [])) (fun _ kt => XS.iloadN X174.here hx rfl (hb hby d30_8) rfl (XS.icmpYes X174.here hx rfl (pc0 := 9) (pc' := 22) rfl (hb hby d30_9) rfl (XT.ii_ge_t (by decide)) (by decide) (by decide) kt)) ?_
  obtain ⟨fs, hr, hrun, hended, hW, hsame⟩ := X174.leave (v := none) (fun _ => rfl)
  refine own_end (X174.returnOut hx Bd.returns (hb hby d30_22) hr) ⟨_, hrun, hended, _, _, rfl, ?_, ⟨_, rfl⟩, hW, hsame.mono (by decide) (by decide)⟩
  show own_xpQ Z _ _ _ _ _ h0 n0 _ T174.heap _
  rw [e174]
  exact ⟨rfl, N0, K0, pr3, pr4, pr5, pr6, pr7⟩
abbrev c29 := jdk_92_method_19_code
theorem d29_0 : dk c29 0 (.iload_n 1) 1 := by decide +kernel
theorem d29_1 : dk c29 1 (.ifCond .ge 30) 3 := by decide +kernel
theorem d29_31 : dk c29 31 (.iload_n 1) 1 := by decide +kernel
theorem d29_32 : dk c29 32 (.invokestatic 52) 3 := by decide +kernel
theorem d29_35 : dk c29 35 (.istore_n 2) 1 := by decide +kernel
theorem d29_36 : dk c29 36 (.aload_n 0) 1 := by decide +kernel
theorem d29_37 : dk c29 37 (.iload_n 2) 1 := by decide +kernel
theorem d29_38 : dk c29 38 (.invokevirtual 155) 3 := by decide +kernel
theorem d29_41 : dk c29 41 (.aload_n 0) 1 := by decide +kernel
theorem d29_42 : dk c29 42 (.getfield 11) 3 := by decide +kernel
theorem d29_45 : dk c29 45 (.iload_n 2) 1 := by decide +kernel
theorem d29_46 : dk c29 46 (.dup2) 1 := by decide +kernel
theorem d29_47 : dk c29 47 (.laload) 1 := by decide +kernel
theorem d29_48 : dk c29 48 (.lconst 1) 1 := by decide +kernel
theorem d29_49 : dk c29 49 (.iload_n 1) 1 := by decide +kernel
theorem d29_50 : dk c29 50 (.lshl) 1 := by decide +kernel
theorem d29_51 : dk c29 51 (.lor) 1 := by decide +kernel
theorem d29_52 : dk c29 52 (.lastore) 1 := by decide +kernel
theorem d29_53 : dk c29 53 (.aload_n 0) 1 := by decide +kernel
theorem d29_54 : dk c29 54 (.invokevirtual 56) 3 := by decide +kernel
theorem d29_57 : dk c29 57 (.return_) 1 := by decide +kernel
def own_bsetQ (Z : State) (a : Addr) (t : Addr) (kt : ClassId) (u : Int32) (x : Int64) (q : Int32) (h0 : Heap) (n0 : Nat) (v : Option Value) (h : Heap) (L : List Loc) : Prop := ∃ (y : Int64), v = none ∧ Fr n0 L ∧ Keep h0 h [a, t] ∧ (Exa Z h a zC0) ∧ (Fld Z h a zC0 "wordsInUse" "I" (.int 1)) ∧ (Fld Z h a zC0 "words" "[J" (.ref t)) ∧ (Fld Z h a zC0 "sizeIsSticky" "Z" (.int 0)) ∧ (Arv Z h t kt .long (1 : Int32) [(.long y)] (Value.long (0 : Int64)))
abbrev own_bsetR : Room := { frames := 2, cells := 0, slots := 0, locals := 28 }
theorem own_bset (l : Launch) (Z : State) (a0 : Array Value) (hw : ∀ d ∈ tables_1, d.before a0 Z = true) (ws : List Jvm.Cond) (a : Addr) (t : Addr) (kt : ClassId) (u : Int32) (x : Int64) (q : Int32) (h0 : Heap) (n0 : Nat) (Z0 : n0 ≤ h0.size) (pr1 : Old Z n0 h0) (pr2 : Sta Z Z.heap zC0 "$assertionsDisabled" "Z" (.int 1)) (pr3 : n0 ≤ a) (pr4 : n0 ≤ t) (pr5 : u = 0 ∨ u = 1) (pr6 : ¬ q < 0) (pr7 : q >>> ((6 : Int32) &&& 31) = 0) (pr8 : Exa Z h0 a zC0) (pr9 : Fld Z h0 a zC0 "wordsInUse" "I" (.int u)) (pr10 : Fld Z h0 a zC0 "words" "[J" (.ref t)) (pr11 : Fld Z h0 a zC0 "sizeIsSticky" "Z" (.int 0)) (pr12 : Arv Z h0 t kt .long (1 : Int32) [(.long x)] (Value.long (0 : Int64))) :
    own_M l yN18 jdk_92_method_19_code 3 none ws own_bsetR #[(.ref a), (.int q)] Z h0 (own_bsetQ Z a t kt u x q h0 n0) := by
 refine own_go (plainFor_of_name own_pn13) (fun m => own_ef7 m a q ) ?_
 intro p e s m below meth c s₁ Bd hx hby hml hZ hh hown hnm X0 e0
 have N0 := Fr.nil n0
 have K0 : Keep h0 h0 [a, t] := Keep.refl h0 _
 refine own_st (g' := (mkF m 32 #[oR a, oI q, .unset] [(.int q)])) (fun _ kt => XS.iloadN X0.here hx rfl (hb hby d29_0) rfl (XS.ifYes X0.here hx rfl (pc0 := 1) (pc' := 31) rfl (hb hby d29_1) rfl (XT.i0_ge_t pr6) (by decide) (by decide) (XS.iloadN X0.here hx rfl (hb hby d29_31) rfl kt))) ?_
 obtain ⟨_, _, ⟨T175, L175, k175, n175⟩, -, X175, ⟨Lc175, hQ175, l175, y175, z175⟩, st175⟩ := Jvm.LawKit.callS X0 hx (y := yN4) hown (mvT hZ (own_k hw 244 rfl)) (mvT hZ (own_k hw 245 rfl)) (mvT hZ (own_k hw 230 rfl)) (mvT hZ (own_k hw 246 rfl)) (by decide) (backOf (W := 0) (own_wi l Z a0 hw [] q h0 n0 Z0 pr7) hZ (own_k hw 246 rfl) (own_k hw 230 rfl) (by decide) (by decide)) (g := (mkF m 32 #[oR a, oI q, .unset] [(.int q)])) rfl hml.symm  (argsL := [(.int q)]) (rest := []) (lenOf own_pd3 rfl) rfl (own_w0 rfl rfl) (hb hby d29_32) (fun _ _ => ⟨rfl, e0, (by decide : 0 + 0 ≤ 0), (by decide : 0 + 0 ≤ 0)⟩)
 dsimp only [Pt.U, Pt.locs, Pt.cells, Pt.slots] at X175 l175 y175 z175 st175 hQ175
 subst l175 y175 z175
 obtain ⟨rfl, N175, e175⟩ := hQ175
 have N176 := Fr.app N0 N175
 refine own_st st175 ?_
 refine own_st (g' := (mkF m 38 #[oR a, oI q, oI 0] [(.int 0), (.ref a)])) (fun _ kt => XS.istoreN X175.here hx rfl (hb hby d29_35) rfl (l' := #[oR a, oI q, oI 0]) rfl (XS.aloadN X175.here hx rfl (hb hby d29_36) rfl rfl (XS.iloadN X175.here hx rfl (hb hby d29_37) rfl kt))) ?_
 obtain ⟨cl178, hcl178, hob178⟩ := Exa.cell pr8
 obtain ⟨_, _, ⟨T177, L177, k177, n177⟩, -, X177, ⟨Lc177, hQ177, l177, y177, z177⟩, st177⟩ := X175.privateBack hx (y := yN40) hown (mvT hZ (own_k hw 275 rfl)) (mvT hZ (own_k hw 276 rfl)) (mvT hZ (own_k hw 278 rfl)) (Cond.privateMethod_at (mvP hZ (own_k hw 277 rfl) (args := #[]))) (mvT hZ (own_k hw 279 rfl)) (by decide) (backOf (W := 0) (own_xp l Z a0 hw [] a t kt u x h0 n0 Z0 pr3 pr5 pr8 pr9 pr10 pr11 pr12) hZ (own_k hw 279 rfl) (own_k hw 230 rfl) (by decide) (by decide)) (g := (mkF m 38 #[oR a, oI q, oI 0] [(.int 0), (.ref a)])) rfl hml.symm (Steps.refl _) (a := a) (by rw [e175]; exact hcl178) hob178 (argsL := [(.int 0)]) (rest := []) (lenOf own_pd4 rfl) rfl (own_w0 rfl rfl) (hb hby d29_38) (fun _ _ => ⟨rfl, e175, (by decide : 0 + 0 ≤ 0), (by decide : 0 + 0 ≤ 0)⟩)
 dsimp only [Pt.U, Pt.locs, Pt.cells, Pt.slots] at X177 l177 y177 z177 st177 hQ177
 subst l177 y177 z177
 obtain ⟨rfl, N177, K177_, P179, P180, P181, P182, P183⟩ := hQ177
 have N184 := Fr.app N176 N177
 have Z185 := Nat.le_trans Z0 K177_.1
 have K185 := (Keep.trans K0 K177_ (allS (Or.inl (List.mem_of_getElem? (i := 0) rfl)) all0))
 refine own_tr st177 ?_
 refine own_st (g' := (mkF m 42 #[oR a, oI q, oI 0] [(.ref a)])) (fun _ kt => XS.aloadN X177.here hx rfl (hb hby d29_41) rfl rfl kt) ?_
 obtain ⟨T186, X186, e186, st186⟩ := getF X177 hx hZ hown (host := "") (Or.inl (own_k hw 247 rfl)) Via.refl rfl P181 (g := (mkF m 42 #[oR a, oI q, oI 0] [(.ref a)])) rfl rfl (hb hby d29_42)
 refine own_st st186 ?_
 refine own_st (g' := (mkF m 47 #[oR a, oI q, oI 0] [(.int 0), (.ref t), (.int 0), (.ref t)])) (fun _ kt => XS.iloadN X186.here hx rfl (hb hby d29_45) rfl (XT.dup2 X186.here hx rfl (hb hby d29_46) rfl rfl rfl kt)) ?_
 refine own_st (g' := (mkF m 48 #[oR a, oI q, oI 0] [(.long x), (.int 0), (.ref t)])) (own_lal X186 hx hZ e186 P183 ⟨by decide, by decide⟩ rfl (g := (mkF m 47 #[oR a, oI q, oI 0] [(.int 0), (.ref t), (.int 0), (.ref t)])) rfl rfl (hb hby d29_47)) ?_
 refine own_st (g' := (mkF m 52 #[oR a, oI q, oI 0] [(.long (x ||| ((1 : Int64) <<< (q.toInt64 &&& 63)))), (.int 0), (.ref t)])) (fun _ kt => XT.lconst X186.here hx rfl (hb hby d29_48) (XS.iloadN X186.here hx rfl (hb hby d29_49) rfl (XT.lshl X186.here hx rfl (hb hby d29_50) rfl (XT.lor X186.here hx rfl (hb hby d29_51) rfl kt)))) ?_
 obtain ⟨T187, h187, X187, e187, W187, V187, st187⟩ := own_lst X186 hx hZ e186 P183 ⟨by decide, by decide⟩ (i := 0) rfl (by simp) (g := (mkF m 52 #[oR a, oI q, oI 0] [(.long (x ||| ((1 : Int64) <<< (q.toInt64 &&& 63)))), (.int 0), (.ref t)])) rfl rfl (hb hby d29_52)
 have N187 := Fr.snoc X187 N184 pr4
 have Z188 := Nat.le_trans Z185 (Nat.le_of_eq (Wr.size W187).symm)
 have K188 := (Keep.wr K185 W187 (Or.inl (List.mem_of_getElem? (i := 1) rfl)))
 have F189 : Arv Z h187 t kt .long (1 : Int32) [(.long (x ||| ((1 : Int64) <<< (q.toInt64 &&& 63))))] (Value.long (0 : Int64)) := V187
 refine own_st st187 ?_
 refine own_st (g' := (mkF m 54 #[oR a, oI q, oI 0] [(.ref a)])) (fun _ kt => XS.aloadN X187.here hx rfl (hb hby d29_53) rfl rfl kt) ?_
 have F190 := (Exa.wr W187 P179)
 have F191 := (Old.keep pr1 K188 (allS pr3 (allS pr4 all0)))
 obtain ⟨cl193, hcl193, hob193⟩ := Exa.cell F190
 obtain ⟨_, _, ⟨T192, L192, k192, n192⟩, -, X192, ⟨Lc192, hQ192, l192, y192, z192⟩, st192⟩ := X187.privateBack hx (y := yN17) hown (mvT hZ (own_k hw 285 rfl)) (mvT hZ (own_k hw 286 rfl)) (mvT hZ (own_k hw 288 rfl)) (Cond.privateMethod_at (mvP hZ (own_k hw 287 rfl) (args := #[]))) (mvT hZ (own_k hw 289 rfl)) (by decide) (backOf (W := 0) (own_cki l Z a0 hw [] a h187 n0 Z188 F191 pr2) hZ (own_k hw 289 rfl) (own_k hw 230 rfl) (by decide) (by decide)) (g := (mkF m 54 #[oR a, oI q, oI 0] [(.ref a)])) rfl hml.symm (Steps.refl _) (a := a) (by rw [e187]; exact hcl193) hob193 (argsL := []) (rest := []) (lenOf own_pd1 rfl) rfl (own_w0 rfl rfl) (hb hby d29_54) (fun _ _ => ⟨rfl, e187, (by decide : 0 + 0 ≤ 0), (by decide : 0 + 0 ≤ 0)⟩)
 dsimp only [Pt.U, Pt.locs, Pt.cells, Pt.slots] at X192 l192 y192 z192 st192 hQ192
 subst l192 y192 z192
 obtain ⟨rfl, N192, e192⟩ := hQ192
 have N194 := Fr.app N187 N192
 refine own_tr st192 ?_
 obtain ⟨fs, hr, hrun, hended, hW, hsame⟩ := X192.leave (v := none) (fun _ => rfl)
 refine own_end (X192.returnOut hx Bd.returns (hb hby d29_57) hr) ⟨_, hrun, hended, _, _, rfl, ?_, ⟨_, rfl⟩, hW, hsame.mono (by decide) (by decide)⟩
 have ne195 : a ≠ t := (Exa.neArv pr8 pr12 (own_k hw 229 rfl))
 have F196 := (Fld.other W187 P180 (Or.inl ne195))
 have F197 := (Fld.other W187 P181 (Or.inl ne195))
 have F198 := (Fld.other W187 P182 (Or.inl ne195))
 show own_bsetQ Z _ _ _ _ _ _ h0 n0 _ T192.heap _
 rw [e192]
 exact ⟨(x ||| ((1 : Int64) <<< (q.toInt64 &&& 63))), rfl, N194, K188, F190, F196, F197, F198, F189⟩
abbrev c38 := jdk_92_method_3_code
theorem d38_0 : dk c38 0 (.aload_n 0) 1 := by decide +kernel
theorem d38_1 : dk c38 1 (.getfield 7) 3 := by decide +kernel
theorem d38_4 : dk c38 4 (.iconst 1) 1 := by decide +kernel
theorem d38_5 : dk c38 5 (.isub) 1 := by decide +kernel
theorem d38_6 : dk c38 6 (.istore_n 1) 1 := by decide +kernel
theorem d38_7 : dk c38 7 (.iload_n 1) 1 := by decide +kernel
theorem d38_8 : dk c38 8 (.ifCond .lt 23) 3 := by decide +kernel
theorem d38_11 : dk c38 11 (.aload_n 0) 1 := by decide +kernel
theorem d38_12 : dk c38 12 (.getfield 11) 3 := by decide +kernel
theorem d38_15 : dk c38 15 (.iload_n 1) 1 := by decide +kernel
theorem d38_16 : dk c38 16 (.laload) 1 := by decide +kernel
theorem d38_17 : dk c38 17 (.lconst 0) 1 := by decide +kernel
theorem d38_18 : dk c38 18 (.lcmp) 1 := by decide +kernel
theorem d38_19 : dk c38 19 (.ifCond .eq 6) 3 := by decide +kernel
theorem d38_25 : dk c38 25 (.iinc 1 (-1)) 3 := by decide +kernel
theorem d38_28 : dk c38 28 (.goto (-21)) 3 := by decide +kernel
theorem d38_31 : dk c38 31 (.aload_n 0) 1 := by decide +kernel
theorem d38_32 : dk c38 32 (.iload_n 1) 1 := by decide +kernel
theorem d38_33 : dk c38 33 (.iconst 1) 1 := by decide +kernel
theorem d38_34 : dk c38 34 (.iadd) 1 := by decide +kernel
theorem d38_35 : dk c38 35 (.putfield 7) 3 := by decide +kernel
theorem d38_38 : dk c38 38 (.return_) 1 := by decide +kernel
theorem d38_22 : dk c38 22 (.goto 9) 3 := by decide +kernel
theorem own_ef8 (m : MethodId) (x0 : Addr) : entryFrame m #[(.ref x0)] 2 = mkF m 0 #[.val (.ref x0), .unset] [] := by first | (simp [entryFrame, mkF, argsToLocals, Value.category]; done) | rfl
def own_rwQ (Z : State) (a : Addr) (t : Addr) (kt : ClassId) (x : Int64) (h0 : Heap) (n0 : Nat) (v : Option Value) (h : Heap) (L : List Loc) : Prop := ∃ (z : Int32), v = none ∧ Fr n0 L ∧ Keep h0 h [a] ∧ (Exa Z h a zC0) ∧ (Fld Z h a zC0 "wordsInUse" "I" (.int z)) ∧ (Fld Z h a zC0 "words" "[J" (.ref t)) ∧ (Fld Z h a zC0 "sizeIsSticky" "Z" (.int 0)) ∧ (Arv Z h t kt .long (1 : Int32) [(.long x)] (Value.long (0 : Int64))) ∧ (z = 0 ∨ z = 1)
abbrev own_rwR : Room := { frames := 0, cells := 0, slots := 0, locals := 0 }
theorem own_rw (l : Launch) (Z : State) (a0 : Array Value) (hw : ∀ d ∈ tables_1, d.before a0 Z = true) (ws : List Jvm.Cond) (a : Addr) (t : Addr) (kt : ClassId) (x : Int64) (h0 : Heap) (n0 : Nat) (Z0 : n0 ≤ h0.size) (pr1 : n0 ≤ a) (pr2 : Exa Z h0 a zC0) (pr3 : Fld Z h0 a zC0 "wordsInUse" "I" (.int 1)) (pr4 : Fld Z h0 a zC0 "words" "[J" (.ref t)) (pr5 : Fld Z h0 a zC0 "sizeIsSticky" "Z" (.int 0)) (pr6 : Arv Z h0 t kt .long (1 : Int32) [(.long x)] (Value.long (0 : Int64))) :
    own_M l yN41 jdk_92_method_3_code 2 none ws own_rwR #[(.ref a)] Z h0 (own_rwQ Z a t kt x h0 n0) := by
 refine own_go (plainFor_of_name own_pn13) (fun m => own_ef8 m a ) ?_
 intro p e s m below meth c s₁ Bd hx hby hml hZ hh hown hnm X0 e0
 have N0 := Fr.nil n0
 have K0 : Keep h0 h0 [a] := Keep.refl h0 _
 refine own_st (g' := (mkF m 1 #[oR a, .unset] [(.ref a)])) (fun _ kt => XS.aloadN X0.here hx rfl (hb hby d38_0) rfl rfl kt) ?_
 obtain ⟨T199, X199, e199, st199⟩ := getF X0 hx hZ hown (host := "") (Or.inl (own_k hw 235 rfl)) Via.refl e0 pr3 (g := (mkF m 1 #[oR a, .unset] [(.ref a)])) rfl rfl (hb hby d38_1)
 refine own_st st199 ?_
 refine own_st (g' := (mkF m 12 #[oR a, oI 0] [(.ref a)])) (fun _ kt => XS.iconst X199.here hx rfl (hb hby d38_4) (XS.isub X199.here hx rfl (hb hby d38_5) rfl (XS.istoreN X199.here hx rfl (hb hby d38_6) rfl (l' := #[oR a, oI 0]) rfl (XS.iloadN X199.here hx rfl (hb hby d38_7) rfl (XS.ifNo X199.here hx rfl (hb hby d38_8) rfl (XT.i0_lt_f (by decide)) (XS.aloadN X199.here hx rfl (hb hby d38_11) rfl rfl kt)))))) ?_
 obtain ⟨T200, X200, e200, st200⟩ := getF X199 hx hZ hown (host := "") (Or.inl (own_k hw 247 rfl)) Via.refl e199 pr4 (g := (mkF m 12 #[oR a, oI 0] [(.ref a)])) rfl rfl (hb hby d38_12)
 refine own_st st200 ?_
 refine own_st (g' := (mkF m 16 #[oR a, oI 0] [(.int 0), (.ref t)])) (fun _ kt => XS.iloadN X200.here hx rfl (hb hby d38_15) rfl kt) ?_
 refine own_st (g' := (mkF m 17 #[oR a, oI 0] [(.long x)])) (own_lal X200 hx hZ e200 pr6 ⟨by decide, by decide⟩ rfl (g := (mkF m 16 #[oR a, oI 0] [(.int 0), (.ref t)])) rfl rfl (hb hby d38_16)) ?_
 refine own_st (g' := (mkF m 19 #[oR a, oI 0] [(.int (XT.cmpL x (0 : Int64)))])) (fun _ kt => XT.lconst X200.here hx rfl (hb hby d38_17) (XT.lcmp X200.here hx rfl (hb hby d38_18) rfl kt)) ?_
 by_cases hc201 : x = (0 : Int64)
 ·
  refine own_st (g' := (mkF m 35 #[oR a, oI (-1 : Int32)] [(.int 0), (.ref a)])) (fun _ kt => XS.ifYes X200.here hx rfl (pc0 := 19) (pc' := 25) rfl (hb hby d38_19) rfl (XT.ll_eq_t hc201) (by decide) (by decide) (XS.iinc X200.here hx rfl (hb hby d38_25) rfl (l' := #[oR a, oI (-1 : Int32)]) rfl (XS.goto X200.here hx rfl (pc0 := 28) (pc' := 7) rfl (hb hby d38_28) (by decide) (by decide) (XS.iloadN X200.here hx rfl (hb hby d38_7) rfl (XS.ifYes X200.here hx rfl (pc0 := 8) (pc' := 31) rfl (hb hby d38_8) rfl (XT.i0_lt_t (by decide)) (by decide) (by decide) (XS.aloadN X200.here hx rfl (hb hby d38_31) rfl rfl (XS.iloadN X200.here hx rfl (hb hby d38_32) rfl (XS.iconst X200.here hx rfl (hb hby d38_33) (XS.iadd X200.here hx rfl (hb hby d38_34) rfl kt))))))))) ?_
  obtain ⟨T202, h202, X202, e202, W202, st202⟩ := putF X200 hx hZ hown (host := "") (Or.inl (own_k hw 235 rfl)) Via.refl e200 pr3 pr2 (Or.inl (own_k hw 236 rfl)) (own_k hw 229 rfl) (ty := .int) (by decide) rfl rfl (g := (mkF m 35 #[oR a, oI (-1 : Int32)] [(.int 0), (.ref a)])) rfl rfl (hb hby d38_35)
  have N202 := Fr.snoc X202 N0 pr1
  have Z203 := Nat.le_trans Z0 (Nat.le_of_eq (Wr.size W202).symm)
  have K203 := (Keep.wr K0 W202 (Or.inl (List.mem_of_getElem? (i := 0) rfl)))
  have F204 : Fld Z h202 a zC0 "wordsInUse" "I" (.int 0) := Fld.same W202 pr3
  refine own_st st202 ?_
  obtain ⟨fs, hr, hrun, hended, hW, hsame⟩ := X202.leave (v := none) (fun _ => rfl)
  refine own_end (X202.returnOut hx Bd.returns (hb hby d38_38) hr) ⟨_, hrun, hended, _, _, rfl, ?_, ⟨_, rfl⟩, hW, hsame.mono (by decide) (by decide)⟩
  have F205 := (Exa.wr W202 pr2)
  have F206 := (Fld.other W202 pr4 (Or.inr (slot_ne (Or.inl (own_k hw 248 rfl)) (Or.inl (own_k hw 236 rfl)) (by decide) (t := (.array .long)) (t' := .int) (by decide) (by decide))))
  have F207 := (Fld.other W202 pr5 (Or.inr (slot_ne (Or.inl (own_k hw 238 rfl)) (Or.inl (own_k hw 236 rfl)) (by decide) (t := .boolean) (t' := .int) (by decide) (by decide))))
  have ne208 : a ≠ t := (Exa.neArv pr2 pr6 (own_k hw 229 rfl))
  have F209 := (Arv.other pr6 W202 (Ne.symm ne208))
  show own_rwQ Z _ _ _ _ h0 n0 _ T202.heap _
  rw [e202]
  exact ⟨(0 : Int32), rfl, N202, K203, F205, F204, F206, F207, F209, (by decide)⟩
 ·
  refine own_st (g' := (mkF m 35 #[oR a, oI 0] [(.int 1), (.ref a)])) (fun _ kt => XS.ifNo X200.here hx rfl (hb hby d38_19) rfl (XT.ll_eq_f hc201) (XS.goto X200.here hx rfl (pc0 := 22) (pc' := 31) rfl (hb hby d38_22) (by decide) (by decide) (XS.aloadN X200.here hx rfl (hb hby d38_31) rfl rfl (XS.iloadN X200.here hx rfl (hb hby d38_32) rfl (XS.iconst X200.here hx rfl (hb hby d38_33) (XS.iadd X200.here hx rfl (hb hby d38_34) rfl kt)))))) ?_
  obtain ⟨T210, h210, X210, e210, W210, st210⟩ := putF X200 hx hZ hown (host := "") (Or.inl (own_k hw 235 rfl)) Via.refl e200 pr3 pr2 (Or.inl (own_k hw 236 rfl)) (own_k hw 229 rfl) (ty := .int) (by decide) rfl rfl (g := (mkF m 35 #[oR a, oI 0] [(.int 1), (.ref a)])) rfl rfl (hb hby d38_35)
  have N210 := Fr.snoc X210 N0 pr1
  have Z211 := Nat.le_trans Z0 (Nat.le_of_eq (Wr.size W210).symm)
  have K211 := (Keep.wr K0 W210 (Or.inl (List.mem_of_getElem? (i := 0) rfl)))
  have F212 : Fld Z h210 a zC0 "wordsInUse" "I" (.int 1) := Fld.same W210 pr3
  refine own_st st210 ?_
  obtain ⟨fs, hr, hrun, hended, hW, hsame⟩ := X210.leave (v := none) (fun _ => rfl)
  refine own_end (X210.returnOut hx Bd.returns (hb hby d38_38) hr) ⟨_, hrun, hended, _, _, rfl, ?_, ⟨_, rfl⟩, hW, hsame.mono (by decide) (by decide)⟩
  have F213 := (Exa.wr W210 pr2)
  have F214 := (Fld.other W210 pr4 (Or.inr (slot_ne (Or.inl (own_k hw 248 rfl)) (Or.inl (own_k hw 236 rfl)) (by decide) (t := (.array .long)) (t' := .int) (by decide) (by decide))))
  have F215 := (Fld.other W210 pr5 (Or.inr (slot_ne (Or.inl (own_k hw 238 rfl)) (Or.inl (own_k hw 236 rfl)) (by decide) (t := .boolean) (t' := .int) (by decide) (by decide))))
  have ne216 : a ≠ t := (Exa.neArv pr2 pr6 (own_k hw 229 rfl))
  have F217 := (Arv.other pr6 W210 (Ne.symm ne216))
  show own_rwQ Z _ _ _ _ h0 n0 _ T210.heap _
  rw [e210]
  exact ⟨(1 : Int32), rfl, N210, K211, F213, F212, F214, F215, F217, (by decide)⟩
abbrev c37 := jdk_92_method_23_code
theorem d37_0 : dk c37 0 (.iload_n 1) 1 := by decide +kernel
theorem d37_1 : dk c37 1 (.ifCond .ge 30) 3 := by decide +kernel
theorem d37_31 : dk c37 31 (.iload_n 1) 1 := by decide +kernel
theorem d37_32 : dk c37 32 (.invokestatic 52) 3 := by decide +kernel
theorem d37_35 : dk c37 35 (.istore_n 2) 1 := by decide +kernel
theorem d37_36 : dk c37 36 (.iload_n 2) 1 := by decide +kernel
theorem d37_37 : dk c37 37 (.aload_n 0) 1 := by decide +kernel
theorem d37_38 : dk c37 38 (.getfield 7) 3 := by decide +kernel
theorem d37_41 : dk c37 41 (.if_icmp .lt 4) 3 := by decide +kernel
theorem d37_44 : dk c37 44 (.return_) 1 := by decide +kernel
theorem d37_45 : dk c37 45 (.aload_n 0) 1 := by decide +kernel
theorem d37_46 : dk c37 46 (.getfield 11) 3 := by decide +kernel
theorem d37_49 : dk c37 49 (.iload_n 2) 1 := by decide +kernel
theorem d37_50 : dk c37 50 (.dup2) 1 := by decide +kernel
theorem d37_51 : dk c37 51 (.laload) 1 := by decide +kernel
theorem d37_52 : dk c37 52 (.lconst 1) 1 := by decide +kernel
theorem d37_53 : dk c37 53 (.iload_n 1) 1 := by decide +kernel
theorem d37_54 : dk c37 54 (.lshl) 1 := by decide +kernel
theorem d37_55 : dk c37 55 (.ldc2_w 165) 3 := by decide +kernel
theorem d37_58 : dk c37 58 (.lxor) 1 := by decide +kernel
theorem d37_59 : dk c37 59 (.land) 1 := by decide +kernel
theorem d37_60 : dk c37 60 (.lastore) 1 := by decide +kernel
theorem d37_61 : dk c37 61 (.aload_n 0) 1 := by decide +kernel
theorem d37_62 : dk c37 62 (.invokevirtual 158) 3 := by decide +kernel
theorem d37_65 : dk c37 65 (.aload_n 0) 1 := by decide +kernel
theorem d37_66 : dk c37 66 (.invokevirtual 56) 3 := by decide +kernel
theorem d37_69 : dk c37 69 (.return_) 1 := by decide +kernel
def own_bclrQ (Z : State) (a : Addr) (t : Addr) (kt : ClassId) (u : Int32) (x : Int64) (q : Int32) (h0 : Heap) (n0 : Nat) (v : Option Value) (h : Heap) (L : List Loc) : Prop := ∃ (z : Int32), ∃ (y : Int64), v = none ∧ Fr n0 L ∧ Keep h0 h [a, t] ∧ (Exa Z h a zC0) ∧ (Fld Z h a zC0 "wordsInUse" "I" (.int z)) ∧ (Fld Z h a zC0 "words" "[J" (.ref t)) ∧ (Fld Z h a zC0 "sizeIsSticky" "Z" (.int 0)) ∧ (Arv Z h t kt .long (1 : Int32) [(.long y)] (Value.long (0 : Int64))) ∧ (z = 0 ∨ z = 1)
abbrev own_bclrR : Room := { frames := 1, cells := 0, slots := 0, locals := 13 }
theorem own_bclr (l : Launch) (Z : State) (a0 : Array Value) (hw : ∀ d ∈ tables_1, d.before a0 Z = true) (ws : List Jvm.Cond) (a : Addr) (t : Addr) (kt : ClassId) (u : Int32) (x : Int64) (q : Int32) (h0 : Heap) (n0 : Nat) (Z0 : n0 ≤ h0.size) (pr1 : Old Z n0 h0) (pr2 : Sta Z Z.heap zC0 "$assertionsDisabled" "Z" (.int 1)) (pr3 : n0 ≤ a) (pr4 : n0 ≤ t) (pr5 : u = 0 ∨ u = 1) (pr6 : ¬ q < 0) (pr7 : q >>> ((6 : Int32) &&& 31) = 0) (pr8 : Exa Z h0 a zC0) (pr9 : Fld Z h0 a zC0 "wordsInUse" "I" (.int u)) (pr10 : Fld Z h0 a zC0 "words" "[J" (.ref t)) (pr11 : Fld Z h0 a zC0 "sizeIsSticky" "Z" (.int 0)) (pr12 : Arv Z h0 t kt .long (1 : Int32) [(.long x)] (Value.long (0 : Int64))) :
    own_M l yN19 jdk_92_method_23_code 3 none ws own_bclrR #[(.ref a), (.int q)] Z h0 (own_bclrQ Z a t kt u x q h0 n0) := by
 refine own_go (plainFor_of_name own_pn13) (fun m => own_ef7 m a q ) ?_
 intro p e s m below meth c s₁ Bd hx hby hml hZ hh hown hnm X0 e0
 have N0 := Fr.nil n0
 have K0 : Keep h0 h0 [a, t] := Keep.refl h0 _
 rcases pr5 with rfl | rfl
 ·
  refine own_st (g' := (mkF m 32 #[oR a, oI q, .unset] [(.int q)])) (fun _ kt => XS.iloadN X0.here hx rfl (hb hby d37_0) rfl (XS.ifYes X0.here hx rfl (pc0 := 1) (pc' := 31) rfl (hb hby d37_1) rfl (XT.i0_ge_t pr6) (by decide) (by decide) (XS.iloadN X0.here hx rfl (hb hby d37_31) rfl kt))) ?_
  obtain ⟨_, _, ⟨T218, L218, k218, n218⟩, -, X218, ⟨Lc218, hQ218, l218, y218, z218⟩, st218⟩ := Jvm.LawKit.callS X0 hx (y := yN4) hown (mvT hZ (own_k hw 244 rfl)) (mvT hZ (own_k hw 245 rfl)) (mvT hZ (own_k hw 230 rfl)) (mvT hZ (own_k hw 246 rfl)) (by decide) (backOf (W := 0) (own_wi l Z a0 hw [] q h0 n0 Z0 pr7) hZ (own_k hw 246 rfl) (own_k hw 230 rfl) (by decide) (by decide)) (g := (mkF m 32 #[oR a, oI q, .unset] [(.int q)])) rfl hml.symm  (argsL := [(.int q)]) (rest := []) (lenOf own_pd3 rfl) rfl (own_w0 rfl rfl) (hb hby d37_32) (fun _ _ => ⟨rfl, e0, (by decide : 0 + 0 ≤ 0), (by decide : 0 + 0 ≤ 0)⟩)
  dsimp only [Pt.U, Pt.locs, Pt.cells, Pt.slots] at X218 l218 y218 z218 st218 hQ218
  subst l218 y218 z218
  obtain ⟨rfl, N218, e218⟩ := hQ218
  have N219 := Fr.app N0 N218
  refine own_st st218 ?_
  refine own_st (g' := (mkF m 38 #[oR a, oI q, oI 0] [(.ref a), (.int 0)])) (fun _ kt => XS.istoreN X218.here hx rfl (hb hby d37_35) rfl (l' := #[oR a, oI q, oI 0]) rfl (XS.iloadN X218.here hx rfl (hb hby d37_36) rfl (XS.aloadN X218.here hx rfl (hb hby d37_37) rfl rfl kt))) ?_
  obtain ⟨T220, X220, e220, st220⟩ := getF X218 hx hZ hown (host := "") (Or.inl (own_k hw 235 rfl)) Via.refl e218 pr9 (g := (mkF m 38 #[oR a, oI q, oI 0] [(.ref a), (.int 0)])) rfl rfl (hb hby d37_38)
  refine own_st st220 ?_
  refine own_st (g' := (mkF m 44 #[oR a, oI q, oI 0] [])) (fun _ kt => XS.icmpNo X220.here hx rfl (hb hby d37_41) rfl (XT.ii_lt_f (by decide)) kt) ?_
  obtain ⟨fs, hr, hrun, hended, hW, hsame⟩ := X220.leave (v := none) (fun _ => rfl)
  refine own_end (X220.returnOut hx Bd.returns (hb hby d37_44) hr) ⟨_, hrun, hended, _, _, rfl, ?_, ⟨_, rfl⟩, hW, hsame.mono (by decide) (by decide)⟩
  show own_bclrQ Z _ _ _ _ _ _ h0 n0 _ T220.heap _
  rw [e220]
  exact ⟨(0 : Int32), x, rfl, N219, K0, pr8, pr9, pr10, pr11, pr12, (by first | assumption | decide)⟩
 ·
  refine own_st (g' := (mkF m 32 #[oR a, oI q, .unset] [(.int q)])) (fun _ kt => XS.iloadN X0.here hx rfl (hb hby d37_0) rfl (XS.ifYes X0.here hx rfl (pc0 := 1) (pc' := 31) rfl (hb hby d37_1) rfl (XT.i0_ge_t pr6) (by decide) (by decide) (XS.iloadN X0.here hx rfl (hb hby d37_31) rfl kt))) ?_
  obtain ⟨_, _, ⟨T221, L221, k221, n221⟩, -, X221, ⟨Lc221, hQ221, l221, y221, z221⟩, st221⟩ := Jvm.LawKit.callS X0 hx (y := yN4) hown (mvT hZ (own_k hw 244 rfl)) (mvT hZ (own_k hw 245 rfl)) (mvT hZ (own_k hw 230 rfl)) (mvT hZ (own_k hw 246 rfl)) (by decide) (backOf (W := 0) (own_wi l Z a0 hw [] q h0 n0 Z0 pr7) hZ (own_k hw 246 rfl) (own_k hw 230 rfl) (by decide) (by decide)) (g := (mkF m 32 #[oR a, oI q, .unset] [(.int q)])) rfl hml.symm  (argsL := [(.int q)]) (rest := []) (lenOf own_pd3 rfl) rfl (own_w0 rfl rfl) (hb hby d37_32) (fun _ _ => ⟨rfl, e0, (by decide : 0 + 0 ≤ 0), (by decide : 0 + 0 ≤ 0)⟩)
  dsimp only [Pt.U, Pt.locs, Pt.cells, Pt.slots] at X221 l221 y221 z221 st221 hQ221
  subst l221 y221 z221
  obtain ⟨rfl, N221, e221⟩ := hQ221
  have N222 := Fr.app N0 N221
  refine own_st st221 ?_
  refine own_st (g' := (mkF m 38 #[oR a, oI q, oI 0] [(.ref a), (.int 0)])) (fun _ kt => XS.istoreN X221.here hx rfl (hb hby d37_35) rfl (l' := #[oR a, oI q, oI 0]) rfl (XS.iloadN X221.here hx rfl (hb hby d37_36) rfl (XS.aloadN X221.here hx rfl (hb hby d37_37) rfl rfl kt))) ?_
  obtain ⟨T223, X223, e223, st223⟩ := getF X221 hx hZ hown (host := "") (Or.inl (own_k hw 235 rfl)) Via.refl e221 pr9 (g := (mkF m 38 #[oR a, oI q, oI 0] [(.ref a), (.int 0)])) rfl rfl (hb hby d37_38)
  refine own_st st223 ?_
  refine own_st (g' := (mkF m 46 #[oR a, oI q, oI 0] [(.ref a)])) (fun _ kt => XS.icmpYes X223.here hx rfl (pc0 := 41) (pc' := 45) rfl (hb hby d37_41) rfl (XT.ii_lt_t (by decide)) (by decide) (by decide) (XS.aloadN X223.here hx rfl (hb hby d37_45) rfl rfl kt)) ?_
  obtain ⟨T224, X224, e224, st224⟩ := getF X223 hx hZ hown (host := "") (Or.inl (own_k hw 247 rfl)) Via.refl e223 pr10 (g := (mkF m 46 #[oR a, oI q, oI 0] [(.ref a)])) rfl rfl (hb hby d37_46)
  refine own_st st224 ?_
  refine own_st (g' := (mkF m 51 #[oR a, oI q, oI 0] [(.int 0), (.ref t), (.int 0), (.ref t)])) (fun _ kt => XS.iloadN X224.here hx rfl (hb hby d37_49) rfl (XT.dup2 X224.here hx rfl (hb hby d37_50) rfl rfl rfl kt)) ?_
  refine own_st (g' := (mkF m 52 #[oR a, oI q, oI 0] [(.long x), (.int 0), (.ref t)])) (own_lal X224 hx hZ e224 pr12 ⟨by decide, by decide⟩ rfl (g := (mkF m 51 #[oR a, oI q, oI 0] [(.int 0), (.ref t), (.int 0), (.ref t)])) rfl rfl (hb hby d37_51)) ?_
  refine own_st (g' := (mkF m 55 #[oR a, oI q, oI 0] [(.long ((1 : Int64) <<< (q.toInt64 &&& 63))), (.long x), (.int 0), (.ref t)])) (fun _ kt => XT.lconst X224.here hx rfl (hb hby d37_52) (XS.iloadN X224.here hx rfl (hb hby d37_53) rfl (XT.lshl X224.here hx rfl (hb hby d37_54) rfl kt))) ?_
  refine own_st (g' := (mkF m 58 #[oR a, oI q, oI 0] [(.long (-1 : Int64)), (.long ((1 : Int64) <<< (q.toInt64 &&& 63))), (.long x), (.int 0), (.ref t)])) (Stand.ldc2Long X224 hx hown (mvT hZ (own_k hw 314 rfl)) (g := (mkF m 55 #[oR a, oI q, oI 0] [(.long ((1 : Int64) <<< (q.toInt64 &&& 63))), (.long x), (.int 0), (.ref t)])) rfl (hb hby d37_55)) ?_
  refine own_st (g' := (mkF m 60 #[oR a, oI q, oI 0] [(.long (x &&& (((1 : Int64) <<< (q.toInt64 &&& 63)) ^^^ (-1 : Int64)))), (.int 0), (.ref t)])) (fun _ kt => XT.lxor X224.here hx rfl (hb hby d37_58) rfl (XT.land X224.here hx rfl (hb hby d37_59) rfl kt)) ?_
  obtain ⟨T225, h225, X225, e225, W225, V225, st225⟩ := own_lst X224 hx hZ e224 pr12 ⟨by decide, by decide⟩ (i := 0) rfl (by simp) (g := (mkF m 60 #[oR a, oI q, oI 0] [(.long (x &&& (((1 : Int64) <<< (q.toInt64 &&& 63)) ^^^ (-1 : Int64)))), (.int 0), (.ref t)])) rfl rfl (hb hby d37_60)
  have N225 := Fr.snoc X225 N222 pr4
  have Z226 := Nat.le_trans Z0 (Nat.le_of_eq (Wr.size W225).symm)
  have K226 := (Keep.wr K0 W225 (Or.inl (List.mem_of_getElem? (i := 1) rfl)))
  have F227 : Arv Z h225 t kt .long (1 : Int32) [(.long (x &&& (((1 : Int64) <<< (q.toInt64 &&& 63)) ^^^ (-1 : Int64))))] (Value.long (0 : Int64)) := V225
  refine own_st st225 ?_
  refine own_st (g' := (mkF m 62 #[oR a, oI q, oI 0] [(.ref a)])) (fun _ kt => XS.aloadN X225.here hx rfl (hb hby d37_61) rfl rfl kt) ?_
  have F228 := (Exa.wr W225 pr8)
  have ne229 : a ≠ t := (Exa.neArv pr8 pr12 (own_k hw 229 rfl))
  have F230 := (Fld.other W225 pr9 (Or.inl ne229))
  have F231 := (Fld.other W225 pr10 (Or.inl ne229))
  have F232 := (Fld.other W225 pr11 (Or.inl ne229))
  obtain ⟨cl234, hcl234, hob234⟩ := Exa.cell F228
  obtain ⟨_, _, ⟨T233, L233, k233, n233⟩, -, X233, ⟨Lc233, hQ233, l233, y233, z233⟩, st233⟩ := X225.privateBack hx (y := yN41) hown (mvT hZ (own_k hw 315 rfl)) (mvT hZ (own_k hw 316 rfl)) (mvT hZ (own_k hw 318 rfl)) (Cond.privateMethod_at (mvP hZ (own_k hw 317 rfl) (args := #[]))) (mvT hZ (own_k hw 319 rfl)) (by decide) (backOf (W := 0) (own_rw l Z a0 hw [] a t kt (x &&& (((1 : Int64) <<< (q.toInt64 &&& 63)) ^^^ (-1 : Int64))) h225 n0 Z226 pr3 F228 F230 F231 F232 F227) hZ (own_k hw 319 rfl) (own_k hw 230 rfl) (by decide) (by decide)) (g := (mkF m 62 #[oR a, oI q, oI 0] [(.ref a)])) rfl hml.symm (Steps.refl _) (a := a) (by rw [e225]; exact hcl234) hob234 (argsL := []) (rest := []) (lenOf own_pd1 rfl) rfl (own_w0 rfl rfl) (hb hby d37_62) (fun _ _ => ⟨rfl, e225, (by decide : 0 + 0 ≤ 0), (by decide : 0 + 0 ≤ 0)⟩)
  dsimp only [Pt.U, Pt.locs, Pt.cells, Pt.slots] at X233 l233 y233 z233 st233 hQ233
  subst l233 y233 z233
  obtain ⟨z_233, rfl, N233, K233_, P235, P236, P237, P238, P239, q240⟩ := hQ233
  have N241 := Fr.app N225 N233
  have Z242 := Nat.le_trans Z226 K233_.1
  have K242 := (Keep.trans K226 K233_ (allS (Or.inl (List.mem_of_getElem? (i := 0) rfl)) all0))
  refine own_tr st233 ?_
  refine own_st (g' := (mkF m 66 #[oR a, oI q, oI 0] [(.ref a)])) (fun _ kt => XS.aloadN X233.here hx rfl (hb hby d37_65) rfl rfl kt) ?_
  have F243 := (Old.keep pr1 K242 (allS pr3 (allS pr4 all0)))
  obtain ⟨cl245, hcl245, hob245⟩ := Exa.cell P235
  obtain ⟨_, _, ⟨T244, L244, k244, n244⟩, -, X244, ⟨Lc244, hQ244, l244, y244, z244⟩, st244⟩ := X233.privateBack hx (y := yN17) hown (mvT hZ (own_k hw 285 rfl)) (mvT hZ (own_k hw 286 rfl)) (mvT hZ (own_k hw 288 rfl)) (Cond.privateMethod_at (mvP hZ (own_k hw 287 rfl) (args := #[]))) (mvT hZ (own_k hw 289 rfl)) (by decide) (backOf (W := 0) (own_cki l Z a0 hw [] a T233.heap n0 Z242 F243 pr2) hZ (own_k hw 289 rfl) (own_k hw 230 rfl) (by decide) (by decide)) (g := (mkF m 66 #[oR a, oI q, oI 0] [(.ref a)])) rfl hml.symm (Steps.refl _) (a := a) hcl245 hob245 (argsL := []) (rest := []) (lenOf own_pd1 rfl) rfl (own_w0 rfl rfl) (hb hby d37_66) (fun _ _ => ⟨rfl, rfl, (by decide : 0 + 0 ≤ 0), (by decide : 0 + 0 ≤ 0)⟩)
  dsimp only [Pt.U, Pt.locs, Pt.cells, Pt.slots] at X244 l244 y244 z244 st244 hQ244
  subst l244 y244 z244
  obtain ⟨rfl, N244, e244⟩ := hQ244
  have N246 := Fr.app N241 N244
  refine own_tr st244 ?_
  obtain ⟨fs, hr, hrun, hended, hW, hsame⟩ := X244.leave (v := none) (fun _ => rfl)
  refine own_end (X244.returnOut hx Bd.returns (hb hby d37_69) hr) ⟨_, hrun, hended, _, _, rfl, ?_, ⟨_, rfl⟩, hW, hsame.mono (by decide) (by decide)⟩
  show own_bclrQ Z _ _ _ _ _ _ h0 n0 _ T244.heap _
  rw [e244]
  exact ⟨z_233, (x &&& (((1 : Int64) <<< (q.toInt64 &&& 63)) ^^^ (-1 : Int64))), rfl, N246, K242, P235, P236, P237, P238, P239, (by first | assumption | decide)⟩
abbrev c54 := jdk_21_method_3_code
theorem d54_0 : dk c54 0 (.aload_n 0) 1 := by decide +kernel
theorem d54_1 : dk c54 1 (.invokespecial 42) 3 := by decide +kernel
theorem d54_4 : dk c54 4 (.aload_n 0) 1 := by decide +kernel
theorem d54_5 : dk c54 5 (.bipush 17) 2 := by decide +kernel
theorem d54_7 : dk c54 7 (.anewarray 47) 3 := by decide +kernel
theorem d54_10 : dk c54 10 (.putfield 3) 3 := by decide +kernel
theorem d54_13 : dk c54 13 (.return_) 1 := by decide +kernel
def own_qiQ (Z : State) (a : Addr) (h0 : Heap) (n0 : Nat) (v : Option Value) (h : Heap) (L : List Loc) : Prop := ∃ (b : Addr), ∃ (kb : ClassId), v = none ∧ Fr n0 L ∧ Keep h0 h [a] ∧ (Exa Z h a zC9) ∧ (Fld Z h a zC9 "elements" zC7 (.ref b)) ∧ (Fld Z h a zC9 "head" "I" (.int 0)) ∧ (Fld Z h a zC9 "tail" "I" (.int 0)) ∧ (Arv Z h b kb (.object zC3) (17 : Int32) [.null, .null, .null, .null, .null, .null, .null, .null, .null, .null, .null, .null, .null, .null, .null, .null, .null] .null) ∧ (h0.size ≤ b)
theorem own_pn14 : plainName "java/util/ArrayDeque" = true := by first | (simp [plainName, overriddenIn]; done) | decide +kernel
abbrev own_qiR : Room := { frames := 2, cells := 1, slots := 17, locals := 24 }
theorem own_qi (l : Launch) (Z : State) (a0 : Array Value) (hw : ∀ d ∈ tables_1, d.before a0 Z = true) (ws : List Jvm.Cond) (a : Addr) (h0 : Heap) (n0 : Nat) (Z0 : n0 ≤ h0.size) (pr1 : Exa Z h0 a zC9) (pr2 : n0 ≤ a) (pr3 : Fld Z h0 a zC9 "elements" zC7 .null) (pr4 : Fld Z h0 a zC9 "head" "I" (.int 0)) (pr5 : Fld Z h0 a zC9 "tail" "I" (.int 0)) :
    own_M l yN42 jdk_21_method_3_code 1 none ws own_qiR #[(.ref a)] Z h0 (own_qiQ Z a h0 n0) := by
 refine own_go (plainFor_of_name own_pn14) (fun m => own_ef1 m a ) ?_
 intro p e s m below meth c s₁ Bd hx hby hml hZ hh hown hnm X0 e0
 have N0 := Fr.nil n0
 have K0 : Keep h0 h0 [a] := Keep.refl h0 _
 refine own_st (g' := (mkF m 1 #[oR a] [(.ref a)])) (fun _ kt => XS.aloadN X0.here hx rfl (hb hby d54_0) rfl rfl kt) ?_
 obtain ⟨_, _, ⟨T247, L247, k247, n247⟩, -, X247, ⟨Lc247, hQ247, l247, y247, z247⟩, st247⟩ := X0.specialBack hx (y := yN7) rfl hown (mvT hZ (own_k hw 448 rfl)) (mvT hZ (own_k hw 45 rfl)) (mvT hZ (own_k hw 49 rfl)) (by decide) (backOf (W := 0) (own_ac l Z a0 hw [] a h0 n0 Z0 ) hZ (own_k hw 49 rfl) (own_k hw 48 rfl) (by decide) (by decide)) (g := (mkF m 1 #[oR a] [(.ref a)])) rfl hml.symm (Steps.refl _) (a := a) (argsL := []) (rest := []) (lenOf own_pd1 rfl) rfl (own_w0 rfl rfl) (hb hby d54_1) (fun _ _ => ⟨rfl, e0, (by decide : 0 + 0 ≤ 1), (by decide : 0 + 0 ≤ 17)⟩)
 dsimp only [Pt.U, Pt.locs, Pt.cells, Pt.slots] at X247 l247 y247 z247 st247 hQ247
 subst l247 y247 z247
 obtain ⟨rfl, N247, e247⟩ := hQ247
 have N248 := Fr.app N0 N247
 refine own_tr st247 ?_
 refine own_st (g' := (mkF m 7 #[oR a] [(.int 17), (.ref a)])) (fun _ kt => XS.aloadN X247.here hx rfl (hb hby d54_4) rfl rfl (XS.bipush X247.here hx rfl (hb hby d54_5) kt)) ?_
 obtain ⟨T249, h249, k249, X249, e249, E249, A249, O249, st249⟩ := newR X247 hx hZ hown (own_k hw 450 rfl) (own_k hw 92 rfl) e247 (g := (mkF m 7 #[oR a] [(.int 17), (.ref a)])) rfl (hb hby d54_7) rfl (by decide) (cap := 17) (by decide) (by decide) (by decide) (by decide)
 obtain ⟨b249, g249⟩ : ∃ z, z = h0.size := ⟨_, rfl⟩
 rw [← g249] at A249 st249
 have Z250 := Nat.le_trans Z0 E249.1
 have K250 := (Keep.ext K0 E249)
 have ge_b249 : n0 ≤ b249 := Nat.le_trans Z0 (Nat.le_of_eq g249.symm)
 have F251 : Arv Z h249 b249 k249 (.object zC3) (17 : Int32) [.null, .null, .null, .null, .null, .null, .null, .null, .null, .null, .null, .null, .null, .null, .null, .null, .null] .null := (Arv.new A249 (by decide)).pad (pad_rep [] .null 17)
 refine own_st st249 ?_
 have F252 := (Fld.ext E249 pr3)
 have F253 := (Exa.ext E249 pr1)
 obtain ⟨T254, h254, X254, e254, W254, st254⟩ := putF X249 hx hZ hown (host := "") (Or.inl (own_k hw 451 rfl)) Via.refl e249 F252 F253 (Or.inl (own_k hw 452 rfl)) (own_k hw 443 rfl) (ty := (.array (.object zC3))) (by decide) rfl rfl (g := (mkF m 10 #[oR a] [(.ref b249), (.ref a)])) rfl rfl (hb hby d54_10)
 have N254 := Fr.snoc X254 N248 pr2
 have Z255 := Nat.le_trans Z250 (Nat.le_of_eq (Wr.size W254).symm)
 have K255 := (Keep.wr K250 W254 (Or.inl (List.mem_of_getElem? (i := 0) rfl)))
 have F256 : Fld Z h254 a zC9 "elements" zC7 (.ref b249) := Fld.same W254 F252
 refine own_st st254 ?_
 obtain ⟨fs, hr, hrun, hended, hW, hsame⟩ := X254.leave (v := none) (fun _ => rfl)
 refine own_end (X254.returnOut hx Bd.returns (hb hby d54_13) hr) ⟨_, hrun, hended, _, _, rfl, ?_, ⟨_, rfl⟩, hW, hsame.mono (by decide) (by decide)⟩
 have F257 := (Exa.wr W254 F253)
 have F258 := (Fld.other W254 (Fld.ext E249 pr4) (Or.inr (slot_ne (Or.inl (own_k hw 494 rfl)) (Or.inl (own_k hw 452 rfl)) (by decide) (t := .int) (t' := (.array (.object zC3))) (by decide) (by decide))))
 have F259 := (Fld.other W254 (Fld.ext E249 pr5) (Or.inr (slot_ne (Or.inl (own_k hw 496 rfl)) (Or.inl (own_k hw 452 rfl)) (by decide) (t := .int) (t' := (.array (.object zC3))) (by decide) (by decide))))
 have ne260 : a ≠ b249 := (Nat.ne_of_lt (Nat.lt_of_lt_of_le pr1.lt (Nat.le_of_eq g249.symm)))
 have F261 := (Arv.other F251 W254 (Ne.symm ne260))
 show own_qiQ Z _ h0 n0 _ T254.heap _
 rw [e254]
 exact ⟨b249, k249, rfl, N254, K255, F257, F256, F258, F259, F261, (Nat.le_trans K0.1 (Nat.le_of_eq g249.symm))⟩
abbrev c60 := jdk_21_method_54_code
theorem d60_0 : dk c60 0 (.iload_n 1) 1 := by decide +kernel
theorem d60_1 : dk c60 1 (.iload_n 2) 1 := by decide +kernel
theorem d60_2 : dk c60 2 (.if_icmp .gt 7) 3 := by decide +kernel
theorem d60_5 : dk c60 5 (.iload_n 2) 1 := by decide +kernel
theorem d60_6 : dk c60 6 (.goto 5) 3 := by decide +kernel
theorem d60_11 : dk c60 11 (.istore_n 3) 1 := by decide +kernel
theorem d60_12 : dk c60 12 (.iload_n 1) 1 := by decide +kernel
theorem d60_13 : dk c60 13 (.iload_n 3) 1 := by decide +kernel
theorem d60_14 : dk c60 14 (.if_icmp .ge 13) 3 := by decide +kernel
theorem d60_27 : dk c60 27 (.iload_n 3) 1 := by decide +kernel
theorem d60_28 : dk c60 28 (.iload_n 2) 1 := by decide +kernel
theorem d60_29 : dk c60 29 (.if_icmp .ne 6) 3 := by decide +kernel
theorem d60_32 : dk c60 32 (.goto 10) 3 := by decide +kernel
theorem d60_42 : dk c60 42 (.return_) 1 := by decide +kernel
theorem own_ef9 (m : MethodId) (x0 : Addr) (x1 : Int32) (x2 : Int32) : entryFrame m #[(.ref x0), (.int x1), (.int x2)] 4 = mkF m 0 #[.val (.ref x0), .val (.int x1), .val (.int x2), .unset] [] := by first | (simp [entryFrame, mkF, argsToLocals, Value.category]; done) | rfl
def own_cc0Q (Z : State) (b : Addr) (h0 : Heap) (n0 : Nat) (v : Option Value) (h : Heap) (L : List Loc) : Prop := v = none ∧ Fr n0 L ∧ h = h0
abbrev own_cc0R : Room := { frames := 0, cells := 0, slots := 0, locals := 0 }
theorem own_cc0 (l : Launch) (Z : State) (a0 : Array Value) (hw : ∀ d ∈ tables_1, d.before a0 Z = true) (ws : List Jvm.Cond) (b : Addr) (h0 : Heap) (n0 : Nat) (Z0 : n0 ≤ h0.size)  :
    own_M l yN43 jdk_21_method_54_code 4 none ws own_cc0R #[(.ref b), (.int 0), (.int 0)] Z h0 (own_cc0Q Z b h0 n0) := by
 refine own_go (plainFor_of_name own_pn14) (fun m => own_ef9 m b (0 : Int32) (0 : Int32) ) ?_
 intro p e s m below meth c s₁ Bd hx hby hml hZ hh hown hnm X0 e0
 have N0 := Fr.nil n0
 refine own_st (g' := (mkF m 32 #[oR b, oI 0, oI 0, oI 0] [])) (fun _ kt => XS.iloadN X0.here hx rfl (hb hby d60_0) rfl (XS.iloadN X0.here hx rfl (hb hby d60_1) rfl (XS.icmpNo X0.here hx rfl (hb hby d60_2) rfl (XT.ii_gt_f (by decide)) (XS.iloadN X0.here hx rfl (hb hby d60_5) rfl (XS.goto X0.here hx rfl (pc0 := 6) (pc' := 11) rfl (hb hby d60_6) (by decide) (by decide) (XS.istoreN X0.here hx rfl (hb hby d60_11) rfl (l' := #[oR b, oI 0, oI 0, oI 0]) rfl (XS.iloadN X0.here hx rfl (hb hby d60_12) rfl (XS.iloadN X0.here hx rfl (hb hby d60_13) rfl (XS.icmpYes X0.here hx rfl (pc0 := 14) (pc' := 27) rfl (hb hby d60_14) rfl (XT.ii_ge_t (by decide)) (by decide) (by decide) (XS.iloadN X0.here hx rfl (hb hby d60_27) rfl (XS.iloadN X0.here hx rfl (hb hby d60_28) rfl (XS.icmpNo X0.here hx rfl (hb hby d60_29) rfl (XT.ii_ne_f (by decide)) kt)))))))))))) ?_
 refine own_st (g' := (mkF m 42 #[oR b, oI 0, oI 0, oI 0] [])) (fun _ kt => XS.goto X0.here hx rfl (pc0 := 32) (pc' := 42) rfl (hb hby d60_32) (by decide) (by decide) kt) ?_
 obtain ⟨fs, hr, hrun, hended, hW, hsame⟩ := X0.leave (v := none) (fun _ => rfl)
 refine own_end (X0.returnOut hx Bd.returns (hb hby d60_42) hr) ⟨_, hrun, hended, _, _, rfl, ?_, ⟨_, rfl⟩, hW, hsame.mono (by decide) (by decide)⟩
 show own_cc0Q Z _ h0 n0 _ s₁.heap _
 rw [e0]
 exact ⟨rfl, N0, rfl⟩
abbrev c59 := jdk_21_method_53_code
theorem d59_0 : dk c59 0 (.aload_n 0) 1 := by decide +kernel
theorem d59_1 : dk c59 1 (.getfield 3) 3 := by decide +kernel
theorem d59_4 : dk c59 4 (.aload_n 0) 1 := by decide +kernel
theorem d59_5 : dk c59 5 (.getfield 24) 3 := by decide +kernel
theorem d59_8 : dk c59 8 (.aload_n 0) 1 := by decide +kernel
theorem d59_9 : dk c59 9 (.getfield 20) 3 := by decide +kernel
theorem d59_12 : dk c59 12 (.invokestatic 181) 3 := by decide +kernel
theorem own_pd5 : parseMethodDescriptor "([Ljava/lang/Object;II)V" = some ⟨[(.array (.object "java/lang/Object")), .int, .int], none⟩ := by decide +kernel
theorem d59_15 : dk c59 15 (.aload_n 0) 1 := by decide +kernel
theorem d59_16 : dk c59 16 (.aload_n 0) 1 := by decide +kernel
theorem d59_17 : dk c59 17 (.iconst 0) 1 := by decide +kernel
theorem d59_18 : dk c59 18 (.dup_x1) 1 := by decide +kernel
theorem d59_19 : dk c59 19 (.putfield 20) 3 := by decide +kernel
theorem d59_22 : dk c59 22 (.putfield 24) 3 := by decide +kernel
theorem d59_25 : dk c59 25 (.return_) 1 := by decide +kernel
def own_qcQ (Z : State) (a : Addr) (b : Addr) (h0 : Heap) (n0 : Nat) (v : Option Value) (h : Heap) (L : List Loc) : Prop := v = none ∧ Fr n0 L ∧ Keep h0 h [a] ∧ (Exa Z h a zC9) ∧ (Fld Z h a zC9 "elements" zC7 (.ref b)) ∧ (Fld Z h a zC9 "head" "I" (.int 0)) ∧ (Fld Z h a zC9 "tail" "I" (.int 0))
abbrev own_qcR : Room := { frames := 1, cells := 0, slots := 0, locals := 15 }
theorem own_qc (l : Launch) (Z : State) (a0 : Array Value) (hw : ∀ d ∈ tables_1, d.before a0 Z = true) (ws : List Jvm.Cond) (a : Addr) (b : Addr) (h0 : Heap) (n0 : Nat) (Z0 : n0 ≤ h0.size) (pr1 : Exa Z h0 a zC9) (pr2 : n0 ≤ a) (pr3 : Fld Z h0 a zC9 "elements" zC7 (.ref b)) (pr4 : Fld Z h0 a zC9 "head" "I" (.int 0)) (pr5 : Fld Z h0 a zC9 "tail" "I" (.int 0)) :
    own_M l yN20 jdk_21_method_53_code 1 none ws own_qcR #[(.ref a)] Z h0 (own_qcQ Z a b h0 n0) := by
 refine own_go (plainFor_of_name own_pn14) (fun m => own_ef1 m a ) ?_
 intro p e s m below meth c s₁ Bd hx hby hml hZ hh hown hnm X0 e0
 have N0 := Fr.nil n0
 have K0 : Keep h0 h0 [a] := Keep.refl h0 _
 refine own_st (g' := (mkF m 1 #[oR a] [(.ref a)])) (fun _ kt => XS.aloadN X0.here hx rfl (hb hby d59_0) rfl rfl kt) ?_
 obtain ⟨T262, X262, e262, st262⟩ := getF X0 hx hZ hown (host := "") (Or.inl (own_k hw 451 rfl)) Via.refl e0 pr3 (g := (mkF m 1 #[oR a] [(.ref a)])) rfl rfl (hb hby d59_1)
 refine own_st st262 ?_
 refine own_st (g' := (mkF m 5 #[oR a] [(.ref a), (.ref b)])) (fun _ kt => XS.aloadN X262.here hx rfl (hb hby d59_4) rfl rfl kt) ?_
 obtain ⟨T263, X263, e263, st263⟩ := getF X262 hx hZ hown (host := "") (Or.inl (own_k hw 493 rfl)) Via.refl e262 pr4 (g := (mkF m 5 #[oR a] [(.ref a), (.ref b)])) rfl rfl (hb hby d59_5)
 refine own_st st263 ?_
 refine own_st (g' := (mkF m 9 #[oR a] [(.ref a), (.int 0), (.ref b)])) (fun _ kt => XS.aloadN X263.here hx rfl (hb hby d59_8) rfl rfl kt) ?_
 obtain ⟨T264, X264, e264, st264⟩ := getF X263 hx hZ hown (host := "") (Or.inl (own_k hw 495 rfl)) Via.refl e263 pr5 (g := (mkF m 9 #[oR a] [(.ref a), (.int 0), (.ref b)])) rfl rfl (hb hby d59_9)
 refine own_st st264 ?_
 obtain ⟨_, _, ⟨T265, L265, k265, n265⟩, -, X265, ⟨Lc265, hQ265, l265, y265, z265⟩, st265⟩ := Jvm.LawKit.callS X264 hx (y := yN43) hown (mvT hZ (own_k hw 497 rfl)) (mvT hZ (own_k hw 498 rfl)) (mvT hZ (own_k hw 444 rfl)) (mvT hZ (own_k hw 499 rfl)) (by decide) (backOf (W := 0) (own_cc0 l Z a0 hw [] b h0 n0 Z0 ) hZ (own_k hw 499 rfl) (own_k hw 444 rfl) (by decide) (by decide)) (g := (mkF m 12 #[oR a] [(.int 0), (.int 0), (.ref b)])) rfl hml.symm  (argsL := [(.ref b), (.int 0), (.int 0)]) (rest := []) (lenOf own_pd5 rfl) rfl (own_w0 rfl rfl) (hb hby d59_12) (fun _ _ => ⟨rfl, e264, (by decide : 0 + 0 ≤ 0), (by decide : 0 + 0 ≤ 0)⟩)
 dsimp only [Pt.U, Pt.locs, Pt.cells, Pt.slots] at X265 l265 y265 z265 st265 hQ265
 subst l265 y265 z265
 obtain ⟨rfl, N265, e265⟩ := hQ265
 have N266 := Fr.app N0 N265
 refine own_st st265 ?_
 refine own_st (g' := (mkF m 19 #[oR a] [(.int 0), (.ref a), (.int 0), (.ref a)])) (fun _ kt => XS.aloadN X265.here hx rfl (hb hby d59_15) rfl rfl (XS.aloadN X265.here hx rfl (hb hby d59_16) rfl rfl (XS.iconst X265.here hx rfl (hb hby d59_17) (XT.dupX1 X265.here hx rfl (hb hby d59_18) rfl rfl rfl kt)))) ?_
 obtain ⟨T267, h267, X267, e267, W267, st267⟩ := putF X265 hx hZ hown (host := "") (Or.inl (own_k hw 495 rfl)) Via.refl e265 pr5 pr1 (Or.inl (own_k hw 496 rfl)) (own_k hw 443 rfl) (ty := .int) (by decide) rfl rfl (g := (mkF m 19 #[oR a] [(.int 0), (.ref a), (.int 0), (.ref a)])) rfl rfl (hb hby d59_19)
 have N267 := Fr.snoc X267 N266 pr2
 have Z268 := Nat.le_trans Z0 (Nat.le_of_eq (Wr.size W267).symm)
 have K268 := (Keep.wr K0 W267 (Or.inl (List.mem_of_getElem? (i := 0) rfl)))
 have F269 : Fld Z h267 a zC9 "tail" "I" (.int 0) := Fld.same W267 pr5
 refine own_st st267 ?_
 have F270 := (Fld.other W267 pr4 (Or.inr (slot_ne (Or.inl (own_k hw 494 rfl)) (Or.inl (own_k hw 496 rfl)) (by decide) (t := .int) (t' := .int) (by decide) (by decide))))
 have F271 := (Exa.wr W267 pr1)
 obtain ⟨T272, h272, X272, e272, W272, st272⟩ := putF X267 hx hZ hown (host := "") (Or.inl (own_k hw 493 rfl)) Via.refl e267 F270 F271 (Or.inl (own_k hw 494 rfl)) (own_k hw 443 rfl) (ty := .int) (by decide) rfl rfl (g := (mkF m 22 #[oR a] [(.int 0), (.ref a)])) rfl rfl (hb hby d59_22)
 have N272 := Fr.snoc X272 N267 pr2
 have Z273 := Nat.le_trans Z268 (Nat.le_of_eq (Wr.size W272).symm)
 have K273 := (Keep.wr K268 W272 (Or.inl (List.mem_of_getElem? (i := 0) rfl)))
 have F274 : Fld Z h272 a zC9 "head" "I" (.int 0) := Fld.same W272 F270
 refine own_st st272 ?_
 obtain ⟨fs, hr, hrun, hended, hW, hsame⟩ := X272.leave (v := none) (fun _ => rfl)
 refine own_end (X272.returnOut hx Bd.returns (hb hby d59_25) hr) ⟨_, hrun, hended, _, _, rfl, ?_, ⟨_, rfl⟩, hW, hsame.mono (by decide) (by decide)⟩
 have F275 := (Exa.wr W272 F271)
 have F276 := (Fld.other W272 (Fld.other W267 pr3 (Or.inr (slot_ne (Or.inl (own_k hw 452 rfl)) (Or.inl (own_k hw 496 rfl)) (by decide) (t := (.array (.object zC3))) (t' := .int) (by decide) (by decide)))) (Or.inr (slot_ne (Or.inl (own_k hw 452 rfl)) (Or.inl (own_k hw 494 rfl)) (by decide) (t := (.array (.object zC3))) (t' := .int) (by decide) (by decide))))
 have F277 := (Fld.other W272 F269 (Or.inr (slot_ne (Or.inl (own_k hw 496 rfl)) (Or.inl (own_k hw 494 rfl)) (by decide) (t := .int) (t' := .int) (by decide) (by decide))))
 show own_qcQ Z _ _ h0 n0 _ T272.heap _
 rw [e272]
 exact ⟨rfl, N272, K273, F275, F276, F274, F277⟩
abbrev c53 := prog_113_method_1_code
theorem d53_0 : dk c53 0 (.aload_n 0) 1 := by decide +kernel
theorem d53_1 : dk c53 1 (.invokespecial 1) 3 := by decide +kernel
theorem d53_4 : dk c53 4 (.aload_n 0) 1 := by decide +kernel
theorem d53_5 : dk c53 5 (.new 7) 3 := by decide +kernel
theorem d53_8 : dk c53 8 (.dup) 1 := by decide +kernel
theorem d53_9 : dk c53 9 (.invokespecial 9) 3 := by decide +kernel
theorem d53_12 : dk c53 12 (.putfield 10) 3 := by decide +kernel
theorem d53_15 : dk c53 15 (.aload_n 0) 1 := by decide +kernel
theorem d53_16 : dk c53 16 (.iload_n 1) 1 := by decide +kernel
theorem d53_17 : dk c53 17 (.putfield 16) 3 := by decide +kernel
theorem d53_20 : dk c53 20 (.aload_n 0) 1 := by decide +kernel
theorem d53_21 : dk c53 21 (.iload_n 2) 1 := by decide +kernel
theorem d53_22 : dk c53 22 (.putfield 20) 3 := by decide +kernel
theorem d53_25 : dk c53 25 (.return_) 1 := by decide +kernel
theorem own_ef10 (m : MethodId) (x0 : Addr) (x1 : Int32) (x2 : Int32) : entryFrame m #[(.ref x0), (.int x1), (.int x2)] 3 = mkF m 0 #[.val (.ref x0), .val (.int x1), .val (.int x2)] [] := by first | (simp [entryFrame, mkF, argsToLocals, Value.category]; done) | rfl
def own_bkQ (Z : State) (a : Addr) (u1 : Int32) (u2 : Int32) (h0 : Heap) (n0 : Nat) (v : Option Value) (h : Heap) (L : List Loc) : Prop := ∃ (d : Addr), ∃ (b : Addr), v = none ∧ Fr n0 L ∧ Keep h0 h [a] ∧ (Exa Z h a zC13) ∧ (Fld Z h a zC13 "pending" zC26 (.ref d)) ∧ (Exa Z h d zC9) ∧ (Fld Z h d zC9 "elements" zC7 (.ref b)) ∧ (Fld Z h d zC9 "head" "I" (.int 0)) ∧ (Fld Z h d zC9 "tail" "I" (.int 0)) ∧ (h0.size ≤ d)
theorem own_pn15 : plainName "com/example/millrace/millrace/cluster/Shares$Backup" = true := by first | (simp [plainName, overriddenIn]; done) | decide +kernel
abbrev own_bkR : Room := { frames := 3, cells := 2, slots := 20, locals := 38 }
theorem own_bk (l : Launch) (Z : State) (a0 : Array Value) (hw : ∀ d ∈ tables_1, d.before a0 Z = true) (ws : List Jvm.Cond) (a : Addr) (u1 : Int32) (u2 : Int32) (h0 : Heap) (n0 : Nat) (Z0 : n0 ≤ h0.size) (pr1 : Exa Z h0 a zC13) (pr2 : n0 ≤ a) (pr3 : Fld Z h0 a zC13 "pending" zC26 .null) (pr4 : Fld Z h0 a zC13 "partition" "I" (.int 0)) (pr5 : Fld Z h0 a zC13 "worker" "I" (.int 0)) :
    own_M l yN9 prog_113_method_1_code 3 none ws own_bkR #[(.ref a), (.int u1), (.int u2)] Z h0 (own_bkQ Z a u1 u2 h0 n0) := by
 refine own_go (plainFor_of_name own_pn15) (fun m => own_ef10 m a u1 u2 ) ?_
 intro p e s m below meth c s₁ Bd hx hby hml hZ hh hown hnm X0 e0
 have N0 := Fr.nil n0
 have K0 : Keep h0 h0 [a] := Keep.refl h0 _
 refine own_st (g' := (mkF m 1 #[oR a, oI u1, oI u2] [(.ref a)])) (fun _ kt => XS.aloadN X0.here hx rfl (hb hby d53_0) rfl rfl kt) ?_
 obtain ⟨T278, X278, e278, st278⟩ := initO X0 hx hZ hown (own_k hw 441 rfl) (own_k hw 11 rfl) (own_k hw 12 rfl) e0 (g := (mkF m 1 #[oR a, oI u1, oI u2] [(.ref a)])) rfl hml.symm rfl (hb hby d53_1) (by decide) (W := 0) (own_w0 rfl rfl) (by decide)
 refine own_st st278 ?_
 refine own_st (g' := (mkF m 5 #[oR a, oI u1, oI u2] [(.ref a)])) (fun _ kt => XS.aloadN X278.here hx rfl (hb hby d53_4) rfl rfl kt) ?_
 obtain ⟨T279, h279, X279, e279, E279, A279, D279, -, st279⟩ := newO X278 hx hZ hown (own_k hw 442 rfl) (own_k hw 443 rfl) (own_k hw 444 rfl) e278 (g := (mkF m 5 #[oR a, oI u1, oI u2] [(.ref a)])) rfl (hb hby d53_5) (by decide) (by decide)
 obtain ⟨b279, g279⟩ : ∃ z, z = h0.size := ⟨_, rfl⟩
 rw [← g279] at A279 D279 st279
 have Z280 := Nat.le_trans Z0 E279.1
 have K280 := (Keep.ext K0 E279)
 have ge_b279 : n0 ≤ b279 := Nat.le_trans Z0 (Nat.le_of_eq g279.symm)
 have F281 : Fld Z h279 b279 zC9 "elements" zC7 .null := D279 (Or.inl (own_k hw 452 rfl)) (ty := (.array (.object zC3))) (by decide)
 have F282 : Fld Z h279 b279 zC9 "head" "I" (.int 0) := D279 (Or.inl (own_k hw 494 rfl)) (ty := .int) (by decide)
 have F283 : Fld Z h279 b279 zC9 "tail" "I" (.int 0) := D279 (Or.inl (own_k hw 496 rfl)) (ty := .int) (by decide)
 refine own_st st279 ?_
 refine own_st (g' := (mkF m 9 #[oR a, oI u1, oI u2] [(.ref b279), (.ref b279), (.ref a)])) (fun _ kt => XS.dup X279.here hx rfl (hb hby d53_8) rfl rfl kt) ?_
 obtain ⟨_, _, ⟨T284, L284, k284, n284⟩, -, X284, ⟨Lc284, hQ284, l284, y284, z284⟩, st284⟩ := X279.specialBack hx (y := yN42) rfl hown (mvT hZ (own_k hw 445 rfl)) (mvT hZ (own_k hw 446 rfl)) (mvT hZ (own_k hw 447 rfl)) (by decide) (backOf (W := 2) (own_qi l Z a0 hw [] b279 h279 n0 Z280 A279 ge_b279 F281 F282 F283) hZ (own_k hw 447 rfl) (own_k hw 444 rfl) (by decide) (by decide)) (g := (mkF m 9 #[oR a, oI u1, oI u2] [(.ref b279), (.ref b279), (.ref a)])) rfl hml.symm (Steps.refl _) (a := b279) (argsL := []) (rest := [(.ref b279), (.ref a)]) (lenOf own_pd1 rfl) rfl (own_w0 rfl rfl) (hb hby d53_9) (fun _ _ => ⟨rfl, e279, (by decide : 1 + 1 ≤ 2), (by decide : 3 + 17 ≤ 20)⟩)
 dsimp only [Pt.U, Pt.locs, Pt.cells, Pt.slots] at X284 l284 y284 z284 st284 hQ284
 subst l284 y284 z284
 obtain ⟨b_284, kb_284, rfl, N284, K284_, P285, P286, P287, P288, P289, P290⟩ := hQ284
 have N291 := Fr.app N0 N284
 have Z292 := Nat.le_trans Z280 K284_.1
 have K292 := (Keep.trans K280 K284_ (allS (Or.inr (Nat.le_trans K0.1 (Nat.le_of_eq g279.symm))) all0))
 have ge293 : n0 ≤ b_284 := Nat.le_trans Z280 P290
 refine own_tr st284 ?_
 have ne294 : a ≠ b279 := (Nat.ne_of_lt (Nat.lt_of_lt_of_le pr1.lt (Nat.le_of_eq g279.symm)))
 have F295 := (Fld.keep (Fld.ext E279 pr3) K284_ (ninS ne294 nin0))
 have F296 := (Exa.keep pr1 K292)
 obtain ⟨T297, h297, X297, e297, W297, st297⟩ := putF X284 hx hZ hown (host := "") (Or.inl (own_k hw 453 rfl)) Via.refl rfl F295 F296 (Or.inr ⟨(own_k hw 454 rfl), rfl, hnm⟩) (own_k hw 436 rfl) (ty := (.object zC9)) (by decide) rfl rfl (g := (mkF m 12 #[oR a, oI u1, oI u2] [(.ref b279), (.ref a)])) rfl rfl (hb hby d53_12)
 have N297 := Fr.snoc X297 N291 pr2
 have Z298 := Nat.le_trans Z292 (Nat.le_of_eq (Wr.size W297).symm)
 have K298 := (Keep.wr K292 W297 (Or.inl (List.mem_of_getElem? (i := 0) rfl)))
 have F299 : Fld Z h297 a zC13 "pending" zC26 (.ref b279) := Fld.same W297 F295
 refine own_st st297 ?_
 refine own_st (g' := (mkF m 17 #[oR a, oI u1, oI u2] [(.int u1), (.ref a)])) (fun _ kt => XS.aloadN X297.here hx rfl (hb hby d53_15) rfl rfl (XS.iloadN X297.here hx rfl (hb hby d53_16) rfl kt)) ?_
 have F300 := (Fld.other W297 (Fld.keep (Fld.ext E279 pr4) K284_ (ninS ne294 nin0)) (Or.inr (slot_ne (Or.inr (own_k hw 456 rfl)) (Or.inr (own_k hw 454 rfl)) (by decide) (t := .int) (t' := (.object zC9)) (by decide) (by decide))))
 have F301 := (Exa.wr W297 F296)
 obtain ⟨T302, h302, X302, e302, W302, st302⟩ := putF X297 hx hZ hown (host := "") (Or.inl (own_k hw 455 rfl)) Via.refl e297 F300 F301 (Or.inr ⟨(own_k hw 456 rfl), rfl, hnm⟩) (own_k hw 436 rfl) (ty := .int) (by decide) rfl rfl (g := (mkF m 17 #[oR a, oI u1, oI u2] [(.int u1), (.ref a)])) rfl rfl (hb hby d53_17)
 have N302 := Fr.snoc X302 N297 pr2
 have Z303 := Nat.le_trans Z298 (Nat.le_of_eq (Wr.size W302).symm)
 have K303 := (Keep.wr K298 W302 (Or.inl (List.mem_of_getElem? (i := 0) rfl)))
 have F304 : Fld Z h302 a zC13 "partition" "I" (.int u1) := Fld.same W302 F300
 refine own_st st302 ?_
 refine own_st (g' := (mkF m 22 #[oR a, oI u1, oI u2] [(.int u2), (.ref a)])) (fun _ kt => XS.aloadN X302.here hx rfl (hb hby d53_20) rfl rfl (XS.iloadN X302.here hx rfl (hb hby d53_21) rfl kt)) ?_
 have F305 := (Fld.other W302 (Fld.other W297 (Fld.keep (Fld.ext E279 pr5) K284_ (ninS ne294 nin0)) (Or.inr (slot_ne (Or.inl (own_k hw 458 rfl)) (Or.inr (own_k hw 454 rfl)) (by decide) (t := .int) (t' := (.object zC9)) (by decide) (by decide)))) (Or.inr (slot_ne (Or.inl (own_k hw 458 rfl)) (Or.inr (own_k hw 456 rfl)) (by decide) (t := .int) (t' := .int) (by decide) (by decide))))
 have F306 := (Exa.wr W302 F301)
 obtain ⟨T307, h307, X307, e307, W307, st307⟩ := putF X302 hx hZ hown (host := "") (Or.inl (own_k hw 457 rfl)) Via.refl e302 F305 F306 (Or.inl (own_k hw 458 rfl)) (own_k hw 436 rfl) (ty := .int) (by decide) rfl rfl (g := (mkF m 22 #[oR a, oI u1, oI u2] [(.int u2), (.ref a)])) rfl rfl (hb hby d53_22)
 have N307 := Fr.snoc X307 N302 pr2
 have Z308 := Nat.le_trans Z303 (Nat.le_of_eq (Wr.size W307).symm)
 have K308 := (Keep.wr K303 W307 (Or.inl (List.mem_of_getElem? (i := 0) rfl)))
 have F309 : Fld Z h307 a zC13 "worker" "I" (.int u2) := Fld.same W307 F305
 refine own_st st307 ?_
 obtain ⟨fs, hr, hrun, hended, hW, hsame⟩ := X307.leave (v := none) (fun _ => rfl)
 refine own_end (X307.returnOut hx Bd.returns (hb hby d53_25) hr) ⟨_, hrun, hended, _, _, rfl, ?_, ⟨_, rfl⟩, hW, hsame.mono (by decide) (by decide)⟩
 have F310 := (Exa.wr W307 F306)
 have F311 := (Fld.other W307 (Fld.other W302 F299 (Or.inr (slot_ne (Or.inr (own_k hw 454 rfl)) (Or.inr (own_k hw 456 rfl)) (by decide) (t := (.object zC9)) (t' := .int) (by decide) (by decide)))) (Or.inr (slot_ne (Or.inr (own_k hw 454 rfl)) (Or.inl (own_k hw 458 rfl)) (by decide) (t := (.object zC9)) (t' := .int) (by decide) (by decide))))
 have F312 := (Exa.wr W307 (Exa.wr W302 (Exa.wr W297 P285)))
 have F313 := (Fld.other W307 (Fld.other W302 (Fld.other W297 P286 (Or.inl (Ne.symm ne294))) (Or.inl (Ne.symm ne294))) (Or.inl (Ne.symm ne294)))
 have F314 := (Fld.other W307 (Fld.other W302 (Fld.other W297 P287 (Or.inl (Ne.symm ne294))) (Or.inl (Ne.symm ne294))) (Or.inl (Ne.symm ne294)))
 have F315 := (Fld.other W307 (Fld.other W302 (Fld.other W297 P288 (Or.inl (Ne.symm ne294))) (Or.inl (Ne.symm ne294))) (Or.inl (Ne.symm ne294)))
 show own_bkQ Z _ _ _ h0 n0 _ T307.heap _
 rw [e307]
 exact ⟨b279, b_284, rfl, N307, K308, F310, F311, F312, F313, F314, F315, (Nat.le_trans K0.1 (Nat.le_of_eq g279.symm))⟩
abbrev c28 := prog_116_method_1_code
theorem d28_0 : dk c28 0 (.aload_n 0) 1 := by decide +kernel
theorem d28_1 : dk c28 1 (.invokespecial 1) 3 := by decide +kernel
theorem d28_4 : dk c28 4 (.aload_n 0) 1 := by decide +kernel
theorem d28_5 : dk c28 5 (.new 7) 3 := by decide +kernel
theorem d28_8 : dk c28 8 (.dup) 1 := by decide +kernel
theorem d28_9 : dk c28 9 (.invokespecial 9) 3 := by decide +kernel
theorem d28_12 : dk c28 12 (.putfield 10) 3 := by decide +kernel
theorem d28_15 : dk c28 15 (.aload_n 0) 1 := by decide +kernel
theorem d28_16 : dk c28 16 (.iload_n 1) 1 := by decide +kernel
theorem d28_17 : dk c28 17 (.putfield 16) 3 := by decide +kernel
theorem d28_20 : dk c28 20 (.return_) 1 := by decide +kernel
def own_srQ (Z : State) (a : Addr) (u1 : Int32) (de : Addr) (h0 : Heap) (n0 : Nat) (v : Option Value) (h : Heap) (L : List Loc) : Prop := ∃ (d : Addr), v = none ∧ Fr n0 L ∧ Keep h0 h [a] ∧ (Fld Z h a zC5 "ownedFrom" "I" (.int 0)) ∧ (Fld Z h a zC5 "written" "Z" (.int 0)) ∧ (Fld Z h a zC5 "writtenTo" "J" (.long (0 : Int64))) ∧ (Exa Z h a zC5) ∧ (Fld Z h a zC5 "backups" zC16 (.ref d)) ∧ (Fld Z h a zC5 "owner" "I" (.int u1)) ∧ (Exa Z h d zC1) ∧ (Fld Z h d zC10 "modCount" "I" (.int 0)) ∧ (Fld Z h d zC1 "elementData" zC7 (.ref de)) ∧ (Fld Z h d zC1 "size" "I" (.int 0)) ∧ (h0.size ≤ d)
theorem own_pn16 : plainName "com/example/millrace/millrace/cluster/Shares$Share" = true := by first | (simp [plainName, overriddenIn]; done) | decide +kernel
abbrev own_srR : Room := { frames := 4, cells := 1, slots := 3, locals := 50 }
theorem own_sr (l : Launch) (Z : State) (a0 : Array Value) (hw : ∀ d ∈ tables_1, d.before a0 Z = true) (ws : List Jvm.Cond) (a : Addr) (u1 : Int32) (de : Addr) (h0 : Heap) (n0 : Nat) (Z0 : n0 ≤ h0.size) (pr1 : Old Z n0 h0) (pr2 : Sta Z Z.heap zC1 "DEFAULTCAPACITY_EMPTY_ELEMENTDATA" zC7 (.ref de)) (pr3 : Exa Z h0 a zC5) (pr4 : n0 ≤ a) (pr5 : Fld Z h0 a zC5 "backups" zC16 .null) (pr6 : Fld Z h0 a zC5 "owner" "I" (.int 0)) (pr7 : Fld Z h0 a zC5 "ownedFrom" "I" (.int 0)) (pr8 : Fld Z h0 a zC5 "written" "Z" (.int 0)) (pr9 : Fld Z h0 a zC5 "writtenTo" "J" (.long (0 : Int64))) :
    own_M l yN44 prog_116_method_1_code 2 none ws own_srR #[(.ref a), (.int u1)] Z h0 (own_srQ Z a u1 de h0 n0) := by
 refine own_go (plainFor_of_name own_pn16) (fun m => own_ef6 m a u1 ) ?_
 intro p e s m below meth c s₁ Bd hx hby hml hZ hh hown hnm X0 e0
 have N0 := Fr.nil n0
 have K0 : Keep h0 h0 [a] := Keep.refl h0 _
 refine own_st (g' := (mkF m 1 #[oR a, oI u1] [(.ref a)])) (fun _ kt => XS.aloadN X0.here hx rfl (hb hby d28_0) rfl rfl kt) ?_
 obtain ⟨T316, X316, e316, st316⟩ := initO X0 hx hZ hown (own_k hw 262 rfl) (own_k hw 11 rfl) (own_k hw 12 rfl) e0 (g := (mkF m 1 #[oR a, oI u1] [(.ref a)])) rfl hml.symm rfl (hb hby d28_1) (by decide) (W := 0) (own_w0 rfl rfl) (by decide)
 refine own_st st316 ?_
 refine own_st (g' := (mkF m 5 #[oR a, oI u1] [(.ref a)])) (fun _ kt => XS.aloadN X316.here hx rfl (hb hby d28_4) rfl rfl kt) ?_
 obtain ⟨T317, h317, X317, e317, E317, A317, D317, -, st317⟩ := newO X316 hx hZ hown (own_k hw 263 rfl) (own_k hw 33 rfl) (own_k hw 34 rfl) e316 (g := (mkF m 5 #[oR a, oI u1] [(.ref a)])) rfl (hb hby d28_5) (by decide) (by decide)
 obtain ⟨b317, g317⟩ : ∃ z, z = h0.size := ⟨_, rfl⟩
 rw [← g317] at A317 D317 st317
 have Z318 := Nat.le_trans Z0 E317.1
 have K318 := (Keep.ext K0 E317)
 have ge_b317 : n0 ≤ b317 := Nat.le_trans Z0 (Nat.le_of_eq g317.symm)
 have F319 : Fld Z h317 b317 zC10 "modCount" "I" (.int 0) := D317 (Or.inl (own_k hw 52 rfl)) (ty := .int) (by decide)
 have F320 : Fld Z h317 b317 zC1 "elementData" zC7 .null := D317 (Or.inl (own_k hw 55 rfl)) (ty := (.array (.object zC3))) (by decide)
 have F321 : Fld Z h317 b317 zC1 "size" "I" (.int 0) := D317 (Or.inl (own_k hw 126 rfl)) (ty := .int) (by decide)
 refine own_st st317 ?_
 refine own_st (g' := (mkF m 9 #[oR a, oI u1] [(.ref b317), (.ref b317), (.ref a)])) (fun _ kt => XS.dup X317.here hx rfl (hb hby d28_8) rfl rfl kt) ?_
 have F322 := (Old.ext pr1 E317)
 obtain ⟨_, _, ⟨T323, L323, k323, n323⟩, -, X323, ⟨Lc323, hQ323, l323, y323, z323⟩, st323⟩ := X317.specialBack hx (y := yN8) rfl hown (mvT hZ (own_k hw 264 rfl)) (mvT hZ (own_k hw 36 rfl)) (mvT hZ (own_k hw 37 rfl)) (by decide) (backOf (W := 2) (own_ali l Z a0 hw [] b317 de h317 n0 Z318 F322 pr2 A317 ge_b317 F319 F320 F321) hZ (own_k hw 37 rfl) (own_k hw 34 rfl) (by decide) (by decide)) (g := (mkF m 9 #[oR a, oI u1] [(.ref b317), (.ref b317), (.ref a)])) rfl hml.symm (Steps.refl _) (a := b317) (argsL := []) (rest := [(.ref b317), (.ref a)]) (lenOf own_pd1 rfl) rfl (own_w0 rfl rfl) (hb hby d28_9) (fun _ _ => ⟨rfl, e317, (by decide : 1 + 0 ≤ 1), (by decide : 3 + 0 ≤ 3)⟩)
 dsimp only [Pt.U, Pt.locs, Pt.cells, Pt.slots] at X323 l323 y323 z323 st323 hQ323
 subst l323 y323 z323
 obtain ⟨rfl, N323, K323_, P324, P325, P326, P327⟩ := hQ323
 have N328 := Fr.app N0 N323
 have Z329 := Nat.le_trans Z318 K323_.1
 have K329 := (Keep.trans K318 K323_ (allS (Or.inr (Nat.le_trans K0.1 (Nat.le_of_eq g317.symm))) all0))
 refine own_tr st323 ?_
 have ne330 : a ≠ b317 := (Nat.ne_of_lt (Nat.lt_of_lt_of_le pr3.lt (Nat.le_of_eq g317.symm)))
 have F331 := (Fld.keep (Fld.ext E317 pr5) K323_ (ninS ne330 nin0))
 have F332 := (Exa.keep pr3 K329)
 obtain ⟨T333, h333, X333, e333, W333, st333⟩ := putF X323 hx hZ hown (host := "") (Or.inl (own_k hw 265 rfl)) Via.refl rfl F331 F332 (Or.inr ⟨(own_k hw 266 rfl), rfl, hnm⟩) (own_k hw 257 rfl) (ty := (.object zC11)) (by decide) rfl rfl (g := (mkF m 12 #[oR a, oI u1] [(.ref b317), (.ref a)])) rfl rfl (hb hby d28_12)
 have N333 := Fr.snoc X333 N328 pr4
 have Z334 := Nat.le_trans Z329 (Nat.le_of_eq (Wr.size W333).symm)
 have K334 := (Keep.wr K329 W333 (Or.inl (List.mem_of_getElem? (i := 0) rfl)))
 have F335 : Fld Z h333 a zC5 "backups" zC16 (.ref b317) := Fld.same W333 F331
 refine own_st st333 ?_
 refine own_st (g' := (mkF m 17 #[oR a, oI u1] [(.int u1), (.ref a)])) (fun _ kt => XS.aloadN X333.here hx rfl (hb hby d28_15) rfl rfl (XS.iloadN X333.here hx rfl (hb hby d28_16) rfl kt)) ?_
 have F336 := (Fld.other W333 (Fld.keep (Fld.ext E317 pr6) K323_ (ninS ne330 nin0)) (Or.inr (slot_ne (Or.inl (own_k hw 268 rfl)) (Or.inr (own_k hw 266 rfl)) (by decide) (t := .int) (t' := (.object zC11)) (by decide) (by decide))))
 have F337 := (Exa.wr W333 F332)
 obtain ⟨T338, h338, X338, e338, W338, st338⟩ := putF X333 hx hZ hown (host := "") (Or.inl (own_k hw 267 rfl)) Via.refl e333 F336 F337 (Or.inl (own_k hw 268 rfl)) (own_k hw 257 rfl) (ty := .int) (by decide) rfl rfl (g := (mkF m 17 #[oR a, oI u1] [(.int u1), (.ref a)])) rfl rfl (hb hby d28_17)
 have N338 := Fr.snoc X338 N333 pr4
 have Z339 := Nat.le_trans Z334 (Nat.le_of_eq (Wr.size W338).symm)
 have K339 := (Keep.wr K334 W338 (Or.inl (List.mem_of_getElem? (i := 0) rfl)))
 have F340 : Fld Z h338 a zC5 "owner" "I" (.int u1) := Fld.same W338 F336
 refine own_st st338 ?_
 obtain ⟨fs, hr, hrun, hended, hW, hsame⟩ := X338.leave (v := none) (fun _ => rfl)
 refine own_end (X338.returnOut hx Bd.returns (hb hby d28_20) hr) ⟨_, hrun, hended, _, _, rfl, ?_, ⟨_, rfl⟩, hW, hsame.mono (by decide) (by decide)⟩
 have F341 := (Fld.other W338 (Fld.other W333 (Fld.keep (Fld.ext E317 pr7) K323_ (ninS ne330 nin0)) (Or.inr (slot_ne (Or.inl (own_k hw 323 rfl)) (Or.inr (own_k hw 266 rfl)) (by decide) (t := .int) (t' := (.object zC11)) (by decide) (by decide)))) (Or.inr (slot_ne (Or.inl (own_k hw 323 rfl)) (Or.inl (own_k hw 268 rfl)) (by decide) (t := .int) (t' := .int) (by decide) (by decide))))
 have F342 := (Fld.other W338 (Fld.other W333 (Fld.keep (Fld.ext E317 pr8) K323_ (ninS ne330 nin0)) (Or.inr (slot_ne (Or.inl (own_k hw 390 rfl)) (Or.inr (own_k hw 266 rfl)) (by decide) (t := .boolean) (t' := (.object zC11)) (by decide) (by decide)))) (Or.inr (slot_ne (Or.inl (own_k hw 390 rfl)) (Or.inl (own_k hw 268 rfl)) (by decide) (t := .boolean) (t' := .int) (by decide) (by decide))))
 have F343 := (Fld.other W338 (Fld.other W333 (Fld.keep (Fld.ext E317 pr9) K323_ (ninS ne330 nin0)) (Or.inr (slot_ne (Or.inl (own_k hw 392 rfl)) (Or.inr (own_k hw 266 rfl)) (by decide) (t := .long) (t' := (.object zC11)) (by decide) (by decide)))) (Or.inr (slot_ne (Or.inl (own_k hw 392 rfl)) (Or.inl (own_k hw 268 rfl)) (by decide) (t := .long) (t' := .int) (by decide) (by decide))))
 have F344 := (Exa.wr W338 F337)
 have F345 := (Fld.other W338 F335 (Or.inr (slot_ne (Or.inr (own_k hw 266 rfl)) (Or.inl (own_k hw 268 rfl)) (by decide) (t := (.object zC11)) (t' := .int) (by decide) (by decide))))
 have F346 := (Exa.wr W338 (Exa.wr W333 P324))
 have F347 := (Fld.other W338 (Fld.other W333 P325 (Or.inl (Ne.symm ne330))) (Or.inl (Ne.symm ne330)))
 have F348 := (Fld.other W338 (Fld.other W333 P326 (Or.inl (Ne.symm ne330))) (Or.inl (Ne.symm ne330)))
 have F349 := (Fld.other W338 (Fld.other W333 P327 (Or.inl (Ne.symm ne330))) (Or.inl (Ne.symm ne330)))
 show own_srQ Z _ _ _ h0 n0 _ T338.heap _
 rw [e338]
 exact ⟨b317, rfl, N338, K339, F341, F342, F343, F344, F345, F340, F346, F347, F348, F349, (Nat.le_trans K0.1 (Nat.le_of_eq g317.symm))⟩
theorem own_tn {i : Nat} (h : i ≤ 1000) : (Int32.ofNat i).toNatClampNeg = i := by
  rw [Int32.toNatClampNeg, Int32.toInt_ofNat_of_lt (by omega)]; omega
theorem own_ti {i : Nat} (h : i ≤ 1000) : (Int32.ofNat i).toInt = (i : Int) := Int32.toInt_ofNat_of_lt (by omega)
theorem own_idx {i k : Nat} (h : i < k) (hk : k ≤ 1000) : ¬ Int32.ofNat i < 0 ∧ Int32.ofNat i < Int32.ofNat k := by
  rw [Int32.lt_iff_toInt_lt, Int32.lt_iff_toInt_lt, own_ti (by omega), own_ti hk, show (0 : Int32).toInt = 0 from rfl]; omega
theorem own_succ {n : Nat} (h2 : n ≤ 999) : Int32.ofNat n + 1 = Int32.ofNat (n + 1) := by
  rw [← Int32.toInt_inj, Int32.toInt_add, own_ti (by omega), own_ti (by omega), show (1 : Int32).toInt = 1 from rfl, Int.bmod_eq_of_le (by omega) (by omega)]; omega
theorem own_ige {i n : Nat} (hi : i ≤ 1000) (hn : n ≤ 1000) : Int32.ofNat i < Int32.ofNat n ↔ i < n := by
  rw [Int32.lt_iff_toInt_lt, own_ti hi, own_ti hn]; omega
abbrev c18 := jdk_65_method_101_code
theorem d18_6 : dk c18 6 (.iload_n 3) 1 := by decide +kernel
theorem d18_7 : dk c18 7 (.iload 4) 2 := by decide +kernel
theorem d18_9 : dk c18 9 (.if_icmp .ge 13) 3 := by decide +kernel
theorem d18_12 : dk c18 12 (.aload_n 0) 1 := by decide +kernel
theorem d18_13 : dk c18 13 (.iload_n 3) 1 := by decide +kernel
theorem d18_14 : dk c18 14 (.lload_n 1) 1 := by decide +kernel
theorem d18_15 : dk c18 15 (.lastore) 1 := by decide +kernel
theorem d18_16 : dk c18 16 (.iinc 3 1) 3 := by decide +kernel
theorem d18_19 : dk c18 19 (.goto (-13)) 3 := by decide +kernel
theorem d18_22 : dk c18 22 (.return_) 1 := by decide +kernel
theorem d18_0 : dk c18 0 (.iconst 0) 1 := by decide +kernel
theorem d18_1 : dk c18 1 (.istore_n 3) 1 := by decide +kernel
theorem d18_2 : dk c18 2 (.aload_n 0) 1 := by decide +kernel
theorem d18_3 : dk c18 3 (.arraylength) 1 := by decide +kernel
theorem d18_4 : dk c18 4 (.istore 4) 2 := by decide +kernel
theorem own_ef11 (m : MethodId) (x0 : Addr) (x1 : Int64) : entryFrame m #[(.ref x0), (.long x1)] 5 = mkF m 0 #[.val (.ref x0), .val (.long x1), .second, .unset, .unset] [] := by first | (simp [entryFrame, mkF, argsToLocals, Value.category]; done) | rfl
def own_flQ (Z : State) (b : Addr) (kb : ClassId) (np : Nat) (vs : List Value) (x : Int64) (h0 : Heap) (n0 : Nat) (v : Option Value) (h : Heap) (L : List Loc) : Prop := ∃ (ws : List Value), v = none ∧ Fr n0 L ∧ Keep h0 h [b] ∧ (Arv Z h b kb .long (Int32.ofNat np) ws (Value.long (0 : Int64))) ∧ (ws.length = np)
theorem own_pn17 : plainName "java/util/Arrays" = true := by first | (simp [plainName, overriddenIn]; done) | decide +kernel
abbrev own_flR : Room := { frames := 0, cells := 0, slots := 0, locals := 0 }
theorem own_fl (l : Launch) (Z : State) (a0 : Array Value) (hw : ∀ d ∈ tables_1, d.before a0 Z = true) (ws : List Jvm.Cond) (b : Addr) (kb : ClassId) (np : Nat) (vs : List Value) (x : Int64) (h0 : Heap) (n0 : Nat) (Z0 : n0 ≤ h0.size) (pr1 : n0 ≤ b) (pr2 : Arv Z h0 b kb .long (Int32.ofNat np) vs (Value.long (0 : Int64))) (pr3 : vs.length = np) (pr4 : np ≤ 7) :
    own_M l yN10 jdk_65_method_101_code 5 none ws own_flR #[(.ref b), (.long x)] Z h0 (own_flQ Z b kb np vs x h0 n0) := by
 refine own_go (plainFor_of_name own_pn17) (fun m => own_ef11 m b x ) ?_
 intro p e s m below meth c s₁ Bd hx hby hml hZ hh hown hnm X0 e0
 have N0 := Fr.nil n0
 have K0 : Keep h0 h0 [b] := Keep.refl h0 _
 refine own_loopH (α := Nat × List Value) X0 (cs := fun kk => 0) (sl := fun kk => 0) (gj := fun q => (mkF m 6 #[oR b, .val (.long x), .second, oJ q.1, oJ np] [])) (P := fun kk L_ h_ q => (Fr n0 L_) ∧ (n0 ≤ h_.size) ∧ (Keep h0 h_ [b]) ∧ (Arv Z h_ b kb .long (Int32.ofNat np) q.2 (Value.long (0 : Int64))) ∧ (q.2.length = np ∧ q.1 ≤ np ∧ np - q.1 = kk)) ?_ (fun J350 => ?_)
 ·
  rintro kk ih350 T350 L350 h350 ⟨i, us⟩ ⟨N350, Z350, K350, F351, hj350⟩ X350 e350
  try dsimp only at F351 hj350 X350 ⊢
  have hj := hj350
  have hn7 := pr4
  refine own_st (g' := (mkF m 9 #[oR b, .val (.long x), .second, oJ i, oJ np] [vJ np, vJ i])) (fun _ kt => XS.iloadN X350.here hx rfl (hb hby d18_6) rfl (XS.iload X350.here hx rfl (hb hby d18_7) rfl kt)) ?_
  by_cases hc352 : (Int32.ofNat i) < (Int32.ofNat np)
  ·
   refine own_st (g' := (mkF m 12 #[oR b, .val (.long x), .second, oJ i, oJ np] [])) (fun _ kt => XS.icmpNo X350.here hx rfl (hb hby d18_9) rfl (XT.ii_ge_f hc352) kt) ?_
   have hi1 : i < np := (own_ige (by omega) (by omega)).mp hc352
   refine own_st (g' := (mkF m 15 #[oR b, .val (.long x), .second, oJ i, oJ np] [(.long x), vJ i, (.ref b)])) (fun _ kt => XS.aloadN X350.here hx rfl (hb hby d18_12) rfl rfl (XS.iloadN X350.here hx rfl (hb hby d18_13) rfl (XT.lloadN X350.here hx rfl (hb hby d18_14) rfl kt))) ?_
   obtain ⟨T353, h353, X353, e353, W353, V353, st353⟩ := own_lst X350 hx hZ e350 F351 (own_idx (by omega) (by omega)) (i := i) (own_tn (by omega)) (by omega) (g := (mkF m 15 #[oR b, .val (.long x), .second, oJ i, oJ np] [(.long x), vJ i, (.ref b)])) rfl rfl (hb hby d18_15)
   have N353 := Fr.snoc X353 N350 pr1
   have Z354 := Nat.le_trans Z350 (Nat.le_of_eq (Wr.size W353).symm)
   have K354 := (Keep.wr K350 W353 (Or.inl (List.mem_of_getElem? (i := 0) rfl)))
   have F355 : Arv Z h353 b kb .long (Int32.ofNat np) (us.set i (.long x)) (Value.long (0 : Int64)) := V353
   refine own_st st353 ?_
   refine own_st (g' := (mkF m 19 #[oR b, .val (.long x), .second, oI ((Int32.ofNat i) + (1 : Int32)), oJ np] [])) (fun _ kt => XS.iinc X353.here hx rfl (hb hby d18_16) rfl (l' := #[oR b, .val (.long x), .second, oI ((Int32.ofNat i) + (1 : Int32)), oJ np]) rfl kt) ?_
   rw [own_succ (n := i) (by omega)]
   refine own_st (g' := (mkF m 6 #[oR b, .val (.long x), .second, oJ (i + 1), oJ np] [])) (fun _ kt => XS.goto X353.here hx rfl (pc0 := 19) (pc' := 6) rfl (hb hby d18_19) (by decide) (by decide) kt) ?_
   exact ih350 (np - (i + 1)) (by have := hj.2.2; omega) _ _ _ ⟨(i + 1), (us.set i (.long x))⟩ ⟨N353, Z354, K354, F355, ⟨by rw [List.length_set]; exact hj.1, hi1, rfl⟩⟩ (X353.mono (by first | decide | exact Nat.le_add_right_of_le (by decide) | ((try dsimp only [Pt.cells, Pt.slots]); omega)) (by first | decide | exact Nat.le_add_right_of_le (by decide) | ((try dsimp only [Pt.cells, Pt.slots]); omega))) e353
  ·
   refine own_st (g' := (mkF m 22 #[oR b, .val (.long x), .second, oJ i, oJ np] [])) (fun _ kt => XS.icmpYes X350.here hx rfl (pc0 := 9) (pc' := 22) rfl (hb hby d18_9) rfl (XT.ii_ge_t hc352) (by decide) (by decide) kt) ?_
   obtain ⟨fs, hr, hrun, hended, hW, hsame⟩ := X350.leave (v := none) (fun _ => rfl)
   refine own_end (X350.returnOut hx Bd.returns (hb hby d18_22) hr) ⟨_, hrun, hended, _, _, rfl, ?_, ⟨_, rfl⟩, hW, hsame.mono (by show _ ≤ (0 : Nat); (try dsimp only [Pt.cells, Pt.slots]); omega) (by show _ ≤ (0 : Nat); (try dsimp only [Pt.cells, Pt.slots]); omega)⟩
   show own_flQ Z _ _ _ _ _ h0 n0 _ T350.heap _
   rw [e350]
   exact ⟨us, rfl, N350, K350, F351, hj.1⟩
 ·
  refine own_st (g' := (mkF m 3 #[oR b, .val (.long x), .second, oI 0, .unset] [(.ref b)])) (fun _ kt => XS.iconst X0.here hx rfl (hb hby d18_0) (XS.istoreN X0.here hx rfl (hb hby d18_1) rfl (l' := #[oR b, .val (.long x), .second, oI 0, .unset]) rfl (XS.aloadN X0.here hx rfl (hb hby d18_2) rfl rfl kt))) ?_
  refine own_st (g' := (mkF m 4 #[oR b, .val (.long x), .second, oI 0, .unset] [vJ np])) (own_alen X0 hx hZ e0 pr2 (g := (mkF m 3 #[oR b, .val (.long x), .second, oI 0, .unset] [(.ref b)])) rfl rfl (hb hby d18_3)) ?_
  refine own_st (g' := (mkF m 6 #[oR b, .val (.long x), .second, oI 0, oJ np] [])) (fun _ kt => XS.istore X0.here hx rfl (hb hby d18_4) rfl (l' := #[oR b, .val (.long x), .second, oI 0, oJ np]) rfl kt) ?_
  exact J350 np _ _ _ ⟨0, vs⟩ ⟨N0, Z0, K0, pr2, ⟨pr3, Nat.zero_le _, rfl⟩⟩ (X0.mono (by first | decide | exact Nat.le_add_right_of_le (by decide) | ((try dsimp only [Pt.cells, Pt.slots]); omega)) (by first | decide | exact Nat.le_add_right_of_le (by decide) | ((try dsimp only [Pt.cells, Pt.slots]); omega))) e0
theorem own_pos {n : Nat} (h : 1 ≤ n) (h2 : n ≤ 1000) : 0 < Int32.ofNat n := by
  rw [Int32.lt_iff_toInt_lt, own_ti h2, show (0 : Int32).toInt = 0 from rfl]; omega
theorem own_nn {n : Nat} (h2 : n ≤ 1000) : ¬ Int32.ofNat n < 0 := by
  rw [Int32.lt_iff_toInt_lt, own_ti h2, show (0 : Int32).toInt = 0 from rfl]; omega
theorem own_ne {n k : Nat} (h : n < k) (h8 : k ≤ 1000) : ¬ Int32.ofNat n = Int32.ofNat k := fun e => by
  have := congrArg Int32.toInt e
  rw [own_ti (by omega), own_ti (by omega)] at this; omega
abbrev c12 := jdk_38_method_1_code
theorem d12_0 : dk c12 0 (.aload_n 0) 1 := by decide +kernel
theorem d12_1 : dk c12 1 (.invokespecial 1) 3 := by decide +kernel
theorem d12_4 : dk c12 4 (.iload_n 1) 1 := by decide +kernel
theorem d12_5 : dk c12 5 (.ifCond .le 14) 3 := by decide +kernel
theorem d12_8 : dk c12 8 (.aload_n 0) 1 := by decide +kernel
theorem d12_9 : dk c12 9 (.iload_n 1) 1 := by decide +kernel
theorem d12_10 : dk c12 10 (.anewarray 7) 3 := by decide +kernel
theorem d12_13 : dk c12 13 (.putfield 9) 3 := by decide +kernel
theorem d12_16 : dk c12 16 (.goto 44) 3 := by decide +kernel
theorem d12_60 : dk c12 60 (.return_) 1 := by decide +kernel
def own_alIQ (Z : State) (a : Addr) (np : Nat) (h0 : Heap) (n0 : Nat) (v : Option Value) (h : Heap) (L : List Loc) : Prop := ∃ (b : Addr), ∃ (kb : ClassId), v = none ∧ Fr n0 L ∧ Keep h0 h [a] ∧ (Exa Z h a zC1) ∧ (Fld Z h a zC10 "modCount" "I" (.int 0)) ∧ (Fld Z h a zC1 "elementData" zC7 (.ref b)) ∧ (Fld Z h a zC1 "size" "I" (.int 0)) ∧ (Arv Z h b kb (.object zC3) (Int32.ofNat np) (List.replicate np .null) .null) ∧ (Ovr Z kb zC3) ∧ (h0.size ≤ b)
abbrev own_alIR : Room := { frames := 3, cells := 1, slots := 7, locals := 36 }
theorem own_alI (l : Launch) (Z : State) (a0 : Array Value) (hw : ∀ d ∈ tables_1, d.before a0 Z = true) (ws : List Jvm.Cond) (a : Addr) (np : Nat) (h0 : Heap) (n0 : Nat) (Z0 : n0 ≤ h0.size) (pr1 : Exa Z h0 a zC1) (pr2 : n0 ≤ a) (pr3 : Fld Z h0 a zC10 "modCount" "I" (.int 0)) (pr4 : Fld Z h0 a zC1 "elementData" zC7 .null) (pr5 : Fld Z h0 a zC1 "size" "I" (.int 0)) (pr6 : 1 ≤ np) (pr7 : np ≤ 7) :
    own_M l yN21 jdk_38_method_1_code 2 none ws own_alIR #[(.ref a), (.int (Int32.ofNat np))] Z h0 (own_alIQ Z a np h0 n0) := by
 refine own_go (plainFor_of_name own_pn7) (fun m => own_ef6 m a (Int32.ofNat np) ) ?_
 intro p e s m below meth c s₁ Bd hx hby hml hZ hh hown hnm X0 e0
 have N0 := Fr.nil n0
 have K0 : Keep h0 h0 [a] := Keep.refl h0 _
 have hp1 := pr6
 have hn7 := pr7
 refine own_st (g' := (mkF m 1 #[oR a, oJ np] [(.ref a)])) (fun _ kt => XS.aloadN X0.here hx rfl (hb hby d12_0) rfl rfl kt) ?_
 obtain ⟨_, _, ⟨T356, L356, k356, n356⟩, -, X356, ⟨Lc356, hQ356, l356, y356, z356⟩, st356⟩ := X0.specialBack hx (y := yN15) rfl hown (mvT hZ (own_k hw 38 rfl)) (mvT hZ (own_k hw 39 rfl)) (mvT hZ (own_k hw 43 rfl)) (by decide) (backOf (W := 0) (own_abl l Z a0 hw [] a h0 n0 Z0 pr1 pr2 pr3 pr4 pr5) hZ (own_k hw 43 rfl) (own_k hw 42 rfl) (by decide) (by decide)) (g := (mkF m 1 #[oR a, oJ np] [(.ref a)])) rfl hml.symm (Steps.refl _) (a := a) (argsL := []) (rest := []) (lenOf own_pd1 rfl) rfl (own_w0 rfl rfl) (hb hby d12_1) (fun _ _ => ⟨rfl, e0, (by decide : 0 + 0 ≤ 1), (by decide : 0 + 0 ≤ 7)⟩)
 dsimp only [Pt.U, Pt.locs, Pt.cells, Pt.slots] at X356 l356 y356 z356 st356 hQ356
 subst l356 y356 z356
 obtain ⟨rfl, N356, K356_, P357, P358, P359, P360⟩ := hQ356
 have N361 := Fr.app N0 N356
 have Z362 := Nat.le_trans Z0 K356_.1
 have K362 := (Keep.trans K0 K356_ (allS (Or.inl (List.mem_of_getElem? (i := 0) rfl)) all0))
 refine own_tr st356 ?_
 refine own_st (g' := (mkF m 10 #[oR a, oJ np] [vJ np, (.ref a)])) (fun _ kt => XS.iloadN X356.here hx rfl (hb hby d12_4) rfl (XS.ifNo X356.here hx rfl (hb hby d12_5) rfl (XT.i0_le_f (own_pos hp1 (by omega))) (XS.aloadN X356.here hx rfl (hb hby d12_8) rfl rfl (XS.iloadN X356.here hx rfl (hb hby d12_9) rfl kt)))) ?_
 obtain ⟨T363, h363, k363, X363, e363, E363, A363, O363, st363⟩ := newR X356 hx hZ hown (own_k hw 91 rfl) (own_k hw 92 rfl) rfl (g := (mkF m 10 #[oR a, oJ np] [vJ np, (.ref a)])) rfl (hb hby d12_10) rfl (own_nn (by omega)) (cap := 7) (by rw [own_tn (by omega)]; omega) (by decide) (by decide) (by decide)
 obtain ⟨b363, g363⟩ : ∃ z, z = T356.heap.size := ⟨_, rfl⟩
 rw [← g363] at A363 st363
 have Z364 := Nat.le_trans Z362 E363.1
 have K364 := (Keep.ext K362 E363)
 have ge_b363 : n0 ≤ b363 := Nat.le_trans Z362 (Nat.le_of_eq g363.symm)
 have F365 : Arv Z h363 b363 k363 (.object zC3) (Int32.ofNat np) (List.replicate np .null) .null := (Arv.new A363 (own_nn (by omega))).pad (pad_rep [] .null np)
 refine own_st st363 ?_
 have F366 := (Fld.ext E363 P359)
 have F367 := (Exa.ext E363 P357)
 obtain ⟨T368, h368, X368, e368, W368, st368⟩ := putF X363 hx hZ hown (host := "") (Or.inl (own_k hw 54 rfl)) Via.refl e363 F366 F367 (Or.inl (own_k hw 55 rfl)) (own_k hw 33 rfl) (ty := (.array (.object zC3))) (by decide) rfl rfl (g := (mkF m 13 #[oR a, oJ np] [(.ref b363), (.ref a)])) rfl rfl (hb hby d12_13)
 have N368 := Fr.snoc X368 N361 pr2
 have Z369 := Nat.le_trans Z364 (Nat.le_of_eq (Wr.size W368).symm)
 have K369 := (Keep.wr K364 W368 (Or.inl (List.mem_of_getElem? (i := 0) rfl)))
 have F370 : Fld Z h368 a zC1 "elementData" zC7 (.ref b363) := Fld.same W368 F366
 refine own_st st368 ?_
 refine own_st (g' := (mkF m 60 #[oR a, oJ np] [])) (fun _ kt => XS.goto X368.here hx rfl (pc0 := 16) (pc' := 60) rfl (hb hby d12_16) (by decide) (by decide) kt) ?_
 obtain ⟨fs, hr, hrun, hended, hW, hsame⟩ := X368.leave (v := none) (fun _ => rfl)
 refine own_end (X368.returnOut hx Bd.returns (hb hby d12_60) hr) ⟨_, hrun, hended, _, _, rfl, ?_, ⟨_, rfl⟩, hW, hsame.mono (by decide) (by decide)⟩
 have F371 := (Exa.wr W368 F367)
 have F372 := (Fld.other W368 (Fld.ext E363 P358) (Or.inr (slot_ne (Or.inl (own_k hw 52 rfl)) (Or.inl (own_k hw 55 rfl)) (by decide) (t := .int) (t' := (.array (.object zC3))) (by decide) (by decide))))
 have F373 := (Fld.other W368 (Fld.ext E363 P360) (Or.inr (slot_ne (Or.inl (own_k hw 126 rfl)) (Or.inl (own_k hw 55 rfl)) (by decide) (t := .int) (t' := (.array (.object zC3))) (by decide) (by decide))))
 have ne374 : a ≠ b363 := (Nat.ne_of_lt (Nat.lt_of_lt_of_le P357.lt (Nat.le_of_eq g363.symm)))
 have F375 := (Arv.other F365 W368 (Ne.symm ne374))
 show own_alIQ Z _ _ h0 n0 _ T368.heap _
 rw [e368]
 exact ⟨b363, k363, rfl, N368, K369, F371, F372, F370, F373, F375, O363, (Nat.le_trans K362.1 (Nat.le_of_eq g363.symm))⟩
abbrev c16 := jdk_38_method_24_code
theorem d16_0 : dk c16 0 (.iload_n 3) 1 := by decide +kernel
theorem d16_1 : dk c16 1 (.aload_n 2) 1 := by decide +kernel
theorem d16_2 : dk c16 2 (.arraylength) 1 := by decide +kernel
theorem d16_3 : dk c16 3 (.if_icmp .ne 8) 3 := by decide +kernel
theorem d16_11 : dk c16 11 (.aload_n 2) 1 := by decide +kernel
theorem d16_12 : dk c16 12 (.iload_n 3) 1 := by decide +kernel
theorem d16_13 : dk c16 13 (.aload_n 1) 1 := by decide +kernel
theorem d16_14 : dk c16 14 (.aastore) 1 := by decide +kernel
theorem d16_15 : dk c16 15 (.aload_n 0) 1 := by decide +kernel
theorem d16_16 : dk c16 16 (.iload_n 3) 1 := by decide +kernel
theorem d16_17 : dk c16 17 (.iconst 1) 1 := by decide +kernel
theorem d16_18 : dk c16 18 (.iadd) 1 := by decide +kernel
theorem d16_19 : dk c16 19 (.putfield 48) 3 := by decide +kernel
theorem d16_22 : dk c16 22 (.return_) 1 := by decide +kernel
theorem own_ef12 (m : MethodId) (x0 : Addr) (x1 : Addr) (x2 : Addr) (x3 : Int32) : entryFrame m #[(.ref x0), (.ref x1), (.ref x2), (.int x3)] 4 = mkF m 0 #[.val (.ref x0), .val (.ref x1), .val (.ref x2), .val (.int x3)] [] := by first | (simp [entryFrame, mkF, argsToLocals, Value.category]; done) | rfl
def own_a3Q (Z : State) (a : Addr) (mc : Int32) (oo : Addr) (b : Addr) (kb : ClassId) (i : Nat) (cap : Nat) (vs : List Value) (h0 : Heap) (n0 : Nat) (v : Option Value) (h : Heap) (L : List Loc) : Prop := v = none ∧ Fr n0 L ∧ Keep h0 h [a, b] ∧ (Exa Z h a zC1) ∧ (Fld Z h a zC10 "modCount" "I" (.int mc)) ∧ (Fld Z h a zC1 "elementData" zC7 (.ref b)) ∧ (Fld Z h a zC1 "size" "I" (.int (Int32.ofNat (i + 1)))) ∧ (Arv Z h b kb (.object zC3) (Int32.ofNat cap) (vs.set i (.ref oo)) .null)
abbrev own_a3R : Room := { frames := 0, cells := 0, slots := 0, locals := 0 }
theorem own_a3 (l : Launch) (Z : State) (a0 : Array Value) (hw : ∀ d ∈ tables_1, d.before a0 Z = true) (ws : List Jvm.Cond) (a : Addr) (mc : Int32) (oo : Addr) (b : Addr) (kb : ClassId) (i : Nat) (cap : Nat) (vs : List Value) (h0 : Heap) (n0 : Nat) (Z0 : n0 ≤ h0.size) (pr1 : n0 ≤ a) (pr2 : n0 ≤ b) (pr3 : Exa Z h0 a zC1) (pr4 : Fld Z h0 a zC10 "modCount" "I" (.int mc)) (pr5 : Fld Z h0 a zC1 "elementData" zC7 (.ref b)) (pr6 : Fld Z h0 a zC1 "size" "I" (.int (Int32.ofNat i))) (pr7 : Arv Z h0 b kb (.object zC3) (Int32.ofNat cap) vs .null) (pr8 : Ovr Z kb zC3) (pr9 : Ins Z h0 oo zC3 true) (pr10 : i < cap) (pr11 : cap ≤ 10) (pr12 : vs.length = cap) :
    own_M l yN11 jdk_38_method_24_code 4 none ws own_a3R #[(.ref a), (.ref oo), (.ref b), (.int (Int32.ofNat i))] Z h0 (own_a3Q Z a mc oo b kb i cap vs h0 n0) := by
 refine own_go (plainFor_of_name own_pn7) (fun m => own_ef12 m a oo b (Int32.ofNat i) ) ?_
 intro p e s m below meth c s₁ Bd hx hby hml hZ hh hown hnm X0 e0
 have N0 := Fr.nil n0
 have K0 : Keep h0 h0 [a, b] := Keep.refl h0 _
 have hic := pr10
 have hc10 := pr11
 have hvl := pr12
 refine own_st (g' := (mkF m 2 #[oR a, oR oo, oR b, oJ i] [(.ref b), vJ i])) (fun _ kt => XS.iloadN X0.here hx rfl (hb hby d16_0) rfl (XS.aloadN X0.here hx rfl (hb hby d16_1) rfl rfl kt)) ?_
 refine own_st (g' := (mkF m 3 #[oR a, oR oo, oR b, oJ i] [vJ cap, vJ i])) (own_alen X0 hx hZ e0 pr7 (g := (mkF m 2 #[oR a, oR oo, oR b, oJ i] [(.ref b), vJ i])) rfl rfl (hb hby d16_2)) ?_
 refine own_st (g' := (mkF m 14 #[oR a, oR oo, oR b, oJ i] [(.ref oo), vJ i, (.ref b)])) (fun _ kt => XS.icmpYes X0.here hx rfl (pc0 := 3) (pc' := 11) rfl (hb hby d16_3) rfl (XT.ii_ne_t (own_ne hic (by omega))) (by decide) (by decide) (XS.aloadN X0.here hx rfl (hb hby d16_11) rfl rfl (XS.iloadN X0.here hx rfl (hb hby d16_12) rfl (XS.aloadN X0.here hx rfl (hb hby d16_13) rfl rfl kt)))) ?_
 obtain ⟨cs377, As377, qs377, -⟩ := id pr7
 obtain ⟨T376, h376, X376, e376, W376, V376, st376⟩ := own_ast X0 hx hZ e0 pr7 rfl (own_idx hic (by omega)) (i := i) (own_tn (by omega)) (by omega) rfl (Sto.ofV As377 qs377 pr8 pr9) (g := (mkF m 14 #[oR a, oR oo, oR b, oJ i] [(.ref oo), vJ i, (.ref b)])) rfl rfl (hb hby d16_14)
 have N376 := Fr.snoc X376 N0 pr2
 have Z378 := Nat.le_trans Z0 (Nat.le_of_eq (Wr.size W376).symm)
 have K378 := (Keep.wr K0 W376 (Or.inl (List.mem_of_getElem? (i := 1) rfl)))
 have F379 : Arv Z h376 b kb (.object zC3) (Int32.ofNat cap) (vs.set i (.ref oo)) .null := V376
 refine own_st st376 ?_
 refine own_st (g' := (mkF m 19 #[oR a, oR oo, oR b, oJ i] [(.int ((Int32.ofNat i) + (1 : Int32))), (.ref a)])) (fun _ kt => XS.aloadN X376.here hx rfl (hb hby d16_15) rfl rfl (XS.iloadN X376.here hx rfl (hb hby d16_16) rfl (XS.iconst X376.here hx rfl (hb hby d16_17) (XS.iadd X376.here hx rfl (hb hby d16_18) rfl kt)))) ?_
 rw [own_succ (n := i) (by omega)]
 have ne380 : a ≠ b := (Exa.neArv pr3 pr7 (own_k hw 33 rfl))
 have F381 := (Fld.other W376 pr6 (Or.inl ne380))
 have F382 := (Exa.wr W376 pr3)
 obtain ⟨T383, h383, X383, e383, W383, st383⟩ := putF X376 hx hZ hown (host := "") (Or.inl (own_k hw 125 rfl)) Via.refl e376 F381 F382 (Or.inl (own_k hw 126 rfl)) (own_k hw 33 rfl) (ty := .int) (by decide) rfl rfl (g := (mkF m 19 #[oR a, oR oo, oR b, oJ i] [vJ (i + 1), (.ref a)])) rfl rfl (hb hby d16_19)
 have N383 := Fr.snoc X383 N376 pr1
 have Z384 := Nat.le_trans Z378 (Nat.le_of_eq (Wr.size W383).symm)
 have K384 := (Keep.wr K378 W383 (Or.inl (List.mem_of_getElem? (i := 0) rfl)))
 have F385 : Fld Z h383 a zC1 "size" "I" (.int (Int32.ofNat (i + 1))) := Fld.same W383 F381
 refine own_st st383 ?_
 obtain ⟨fs, hr, hrun, hended, hW, hsame⟩ := X383.leave (v := none) (fun _ => rfl)
 refine own_end (X383.returnOut hx Bd.returns (hb hby d16_22) hr) ⟨_, hrun, hended, _, _, rfl, ?_, ⟨_, rfl⟩, hW, hsame.mono (by decide) (by decide)⟩
 have F386 := (Exa.wr W383 F382)
 have F387 := (Fld.other W383 (Fld.other W376 pr4 (Or.inl ne380)) (Or.inr (slot_ne (Or.inl (own_k hw 52 rfl)) (Or.inl (own_k hw 126 rfl)) (by decide) (t := .int) (t' := .int) (by decide) (by decide))))
 have F388 := (Fld.other W383 (Fld.other W376 pr5 (Or.inl ne380)) (Or.inr (slot_ne (Or.inl (own_k hw 55 rfl)) (Or.inl (own_k hw 126 rfl)) (by decide) (t := (.array (.object zC3))) (t' := .int) (by decide) (by decide))))
 have F389 := (Arv.other F379 W383 (Ne.symm ne380))
 show own_a3Q Z _ _ _ _ _ _ _ _ h0 n0 _ T383.heap _
 rw [e383]
 exact ⟨rfl, N383, K384, F386, F387, F388, F385, F389⟩
abbrev c15 := jdk_38_method_25_code
theorem d15_0 : dk c15 0 (.aload_n 0) 1 := by decide +kernel
theorem d15_1 : dk c15 1 (.dup) 1 := by decide +kernel
theorem d15_2 : dk c15 2 (.getfield 63) 3 := by decide +kernel
theorem d15_5 : dk c15 5 (.iconst 1) 1 := by decide +kernel
theorem d15_6 : dk c15 6 (.iadd) 1 := by decide +kernel
theorem d15_7 : dk c15 7 (.putfield 63) 3 := by decide +kernel
theorem d15_10 : dk c15 10 (.aload_n 0) 1 := by decide +kernel
theorem d15_11 : dk c15 11 (.aload_n 1) 1 := by decide +kernel
theorem d15_12 : dk c15 12 (.aload_n 0) 1 := by decide +kernel
theorem d15_13 : dk c15 13 (.getfield 9) 3 := by decide +kernel
theorem d15_16 : dk c15 16 (.aload_n 0) 1 := by decide +kernel
theorem d15_17 : dk c15 17 (.getfield 48) 3 := by decide +kernel
theorem d15_20 : dk c15 20 (.invokevirtual 131) 3 := by decide +kernel
theorem own_pd6 : parseMethodDescriptor "(Ljava/lang/Object;[Ljava/lang/Object;I)V" = some ⟨[(.object "java/lang/Object"), (.array (.object "java/lang/Object")), .int], none⟩ := by decide +kernel
theorem d15_23 : dk c15 23 (.iconst 1) 1 := by decide +kernel
theorem d15_24 : dk c15 24 (.ireturn) 1 := by decide +kernel
theorem own_ef13 (m : MethodId) (x0 : Addr) (x1 : Addr) : entryFrame m #[(.ref x0), (.ref x1)] 2 = mkF m 0 #[.val (.ref x0), .val (.ref x1)] [] := by first | (simp [entryFrame, mkF, argsToLocals, Value.category]; done) | rfl
def own_a1Q (Z : State) (a : Addr) (mc : Int32) (oo : Addr) (b : Addr) (kb : ClassId) (i : Nat) (cap : Nat) (vs : List Value) (h0 : Heap) (n0 : Nat) (v : Option Value) (h : Heap) (L : List Loc) : Prop := v = some (.int 1) ∧ Fr n0 L ∧ Keep h0 h [a, b] ∧ (Exa Z h a zC1) ∧ (Fld Z h a zC10 "modCount" "I" (.int (mc + (1 : Int32)))) ∧ (Fld Z h a zC1 "elementData" zC7 (.ref b)) ∧ (Fld Z h a zC1 "size" "I" (.int (Int32.ofNat (i + 1)))) ∧ (Arv Z h b kb (.object zC3) (Int32.ofNat cap) (vs.set i (.ref oo)) .null)
abbrev own_a1R : Room := { frames := 1, cells := 0, slots := 0, locals := 15 }
theorem own_a1 (l : Launch) (Z : State) (a0 : Array Value) (hw : ∀ d ∈ tables_1, d.before a0 Z = true) (ws : List Jvm.Cond) (a : Addr) (mc : Int32) (oo : Addr) (b : Addr) (kb : ClassId) (i : Nat) (cap : Nat) (vs : List Value) (h0 : Heap) (n0 : Nat) (Z0 : n0 ≤ h0.size) (pr1 : n0 ≤ a) (pr2 : n0 ≤ b) (pr3 : Exa Z h0 a zC1) (pr4 : Fld Z h0 a zC10 "modCount" "I" (.int mc)) (pr5 : Fld Z h0 a zC1 "elementData" zC7 (.ref b)) (pr6 : Fld Z h0 a zC1 "size" "I" (.int (Int32.ofNat i))) (pr7 : Arv Z h0 b kb (.object zC3) (Int32.ofNat cap) vs .null) (pr8 : Ovr Z kb zC3) (pr9 : Ins Z h0 oo zC3 true) (pr10 : i < cap) (pr11 : cap ≤ 10) (pr12 : vs.length = cap) :
    own_M l yN1 jdk_38_method_25_code 2 (some .boolean) ws own_a1R #[(.ref a), (.ref oo)] Z h0 (own_a1Q Z a mc oo b kb i cap vs h0 n0) := by
 refine own_go (plainFor_of_name own_pn7) (fun m => own_ef13 m a oo ) ?_
 intro p e s m below meth c s₁ Bd hx hby hml hZ hh hown hnm X0 e0
 have N0 := Fr.nil n0
 have K0 : Keep h0 h0 [a, b] := Keep.refl h0 _
 refine own_st (g' := (mkF m 2 #[oR a, oR oo] [(.ref a), (.ref a)])) (fun _ kt => XS.aloadN X0.here hx rfl (hb hby d15_0) rfl rfl (XS.dup X0.here hx rfl (hb hby d15_1) rfl rfl kt)) ?_
 obtain ⟨T390, X390, e390, st390⟩ := getF X0 hx hZ hown (host := "") (Or.inl (own_k hw 123 rfl)) (Via.of (own_k hw 124 rfl)) e0 pr4 (g := (mkF m 2 #[oR a, oR oo] [(.ref a), (.ref a)])) rfl rfl (hb hby d15_2)
 refine own_st st390 ?_
 refine own_st (g' := (mkF m 7 #[oR a, oR oo] [(.int (mc + (1 : Int32))), (.ref a)])) (fun _ kt => XS.iconst X390.here hx rfl (hb hby d15_5) (XS.iadd X390.here hx rfl (hb hby d15_6) rfl kt)) ?_
 obtain ⟨T391, h391, X391, e391, W391, st391⟩ := putF X390 hx hZ hown (host := "") (Or.inl (own_k hw 123 rfl)) (Via.of (own_k hw 124 rfl)) e390 pr4 pr3 (Or.inl (own_k hw 52 rfl)) (own_k hw 33 rfl) (ty := .int) (by decide) rfl rfl (g := (mkF m 7 #[oR a, oR oo] [(.int (mc + (1 : Int32))), (.ref a)])) rfl rfl (hb hby d15_7)
 have N391 := Fr.snoc X391 N0 pr1
 have Z392 := Nat.le_trans Z0 (Nat.le_of_eq (Wr.size W391).symm)
 have K392 := (Keep.wr K0 W391 (Or.inl (List.mem_of_getElem? (i := 0) rfl)))
 have F393 : Fld Z h391 a zC10 "modCount" "I" (.int (mc + (1 : Int32))) := Fld.same W391 pr4
 refine own_st st391 ?_
 refine own_st (g' := (mkF m 13 #[oR a, oR oo] [(.ref a), (.ref oo), (.ref a)])) (fun _ kt => XS.aloadN X391.here hx rfl (hb hby d15_10) rfl rfl (XS.aloadN X391.here hx rfl (hb hby d15_11) rfl rfl (XS.aloadN X391.here hx rfl (hb hby d15_12) rfl rfl kt))) ?_
 have F394 := (Fld.other W391 pr5 (Or.inr (slot_ne (Or.inl (own_k hw 55 rfl)) (Or.inl (own_k hw 52 rfl)) (by decide) (t := (.array (.object zC3))) (t' := .int) (by decide) (by decide))))
 obtain ⟨T395, X395, e395, st395⟩ := getF X391 hx hZ hown (host := "") (Or.inl (own_k hw 54 rfl)) Via.refl e391 F394 (g := (mkF m 13 #[oR a, oR oo] [(.ref a), (.ref oo), (.ref a)])) rfl rfl (hb hby d15_13)
 refine own_st st395 ?_
 refine own_st (g' := (mkF m 17 #[oR a, oR oo] [(.ref a), (.ref b), (.ref oo), (.ref a)])) (fun _ kt => XS.aloadN X395.here hx rfl (hb hby d15_16) rfl rfl kt) ?_
 have F396 := (Fld.other W391 pr6 (Or.inr (slot_ne (Or.inl (own_k hw 126 rfl)) (Or.inl (own_k hw 52 rfl)) (by decide) (t := .int) (t' := .int) (by decide) (by decide))))
 obtain ⟨T397, X397, e397, st397⟩ := getF X395 hx hZ hown (host := "") (Or.inl (own_k hw 125 rfl)) Via.refl e395 F396 (g := (mkF m 17 #[oR a, oR oo] [(.ref a), (.ref b), (.ref oo), (.ref a)])) rfl rfl (hb hby d15_17)
 refine own_st st397 ?_
 have F398 := (Exa.wr W391 pr3)
 have ne399 : a ≠ b := (Exa.neArv pr3 pr7 (own_k hw 33 rfl))
 have F400 := (Arv.other pr7 W391 (Ne.symm ne399))
 have F401 := (Ins.wr W391 pr9)
 obtain ⟨cl403, hcl403, hob403⟩ := Exa.cell F398
 obtain ⟨_, _, ⟨T402, L402, k402, n402⟩, -, X402, ⟨Lc402, hQ402, l402, y402, z402⟩, st402⟩ := X397.privateBack hx (y := yN11) hown (mvT hZ (own_k hw 127 rfl)) (mvT hZ (own_k hw 128 rfl)) (mvT hZ (own_k hw 130 rfl)) (Cond.privateMethod_at (mvP hZ (own_k hw 129 rfl) (args := #[]))) (mvT hZ (own_k hw 131 rfl)) (by decide) (backOf (W := 0) (own_a3 l Z a0 hw [] a (mc + (1 : Int32)) oo b kb i cap vs h391 n0 Z392 pr1 pr2 F398 F393 F394 F396 F400 pr8 F401 pr10 pr11 pr12) hZ (own_k hw 131 rfl) (own_k hw 34 rfl) (by decide) (by decide)) (g := (mkF m 20 #[oR a, oR oo] [vJ i, (.ref b), (.ref oo), (.ref a)])) rfl hml.symm (Steps.refl _) (a := a) (by rw [e397]; exact hcl403) hob403 (argsL := [(.ref oo), (.ref b), vJ i]) (rest := []) (lenOf own_pd6 rfl) rfl (own_w0 rfl rfl) (hb hby d15_20) (fun _ _ => ⟨rfl, e397, (by decide : 0 + 0 ≤ 0), (by decide : 0 + 0 ≤ 0)⟩)
 dsimp only [Pt.U, Pt.locs, Pt.cells, Pt.slots] at X402 l402 y402 z402 st402 hQ402
 subst l402 y402 z402
 obtain ⟨rfl, N402, K402_, P404, P405, P406, P407, P408⟩ := hQ402
 have N409 := Fr.app N391 N402
 have Z410 := Nat.le_trans Z392 K402_.1
 have K410 := (Keep.trans K392 K402_ (allS (Or.inl (List.mem_of_getElem? (i := 0) rfl)) (allS (Or.inl (List.mem_of_getElem? (i := 1) rfl)) all0)))
 refine own_tr st402 ?_
 refine own_st (g' := (mkF m 24 #[oR a, oR oo] [(.int 1)])) (fun _ kt => XS.iconst X402.here hx rfl (hb hby d15_23) kt) ?_
 obtain ⟨fs, hr, hrun, hended, hW, hsame⟩ := X402.leave (v := some (.int 1)) (fun h => by rw [Bd.returns] at h; cases h)
 refine own_end (retN X402 hx (t := .boolean) Bd.returns (by simp) (hb hby d15_24) hr) ⟨_, hrun, hended, _, _, rfl, ?_, ⟨_, rfl⟩, hW, hsame.mono (by decide) (by decide)⟩
 show own_a1Q Z _ _ _ _ _ _ _ _ h0 n0 _ T402.heap _
 show own_a1Q Z _ _ _ _ _ _ _ _ h0 n0 _ T402.heap _
 exact ⟨rfl, N409, K410, P404, P405, P406, P407, P408⟩
abbrev c17 := prog_98_method_1_code
theorem d17_0 : dk c17 0 (.aload_n 0) 1 := by decide +kernel
theorem d17_1 : dk c17 1 (.invokespecial 1) 3 := by decide +kernel
theorem d17_4 : dk c17 4 (.aload_n 0) 1 := by decide +kernel
theorem d17_5 : dk c17 5 (.sipush 4096) 3 := by decide +kernel
theorem d17_8 : dk c17 8 (.newarray .byte) 2 := by decide +kernel
theorem d17_10 : dk c17 10 (.putfield 7) 3 := by decide +kernel
theorem d17_13 : dk c17 13 (.aload_n 0) 1 := by decide +kernel
theorem d17_14 : dk c17 14 (.iload_n 1) 1 := by decide +kernel
theorem d17_15 : dk c17 15 (.newarray .long) 2 := by decide +kernel
theorem d17_17 : dk c17 17 (.putfield 13) 3 := by decide +kernel
theorem d17_20 : dk c17 20 (.aload_n 0) 1 := by decide +kernel
theorem d17_21 : dk c17 21 (.iload_n 1) 1 := by decide +kernel
theorem d17_22 : dk c17 22 (.newarray .long) 2 := by decide +kernel
theorem d17_24 : dk c17 24 (.putfield 17) 3 := by decide +kernel
theorem d17_27 : dk c17 27 (.aload_n 0) 1 := by decide +kernel
theorem d17_28 : dk c17 28 (.getfield 13) 3 := by decide +kernel
theorem d17_31 : dk c17 31 (.ldc2_w 22) 3 := by decide +kernel
theorem d17_34 : dk c17 34 (.invokestatic 24) 3 := by decide +kernel
theorem own_pd7 : parseMethodDescriptor "([JJ)V" = some ⟨[(.array .long), .long], none⟩ := by decide +kernel
theorem d17_37 : dk c17 37 (.aload_n 0) 1 := by decide +kernel
theorem d17_38 : dk c17 38 (.getfield 17) 3 := by decide +kernel
theorem d17_41 : dk c17 41 (.ldc2_w 22) 3 := by decide +kernel
theorem d17_44 : dk c17 44 (.invokestatic 24) 3 := by decide +kernel
theorem d17_47 : dk c17 47 (.return_) 1 := by decide +kernel
def own_plsQ (Z : State) (a : Addr) (np : Nat) (h0 : Heap) (n0 : Nat) (v : Option Value) (h : Heap) (L : List Loc) : Prop := v = none ∧ Fr n0 L ∧ Keep h0 h [a] ∧ (Exa Z h a zC17)
theorem own_pn18 : plainName "com/example/millrace/millrace/cluster/Places" = true := by first | (simp [plainName, overriddenIn]; done) | decide +kernel
abbrev own_plsR : Room := { frames := 1, cells := 3, slots := 4110, locals := 16 }
theorem own_pls (l : Launch) (Z : State) (a0 : Array Value) (hw : ∀ d ∈ tables_1, d.before a0 Z = true) (ws : List Jvm.Cond) (a : Addr) (np : Nat) (h0 : Heap) (n0 : Nat) (Z0 : n0 ≤ h0.size) (pr1 : Exa Z h0 a zC17) (pr2 : n0 ≤ a) (pr3 : Fld Z h0 a zC17 "log" "[B" .null) (pr4 : Fld Z h0 a zC17 "coveredBelow" "[J" .null) (pr5 : Fld Z h0 a zC17 "writtenTo" "[J" .null) (pr6 : 1 ≤ np) (pr7 : np ≤ 7) :
    own_M l yN45 prog_98_method_1_code 2 none ws own_plsR #[(.ref a), (.int (Int32.ofNat np))] Z h0 (own_plsQ Z a np h0 n0) := by
 refine own_go (plainFor_of_name own_pn18) (fun m => own_ef6 m a (Int32.ofNat np) ) ?_
 intro p e s m below meth c s₁ Bd hx hby hml hZ hh hown hnm X0 e0
 have N0 := Fr.nil n0
 have K0 : Keep h0 h0 [a] := Keep.refl h0 _
 have hp1 := pr6
 have hn7 := pr7
 refine own_st (g' := (mkF m 1 #[oR a, oJ np] [(.ref a)])) (fun _ kt => XS.aloadN X0.here hx rfl (hb hby d17_0) rfl rfl kt) ?_
 obtain ⟨T411, X411, e411, st411⟩ := initO X0 hx hZ hown (own_k hw 146 rfl) (own_k hw 11 rfl) (own_k hw 12 rfl) e0 (g := (mkF m 1 #[oR a, oJ np] [(.ref a)])) rfl hml.symm rfl (hb hby d17_1) (by decide) (W := 0) (own_w0 rfl rfl) (by decide)
 refine own_st st411 ?_
 refine own_st (g' := (mkF m 8 #[oR a, oJ np] [(.int 4096), (.ref a)])) (fun _ kt => XS.aloadN X411.here hx rfl (hb hby d17_4) rfl rfl (XS.sipush X411.here hx rfl (hb hby d17_5) kt)) ?_
 obtain ⟨T412, h412, k412, X412, e412, E412, A412, st412⟩ := newP X411 hx hZ (aty := .byte) (own_k hw 147 rfl) e411 (g := (mkF m 8 #[oR a, oJ np] [(.int 4096), (.ref a)])) rfl (hb hby d17_8) rfl (by decide) (cap := 4096) (by decide) (by decide) (by decide) (by decide)
 obtain ⟨b412, g412⟩ : ∃ z, z = h0.size := ⟨_, rfl⟩
 rw [← g412] at A412 st412
 have Z413 := Nat.le_trans Z0 E412.1
 have K413 := (Keep.ext K0 E412)
 have ge_b412 : n0 ≤ b412 := Nat.le_trans Z0 (Nat.le_of_eq g412.symm)
 have F414 : Arv Z h412 b412 k412 .byte (4096 : Int32) [] (.int 0) := Arv.new A412 (by decide)
 refine own_st st412 ?_
 have F415 := (Fld.ext E412 pr3)
 have F416 := (Exa.ext E412 pr1)
 obtain ⟨T417, h417, X417, e417, W417, st417⟩ := putF X412 hx hZ hown (host := "") (Or.inl (own_k hw 148 rfl)) Via.refl e412 F415 F416 (Or.inl (own_k hw 149 rfl)) (own_k hw 141 rfl) (ty := (.array .byte)) (by decide) rfl rfl (g := (mkF m 10 #[oR a, oJ np] [(.ref b412), (.ref a)])) rfl rfl (hb hby d17_10)
 have N417 := Fr.snoc X417 N0 pr2
 have Z418 := Nat.le_trans Z413 (Nat.le_of_eq (Wr.size W417).symm)
 have K418 := (Keep.wr K413 W417 (Or.inl (List.mem_of_getElem? (i := 0) rfl)))
 have F419 : Fld Z h417 a zC17 "log" "[B" (.ref b412) := Fld.same W417 F415
 refine own_st st417 ?_
 refine own_st (g' := (mkF m 15 #[oR a, oJ np] [vJ np, (.ref a)])) (fun _ kt => XS.aloadN X417.here hx rfl (hb hby d17_13) rfl rfl (XS.iloadN X417.here hx rfl (hb hby d17_14) rfl kt)) ?_
 obtain ⟨T420, h420, k420, X420, e420, E420, A420, st420⟩ := newP X417 hx hZ (aty := .long) (own_k hw 137 rfl) e417 (g := (mkF m 15 #[oR a, oJ np] [vJ np, (.ref a)])) rfl (hb hby d17_15) rfl (own_nn (by omega)) (cap := 7) (by rw [own_tn (by omega)]; omega) (by decide) (by decide) (by decide)
 obtain ⟨b420, g420⟩ : ∃ z, z = h417.size := ⟨_, rfl⟩
 rw [← g420] at A420 st420
 have Z421 := Nat.le_trans Z418 E420.1
 have K421 := (Keep.ext K418 E420)
 have ge_b420 : n0 ≤ b420 := Nat.le_trans Z418 (Nat.le_of_eq g420.symm)
 have F422 : Arv Z h420 b420 k420 .long (Int32.ofNat np) (List.replicate np (Value.long (0 : Int64))) (.long (0 : Int64)) := (Arv.new A420 (own_nn (by omega))).pad (pad_rep [] (Value.long (0 : Int64)) np)
 refine own_st st420 ?_
 have F423 := (Fld.ext E420 (Fld.other W417 (Fld.ext E412 pr4) (Or.inr (slot_ne (Or.inr (own_k hw 151 rfl)) (Or.inl (own_k hw 149 rfl)) (by decide) (t := (.array .long)) (t' := (.array .byte)) (by decide) (by decide)))))
 have F424 := (Exa.ext E420 (Exa.wr W417 F416))
 obtain ⟨T425, h425, X425, e425, W425, st425⟩ := putF X420 hx hZ hown (host := "") (Or.inl (own_k hw 150 rfl)) Via.refl e420 F423 F424 (Or.inr ⟨(own_k hw 151 rfl), rfl, hnm⟩) (own_k hw 141 rfl) (ty := (.array .long)) (by decide) rfl rfl (g := (mkF m 17 #[oR a, oJ np] [(.ref b420), (.ref a)])) rfl rfl (hb hby d17_17)
 have N425 := Fr.snoc X425 N417 pr2
 have Z426 := Nat.le_trans Z421 (Nat.le_of_eq (Wr.size W425).symm)
 have K426 := (Keep.wr K421 W425 (Or.inl (List.mem_of_getElem? (i := 0) rfl)))
 have F427 : Fld Z h425 a zC17 "coveredBelow" "[J" (.ref b420) := Fld.same W425 F423
 refine own_st st425 ?_
 refine own_st (g' := (mkF m 22 #[oR a, oJ np] [vJ np, (.ref a)])) (fun _ kt => XS.aloadN X425.here hx rfl (hb hby d17_20) rfl rfl (XS.iloadN X425.here hx rfl (hb hby d17_21) rfl kt)) ?_
 obtain ⟨T428, h428, k428, X428, e428, E428, A428, st428⟩ := newP X425 hx hZ (aty := .long) (own_k hw 137 rfl) e425 (g := (mkF m 22 #[oR a, oJ np] [vJ np, (.ref a)])) rfl (hb hby d17_22) rfl (own_nn (by omega)) (cap := 7) (by rw [own_tn (by omega)]; omega) (by decide) (by decide) (by decide)
 obtain ⟨b428, g428⟩ : ∃ z, z = h425.size := ⟨_, rfl⟩
 rw [← g428] at A428 st428
 have Z429 := Nat.le_trans Z426 E428.1
 have K429 := (Keep.ext K426 E428)
 have ge_b428 : n0 ≤ b428 := Nat.le_trans Z426 (Nat.le_of_eq g428.symm)
 have F430 : Arv Z h428 b428 k428 .long (Int32.ofNat np) (List.replicate np (Value.long (0 : Int64))) (.long (0 : Int64)) := (Arv.new A428 (own_nn (by omega))).pad (pad_rep [] (Value.long (0 : Int64)) np)
 refine own_st st428 ?_
 have F431 := (Fld.ext E428 (Fld.other W425 (Fld.ext E420 (Fld.other W417 (Fld.ext E412 pr5) (Or.inr (slot_ne (Or.inr (own_k hw 153 rfl)) (Or.inl (own_k hw 149 rfl)) (by decide) (t := (.array .long)) (t' := (.array .byte)) (by decide) (by decide))))) (Or.inr (slot_ne (Or.inr (own_k hw 153 rfl)) (Or.inr (own_k hw 151 rfl)) (by decide) (t := (.array .long)) (t' := (.array .long)) (by decide) (by decide)))))
 have F432 := (Exa.ext E428 (Exa.wr W425 F424))
 obtain ⟨T433, h433, X433, e433, W433, st433⟩ := putF X428 hx hZ hown (host := "") (Or.inl (own_k hw 152 rfl)) Via.refl e428 F431 F432 (Or.inr ⟨(own_k hw 153 rfl), rfl, hnm⟩) (own_k hw 141 rfl) (ty := (.array .long)) (by decide) rfl rfl (g := (mkF m 24 #[oR a, oJ np] [(.ref b428), (.ref a)])) rfl rfl (hb hby d17_24)
 have N433 := Fr.snoc X433 N425 pr2
 have Z434 := Nat.le_trans Z429 (Nat.le_of_eq (Wr.size W433).symm)
 have K434 := (Keep.wr K429 W433 (Or.inl (List.mem_of_getElem? (i := 0) rfl)))
 have F435 : Fld Z h433 a zC17 "writtenTo" "[J" (.ref b428) := Fld.same W433 F431
 refine own_st st433 ?_
 refine own_st (g' := (mkF m 28 #[oR a, oJ np] [(.ref a)])) (fun _ kt => XS.aloadN X433.here hx rfl (hb hby d17_27) rfl rfl kt) ?_
 have F436 := (Fld.other W433 (Fld.ext E428 F427) (Or.inr (slot_ne (Or.inr (own_k hw 151 rfl)) (Or.inr (own_k hw 153 rfl)) (by decide) (t := (.array .long)) (t' := (.array .long)) (by decide) (by decide))))
 obtain ⟨T437, X437, e437, st437⟩ := getF X433 hx hZ hown (host := "") (Or.inl (own_k hw 150 rfl)) Via.refl e433 F436 (g := (mkF m 28 #[oR a, oJ np] [(.ref a)])) rfl rfl (hb hby d17_28)
 refine own_st st437 ?_
 refine own_st (g' := (mkF m 34 #[oR a, oJ np] [(.long (-9223372036854775808 : Int64)), (.ref b420)])) (Stand.ldc2Long X437 hx hown (mvT hZ (own_k hw 154 rfl)) (g := (mkF m 31 #[oR a, oJ np] [(.ref b420)])) rfl (hb hby d17_31)) ?_
 have ne438 : a ≠ b420 := (Nat.ne_of_lt (Nat.lt_of_lt_of_le F419.lt (Nat.le_of_eq g420.symm)))
 have F439 := (Arv.other ((Arv.other F422 W425 (Ne.symm ne438)).ext E428) W433 (Ne.symm ne438))
 obtain ⟨_, _, ⟨T440, L440, k440, n440⟩, -, X440, ⟨Lc440, hQ440, l440, y440, z440⟩, st440⟩ := Jvm.LawKit.callS X437 hx (y := yN10) hown (mvT hZ (own_k hw 155 rfl)) (mvT hZ (own_k hw 156 rfl)) (mvT hZ (own_k hw 157 rfl)) (mvT hZ (own_k hw 158 rfl)) (by decide) (backOf (W := 0) (own_fl l Z a0 hw [] b420 k420 np (List.replicate np (Value.long (0 : Int64))) (-9223372036854775808 : Int64) h433 n0 Z434 ge_b420 F439 (show (List.replicate np (Value.long (0 : Int64))).length = np from (List.length_replicate ..)) hn7) hZ (own_k hw 158 rfl) (own_k hw 157 rfl) (by decide) (by decide)) (g := (mkF m 34 #[oR a, oJ np] [(.long (-9223372036854775808 : Int64)), (.ref b420)])) rfl hml.symm  (argsL := [(.ref b420), (.long (-9223372036854775808 : Int64))]) (rest := []) (lenOf own_pd7 rfl) rfl (own_w0 rfl rfl) (hb hby d17_34) (fun _ _ => ⟨rfl, e437, (by decide : 3 + 0 ≤ 3), (by decide : 4110 + 0 ≤ 4110)⟩)
 dsimp only [Pt.U, Pt.locs, Pt.cells, Pt.slots] at X440 l440 y440 z440 st440 hQ440
 subst l440 y440 z440
 obtain ⟨ws_440, rfl, N440, K440_, P441, P442⟩ := hQ440
 have N443 := Fr.app N433 N440
 have Z444 := Nat.le_trans Z434 K440_.1
 have K444 := (Keep.trans K434 K440_ (allS (Or.inr (Nat.le_trans K418.1 (Nat.le_of_eq g420.symm))) all0))
 refine own_st st440 ?_
 refine own_st (g' := (mkF m 38 #[oR a, oJ np] [(.ref a)])) (fun _ kt => XS.aloadN X440.here hx rfl (hb hby d17_37) rfl rfl kt) ?_
 have F445 := (Fld.keep F435 K440_ (ninS ne438 nin0))
 obtain ⟨T446, X446, e446, st446⟩ := getF X440 hx hZ hown (host := "") (Or.inl (own_k hw 152 rfl)) Via.refl rfl F445 (g := (mkF m 38 #[oR a, oJ np] [(.ref a)])) rfl rfl (hb hby d17_38)
 refine own_st st446 ?_
 refine own_st (g' := (mkF m 44 #[oR a, oJ np] [(.long (-9223372036854775808 : Int64)), (.ref b428)])) (Stand.ldc2Long X446 hx hown (mvT hZ (own_k hw 154 rfl)) (g := (mkF m 41 #[oR a, oJ np] [(.ref b428)])) rfl (hb hby d17_41)) ?_
 have ne447 : a ≠ b428 := (Nat.ne_of_lt (Nat.lt_of_lt_of_le F427.lt (Nat.le_of_eq g428.symm)))
 have ne448 : b420 ≠ b428 := (Nat.ne_of_lt (Nat.lt_of_lt_of_le (Nat.lt_of_lt_of_le F422.lt (Nat.le_of_eq (Wr.size W425).symm)) (Nat.le_of_eq g428.symm)))
 have F449 := (Arv.keep (Arv.other F430 W433 (Ne.symm ne447)) K440_ (ninS (Ne.symm ne448) nin0))
 obtain ⟨_, _, ⟨T450, L450, k450, n450⟩, -, X450, ⟨Lc450, hQ450, l450, y450, z450⟩, st450⟩ := Jvm.LawKit.callS X446 hx (y := yN10) hown (mvT hZ (own_k hw 155 rfl)) (mvT hZ (own_k hw 156 rfl)) (mvT hZ (own_k hw 157 rfl)) (mvT hZ (own_k hw 158 rfl)) (by decide) (backOf (W := 0) (own_fl l Z a0 hw [] b428 k428 np (List.replicate np (Value.long (0 : Int64))) (-9223372036854775808 : Int64) T440.heap n0 Z444 ge_b428 F449 (show (List.replicate np (Value.long (0 : Int64))).length = np from (List.length_replicate ..)) hn7) hZ (own_k hw 158 rfl) (own_k hw 157 rfl) (by decide) (by decide)) (g := (mkF m 44 #[oR a, oJ np] [(.long (-9223372036854775808 : Int64)), (.ref b428)])) rfl hml.symm  (argsL := [(.ref b428), (.long (-9223372036854775808 : Int64))]) (rest := []) (lenOf own_pd7 rfl) rfl (own_w0 rfl rfl) (hb hby d17_44) (fun _ _ => ⟨rfl, e446, (by decide : 3 + 0 ≤ 3), (by decide : 4110 + 0 ≤ 4110)⟩)
 dsimp only [Pt.U, Pt.locs, Pt.cells, Pt.slots] at X450 l450 y450 z450 st450 hQ450
 subst l450 y450 z450
 obtain ⟨ws_450, rfl, N450, K450_, P451, P452⟩ := hQ450
 have N453 := Fr.app N443 N450
 have Z454 := Nat.le_trans Z444 K450_.1
 have K454 := (Keep.trans K444 K450_ (allS (Or.inr (Nat.le_trans K426.1 (Nat.le_of_eq g428.symm))) all0))
 refine own_st st450 ?_
 obtain ⟨fs, hr, hrun, hended, hW, hsame⟩ := X450.leave (v := none) (fun _ => rfl)
 refine own_end (X450.returnOut hx Bd.returns (hb hby d17_47) hr) ⟨_, hrun, hended, _, _, rfl, ?_, ⟨_, rfl⟩, hW, hsame.mono (by decide) (by decide)⟩
 have F455 := (Exa.keep (Exa.keep (Exa.wr W433 F432) K440_) K450_)
 show own_plsQ Z _ _ h0 n0 _ T450.heap _
 show own_plsQ Z _ _ h0 n0 _ T450.heap _
 exact ⟨rfl, N453, K454, F455⟩
abbrev c11 := prog_109_method_1_code
theorem d11_0 : dk c11 0 (.aload_n 0) 1 := by decide +kernel
theorem d11_1 : dk c11 1 (.invokespecial 1) 3 := by decide +kernel
theorem d11_4 : dk c11 4 (.aload_n 0) 1 := by decide +kernel
theorem d11_5 : dk c11 5 (.new 7) 3 := by decide +kernel
theorem d11_8 : dk c11 8 (.dup) 1 := by decide +kernel
theorem d11_9 : dk c11 9 (.iload_n 1) 1 := by decide +kernel
theorem d11_10 : dk c11 10 (.invokespecial 9) 3 := by decide +kernel
theorem d11_13 : dk c11 13 (.putfield 12) 3 := by decide +kernel
theorem d11_18 : dk c11 18 (.iload_n 2) 1 := by decide +kernel
theorem d11_19 : dk c11 19 (.iload_n 1) 1 := by decide +kernel
theorem d11_20 : dk c11 20 (.if_icmp .ge 26) 3 := by decide +kernel
theorem d11_23 : dk c11 23 (.aload_n 0) 1 := by decide +kernel
theorem d11_24 : dk c11 24 (.getfield 12) 3 := by decide +kernel
theorem d11_27 : dk c11 27 (.new 18) 3 := by decide +kernel
theorem d11_30 : dk c11 30 (.dup) 1 := by decide +kernel
theorem d11_31 : dk c11 31 (.invokespecial 20) 3 := by decide +kernel
theorem d11_34 : dk c11 34 (.invokeinterface 21 2) 5 := by decide +kernel
theorem own_pd8 : parseMethodDescriptor "(Ljava/lang/Object;)Z" = some ⟨[(.object "java/lang/Object")], some .boolean⟩ := by decide +kernel
theorem d11_39 : dk c11 39 (.pop) 1 := by decide +kernel
theorem d11_40 : dk c11 40 (.iinc 2 1) 3 := by decide +kernel
theorem d11_43 : dk c11 43 (.goto (-25)) 3 := by decide +kernel
theorem d11_46 : dk c11 46 (.aload_n 0) 1 := by decide +kernel
theorem d11_47 : dk c11 47 (.iload_n 1) 1 := by decide +kernel
theorem d11_48 : dk c11 48 (.anewarray 27) 3 := by decide +kernel
theorem d11_51 : dk c11 51 (.putfield 29) 3 := by decide +kernel
theorem d11_54 : dk c11 54 (.aload_n 0) 1 := by decide +kernel
theorem d11_55 : dk c11 55 (.iload_n 1) 1 := by decide +kernel
theorem d11_56 : dk c11 56 (.newarray .long) 2 := by decide +kernel
theorem d11_58 : dk c11 58 (.putfield 33) 3 := by decide +kernel
theorem d11_61 : dk c11 61 (.aload_n 0) 1 := by decide +kernel
theorem d11_62 : dk c11 62 (.new 37) 3 := by decide +kernel
theorem d11_65 : dk c11 65 (.dup) 1 := by decide +kernel
theorem d11_66 : dk c11 66 (.iload_n 1) 1 := by decide +kernel
theorem d11_67 : dk c11 67 (.invokespecial 39) 3 := by decide +kernel
theorem d11_70 : dk c11 70 (.putfield 40) 3 := by decide +kernel
theorem d11_73 : dk c11 73 (.aload_n 0) 1 := by decide +kernel
theorem d11_74 : dk c11 74 (.iload_n 1) 1 := by decide +kernel
theorem d11_75 : dk c11 75 (.anewarray 44) 3 := by decide +kernel
theorem d11_78 : dk c11 78 (.putfield 46) 3 := by decide +kernel
theorem d11_81 : dk c11 81 (.return_) 1 := by decide +kernel
theorem d11_16 : dk c11 16 (.iconst 0) 1 := by decide +kernel
theorem d11_17 : dk c11 17 (.istore_n 2) 1 := by decide +kernel
def own_retQ (Z : State) (a : Addr) (np : Nat) (h0 : Heap) (n0 : Nat) (v : Option Value) (h : Heap) (L : List Loc) : Prop := ∃ (b : Addr), ∃ (kb : ClassId), v = none ∧ Fr n0 L ∧ Keep h0 h [a] ∧ (Exa Z h a zC6) ∧ (Fld Z h a zC6 "dropping" zC20 (.ref b)) ∧ (Arv Z h b kb (.object zC12) (Int32.ofNat np) (List.replicate np .null) .null) ∧ (Ovr Z kb zC12) ∧ (h0.size ≤ b)
theorem own_pn19 : plainName "com/example/millrace/millrace/cluster/Retained" = true := by first | (simp [plainName, overriddenIn]; done) | decide +kernel
abbrev own_retR : Room := { frames := 4, cells := 20, slots := 4500, locals := 120 }
theorem own_ret (l : Launch) (Z : State) (a0 : Array Value) (hw : ∀ d ∈ tables_1, d.before a0 Z = true) (ws : List Jvm.Cond) (a : Addr) (np : Nat) (h0 : Heap) (n0 : Nat) (Z0 : n0 ≤ h0.size) (pr1 : Exa Z h0 a zC6) (pr2 : n0 ≤ a) (pr3 : Fld Z h0 a zC6 "partitions" zC16 .null) (pr4 : Fld Z h0 a zC6 "last" zC30 .null) (pr5 : Fld Z h0 a zC6 "lastLateFrom" "[J" .null) (pr6 : Fld Z h0 a zC6 "places" zC31 .null) (pr7 : Fld Z h0 a zC6 "dropping" zC20 .null) (pr8 : 1 ≤ np) (pr9 : np ≤ 7) :
    own_M l yN46 prog_109_method_1_code 3 none ws own_retR #[(.ref a), (.int (Int32.ofNat np))] Z h0 (own_retQ Z a np h0 n0) := by
 refine own_go (plainFor_of_name own_pn19) (fun m => own_ef7 m a (Int32.ofNat np) ) ?_
 intro p e s m below meth c s₁ Bd hx hby hml hZ hh hown hnm X0 e0
 have N0 := Fr.nil n0
 have K0 : Keep h0 h0 [a] := Keep.refl h0 _
 have hp1 := pr8
 have hn7 := pr9
 refine own_st (g' := (mkF m 1 #[oR a, oJ np, .unset] [(.ref a)])) (fun _ kt => XS.aloadN X0.here hx rfl (hb hby d11_0) rfl rfl kt) ?_
 obtain ⟨T456, X456, e456, st456⟩ := initO X0 hx hZ hown (own_k hw 86 rfl) (own_k hw 11 rfl) (own_k hw 12 rfl) e0 (g := (mkF m 1 #[oR a, oJ np, .unset] [(.ref a)])) rfl hml.symm rfl (hb hby d11_1) (by decide) (W := 0) (own_w0 rfl rfl) (by decide)
 refine own_st st456 ?_
 refine own_st (g' := (mkF m 5 #[oR a, oJ np, .unset] [(.ref a)])) (fun _ kt => XS.aloadN X456.here hx rfl (hb hby d11_4) rfl rfl kt) ?_
 obtain ⟨T457, h457, X457, e457, E457, A457, D457, -, st457⟩ := newO X456 hx hZ hown (own_k hw 87 rfl) (own_k hw 33 rfl) (own_k hw 34 rfl) e456 (g := (mkF m 5 #[oR a, oJ np, .unset] [(.ref a)])) rfl (hb hby d11_5) (by decide) (by decide)
 obtain ⟨b457, g457⟩ : ∃ z, z = h0.size := ⟨_, rfl⟩
 rw [← g457] at A457 D457 st457
 have Z458 := Nat.le_trans Z0 E457.1
 have K458 := (Keep.ext K0 E457)
 have ge_b457 : n0 ≤ b457 := Nat.le_trans Z0 (Nat.le_of_eq g457.symm)
 have F459 : Fld Z h457 b457 zC10 "modCount" "I" (.int 0) := D457 (Or.inl (own_k hw 52 rfl)) (ty := .int) (by decide)
 have F460 : Fld Z h457 b457 zC1 "elementData" zC7 .null := D457 (Or.inl (own_k hw 55 rfl)) (ty := (.array (.object zC3))) (by decide)
 have F461 : Fld Z h457 b457 zC1 "size" "I" (.int 0) := D457 (Or.inl (own_k hw 126 rfl)) (ty := .int) (by decide)
 refine own_st st457 ?_
 refine own_st (g' := (mkF m 10 #[oR a, oJ np, .unset] [vJ np, (.ref b457), (.ref b457), (.ref a)])) (fun _ kt => XS.dup X457.here hx rfl (hb hby d11_8) rfl rfl (XS.iloadN X457.here hx rfl (hb hby d11_9) rfl kt)) ?_
 obtain ⟨_, _, ⟨T462, L462, k462, n462⟩, -, X462, ⟨Lc462, hQ462, l462, y462, z462⟩, st462⟩ := X457.specialBack hx (y := yN21) rfl hown (mvT hZ (own_k hw 88 rfl)) (mvT hZ (own_k hw 89 rfl)) (mvT hZ (own_k hw 90 rfl)) (by decide) (backOf (W := 2) (own_alI l Z a0 hw [] b457 np h457 n0 Z458 A457 ge_b457 F459 F460 F461 hp1 hn7) hZ (own_k hw 90 rfl) (own_k hw 34 rfl) (by decide) (by decide)) (g := (mkF m 10 #[oR a, oJ np, .unset] [vJ np, (.ref b457), (.ref b457), (.ref a)])) rfl hml.symm (Steps.refl _) (a := b457) (argsL := [vJ np]) (rest := [(.ref b457), (.ref a)]) (lenOf own_pd4 rfl) rfl (own_w0 rfl rfl) (hb hby d11_10) (fun _ _ => ⟨rfl, e457, (by decide : 1 + 1 ≤ 20), (by decide : 3 + 7 ≤ 4500)⟩)
 dsimp only [Pt.U, Pt.locs, Pt.cells, Pt.slots] at X462 l462 y462 z462 st462 hQ462
 subst l462 y462 z462
 obtain ⟨b_462, kb_462, rfl, N462, K462_, P463, P464, P465, P466, P467, P468, P469⟩ := hQ462
 have N470 := Fr.app N0 N462
 have Z471 := Nat.le_trans Z458 K462_.1
 have K471 := (Keep.trans K458 K462_ (allS (Or.inr (Nat.le_trans K0.1 (Nat.le_of_eq g457.symm))) all0))
 have ge472 : n0 ≤ b_462 := Nat.le_trans Z458 P469
 refine own_tr st462 ?_
 have ne473 : a ≠ b457 := (Nat.ne_of_lt (Nat.lt_of_lt_of_le pr1.lt (Nat.le_of_eq g457.symm)))
 have F474 := (Fld.keep (Fld.ext E457 pr3) K462_ (ninS ne473 nin0))
 have F475 := (Exa.keep pr1 K471)
 obtain ⟨T476, h476, X476, e476, W476, st476⟩ := putF X462 hx hZ hown (host := "") (Or.inl (own_k hw 93 rfl)) Via.refl rfl F474 F475 (Or.inr ⟨(own_k hw 94 rfl), rfl, hnm⟩) (own_k hw 81 rfl) (ty := (.object zC11)) (by decide) rfl rfl (g := (mkF m 13 #[oR a, oJ np, .unset] [(.ref b457), (.ref a)])) rfl rfl (hb hby d11_13)
 have N476 := Fr.snoc X476 N470 pr2
 have Z477 := Nat.le_trans Z471 (Nat.le_of_eq (Wr.size W476).symm)
 have K477 := (Keep.wr K471 W476 (Or.inl (List.mem_of_getElem? (i := 0) rfl)))
 have F478 : Fld Z h476 a zC6 "partitions" zC16 (.ref b457) := Fld.same W476 F474
 refine own_st st476 ?_
 refine own_loopH (α := Nat × Int32 × List Value) X476 (cs := fun kk => (2 + (np - kk))) (sl := fun kk => (10 + (np - kk) * 9)) (gj := fun q => (mkF m 18 #[oR a, oJ np, oJ q.1] [])) (P := fun kk L_ h_ q => (Fr n0 L_) ∧ (n0 ≤ h_.size) ∧ (Keep h0 h_ [a]) ∧ (Exa Z h_ a zC6) ∧ (Fld Z h_ a zC6 "partitions" zC16 (.ref b457)) ∧ (Fld Z h_ a zC6 "last" zC30 .null) ∧ (Fld Z h_ a zC6 "lastLateFrom" "[J" .null) ∧ (Fld Z h_ a zC6 "places" zC31 .null) ∧ (Fld Z h_ a zC6 "dropping" zC20 .null) ∧ (Exa Z h_ b457 zC1) ∧ (Fld Z h_ b457 zC10 "modCount" "I" (.int q.2.1)) ∧ (Fld Z h_ b457 zC1 "elementData" zC7 (.ref b_462)) ∧ (Fld Z h_ b457 zC1 "size" "I" (.int (Int32.ofNat q.1))) ∧ (Arv Z h_ b_462 kb_462 (.object zC3) (Int32.ofNat np) q.2.2 .null) ∧ (q.2.2.length = np ∧ q.1 ≤ np ∧ np - q.1 = kk)) ?_ (fun J479 => ?_)
 ·
  rintro kk ih479 T479 L479 h479 ⟨i, mc, us⟩ ⟨N479, Z479, K479, F480, F481, F482, F483, F484, F485, F486, F487, F488, F489, F490, hj479⟩ X479 e479
  try dsimp only at F480 F481 F482 F483 F484 F485 F486 F487 F488 F489 F490 hj479 X479 ⊢
  have hj := hj479
  refine own_st (g' := (mkF m 20 #[oR a, oJ np, oJ i] [vJ np, vJ i])) (fun _ kt => XS.iloadN X479.here hx rfl (hb hby d11_18) rfl (XS.iloadN X479.here hx rfl (hb hby d11_19) rfl kt)) ?_
  by_cases hc491 : (Int32.ofNat i) < (Int32.ofNat np)
  ·
   refine own_st (g' := (mkF m 23 #[oR a, oJ np, oJ i] [])) (fun _ kt => XS.icmpNo X479.here hx rfl (hb hby d11_20) rfl (XT.ii_ge_f hc491) kt) ?_
   have hi1 : i < np := (own_ige (by omega) (by omega)).mp hc491
   refine own_st (g' := (mkF m 24 #[oR a, oJ np, oJ i] [(.ref a)])) (fun _ kt => XS.aloadN X479.here hx rfl (hb hby d11_23) rfl rfl kt) ?_
   obtain ⟨T492, X492, e492, st492⟩ := getF X479 hx hZ hown (host := "") (Or.inl (own_k hw 93 rfl)) Via.refl e479 F481 (g := (mkF m 24 #[oR a, oJ np, oJ i] [(.ref a)])) rfl rfl (hb hby d11_24)
   refine own_st st492 ?_
   obtain ⟨T493, h493, X493, e493, E493, A493, D493, -, st493⟩ := newO X492 hx hZ hown (own_k hw 95 rfl) (own_k hw 96 rfl) (own_k hw 97 rfl) e492 (g := (mkF m 27 #[oR a, oJ np, oJ i] [(.ref b457)])) rfl (hb hby d11_27) (by show _ ≤ (20 : Nat); (try dsimp only [Pt.cells, Pt.slots]); omega) (by show _ ≤ (4500 : Nat); (try dsimp only [Pt.cells, Pt.slots]); omega)
   obtain ⟨b493, g493⟩ : ∃ z, z = h479.size := ⟨_, rfl⟩
   rw [← g493] at A493 D493 st493
   have Z494 := Nat.le_trans Z479 E493.1
   have K494 := (Keep.ext K479 E493)
   have ge_b493 : n0 ≤ b493 := Nat.le_trans Z479 (Nat.le_of_eq g493.symm)
   have F495 : Fld Z h493 b493 zC21 "size" "I" (.int 0) := D493 (Or.inl (own_k hw 109 rfl)) (ty := .int) (by decide)
   have F496 : Fld Z h493 b493 zC21 "modCount" "I" (.int 0) := D493 (Or.inl (own_k hw 111 rfl)) (ty := .int) (by decide)
   have F497 : Fld Z h493 b493 zC21 "comparator" zC33 .null := D493 (Or.inr (own_k hw 113 rfl)) (ty := (.object zC29)) (by decide)
   refine own_st st493 ?_
   refine own_st (g' := (mkF m 31 #[oR a, oJ np, oJ i] [(.ref b493), (.ref b493), (.ref b457)])) (fun _ kt => XS.dup X493.here hx rfl (hb hby d11_30) rfl rfl kt) ?_
   obtain ⟨_, _, ⟨T498, L498, k498, n498⟩, -, X498, ⟨Lc498, hQ498, l498, y498, z498⟩, st498⟩ := X493.specialBack hx (y := yN32) rfl hown (mvT hZ (own_k hw 98 rfl)) (mvT hZ (own_k hw 99 rfl)) (mvT hZ (own_k hw 100 rfl)) (by decide) (backOf (W := 2) (own_tm l Z a0 hw [] b493 h493 n0 Z494 A493 ge_b493 F495 F496 F497) hZ (own_k hw 100 rfl) (own_k hw 97 rfl) (by decide) (by decide)) (g := (mkF m 31 #[oR a, oJ np, oJ i] [(.ref b493), (.ref b493), (.ref b457)])) rfl hml.symm (Steps.refl _) (a := b493) (argsL := []) (rest := [(.ref b493), (.ref b457)]) (lenOf own_pd1 rfl) rfl (own_w0 rfl rfl) (hb hby d11_31) (fun _ _ => ⟨rfl, e493, (by show _ + 0 ≤ (20 : Nat); (try dsimp only [Pt.cells, Pt.slots]); omega), (by show _ + 0 ≤ (4500 : Nat); (try dsimp only [Pt.cells, Pt.slots]); omega)⟩)
   dsimp only [Pt.U, Pt.locs, Pt.cells, Pt.slots] at X498 l498 y498 z498 st498 hQ498
   subst l498 y498 z498
   obtain ⟨rfl, N498, K498_, P499⟩ := hQ498
   have N500 := Fr.app N479 N498
   have Z501 := Nat.le_trans Z494 K498_.1
   have K501 := (Keep.trans K494 K498_ (allS (Or.inr (Nat.le_trans K479.1 (Nat.le_of_eq g493.symm))) all0))
   refine own_tr st498 ?_
   have F502 := (Exa.keep (Exa.ext E493 F486) K498_)
   have ne503 : b457 ≠ b493 := (Nat.ne_of_lt (Nat.lt_of_lt_of_le F486.lt (Nat.le_of_eq g493.symm)))
   have F504 := (Fld.keep (Fld.ext E493 F487) K498_ (ninS ne503 nin0))
   have F505 := (Fld.keep (Fld.ext E493 F488) K498_ (ninS ne503 nin0))
   have F506 := (Fld.keep (Fld.ext E493 F489) K498_ (ninS ne503 nin0))
   have ne507 : b_462 ≠ b493 := (Nat.ne_of_lt (Nat.lt_of_lt_of_le F490.lt (Nat.le_of_eq g493.symm)))
   have F508 := (Arv.keep (F490.ext E493) K498_ (ninS ne507 nin0))
   obtain ⟨cq510, kq510, qa510, qb510, qc510⟩ := isOf hZ rfl F502
   obtain ⟨_, _, ⟨T509, L509, k509, n509⟩, -, X509, ⟨Lc509, hQ509, l509, y509, z509⟩, st509⟩ := X498.interfaceBack hx (xi := yN5) (y := yN1) hown (mvT hZ (own_k hw 114 rfl)) (mvT hZ (own_k hw 115 rfl)) (mvT hZ (own_k hw 116 rfl)) (mvT hZ (own_k hw 117 rfl)) (mvT hZ (own_k hw 118 rfl)) (mvT hZ (own_k hw 119 rfl)) (mvT hZ (own_k hw 120 rfl)) (mvT hZ (own_k hw 121 rfl)) (by decide) (backOf (W := 0) (own_a1 l Z a0 hw [] b457 mc b493 b_462 kb_462 i np us T498.heap n0 Z501 ge_b457 ge472 F502 F504 F505 F506 F508 P468 (Ins.of_exa P499 (own_k hw 132 rfl)) hi1 (show np ≤ 10 from (by omega)) (show us.length = np from hj.1)) hZ (own_k hw 122 rfl) (own_k hw 34 rfl) (by decide) (by decide)) qa510 qb510 qc510 (g := (mkF m 34 #[oR a, oJ np, oJ i] [(.ref b493), (.ref b457)])) rfl hml.symm (Steps.refl _) (argsL := [(.ref b493)]) (rest := []) (lenOf own_pd8 rfl) rfl (own_w0 rfl rfl) (hb hby d11_34) (fun _ _ => ⟨rfl, rfl, (by show _ + 0 ≤ (20 : Nat); (try dsimp only [Pt.cells, Pt.slots]); omega), (by show _ + 0 ≤ (4500 : Nat); (try dsimp only [Pt.cells, Pt.slots]); omega)⟩)
   dsimp only [Pt.U, Pt.locs, Pt.cells, Pt.slots] at X509 l509 y509 z509 st509 hQ509
   subst l509 y509 z509
   obtain ⟨rfl, N509, K509_, P511, P512, P513, P514, P515⟩ := hQ509
   have N516 := Fr.app N500 N509
   have Z517 := Nat.le_trans Z501 K509_.1
   have K517 := (Keep.trans K501 K509_ (allS (Or.inr (Nat.le_trans K0.1 (Nat.le_of_eq g457.symm))) (allS (Or.inr (Nat.le_trans K458.1 P469)) all0)))
   refine own_tr st509 ?_
   refine own_st (g' := (mkF m 43 #[oR a, oJ np, oI ((Int32.ofNat i) + (1 : Int32))] [])) (fun _ kt => XT.pop X509.here hx rfl (hb hby d11_39) rfl rfl (XS.iinc X509.here hx rfl (hb hby d11_40) rfl (l' := #[oR a, oJ np, oI ((Int32.ofNat i) + (1 : Int32))]) rfl kt)) ?_
   rw [own_succ (n := i) (by omega)]
   refine own_st (g' := (mkF m 18 #[oR a, oJ np, oJ (i + 1)] [])) (fun _ kt => XS.goto X509.here hx rfl (pc0 := 43) (pc' := 18) rfl (hb hby d11_43) (by decide) (by decide) kt) ?_
   have F518 := (Exa.keep (Exa.keep (Exa.ext E493 F480) K498_) K509_)
   have ne519 : a ≠ b493 := (Nat.ne_of_lt (Nat.lt_of_lt_of_le F480.lt (Nat.le_of_eq g493.symm)))
   have ne520 : a ≠ b_462 := (Nat.ne_of_lt (Nat.lt_of_lt_of_le (Nat.lt_of_lt_of_le pr1.lt E457.1) P469))
   have F521 := (Fld.keep (Fld.keep (Fld.ext E493 F481) K498_ (ninS ne519 nin0)) K509_ (ninS ne473 (ninS ne520 nin0)))
   have F522 := (Fld.keep (Fld.keep (Fld.ext E493 F482) K498_ (ninS ne519 nin0)) K509_ (ninS ne473 (ninS ne520 nin0)))
   have F523 := (Fld.keep (Fld.keep (Fld.ext E493 F483) K498_ (ninS ne519 nin0)) K509_ (ninS ne473 (ninS ne520 nin0)))
   have F524 := (Fld.keep (Fld.keep (Fld.ext E493 F484) K498_ (ninS ne519 nin0)) K509_ (ninS ne473 (ninS ne520 nin0)))
   have F525 := (Fld.keep (Fld.keep (Fld.ext E493 F485) K498_ (ninS ne519 nin0)) K509_ (ninS ne473 (ninS ne520 nin0)))
   exact ih479 (np - (i + 1)) (by have := hj.2.2; omega) _ _ _ ⟨(i + 1), (mc + (1 : Int32)), (us.set i (.ref b493))⟩ ⟨N516, Z517, K517, F518, F521, F522, F523, F524, F525, P511, P512, P513, P514, P515, ⟨by rw [List.length_set]; exact hj.1, hi1, rfl⟩⟩ (X509.mono (by first | decide | exact Nat.le_add_right_of_le (by decide) | ((try dsimp only [Pt.cells, Pt.slots]); omega)) (by first | decide | exact Nat.le_add_right_of_le (by decide) | ((try dsimp only [Pt.cells, Pt.slots]); omega))) rfl
  ·
   refine own_st (g' := (mkF m 48 #[oR a, oJ np, oJ i] [vJ np, (.ref a)])) (fun _ kt => XS.icmpYes X479.here hx rfl (pc0 := 20) (pc' := 46) rfl (hb hby d11_20) rfl (XT.ii_ge_t hc491) (by decide) (by decide) (XS.aloadN X479.here hx rfl (hb hby d11_46) rfl rfl (XS.iloadN X479.here hx rfl (hb hby d11_47) rfl kt))) ?_
   obtain ⟨T526, h526, k526, X526, e526, E526, A526, O526, st526⟩ := newR X479 hx hZ hown (own_k hw 133 rfl) (own_k hw 134 rfl) e479 (g := (mkF m 48 #[oR a, oJ np, oJ i] [vJ np, (.ref a)])) rfl (hb hby d11_48) rfl (own_nn (by omega)) (cap := 7) (by rw [own_tn (by omega)]; omega) (by decide) (by show _ ≤ (20 : Nat); (try dsimp only [Pt.cells, Pt.slots]); omega) (by show _ ≤ (4500 : Nat); (try dsimp only [Pt.cells, Pt.slots]); omega)
   obtain ⟨b526, g526⟩ : ∃ z, z = h479.size := ⟨_, rfl⟩
   rw [← g526] at A526 st526
   have Z527 := Nat.le_trans Z479 E526.1
   have K527 := (Keep.ext K479 E526)
   have ge_b526 : n0 ≤ b526 := Nat.le_trans Z479 (Nat.le_of_eq g526.symm)
   have F528 : Arv Z h526 b526 k526 (.object zC27) (Int32.ofNat np) (List.replicate np .null) .null := (Arv.new A526 (own_nn (by omega))).pad (pad_rep [] .null np)
   refine own_st st526 ?_
   have F529 := (Fld.ext E526 F482)
   have F530 := (Exa.ext E526 F480)
   obtain ⟨T531, h531, X531, e531, W531, st531⟩ := putF X526 hx hZ hown (host := "") (Or.inl (own_k hw 135 rfl)) Via.refl e526 F529 F530 (Or.inr ⟨(own_k hw 136 rfl), rfl, hnm⟩) (own_k hw 81 rfl) (ty := (.array (.object zC27))) (by decide) rfl rfl (g := (mkF m 51 #[oR a, oJ np, oJ i] [(.ref b526), (.ref a)])) rfl rfl (hb hby d11_51)
   have N531 := Fr.snoc X531 N479 pr2
   have Z532 := Nat.le_trans Z527 (Nat.le_of_eq (Wr.size W531).symm)
   have K532 := (Keep.wr K527 W531 (Or.inl (List.mem_of_getElem? (i := 0) rfl)))
   have F533 : Fld Z h531 a zC6 "last" zC30 (.ref b526) := Fld.same W531 F529
   refine own_st st531 ?_
   refine own_st (g' := (mkF m 56 #[oR a, oJ np, oJ i] [vJ np, (.ref a)])) (fun _ kt => XS.aloadN X531.here hx rfl (hb hby d11_54) rfl rfl (XS.iloadN X531.here hx rfl (hb hby d11_55) rfl kt)) ?_
   obtain ⟨T534, h534, k534, X534, e534, E534, A534, st534⟩ := newP X531 hx hZ (aty := .long) (own_k hw 137 rfl) e531 (g := (mkF m 56 #[oR a, oJ np, oJ i] [vJ np, (.ref a)])) rfl (hb hby d11_56) rfl (own_nn (by omega)) (cap := 7) (by rw [own_tn (by omega)]; omega) (by decide) (by show _ ≤ (20 : Nat); (try dsimp only [Pt.cells, Pt.slots]); omega) (by show _ ≤ (4500 : Nat); (try dsimp only [Pt.cells, Pt.slots]); omega)
   obtain ⟨b534, g534⟩ : ∃ z, z = h531.size := ⟨_, rfl⟩
   rw [← g534] at A534 st534
   have Z535 := Nat.le_trans Z532 E534.1
   have K535 := (Keep.ext K532 E534)
   have ge_b534 : n0 ≤ b534 := Nat.le_trans Z532 (Nat.le_of_eq g534.symm)
   have F536 : Arv Z h534 b534 k534 .long (Int32.ofNat np) (List.replicate np (Value.long (0 : Int64))) (.long (0 : Int64)) := (Arv.new A534 (own_nn (by omega))).pad (pad_rep [] (Value.long (0 : Int64)) np)
   refine own_st st534 ?_
   have F537 := (Fld.ext E534 (Fld.other W531 (Fld.ext E526 F483) (Or.inr (slot_ne (Or.inr (own_k hw 139 rfl)) (Or.inr (own_k hw 136 rfl)) (by decide) (t := (.array .long)) (t' := (.array (.object zC27))) (by decide) (by decide)))))
   have F538 := (Exa.ext E534 (Exa.wr W531 F530))
   obtain ⟨T539, h539, X539, e539, W539, st539⟩ := putF X534 hx hZ hown (host := "") (Or.inl (own_k hw 138 rfl)) Via.refl e534 F537 F538 (Or.inr ⟨(own_k hw 139 rfl), rfl, hnm⟩) (own_k hw 81 rfl) (ty := (.array .long)) (by decide) rfl rfl (g := (mkF m 58 #[oR a, oJ np, oJ i] [(.ref b534), (.ref a)])) rfl rfl (hb hby d11_58)
   have N539 := Fr.snoc X539 N531 pr2
   have Z540 := Nat.le_trans Z535 (Nat.le_of_eq (Wr.size W539).symm)
   have K540 := (Keep.wr K535 W539 (Or.inl (List.mem_of_getElem? (i := 0) rfl)))
   have F541 : Fld Z h539 a zC6 "lastLateFrom" "[J" (.ref b534) := Fld.same W539 F537
   refine own_st st539 ?_
   refine own_st (g' := (mkF m 62 #[oR a, oJ np, oJ i] [(.ref a)])) (fun _ kt => XS.aloadN X539.here hx rfl (hb hby d11_61) rfl rfl kt) ?_
   obtain ⟨T542, h542, X542, e542, E542, A542, D542, -, st542⟩ := newO X539 hx hZ hown (own_k hw 140 rfl) (own_k hw 141 rfl) (own_k hw 142 rfl) e539 (g := (mkF m 62 #[oR a, oJ np, oJ i] [(.ref a)])) rfl (hb hby d11_62) (by show _ ≤ (20 : Nat); (try dsimp only [Pt.cells, Pt.slots]); omega) (by show _ ≤ (4500 : Nat); (try dsimp only [Pt.cells, Pt.slots]); omega)
   obtain ⟨b542, g542⟩ : ∃ z, z = h539.size := ⟨_, rfl⟩
   rw [← g542] at A542 D542 st542
   have Z543 := Nat.le_trans Z540 E542.1
   have K543 := (Keep.ext K540 E542)
   have ge_b542 : n0 ≤ b542 := Nat.le_trans Z540 (Nat.le_of_eq g542.symm)
   have F544 : Fld Z h542 b542 zC17 "log" "[B" .null := D542 (Or.inl (own_k hw 149 rfl)) (ty := (.array .byte)) (by decide)
   have F545 : Fld Z h542 b542 zC17 "coveredBelow" "[J" .null := D542 (Or.inr (own_k hw 151 rfl)) (ty := (.array .long)) (by decide)
   have F546 : Fld Z h542 b542 zC17 "writtenTo" "[J" .null := D542 (Or.inr (own_k hw 153 rfl)) (ty := (.array .long)) (by decide)
   refine own_st st542 ?_
   refine own_st (g' := (mkF m 67 #[oR a, oJ np, oJ i] [vJ np, (.ref b542), (.ref b542), (.ref a)])) (fun _ kt => XS.dup X542.here hx rfl (hb hby d11_65) rfl rfl (XS.iloadN X542.here hx rfl (hb hby d11_66) rfl kt)) ?_
   obtain ⟨_, _, ⟨T547, L547, k547, n547⟩, -, X547, ⟨Lc547, hQ547, l547, y547, z547⟩, st547⟩ := X542.specialBack hx (y := yN45) rfl hown (mvT hZ (own_k hw 143 rfl)) (mvT hZ (own_k hw 144 rfl)) (mvT hZ (own_k hw 145 rfl)) (by decide) (backOf (W := 2) (own_pls l Z a0 hw [] b542 np h542 n0 Z543 A542 ge_b542 F544 F545 F546 hp1 hn7) hZ (own_k hw 145 rfl) (own_k hw 142 rfl) (by decide) (by decide)) (g := (mkF m 67 #[oR a, oJ np, oJ i] [vJ np, (.ref b542), (.ref b542), (.ref a)])) rfl hml.symm (Steps.refl _) (a := b542) (argsL := [vJ np]) (rest := [(.ref b542), (.ref a)]) (lenOf own_pd4 rfl) rfl (own_w0 rfl rfl) (hb hby d11_67) (fun _ _ => ⟨rfl, e542, (by show _ + 3 ≤ (20 : Nat); (try dsimp only [Pt.cells, Pt.slots]); omega), (by show _ + 4110 ≤ (4500 : Nat); (try dsimp only [Pt.cells, Pt.slots]); omega)⟩)
   dsimp only [Pt.U, Pt.locs, Pt.cells, Pt.slots] at X547 l547 y547 z547 st547 hQ547
   subst l547 y547 z547
   obtain ⟨rfl, N547, K547_, P548⟩ := hQ547
   have N549 := Fr.app N539 N547
   have Z550 := Nat.le_trans Z543 K547_.1
   have K550 := (Keep.trans K543 K547_ (allS (Or.inr (Nat.le_trans K540.1 (Nat.le_of_eq g542.symm))) all0))
   refine own_tr st547 ?_
   have ne551 : a ≠ b542 := (Nat.ne_of_lt (Nat.lt_of_lt_of_le F541.lt (Nat.le_of_eq g542.symm)))
   have F552 := (Fld.keep (Fld.ext E542 (Fld.other W539 (Fld.ext E534 (Fld.other W531 (Fld.ext E526 F484) (Or.inr (slot_ne (Or.inr (own_k hw 160 rfl)) (Or.inr (own_k hw 136 rfl)) (by decide) (t := (.object zC17)) (t' := (.array (.object zC27))) (by decide) (by decide))))) (Or.inr (slot_ne (Or.inr (own_k hw 160 rfl)) (Or.inr (own_k hw 139 rfl)) (by decide) (t := (.object zC17)) (t' := (.array .long)) (by decide) (by decide))))) K547_ (ninS ne551 nin0))
   have F553 := (Exa.keep (Exa.ext E542 (Exa.wr W539 F538)) K547_)
   obtain ⟨T554, h554, X554, e554, W554, st554⟩ := putF X547 hx hZ hown (host := "") (Or.inl (own_k hw 159 rfl)) Via.refl rfl F552 F553 (Or.inr ⟨(own_k hw 160 rfl), rfl, hnm⟩) (own_k hw 81 rfl) (ty := (.object zC17)) (by decide) rfl rfl (g := (mkF m 70 #[oR a, oJ np, oJ i] [(.ref b542), (.ref a)])) rfl rfl (hb hby d11_70)
   have N554 := Fr.snoc X554 N549 pr2
   have Z555 := Nat.le_trans Z550 (Nat.le_of_eq (Wr.size W554).symm)
   have K555 := (Keep.wr K550 W554 (Or.inl (List.mem_of_getElem? (i := 0) rfl)))
   have F556 : Fld Z h554 a zC6 "places" zC31 (.ref b542) := Fld.same W554 F552
   refine own_st st554 ?_
   refine own_st (g' := (mkF m 75 #[oR a, oJ np, oJ i] [vJ np, (.ref a)])) (fun _ kt => XS.aloadN X554.here hx rfl (hb hby d11_73) rfl rfl (XS.iloadN X554.here hx rfl (hb hby d11_74) rfl kt)) ?_
   obtain ⟨T557, h557, k557, X557, e557, E557, A557, O557, st557⟩ := newR X554 hx hZ hown (own_k hw 161 rfl) (own_k hw 162 rfl) e554 (g := (mkF m 75 #[oR a, oJ np, oJ i] [vJ np, (.ref a)])) rfl (hb hby d11_75) rfl (own_nn (by omega)) (cap := 7) (by rw [own_tn (by omega)]; omega) (by decide) (by show _ ≤ (20 : Nat); (try dsimp only [Pt.cells, Pt.slots]); omega) (by show _ ≤ (4500 : Nat); (try dsimp only [Pt.cells, Pt.slots]); omega)
   obtain ⟨b557, g557⟩ : ∃ z, z = h554.size := ⟨_, rfl⟩
   rw [← g557] at A557 st557
   have Z558 := Nat.le_trans Z555 E557.1
   have K558 := (Keep.ext K555 E557)
   have ge_b557 : n0 ≤ b557 := Nat.le_trans Z555 (Nat.le_of_eq g557.symm)
   have F559 : Arv Z h557 b557 k557 (.object zC12) (Int32.ofNat np) (List.replicate np .null) .null := (Arv.new A557 (own_nn (by omega))).pad (pad_rep [] .null np)
   refine own_st st557 ?_
   have F560 := (Fld.ext E557 (Fld.other W554 (Fld.keep (Fld.ext E542 (Fld.other W539 (Fld.ext E534 (Fld.other W531 (Fld.ext E526 F485) (Or.inr (slot_ne (Or.inr (own_k hw 164 rfl)) (Or.inr (own_k hw 136 rfl)) (by decide) (t := (.array (.object zC12))) (t' := (.array (.object zC27))) (by decide) (by decide))))) (Or.inr (slot_ne (Or.inr (own_k hw 164 rfl)) (Or.inr (own_k hw 139 rfl)) (by decide) (t := (.array (.object zC12))) (t' := (.array .long)) (by decide) (by decide))))) K547_ (ninS ne551 nin0)) (Or.inr (slot_ne (Or.inr (own_k hw 164 rfl)) (Or.inr (own_k hw 160 rfl)) (by decide) (t := (.array (.object zC12))) (t' := (.object zC17)) (by decide) (by decide)))))
   have F561 := (Exa.ext E557 (Exa.wr W554 F553))
   obtain ⟨T562, h562, X562, e562, W562, st562⟩ := putF X557 hx hZ hown (host := "") (Or.inl (own_k hw 163 rfl)) Via.refl e557 F560 F561 (Or.inr ⟨(own_k hw 164 rfl), rfl, hnm⟩) (own_k hw 81 rfl) (ty := (.array (.object zC12))) (by decide) rfl rfl (g := (mkF m 78 #[oR a, oJ np, oJ i] [(.ref b557), (.ref a)])) rfl rfl (hb hby d11_78)
   have N562 := Fr.snoc X562 N554 pr2
   have Z563 := Nat.le_trans Z558 (Nat.le_of_eq (Wr.size W562).symm)
   have K563 := (Keep.wr K558 W562 (Or.inl (List.mem_of_getElem? (i := 0) rfl)))
   have F564 : Fld Z h562 a zC6 "dropping" zC20 (.ref b557) := Fld.same W562 F560
   refine own_st st562 ?_
   obtain ⟨fs, hr, hrun, hended, hW, hsame⟩ := X562.leave (v := none) (fun _ => rfl)
   refine own_end (X562.returnOut hx Bd.returns (hb hby d11_81) hr) ⟨_, hrun, hended, _, _, rfl, ?_, ⟨_, rfl⟩, hW, hsame.mono (by show _ ≤ (20 : Nat); (try dsimp only [Pt.cells, Pt.slots]); omega) (by show _ ≤ (4500 : Nat); (try dsimp only [Pt.cells, Pt.slots]); omega)⟩
   have F565 := (Exa.wr W562 F561)
   have ne566 : a ≠ b557 := (Nat.ne_of_lt (Nat.lt_of_lt_of_le F556.lt (Nat.le_of_eq g557.symm)))
   have F567 := (Arv.other F559 W562 (Ne.symm ne566))
   show own_retQ Z _ _ h0 n0 _ T562.heap _
   rw [e562]
   exact ⟨b557, k557, rfl, N562, K563, F565, F564, F567, O557, (Nat.le_trans K555.1 (Nat.le_of_eq g557.symm))⟩
 ·
  refine own_st (g' := (mkF m 18 #[oR a, oJ np, oI 0] [])) (fun _ kt => XS.iconst X476.here hx rfl (hb hby d11_16) (XS.istoreN X476.here hx rfl (hb hby d11_17) rfl (l' := #[oR a, oJ np, oI 0]) rfl kt)) ?_
  have F568 := (Exa.wr W476 F475)
  have F569 := (Fld.other W476 (Fld.keep (Fld.ext E457 pr4) K462_ (ninS ne473 nin0)) (Or.inr (slot_ne (Or.inr (own_k hw 136 rfl)) (Or.inr (own_k hw 94 rfl)) (by decide) (t := (.array (.object zC27))) (t' := (.object zC11)) (by decide) (by decide))))
  have F570 := (Fld.other W476 (Fld.keep (Fld.ext E457 pr5) K462_ (ninS ne473 nin0)) (Or.inr (slot_ne (Or.inr (own_k hw 139 rfl)) (Or.inr (own_k hw 94 rfl)) (by decide) (t := (.array .long)) (t' := (.object zC11)) (by decide) (by decide))))
  have F571 := (Fld.other W476 (Fld.keep (Fld.ext E457 pr6) K462_ (ninS ne473 nin0)) (Or.inr (slot_ne (Or.inr (own_k hw 160 rfl)) (Or.inr (own_k hw 94 rfl)) (by decide) (t := (.object zC17)) (t' := (.object zC11)) (by decide) (by decide))))
  have F572 := (Fld.other W476 (Fld.keep (Fld.ext E457 pr7) K462_ (ninS ne473 nin0)) (Or.inr (slot_ne (Or.inr (own_k hw 164 rfl)) (Or.inr (own_k hw 94 rfl)) (by decide) (t := (.array (.object zC12))) (t' := (.object zC11)) (by decide) (by decide))))
  have F573 := (Exa.wr W476 P463)
  have F574 := (Fld.other W476 P464 (Or.inl (Ne.symm ne473)))
  have F575 := (Fld.other W476 P465 (Or.inl (Ne.symm ne473)))
  have F576 := (Fld.other W476 P466 (Or.inl (Ne.symm ne473)))
  have ne577 : a ≠ b_462 := (Nat.ne_of_lt (Nat.lt_of_lt_of_le (Nat.lt_of_lt_of_le pr1.lt E457.1) P469))
  have F578 := (Arv.other P467 W476 (Ne.symm ne577))
  exact J479 np _ _ _ ⟨0, (0 : Int32), (List.replicate np .null)⟩ ⟨N476, Z477, K477, F568, F478, F569, F570, F571, F572, F573, F574, F575, F576, F578, ⟨List.length_replicate .., Nat.zero_le _, rfl⟩⟩ (X476.mono (by first | decide | exact Nat.le_add_right_of_le (by decide) | ((try dsimp only [Pt.cells, Pt.slots]); omega)) (by first | decide | exact Nat.le_add_right_of_le (by decide) | ((try dsimp only [Pt.cells, Pt.slots]); omega))) e476
section OwnR
variable {p : Program} {l : Launch} {e : Env} {R : Room} {s : State} {m : MethodId} {args : Array Value} {below : List Frame} {meth : Method} {c : Code} {T : State} {locs : List Loc} {cells slots : Nat}
theorem own_specialRef (X : Stand p l e R s m args below meth c T locs cells slots) (hexec : p.tables.exec = Jvm.exec) {own : String} {index : Nat} {y : MethodName} (hy1 : y.name = "<init>")
    (hown : s.vm.findClass own = some m.cls) (hlink : (Cond.methodRef own index y).before args s = true) (hinst : (Cond.instanceMethod y).before args s = true)
    {bytes : ByteArray} {maxL : Nat} (hcode : (Cond.code y bytes maxL none).before args s = true)
    (hy : y.cls ≠ "java/lang/invoke/MethodHandle" ∧ y.cls ≠ "java/lang/invoke/VarHandle")
    {W : Nat} {Pre : Pt → Array Value → Prop} {Post : Pt → Array Value → Option Value → Pt → Prop} (hK : Back l R p e below s args y 3 W Pre Post)
    {g : JFrame} (hg : g.method = m) (hsize : g.locals.size = c.maxLocals) {s₀ : State} (hcome : Steps p.tables e below s₀ (T.setTop g)) {a : Addr} {argsL rest : List Value}
    (hlen : ∀ sig, parseMethodDescriptor y.desc = some sig → argsL.length = sig.parameters.length) (hstack : g.stack = argsL.reverse ++ .ref a :: rest) (hW : 2 * g.monitorRoom + (rest.map fun v => v.category).sum ≤ W)
    (hdg : decode c.code g.pc = .ok (.invokespecial index, 3)) (hpre : ∀ vm₁, s.WarmedH vm₁ → Pre ⟨T.setVm vm₁, locs, cells, slots⟩ (.ref a :: argsL).toArray) :
    ∃ (v : Option Value) (vm₁ : Vm) (B : Pt), s.WarmedH vm₁ ∧ Stand p l e R s m args below meth c B.U B.locs B.cells B.slots ∧ Post ⟨T.setVm vm₁, locs, cells, slots⟩ (.ref a :: argsL).toArray v B ∧
      Steps p.tables e below s₀ (B.U.setTop { g with pc := g.pc + 3, stack := v.toList ++ rest }) := by
  subst hg
  obtain ⟨obj, methO, hnO, hmO, hstO, habO⟩ := Cond.instanceMethod_spec hinst
  obtain ⟨methO', cO, hmO', hcO, hbO, hlO, -, hlockO, -, hsigO⟩ := Cond.code_spec hnO hcode
  cases hmO.symm.trans hmO'
  obtain ⟨kO, hkO, hnameO⟩ := className_of_methodNamed hnO
  obtain ⟨hnameMO, hdescO⟩ := name_of_methodNamed hnO hmO
  have hwarm : s.WarmedH T.vm := X.warmed
  have hR := Cond.methodRef_warmed hwarm hnO hy hlink
  have hown' : (s.setVm T.vm).vm.findClass own = some g.method.cls := by show T.vm.findClass own = _; rw [hwarm.alike.findClass]; exact hown
  obtain ⟨m', c', hm', hready, hfind, hnr⟩ := Cond.methodRef_named e hown' hR
  rw [State.methodFound?_setVm_of_named hwarm.alike hnO hy, State.methodFound?_of_named hnO hy] at hm'
  cases hm'
  have ec : c' = obj.cls := by
    have h1 : T.vm.findClass y.cls = some c' := hfind
    rw [hwarm.alike.findClass, findClass_of_methodNamed hnO] at h1
    exact (Option.some.inj h1).symm
  subst ec
  obtain ⟨kO₂, hkO₂, heO₂⟩ := hwarm.alike.2.2 _ _ hkO
  have hmO₂ : T.vm.method? obj = some methO := by rw [hwarm.alike.method?]; exact hmO
  have hfound : lookupSpecial T.vm obj.cls "<init>" methO.desc = .method obj := by
    rw [hwarm.alike.lookupSpecial, hdescO, ← hy1]; exact lookupSpecial_of_named hnO hmO hstO
  have hstep : ∀ target, (∀ acts, Steps p.tables e below (doInvoke e (T.setTop { g with stack := rest }) acts obj (.ref a :: argsL).toArray).1 target) → Steps p.tables e below (T.setTop g) target := by
    intro target hrest
    have h := X.here
    jvm_step h [hexec, hdg, invokespecial.wp_init (e := e) (s := T) (k := kO₂) (meth := methO) (m := obj) (a := a) (args := argsL) (rest := rest) (f := g) h.top hnr hready hkO₂ hmO₂ (by rw [hnameMO]; exact hy1) hstO habO hfound (hlen _ hsigO) hstack]
    exact hrest
  have X₁ := X.noted hwarm
  obtain ⟨v, B, X', hpost, hsteps⟩ := hK g.method meth c ⟨T.setVm T.vm, locs, cells, slots⟩ { g with stack := rest } (.invokespecial index) obj (.ref a :: argsL).toArray X₁ rfl hsize hdg hW (X₁.named hnO) (hpre T.vm hwarm)
  exact ⟨v, T.vm, B, hwarm, X', hpost, (hcome.trans (hstep _ fun acts => by rw [doInvoke_state]; exact Steps.refl _)).trans hsteps⟩
end OwnR
theorem own_mvR {Z s : State} {a0 args : Array Value} {own : String} {index : Nat} {y : MethodName} (hZ : Z.Warmed39 s.vm) (hinst : (Cond.instanceMethod y).before a0 Z = true) (hy : y.cls ≠ "java/lang/invoke/MethodHandle" ∧ y.cls ≠ "java/lang/invoke/VarHandle") (h : (Cond.methodRef own index y).before a0 Z = true) : (Cond.methodRef own index y).before args s = true := by
  obtain ⟨obj, methO, hnO, -⟩ := Cond.instanceMethod_spec hinst
  have h2 := Cond.methodRef_warmed39 hZ hnO hy h
  exact h2
abbrev c20 := prog_50_method_1_code
theorem d20_0 : dk c20 0 (.aload_n 0) 1 := by decide +kernel
theorem d20_1 : dk c20 1 (.invokespecial 1) 3 := by decide +kernel
theorem d20_4 : dk c20 4 (.aload_n 0) 1 := by decide +kernel
theorem d20_5 : dk c20 5 (.lconst 0) 1 := by decide +kernel
theorem d20_6 : dk c20 6 (.putfield 9) 3 := by decide +kernel
theorem d20_9 : dk c20 9 (.aload_n 0) 1 := by decide +kernel
theorem d20_10 : dk c20 10 (.new 15) 3 := by decide +kernel
theorem d20_13 : dk c20 13 (.dup) 1 := by decide +kernel
theorem d20_14 : dk c20 14 (.invokespecial 17) 3 := by decide +kernel
theorem d20_17 : dk c20 17 (.putfield 18) 3 := by decide +kernel
theorem d20_20 : dk c20 20 (.aload_n 0) 1 := by decide +kernel
theorem d20_21 : dk c20 21 (.new 22) 3 := by decide +kernel
theorem d20_24 : dk c20 24 (.dup) 1 := by decide +kernel
theorem d20_25 : dk c20 25 (.invokespecial 24) 3 := by decide +kernel
theorem d20_28 : dk c20 28 (.putfield 25) 3 := by decide +kernel
theorem d20_31 : dk c20 31 (.return_) 1 := by decide +kernel
def own_owiQ (Z : State) (a : Addr) (de : Addr) (h0 : Heap) (n0 : Nat) (v : Option Value) (h : Heap) (L : List Loc) : Prop := v = none ∧ Fr n0 L ∧ Keep h0 h [a] ∧ (Exa Z h a zC22)
theorem own_pn20 : plainName "com/example/millrace/millrace/cluster/Coverage$Owner" = true := by first | (simp [plainName, overriddenIn]; done) | decide +kernel
abbrev own_owiR : Room := { frames := 4, cells := 3, slots := 12, locals := 52 }
theorem own_owi (l : Launch) (Z : State) (a0 : Array Value) (hw : ∀ d ∈ tables_1, d.before a0 Z = true) (ws : List Jvm.Cond) (a : Addr) (de : Addr) (h0 : Heap) (n0 : Nat) (Z0 : n0 ≤ h0.size) (pr1 : Old Z n0 h0) (pr2 : Sta Z Z.heap zC1 "DEFAULTCAPACITY_EMPTY_ELEMENTDATA" zC7 (.ref de)) (pr3 : Exa Z h0 a zC22) (pr4 : n0 ≤ a) (pr5 : Fld Z h0 a zC22 "covered" "J" (.long (0 : Int64))) (pr6 : Fld Z h0 a zC22 "alone" zC35 .null) (pr7 : Fld Z h0 a zC22 "waiting" zC16 .null) :
    own_M l yN47 prog_50_method_1_code 1 none ws own_owiR #[(.ref a)] Z h0 (own_owiQ Z a de h0 n0) := by
 refine own_go (plainFor_of_name own_pn20) (fun m => own_ef1 m a ) ?_
 intro p e s m below meth c s₁ Bd hx hby hml hZ hh hown hnm X0 e0
 have N0 := Fr.nil n0
 have K0 : Keep h0 h0 [a] := Keep.refl h0 _
 refine own_st (g' := (mkF m 1 #[oR a] [(.ref a)])) (fun _ kt => XS.aloadN X0.here hx rfl (hb hby d20_0) rfl rfl kt) ?_
 obtain ⟨T579, X579, e579, st579⟩ := initO X0 hx hZ hown (own_k hw 188 rfl) (own_k hw 11 rfl) (own_k hw 12 rfl) e0 (g := (mkF m 1 #[oR a] [(.ref a)])) rfl hml.symm rfl (hb hby d20_1) (by decide) (W := 0) (own_w0 rfl rfl) (by decide)
 refine own_st st579 ?_
 refine own_st (g' := (mkF m 6 #[oR a] [(.long (0 : Int64)), (.ref a)])) (fun _ kt => XS.aloadN X579.here hx rfl (hb hby d20_4) rfl rfl (XT.lconst X579.here hx rfl (hb hby d20_5) kt)) ?_
 obtain ⟨T580, h580, X580, e580, W580, st580⟩ := putF X579 hx hZ hown (host := "") (Or.inl (own_k hw 189 rfl)) Via.refl e579 pr5 pr3 (Or.inl (own_k hw 190 rfl)) (own_k hw 183 rfl) (ty := .long) (by decide) rfl rfl (g := (mkF m 6 #[oR a] [(.long (0 : Int64)), (.ref a)])) rfl rfl (hb hby d20_6)
 have N580 := Fr.snoc X580 N0 pr4
 have Z581 := Nat.le_trans Z0 (Nat.le_of_eq (Wr.size W580).symm)
 have K581 := (Keep.wr K0 W580 (Or.inl (List.mem_of_getElem? (i := 0) rfl)))
 have F582 : Fld Z h580 a zC22 "covered" "J" (.long (0 : Int64)) := Fld.same W580 pr5
 refine own_st st580 ?_
 refine own_st (g' := (mkF m 10 #[oR a] [(.ref a)])) (fun _ kt => XS.aloadN X580.here hx rfl (hb hby d20_9) rfl rfl kt) ?_
 obtain ⟨T583, h583, X583, e583, E583, A583, D583, -, st583⟩ := newO X580 hx hZ hown (own_k hw 191 rfl) (own_k hw 192 rfl) (own_k hw 193 rfl) e580 (g := (mkF m 10 #[oR a] [(.ref a)])) rfl (hb hby d20_10) (by decide) (by decide)
 obtain ⟨b583, g583⟩ : ∃ z, z = h580.size := ⟨_, rfl⟩
 rw [← g583] at A583 D583 st583
 have Z584 := Nat.le_trans Z581 E583.1
 have K584 := (Keep.ext K581 E583)
 have ge_b583 : n0 ≤ b583 := Nat.le_trans Z581 (Nat.le_of_eq g583.symm)
 have F585 : Fld Z h583 b583 zC28 "map" zC34 .null := D583 (Or.inl (own_k hw 218 rfl)) (ty := (.object zC25)) (by decide)
 refine own_st st583 ?_
 refine own_st (g' := (mkF m 14 #[oR a] [(.ref b583), (.ref b583), (.ref a)])) (fun _ kt => XS.dup X583.here hx rfl (hb hby d20_13) rfl rfl kt) ?_
 obtain ⟨_, _, ⟨T586, L586, k586, n586⟩, -, X586, ⟨Lc586, hQ586, l586, y586, z586⟩, st586⟩ := X583.specialBack hx (y := yN34) rfl hown (mvT hZ (own_k hw 194 rfl)) (mvT hZ (own_k hw 195 rfl)) (mvT hZ (own_k hw 196 rfl)) (by decide) (backOf (W := 2) (own_hs l Z a0 hw [] b583 h583 n0 Z584 A583 ge_b583 F585) hZ (own_k hw 196 rfl) (own_k hw 193 rfl) (by decide) (by decide)) (g := (mkF m 14 #[oR a] [(.ref b583), (.ref b583), (.ref a)])) rfl hml.symm (Steps.refl _) (a := b583) (argsL := []) (rest := [(.ref b583), (.ref a)]) (lenOf own_pd1 rfl) rfl (own_w0 rfl rfl) (hb hby d20_14) (fun _ _ => ⟨rfl, e583, (by decide : 1 + 1 ≤ 3), (by decide : 1 + 8 ≤ 12)⟩)
 dsimp only [Pt.U, Pt.locs, Pt.cells, Pt.slots] at X586 l586 y586 z586 st586 hQ586
 subst l586 y586 z586
 obtain ⟨rfl, N586, K586_, P587⟩ := hQ586
 have N588 := Fr.app N580 N586
 have Z589 := Nat.le_trans Z584 K586_.1
 have K589 := (Keep.trans K584 K586_ (allS (Or.inr (Nat.le_trans K581.1 (Nat.le_of_eq g583.symm))) all0))
 refine own_tr st586 ?_
 have ne590 : a ≠ b583 := (Nat.ne_of_lt (Nat.lt_of_lt_of_le F582.lt (Nat.le_of_eq g583.symm)))
 have F591 := (Fld.keep (Fld.ext E583 (Fld.other W580 pr6 (Or.inr (slot_ne (Or.inr (own_k hw 220 rfl)) (Or.inl (own_k hw 190 rfl)) (by decide) (t := (.object zC32)) (t' := .long) (by decide) (by decide))))) K586_ (ninS ne590 nin0))
 have F592 := (Exa.keep pr3 K589)
 obtain ⟨T593, h593, X593, e593, W593, st593⟩ := putF X586 hx hZ hown (host := "") (Or.inl (own_k hw 219 rfl)) Via.refl rfl F591 F592 (Or.inr ⟨(own_k hw 220 rfl), rfl, hnm⟩) (own_k hw 183 rfl) (ty := (.object zC32)) (by decide) rfl rfl (g := (mkF m 17 #[oR a] [(.ref b583), (.ref a)])) rfl rfl (hb hby d20_17)
 have N593 := Fr.snoc X593 N588 pr4
 have Z594 := Nat.le_trans Z589 (Nat.le_of_eq (Wr.size W593).symm)
 have K594 := (Keep.wr K589 W593 (Or.inl (List.mem_of_getElem? (i := 0) rfl)))
 have F595 : Fld Z h593 a zC22 "alone" zC35 (.ref b583) := Fld.same W593 F591
 refine own_st st593 ?_
 refine own_st (g' := (mkF m 21 #[oR a] [(.ref a)])) (fun _ kt => XS.aloadN X593.here hx rfl (hb hby d20_20) rfl rfl kt) ?_
 obtain ⟨T596, h596, X596, e596, E596, A596, D596, -, st596⟩ := newO X593 hx hZ hown (own_k hw 221 rfl) (own_k hw 33 rfl) (own_k hw 34 rfl) e593 (g := (mkF m 21 #[oR a] [(.ref a)])) rfl (hb hby d20_21) (by decide) (by decide)
 obtain ⟨b596, g596⟩ : ∃ z, z = h593.size := ⟨_, rfl⟩
 rw [← g596] at A596 D596 st596
 have Z597 := Nat.le_trans Z594 E596.1
 have K597 := (Keep.ext K594 E596)
 have ge_b596 : n0 ≤ b596 := Nat.le_trans Z594 (Nat.le_of_eq g596.symm)
 have F598 : Fld Z h596 b596 zC10 "modCount" "I" (.int 0) := D596 (Or.inl (own_k hw 52 rfl)) (ty := .int) (by decide)
 have F599 : Fld Z h596 b596 zC1 "elementData" zC7 .null := D596 (Or.inl (own_k hw 55 rfl)) (ty := (.array (.object zC3))) (by decide)
 have F600 : Fld Z h596 b596 zC1 "size" "I" (.int 0) := D596 (Or.inl (own_k hw 126 rfl)) (ty := .int) (by decide)
 refine own_st st596 ?_
 refine own_st (g' := (mkF m 25 #[oR a] [(.ref b596), (.ref b596), (.ref a)])) (fun _ kt => XS.dup X596.here hx rfl (hb hby d20_24) rfl rfl kt) ?_
 have F601 := (Old.keep pr1 K597 (allS pr4 all0))
 obtain ⟨_, _, ⟨T602, L602, k602, n602⟩, -, X602, ⟨Lc602, hQ602, l602, y602, z602⟩, st602⟩ := X596.specialBack hx (y := yN8) rfl hown (mvT hZ (own_k hw 222 rfl)) (mvT hZ (own_k hw 36 rfl)) (mvT hZ (own_k hw 37 rfl)) (by decide) (backOf (W := 2) (own_ali l Z a0 hw [] b596 de h596 n0 Z597 F601 pr2 A596 ge_b596 F598 F599 F600) hZ (own_k hw 37 rfl) (own_k hw 34 rfl) (by decide) (by decide)) (g := (mkF m 25 #[oR a] [(.ref b596), (.ref b596), (.ref a)])) rfl hml.symm (Steps.refl _) (a := b596) (argsL := []) (rest := [(.ref b596), (.ref a)]) (lenOf own_pd1 rfl) rfl (own_w0 rfl rfl) (hb hby d20_25) (fun _ _ => ⟨rfl, e596, (by decide : 3 + 0 ≤ 3), (by decide : 12 + 0 ≤ 12)⟩)
 dsimp only [Pt.U, Pt.locs, Pt.cells, Pt.slots] at X602 l602 y602 z602 st602 hQ602
 subst l602 y602 z602
 obtain ⟨rfl, N602, K602_, P603, P604, P605, P606⟩ := hQ602
 have N607 := Fr.app N593 N602
 have Z608 := Nat.le_trans Z597 K602_.1
 have K608 := (Keep.trans K597 K602_ (allS (Or.inr (Nat.le_trans K594.1 (Nat.le_of_eq g596.symm))) all0))
 refine own_tr st602 ?_
 have ne609 : a ≠ b596 := (Nat.ne_of_lt (Nat.lt_of_lt_of_le F595.lt (Nat.le_of_eq g596.symm)))
 have F610 := (Fld.keep (Fld.ext E596 (Fld.other W593 (Fld.keep (Fld.ext E583 (Fld.other W580 pr7 (Or.inr (slot_ne (Or.inr (own_k hw 224 rfl)) (Or.inl (own_k hw 190 rfl)) (by decide) (t := (.object zC11)) (t' := .long) (by decide) (by decide))))) K586_ (ninS ne590 nin0)) (Or.inr (slot_ne (Or.inr (own_k hw 224 rfl)) (Or.inr (own_k hw 220 rfl)) (by decide) (t := (.object zC11)) (t' := (.object zC32)) (by decide) (by decide))))) K602_ (ninS ne609 nin0))
 have F611 := (Exa.keep (Exa.ext E596 (Exa.wr W593 F592)) K602_)
 obtain ⟨T612, h612, X612, e612, W612, st612⟩ := putF X602 hx hZ hown (host := "") (Or.inl (own_k hw 223 rfl)) Via.refl rfl F610 F611 (Or.inr ⟨(own_k hw 224 rfl), rfl, hnm⟩) (own_k hw 183 rfl) (ty := (.object zC11)) (by decide) rfl rfl (g := (mkF m 28 #[oR a] [(.ref b596), (.ref a)])) rfl rfl (hb hby d20_28)
 have N612 := Fr.snoc X612 N607 pr4
 have Z613 := Nat.le_trans Z608 (Nat.le_of_eq (Wr.size W612).symm)
 have K613 := (Keep.wr K608 W612 (Or.inl (List.mem_of_getElem? (i := 0) rfl)))
 have F614 : Fld Z h612 a zC22 "waiting" zC16 (.ref b596) := Fld.same W612 F610
 refine own_st st612 ?_
 obtain ⟨fs, hr, hrun, hended, hW, hsame⟩ := X612.leave (v := none) (fun _ => rfl)
 refine own_end (X612.returnOut hx Bd.returns (hb hby d20_31) hr) ⟨_, hrun, hended, _, _, rfl, ?_, ⟨_, rfl⟩, hW, hsame.mono (by decide) (by decide)⟩
 have F615 := (Exa.wr W612 F611)
 show own_owiQ Z _ _ h0 n0 _ T612.heap _
 rw [e612]
 exact ⟨rfl, N612, K613, F615⟩
abbrev c19 := prog_48_method_1_code
theorem d19_0 : dk c19 0 (.aload_n 0) 1 := by decide +kernel
theorem d19_1 : dk c19 1 (.invokespecial 1) 3 := by decide +kernel
theorem d19_4 : dk c19 4 (.aload_n 0) 1 := by decide +kernel
theorem d19_5 : dk c19 5 (.iload_n 1) 1 := by decide +kernel
theorem d19_6 : dk c19 6 (.newarray .long) 2 := by decide +kernel
theorem d19_8 : dk c19 8 (.putfield 7) 3 := by decide +kernel
theorem d19_11 : dk c19 11 (.aload_n 0) 1 := by decide +kernel
theorem d19_12 : dk c19 12 (.getfield 7) 3 := by decide +kernel
theorem d19_15 : dk c19 15 (.ldc2_w 15) 3 := by decide +kernel
theorem d19_18 : dk c19 18 (.invokestatic 17) 3 := by decide +kernel
theorem d19_21 : dk c19 21 (.aload_n 0) 1 := by decide +kernel
theorem d19_22 : dk c19 22 (.new 23) 3 := by decide +kernel
theorem d19_25 : dk c19 25 (.dup) 1 := by decide +kernel
theorem d19_26 : dk c19 26 (.iload_n 2) 1 := by decide +kernel
theorem d19_27 : dk c19 27 (.invokespecial 25) 3 := by decide +kernel
theorem d19_30 : dk c19 30 (.putfield 28) 3 := by decide +kernel
theorem d19_35 : dk c19 35 (.iload_n 3) 1 := by decide +kernel
theorem d19_36 : dk c19 36 (.iload_n 2) 1 := by decide +kernel
theorem d19_37 : dk c19 37 (.if_icmp .ge 26) 3 := by decide +kernel
theorem d19_40 : dk c19 40 (.aload_n 0) 1 := by decide +kernel
theorem d19_41 : dk c19 41 (.getfield 28) 3 := by decide +kernel
theorem d19_44 : dk c19 44 (.new 32) 3 := by decide +kernel
theorem d19_47 : dk c19 47 (.dup) 1 := by decide +kernel
theorem d19_48 : dk c19 48 (.invokespecial 34) 3 := by decide +kernel
theorem d19_51 : dk c19 51 (.invokeinterface 35 2) 5 := by decide +kernel
theorem d19_56 : dk c19 56 (.pop) 1 := by decide +kernel
theorem d19_57 : dk c19 57 (.iinc 3 1) 3 := by decide +kernel
theorem d19_60 : dk c19 60 (.goto (-25)) 3 := by decide +kernel
theorem d19_63 : dk c19 63 (.return_) 1 := by decide +kernel
theorem d19_33 : dk c19 33 (.iconst 0) 1 := by decide +kernel
theorem d19_34 : dk c19 34 (.istore_n 3) 1 := by decide +kernel
def own_covQ (Z : State) (a : Addr) (np : Nat) (nw : Nat) (de : Addr) (h0 : Heap) (n0 : Nat) (v : Option Value) (h : Heap) (L : List Loc) : Prop := v = none ∧ Fr n0 L ∧ Keep h0 h [a] ∧ (Exa Z h a zC14)
theorem own_pn21 : plainName "com/example/millrace/millrace/cluster/Coverage" = true := by first | (simp [plainName, overriddenIn]; done) | decide +kernel
abbrev own_covR : Room := { frames := 5, cells := 30, slots := 300, locals := 140 }
theorem own_cov (l : Launch) (Z : State) (a0 : Array Value) (hw : ∀ d ∈ tables_1, d.before a0 Z = true) (ws : List Jvm.Cond) (a : Addr) (np : Nat) (nw : Nat) (de : Addr) (h0 : Heap) (n0 : Nat) (Z0 : n0 ≤ h0.size) (pr1 : Old Z n0 h0) (pr2 : Sta Z Z.heap zC1 "DEFAULTCAPACITY_EMPTY_ELEMENTDATA" zC7 (.ref de)) (pr3 : Exa Z h0 a zC14) (pr4 : n0 ≤ a) (pr5 : Fld Z h0 a zC14 "covered" "[J" .null) (pr6 : Fld Z h0 a zC14 "owners" zC16 .null) (pr7 : 1 ≤ np) (pr8 : np ≤ 7) (pr9 : 1 ≤ nw) (pr10 : nw ≤ 4) :
    own_M l yN48 prog_48_method_1_code 4 none ws own_covR #[(.ref a), (.int (Int32.ofNat np)), (.int (Int32.ofNat nw))] Z h0 (own_covQ Z a np nw de h0 n0) := by
 refine own_go (plainFor_of_name own_pn21) (fun m => own_ef9 m a (Int32.ofNat np) (Int32.ofNat nw) ) ?_
 intro p e s m below meth c s₁ Bd hx hby hml hZ hh hown hnm X0 e0
 have N0 := Fr.nil n0
 have K0 : Keep h0 h0 [a] := Keep.refl h0 _
 have hp1 := pr7
 have hn7 := pr8
 have hw1 := pr9
 have hw4 := pr10
 refine own_st (g' := (mkF m 1 #[oR a, oJ np, oJ nw, .unset] [(.ref a)])) (fun _ kt => XS.aloadN X0.here hx rfl (hb hby d19_0) rfl rfl kt) ?_
 obtain ⟨T616, X616, e616, st616⟩ := initO X0 hx hZ hown (own_k hw 173 rfl) (own_k hw 11 rfl) (own_k hw 12 rfl) e0 (g := (mkF m 1 #[oR a, oJ np, oJ nw, .unset] [(.ref a)])) rfl hml.symm rfl (hb hby d19_1) (by decide) (W := 0) (own_w0 rfl rfl) (by decide)
 refine own_st st616 ?_
 refine own_st (g' := (mkF m 6 #[oR a, oJ np, oJ nw, .unset] [vJ np, (.ref a)])) (fun _ kt => XS.aloadN X616.here hx rfl (hb hby d19_4) rfl rfl (XS.iloadN X616.here hx rfl (hb hby d19_5) rfl kt)) ?_
 obtain ⟨T617, h617, k617, X617, e617, E617, A617, st617⟩ := newP X616 hx hZ (aty := .long) (own_k hw 137 rfl) e616 (g := (mkF m 6 #[oR a, oJ np, oJ nw, .unset] [vJ np, (.ref a)])) rfl (hb hby d19_6) rfl (own_nn (by omega)) (cap := 7) (by rw [own_tn (by omega)]; omega) (by decide) (by decide) (by decide)
 obtain ⟨b617, g617⟩ : ∃ z, z = h0.size := ⟨_, rfl⟩
 rw [← g617] at A617 st617
 have Z618 := Nat.le_trans Z0 E617.1
 have K618 := (Keep.ext K0 E617)
 have ge_b617 : n0 ≤ b617 := Nat.le_trans Z0 (Nat.le_of_eq g617.symm)
 have F619 : Arv Z h617 b617 k617 .long (Int32.ofNat np) (List.replicate np (Value.long (0 : Int64))) (.long (0 : Int64)) := (Arv.new A617 (own_nn (by omega))).pad (pad_rep [] (Value.long (0 : Int64)) np)
 refine own_st st617 ?_
 have F620 := (Fld.ext E617 pr5)
 have F621 := (Exa.ext E617 pr3)
 obtain ⟨T622, h622, X622, e622, W622, st622⟩ := putF X617 hx hZ hown (host := "") (Or.inl (own_k hw 174 rfl)) Via.refl e617 F620 F621 (Or.inr ⟨(own_k hw 175 rfl), rfl, hnm⟩) (own_k hw 168 rfl) (ty := (.array .long)) (by decide) rfl rfl (g := (mkF m 8 #[oR a, oJ np, oJ nw, .unset] [(.ref b617), (.ref a)])) rfl rfl (hb hby d19_8)
 have N622 := Fr.snoc X622 N0 pr4
 have Z623 := Nat.le_trans Z618 (Nat.le_of_eq (Wr.size W622).symm)
 have K623 := (Keep.wr K618 W622 (Or.inl (List.mem_of_getElem? (i := 0) rfl)))
 have F624 : Fld Z h622 a zC14 "covered" "[J" (.ref b617) := Fld.same W622 F620
 refine own_st st622 ?_
 refine own_st (g' := (mkF m 12 #[oR a, oJ np, oJ nw, .unset] [(.ref a)])) (fun _ kt => XS.aloadN X622.here hx rfl (hb hby d19_11) rfl rfl kt) ?_
 obtain ⟨T625, X625, e625, st625⟩ := getF X622 hx hZ hown (host := "") (Or.inl (own_k hw 174 rfl)) Via.refl e622 F624 (g := (mkF m 12 #[oR a, oJ np, oJ nw, .unset] [(.ref a)])) rfl rfl (hb hby d19_12)
 refine own_st st625 ?_
 refine own_st (g' := (mkF m 18 #[oR a, oJ np, oJ nw, .unset] [(.long (-9223372036854775808 : Int64)), (.ref b617)])) (Stand.ldc2Long X625 hx hown (mvT hZ (own_k hw 176 rfl)) (g := (mkF m 15 #[oR a, oJ np, oJ nw, .unset] [(.ref b617)])) rfl (hb hby d19_15)) ?_
 have ne626 : a ≠ b617 := (Nat.ne_of_lt (Nat.lt_of_lt_of_le pr3.lt (Nat.le_of_eq g617.symm)))
 have F627 := (Arv.other F619 W622 (Ne.symm ne626))
 obtain ⟨_, _, ⟨T628, L628, k628, n628⟩, -, X628, ⟨Lc628, hQ628, l628, y628, z628⟩, st628⟩ := Jvm.LawKit.callS X625 hx (y := yN10) hown (mvT hZ (own_k hw 177 rfl)) (mvT hZ (own_k hw 156 rfl)) (mvT hZ (own_k hw 157 rfl)) (mvT hZ (own_k hw 158 rfl)) (by decide) (backOf (W := 0) (own_fl l Z a0 hw [] b617 k617 np (List.replicate np (Value.long (0 : Int64))) (-9223372036854775808 : Int64) h622 n0 Z623 ge_b617 F627 (show (List.replicate np (Value.long (0 : Int64))).length = np from (List.length_replicate ..)) hn7) hZ (own_k hw 158 rfl) (own_k hw 157 rfl) (by decide) (by decide)) (g := (mkF m 18 #[oR a, oJ np, oJ nw, .unset] [(.long (-9223372036854775808 : Int64)), (.ref b617)])) rfl hml.symm  (argsL := [(.ref b617), (.long (-9223372036854775808 : Int64))]) (rest := []) (lenOf own_pd7 rfl) rfl (own_w0 rfl rfl) (hb hby d19_18) (fun _ _ => ⟨rfl, e625, (by decide : 1 + 0 ≤ 30), (by decide : 7 + 0 ≤ 300)⟩)
 dsimp only [Pt.U, Pt.locs, Pt.cells, Pt.slots] at X628 l628 y628 z628 st628 hQ628
 subst l628 y628 z628
 obtain ⟨ws_628, rfl, N628, K628_, P629, P630⟩ := hQ628
 have N631 := Fr.app N622 N628
 have Z632 := Nat.le_trans Z623 K628_.1
 have K632 := (Keep.trans K623 K628_ (allS (Or.inr (Nat.le_trans K0.1 (Nat.le_of_eq g617.symm))) all0))
 refine own_st st628 ?_
 refine own_st (g' := (mkF m 22 #[oR a, oJ np, oJ nw, .unset] [(.ref a)])) (fun _ kt => XS.aloadN X628.here hx rfl (hb hby d19_21) rfl rfl kt) ?_
 obtain ⟨T633, h633, X633, e633, E633, A633, D633, -, st633⟩ := newO X628 hx hZ hown (own_k hw 178 rfl) (own_k hw 33 rfl) (own_k hw 34 rfl) rfl (g := (mkF m 22 #[oR a, oJ np, oJ nw, .unset] [(.ref a)])) rfl (hb hby d19_22) (by decide) (by decide)
 obtain ⟨b633, g633⟩ : ∃ z, z = T628.heap.size := ⟨_, rfl⟩
 rw [← g633] at A633 D633 st633
 have Z634 := Nat.le_trans Z632 E633.1
 have K634 := (Keep.ext K632 E633)
 have ge_b633 : n0 ≤ b633 := Nat.le_trans Z632 (Nat.le_of_eq g633.symm)
 have F635 : Fld Z h633 b633 zC10 "modCount" "I" (.int 0) := D633 (Or.inl (own_k hw 52 rfl)) (ty := .int) (by decide)
 have F636 : Fld Z h633 b633 zC1 "elementData" zC7 .null := D633 (Or.inl (own_k hw 55 rfl)) (ty := (.array (.object zC3))) (by decide)
 have F637 : Fld Z h633 b633 zC1 "size" "I" (.int 0) := D633 (Or.inl (own_k hw 126 rfl)) (ty := .int) (by decide)
 refine own_st st633 ?_
 refine own_st (g' := (mkF m 27 #[oR a, oJ np, oJ nw, .unset] [vJ nw, (.ref b633), (.ref b633), (.ref a)])) (fun _ kt => XS.dup X633.here hx rfl (hb hby d19_25) rfl rfl (XS.iloadN X633.here hx rfl (hb hby d19_26) rfl kt)) ?_
 obtain ⟨_, _, ⟨T638, L638, k638, n638⟩, -, X638, ⟨Lc638, hQ638, l638, y638, z638⟩, st638⟩ := X633.specialBack hx (y := yN21) rfl hown (mvT hZ (own_k hw 179 rfl)) (mvT hZ (own_k hw 89 rfl)) (mvT hZ (own_k hw 90 rfl)) (by decide) (backOf (W := 2) (own_alI l Z a0 hw [] b633 nw h633 n0 Z634 A633 ge_b633 F635 F636 F637 hw1 (show nw ≤ 7 from (by omega))) hZ (own_k hw 90 rfl) (own_k hw 34 rfl) (by decide) (by decide)) (g := (mkF m 27 #[oR a, oJ np, oJ nw, .unset] [vJ nw, (.ref b633), (.ref b633), (.ref a)])) rfl hml.symm (Steps.refl _) (a := b633) (argsL := [vJ nw]) (rest := [(.ref b633), (.ref a)]) (lenOf own_pd4 rfl) rfl (own_w0 rfl rfl) (hb hby d19_27) (fun _ _ => ⟨rfl, e633, (by decide : 2 + 1 ≤ 30), (by decide : 10 + 7 ≤ 300)⟩)
 dsimp only [Pt.U, Pt.locs, Pt.cells, Pt.slots] at X638 l638 y638 z638 st638 hQ638
 subst l638 y638 z638
 obtain ⟨b_638, kb_638, rfl, N638, K638_, P639, P640, P641, P642, P643, P644, P645⟩ := hQ638
 have N646 := Fr.app N631 N638
 have Z647 := Nat.le_trans Z634 K638_.1
 have K647 := (Keep.trans K634 K638_ (allS (Or.inr (Nat.le_trans K632.1 (Nat.le_of_eq g633.symm))) all0))
 have ge648 : n0 ≤ b_638 := Nat.le_trans Z634 P645
 refine own_tr st638 ?_
 have ne649 : a ≠ b633 := (Nat.ne_of_lt (Nat.lt_of_lt_of_le (Nat.lt_of_lt_of_le F624.lt K628_.1) (Nat.le_of_eq g633.symm)))
 have F650 := (Fld.keep (Fld.ext E633 (Fld.keep (Fld.other W622 (Fld.ext E617 pr6) (Or.inr (slot_ne (Or.inr (own_k hw 181 rfl)) (Or.inr (own_k hw 175 rfl)) (by decide) (t := (.object zC11)) (t' := (.array .long)) (by decide) (by decide)))) K628_ (ninS ne626 nin0))) K638_ (ninS ne649 nin0))
 have F651 := (Exa.keep (Exa.ext E633 (Exa.keep (Exa.wr W622 F621) K628_)) K638_)
 obtain ⟨T652, h652, X652, e652, W652, st652⟩ := putF X638 hx hZ hown (host := "") (Or.inl (own_k hw 180 rfl)) Via.refl rfl F650 F651 (Or.inr ⟨(own_k hw 181 rfl), rfl, hnm⟩) (own_k hw 168 rfl) (ty := (.object zC11)) (by decide) rfl rfl (g := (mkF m 30 #[oR a, oJ np, oJ nw, .unset] [(.ref b633), (.ref a)])) rfl rfl (hb hby d19_30)
 have N652 := Fr.snoc X652 N646 pr4
 have Z653 := Nat.le_trans Z647 (Nat.le_of_eq (Wr.size W652).symm)
 have K653 := (Keep.wr K647 W652 (Or.inl (List.mem_of_getElem? (i := 0) rfl)))
 have F654 : Fld Z h652 a zC14 "owners" zC16 (.ref b633) := Fld.same W652 F650
 refine own_st st652 ?_
 refine own_loopH (α := Nat × Int32 × List Value) X652 (cs := fun kk => (3 + (nw - kk) * 5)) (sl := fun kk => (17 + (nw - kk) * 20)) (gj := fun q => (mkF m 35 #[oR a, oJ np, oJ nw, oJ q.1] [])) (P := fun kk L_ h_ q => (Fr n0 L_) ∧ (n0 ≤ h_.size) ∧ (Keep h0 h_ [a]) ∧ (Old Z n0 h_) ∧ (Exa Z h_ a zC14) ∧ (Fld Z h_ a zC14 "owners" zC16 (.ref b633)) ∧ (Exa Z h_ b633 zC1) ∧ (Fld Z h_ b633 zC10 "modCount" "I" (.int q.2.1)) ∧ (Fld Z h_ b633 zC1 "elementData" zC7 (.ref b_638)) ∧ (Fld Z h_ b633 zC1 "size" "I" (.int (Int32.ofNat q.1))) ∧ (Arv Z h_ b_638 kb_638 (.object zC3) (Int32.ofNat nw) q.2.2 .null) ∧ (q.2.2.length = nw ∧ q.1 ≤ nw ∧ nw - q.1 = kk)) ?_ (fun J655 => ?_)
 ·
  rintro kk ih655 T655 L655 h655 ⟨i, mc, us⟩ ⟨N655, Z655, K655, O655, F656, F657, F658, F659, F660, F661, F662, hj655⟩ X655 e655
  try dsimp only at F656 F657 F658 F659 F660 F661 F662 hj655 X655 ⊢
  have hj := hj655
  refine own_st (g' := (mkF m 37 #[oR a, oJ np, oJ nw, oJ i] [vJ nw, vJ i])) (fun _ kt => XS.iloadN X655.here hx rfl (hb hby d19_35) rfl (XS.iloadN X655.here hx rfl (hb hby d19_36) rfl kt)) ?_
  by_cases hc663 : (Int32.ofNat i) < (Int32.ofNat nw)
  ·
   refine own_st (g' := (mkF m 40 #[oR a, oJ np, oJ nw, oJ i] [])) (fun _ kt => XS.icmpNo X655.here hx rfl (hb hby d19_37) rfl (XT.ii_ge_f hc663) kt) ?_
   have hi1 : i < nw := (own_ige (by omega) (by omega)).mp hc663
   refine own_st (g' := (mkF m 41 #[oR a, oJ np, oJ nw, oJ i] [(.ref a)])) (fun _ kt => XS.aloadN X655.here hx rfl (hb hby d19_40) rfl rfl kt) ?_
   obtain ⟨T664, X664, e664, st664⟩ := getF X655 hx hZ hown (host := "") (Or.inl (own_k hw 180 rfl)) Via.refl e655 F657 (g := (mkF m 41 #[oR a, oJ np, oJ nw, oJ i] [(.ref a)])) rfl rfl (hb hby d19_41)
   refine own_st st664 ?_
   obtain ⟨T665, h665, X665, e665, E665, A665, D665, -, st665⟩ := newO X664 hx hZ hown (own_k hw 182 rfl) (own_k hw 183 rfl) (own_k hw 184 rfl) e664 (g := (mkF m 44 #[oR a, oJ np, oJ nw, oJ i] [(.ref b633)])) rfl (hb hby d19_44) (by show _ ≤ (30 : Nat); (try dsimp only [Pt.cells, Pt.slots]); omega) (by show _ ≤ (300 : Nat); (try dsimp only [Pt.cells, Pt.slots]); omega)
   obtain ⟨b665, g665⟩ : ∃ z, z = h655.size := ⟨_, rfl⟩
   rw [← g665] at A665 D665 st665
   have Z666 := Nat.le_trans Z655 E665.1
   have K666 := (Keep.ext K655 E665)
   have ge_b665 : n0 ≤ b665 := Nat.le_trans Z655 (Nat.le_of_eq g665.symm)
   have F667 : Fld Z h665 b665 zC22 "covered" "J" (.long (0 : Int64)) := D665 (Or.inl (own_k hw 190 rfl)) (ty := .long) (by decide)
   have F668 : Fld Z h665 b665 zC22 "alone" zC35 .null := D665 (Or.inr (own_k hw 220 rfl)) (ty := (.object zC32)) (by decide)
   have F669 : Fld Z h665 b665 zC22 "waiting" zC16 .null := D665 (Or.inr (own_k hw 224 rfl)) (ty := (.object zC11)) (by decide)
   refine own_st st665 ?_
   refine own_st (g' := (mkF m 48 #[oR a, oJ np, oJ nw, oJ i] [(.ref b665), (.ref b665), (.ref b633)])) (fun _ kt => XS.dup X665.here hx rfl (hb hby d19_47) rfl rfl kt) ?_
   have F670 := (Old.ext O655 E665)
   obtain ⟨_, _, ⟨T671, L671, k671, n671⟩, -, X671, ⟨Lc671, hQ671, l671, y671, z671⟩, st671⟩ := own_specialRef X665 hx (y := yN47) rfl hown (own_mvR hZ (own_k hw 186 rfl) (by decide) (own_k hw 185 rfl)) (mvT hZ (own_k hw 186 rfl)) (mvT hZ (own_k hw 187 rfl)) (by decide) (backOf (W := 2) (own_owi l Z a0 hw [] b665 de h665 n0 Z666 F670 pr2 A665 ge_b665 F667 F668 F669) hZ (own_k hw 187 rfl) (own_k hw 184 rfl) (by decide) (by decide)) (g := (mkF m 48 #[oR a, oJ np, oJ nw, oJ i] [(.ref b665), (.ref b665), (.ref b633)])) rfl hml.symm (Steps.refl _) (a := b665) (argsL := []) (rest := [(.ref b665), (.ref b633)]) (lenOf own_pd1 rfl) rfl (own_w0 rfl rfl) (hb hby d19_48) (fun _ _ => ⟨rfl, e665, (by show _ + 3 ≤ (30 : Nat); (try dsimp only [Pt.cells, Pt.slots]); omega), (by show _ + 12 ≤ (300 : Nat); (try dsimp only [Pt.cells, Pt.slots]); omega)⟩)
   dsimp only [Pt.U, Pt.locs, Pt.cells, Pt.slots] at X671 l671 y671 z671 st671 hQ671
   subst l671 y671 z671
   obtain ⟨rfl, N671, K671_, P672⟩ := hQ671
   have N673 := Fr.app N655 N671
   have Z674 := Nat.le_trans Z666 K671_.1
   have K674 := (Keep.trans K666 K671_ (allS (Or.inr (Nat.le_trans K655.1 (Nat.le_of_eq g665.symm))) all0))
   refine own_tr st671 ?_
   have F675 := (Exa.keep (Exa.ext E665 F658) K671_)
   have ne676 : b633 ≠ b665 := (Nat.ne_of_lt (Nat.lt_of_lt_of_le F658.lt (Nat.le_of_eq g665.symm)))
   have F677 := (Fld.keep (Fld.ext E665 F659) K671_ (ninS ne676 nin0))
   have F678 := (Fld.keep (Fld.ext E665 F660) K671_ (ninS ne676 nin0))
   have F679 := (Fld.keep (Fld.ext E665 F661) K671_ (ninS ne676 nin0))
   have ne680 : b_638 ≠ b665 := (Nat.ne_of_lt (Nat.lt_of_lt_of_le F662.lt (Nat.le_of_eq g665.symm)))
   have F681 := (Arv.keep (F662.ext E665) K671_ (ninS ne680 nin0))
   obtain ⟨cq683, kq683, qa683, qb683, qc683⟩ := isOf hZ rfl F675
   obtain ⟨_, _, ⟨T682, L682, k682, n682⟩, -, X682, ⟨Lc682, hQ682, l682, y682, z682⟩, st682⟩ := X671.interfaceBack hx (xi := yN5) (y := yN1) hown (mvT hZ (own_k hw 225 rfl)) (mvT hZ (own_k hw 115 rfl)) (mvT hZ (own_k hw 116 rfl)) (mvT hZ (own_k hw 117 rfl)) (mvT hZ (own_k hw 118 rfl)) (mvT hZ (own_k hw 119 rfl)) (mvT hZ (own_k hw 120 rfl)) (mvT hZ (own_k hw 121 rfl)) (by decide) (backOf (W := 0) (own_a1 l Z a0 hw [] b633 mc b665 b_638 kb_638 i nw us T671.heap n0 Z674 ge_b633 ge648 F675 F677 F678 F679 F681 P644 (Ins.of_exa P672 (own_k hw 226 rfl)) hi1 (show nw ≤ 10 from (by omega)) (show us.length = nw from hj.1)) hZ (own_k hw 122 rfl) (own_k hw 34 rfl) (by decide) (by decide)) qa683 qb683 qc683 (g := (mkF m 51 #[oR a, oJ np, oJ nw, oJ i] [(.ref b665), (.ref b633)])) rfl hml.symm (Steps.refl _) (argsL := [(.ref b665)]) (rest := []) (lenOf own_pd8 rfl) rfl (own_w0 rfl rfl) (hb hby d19_51) (fun _ _ => ⟨rfl, rfl, (by show _ + 0 ≤ (30 : Nat); (try dsimp only [Pt.cells, Pt.slots]); omega), (by show _ + 0 ≤ (300 : Nat); (try dsimp only [Pt.cells, Pt.slots]); omega)⟩)
   dsimp only [Pt.U, Pt.locs, Pt.cells, Pt.slots] at X682 l682 y682 z682 st682 hQ682
   subst l682 y682 z682
   obtain ⟨rfl, N682, K682_, P684, P685, P686, P687, P688⟩ := hQ682
   have N689 := Fr.app N673 N682
   have Z690 := Nat.le_trans Z674 K682_.1
   have K690 := (Keep.trans K674 K682_ (allS (Or.inr (Nat.le_trans K632.1 (Nat.le_of_eq g633.symm))) (allS (Or.inr (Nat.le_trans K634.1 P645)) all0)))
   refine own_tr st682 ?_
   refine own_st (g' := (mkF m 60 #[oR a, oJ np, oJ nw, oI ((Int32.ofNat i) + (1 : Int32))] [])) (fun _ kt => XT.pop X682.here hx rfl (hb hby d19_56) rfl rfl (XS.iinc X682.here hx rfl (hb hby d19_57) rfl (l' := #[oR a, oJ np, oJ nw, oI ((Int32.ofNat i) + (1 : Int32))]) rfl kt)) ?_
   rw [own_succ (n := i) (by omega)]
   refine own_st (g' := (mkF m 35 #[oR a, oJ np, oJ nw, oJ (i + 1)] [])) (fun _ kt => XS.goto X682.here hx rfl (pc0 := 60) (pc' := 35) rfl (hb hby d19_60) (by decide) (by decide) kt) ?_
   have F691 := (Old.keep (Old.keep F670 K671_ (allS ge_b665 all0)) K682_ (allS ge_b633 (allS ge648 all0)))
   have F692 := (Exa.keep (Exa.keep (Exa.ext E665 F656) K671_) K682_)
   have ne693 : a ≠ b665 := (Nat.ne_of_lt (Nat.lt_of_lt_of_le F656.lt (Nat.le_of_eq g665.symm)))
   have ne694 : a ≠ b_638 := (Nat.ne_of_lt (Nat.lt_of_lt_of_le (Nat.lt_of_lt_of_le (Nat.lt_of_lt_of_le F624.lt K628_.1) E633.1) P645))
   have F695 := (Fld.keep (Fld.keep (Fld.ext E665 F657) K671_ (ninS ne693 nin0)) K682_ (ninS ne649 (ninS ne694 nin0)))
   exact ih655 (nw - (i + 1)) (by have := hj.2.2; omega) _ _ _ ⟨(i + 1), (mc + (1 : Int32)), (us.set i (.ref b665))⟩ ⟨N689, Z690, K690, F691, F692, F695, P684, P685, P686, P687, P688, ⟨by rw [List.length_set]; exact hj.1, hi1, rfl⟩⟩ (X682.mono (by first | decide | exact Nat.le_add_right_of_le (by decide) | ((try dsimp only [Pt.cells, Pt.slots]); omega)) (by first | decide | exact Nat.le_add_right_of_le (by decide) | ((try dsimp only [Pt.cells, Pt.slots]); omega))) rfl
  ·
   refine own_st (g' := (mkF m 63 #[oR a, oJ np, oJ nw, oJ i] [])) (fun _ kt => XS.icmpYes X655.here hx rfl (pc0 := 37) (pc' := 63) rfl (hb hby d19_37) rfl (XT.ii_ge_t hc663) (by decide) (by decide) kt) ?_
   obtain ⟨fs, hr, hrun, hended, hW, hsame⟩ := X655.leave (v := none) (fun _ => rfl)
   refine own_end (X655.returnOut hx Bd.returns (hb hby d19_63) hr) ⟨_, hrun, hended, _, _, rfl, ?_, ⟨_, rfl⟩, hW, hsame.mono (by show _ ≤ (30 : Nat); (try dsimp only [Pt.cells, Pt.slots]); omega) (by show _ ≤ (300 : Nat); (try dsimp only [Pt.cells, Pt.slots]); omega)⟩
   show own_covQ Z _ _ _ _ h0 n0 _ T655.heap _
   rw [e655]
   exact ⟨rfl, N655, K655, F656⟩
 ·
  refine own_st (g' := (mkF m 35 #[oR a, oJ np, oJ nw, oI 0] [])) (fun _ kt => XS.iconst X652.here hx rfl (hb hby d19_33) (XS.istoreN X652.here hx rfl (hb hby d19_34) rfl (l' := #[oR a, oJ np, oJ nw, oI 0]) rfl kt)) ?_
  have F696 := (Old.keep pr1 K653 (allS pr4 all0))
  have F697 := (Exa.wr W652 F651)
  have F698 := (Exa.wr W652 P639)
  have F699 := (Fld.other W652 P640 (Or.inl (Ne.symm ne649)))
  have F700 := (Fld.other W652 P641 (Or.inl (Ne.symm ne649)))
  have F701 := (Fld.other W652 P642 (Or.inl (Ne.symm ne649)))
  have ne702 : a ≠ b_638 := (Nat.ne_of_lt (Nat.lt_of_lt_of_le (Nat.lt_of_lt_of_le (Nat.lt_of_lt_of_le F624.lt K628_.1) E633.1) P645))
  have F703 := (Arv.other P643 W652 (Ne.symm ne702))
  exact J655 nw _ _ _ ⟨0, (0 : Int32), (List.replicate nw .null)⟩ ⟨N652, Z653, K653, F696, F697, F654, F698, F699, F700, F701, F703, ⟨List.length_replicate .., Nat.zero_le _, rfl⟩⟩ (X652.mono (by first | decide | exact Nat.le_add_right_of_le (by decide) | ((try dsimp only [Pt.cells, Pt.slots]); omega)) (by first | decide | exact Nat.le_add_right_of_le (by decide) | ((try dsimp only [Pt.cells, Pt.slots]); omega))) e652
theorem own_prd {n : Nat} (h : 1 ≤ n) (h2 : n ≤ 1000) : Int32.ofNat n - (1 : Int32) = Int32.ofNat (n - 1) := by
  rw [← Int32.toInt_inj, Int32.toInt_sub, own_ti (by omega), own_ti (by omega), show (1 : Int32).toInt = 1 from rfl, Int.bmod_eq_of_le (by omega) (by omega)]; omega
theorem own_dec (x : Int32) : x + (-1 : Int32) = x - (1 : Int32) := by rw [Int32.sub_eq_add_neg]
theorem own_lt1 {j f : Nat} (h1 : j ≤ 1000) (h2 : f ≤ 1000) : Int32.ofNat j - (1 : Int32) < Int32.ofNat f ↔ j ≤ f := by
  rw [Int32.lt_iff_toInt_lt, Int32.toInt_sub, own_ti h1, own_ti h2, show (1 : Int32).toInt = 1 from rfl, Int.bmod_eq_of_le (by omega) (by omega)]; omega
theorem own_mg {i : Nat} {ys : List Int32} {d : Value} (h : i < ys.length) : (ys.map Value.int).getD i d = .int (ys.getD i 0) := by
  simp only [List.getD_eq_getElem?_getD]; rw [List.getElem?_map, List.getElem?_eq_getElem h]; rfl
theorem own_cs {nb : Nat} (h : nb ≤ 3) : Int32.ofNat nb - (0 : Int32) < (65 : Int32) ∧ Int32.ofNat nb - (0 : Int32) < (44 : Int32) := by
  have key : ∀ i : Fin 4, Int32.ofNat i.val - (0 : Int32) < (65 : Int32) ∧ Int32.ofNat i.val - (0 : Int32) < (44 : Int32) := by decide +kernel
  exact key ⟨nb, by omega⟩
abbrev c52 := jdk_2529_method_6_code
theorem d52_6 : dk c52 6 (.iload 4) 2 := by decide +kernel
theorem d52_8 : dk c52 8 (.iload_n 2) 1 := by decide +kernel
theorem d52_9 : dk c52 9 (.if_icmp .ge 58) 3 := by decide +kernel
theorem d52_12 : dk c52 12 (.aload_n 0) 1 := by decide +kernel
theorem d52_13 : dk c52 13 (.iload 4) 2 := by decide +kernel
theorem d52_15 : dk c52 15 (.dup) 1 := by decide +kernel
theorem d52_16 : dk c52 16 (.istore_n 3) 1 := by decide +kernel
theorem d52_17 : dk c52 17 (.iaload) 1 := by decide +kernel
theorem d52_18 : dk c52 18 (.istore 5) 2 := by decide +kernel
theorem d52_20 : dk c52 20 (.iload 5) 2 := by decide +kernel
theorem d52_22 : dk c52 22 (.aload_n 0) 1 := by decide +kernel
theorem d52_23 : dk c52 23 (.iload_n 3) 1 := by decide +kernel
theorem d52_24 : dk c52 24 (.iconst 1) 1 := by decide +kernel
theorem d52_25 : dk c52 25 (.isub) 1 := by decide +kernel
theorem d52_26 : dk c52 26 (.iaload) 1 := by decide +kernel
theorem d52_27 : dk c52 27 (.if_icmp .ge 37) 3 := by decide +kernel
theorem d52_33 : dk c52 33 (.iload_n 3) 1 := by decide +kernel
theorem d52_34 : dk c52 34 (.iload_n 1) 1 := by decide +kernel
theorem d52_35 : dk c52 35 (.if_icmp .lt 22) 3 := by decide +kernel
theorem d52_57 : dk c52 57 (.aload_n 0) 1 := by decide +kernel
theorem d52_58 : dk c52 58 (.iload_n 3) 1 := by decide +kernel
theorem d52_59 : dk c52 59 (.iconst 1) 1 := by decide +kernel
theorem d52_60 : dk c52 60 (.iadd) 1 := by decide +kernel
theorem d52_61 : dk c52 61 (.iload 5) 2 := by decide +kernel
theorem d52_63 : dk c52 63 (.iastore) 1 := by decide +kernel
theorem d52_64 : dk c52 64 (.goto (-61)) 3 := by decide +kernel
theorem d52_3 : dk c52 3 (.iinc 4 1) 3 := by decide +kernel
theorem d52_38 : dk c52 38 (.iload 5) 2 := by decide +kernel
theorem d52_40 : dk c52 40 (.aload_n 0) 1 := by decide +kernel
theorem d52_41 : dk c52 41 (.iload_n 3) 1 := by decide +kernel
theorem d52_42 : dk c52 42 (.iaload) 1 := by decide +kernel
theorem d52_43 : dk c52 43 (.if_icmp .ge 14) 3 := by decide +kernel
theorem d52_46 : dk c52 46 (.aload_n 0) 1 := by decide +kernel
theorem d52_47 : dk c52 47 (.iload_n 3) 1 := by decide +kernel
theorem d52_48 : dk c52 48 (.iconst 1) 1 := by decide +kernel
theorem d52_49 : dk c52 49 (.iadd) 1 := by decide +kernel
theorem d52_50 : dk c52 50 (.aload_n 0) 1 := by decide +kernel
theorem d52_51 : dk c52 51 (.iload_n 3) 1 := by decide +kernel
theorem d52_52 : dk c52 52 (.iaload) 1 := by decide +kernel
theorem d52_53 : dk c52 53 (.iastore) 1 := by decide +kernel
theorem d52_54 : dk c52 54 (.goto (-24)) 3 := by decide +kernel
theorem d52_30 : dk c52 30 (.iinc 3 (-1)) 3 := by decide +kernel
theorem d52_67 : dk c52 67 (.return_) 1 := by decide +kernel
theorem d52_0 : dk c52 0 (.iload_n 1) 1 := by decide +kernel
theorem d52_1 : dk c52 1 (.istore 4) 2 := by decide +kernel
theorem own_ef14 (m : MethodId) (x0 : Addr) (x1 : Int32) (x2 : Int32) : entryFrame m #[(.ref x0), (.int x1), (.int x2)] 6 = mkF m 0 #[.val (.ref x0), .val (.int x1), .val (.int x2), .unset, .unset, .unset] [] := by first | (simp [entryFrame, mkF, argsToLocals, Value.category]; done) | rfl
def own_isQ (Z : State) (b : Addr) (kb : ClassId) (nb : Nat) (ys : List Int32) (h0 : Heap) (n0 : Nat) (v : Option Value) (h : Heap) (L : List Loc) : Prop := ∃ (zs : List Int32), v = none ∧ Fr n0 L ∧ Keep h0 h [b] ∧ (Arv Z h b kb .int (Int32.ofNat nb) (zs.map Value.int) (Value.int 0)) ∧ (zs.length = nb)
theorem own_pn22 : plainName "java/util/DualPivotQuicksort" = true := by first | (simp [plainName, overriddenIn]; done) | decide +kernel
abbrev own_isR : Room := { frames := 0, cells := 0, slots := 0, locals := 0 }
theorem own_is (l : Launch) (Z : State) (a0 : Array Value) (hw : ∀ d ∈ tables_1, d.before a0 Z = true) (ws : List Jvm.Cond) (b : Addr) (kb : ClassId) (nb : Nat) (ys : List Int32) (h0 : Heap) (n0 : Nat) (Z0 : n0 ≤ h0.size) (pr1 : n0 ≤ b) (pr2 : Arv Z h0 b kb .int (Int32.ofNat nb) (ys.map Value.int) (Value.int 0)) (pr3 : ys.length = nb) (pr4 : nb ≤ 3) :
    own_M l yN49 jdk_2529_method_6_code 6 none ws own_isR #[(.ref b), (.int 0), (.int (Int32.ofNat nb))] Z h0 (own_isQ Z b kb nb ys h0 n0) := by
 refine own_go (plainFor_of_name own_pn22) (fun m => own_ef14 m b (0 : Int32) (Int32.ofNat nb) ) ?_
 intro p e s m below meth c s₁ Bd hx hby hml hZ hh hown hnm X0 e0
 have N0 := Fr.nil n0
 have K0 : Keep h0 h0 [b] := Keep.refl h0 _
 have hyl := pr3
 have hn3 := pr4
 refine own_loopH (α := Nat × List Int32 × Slot × Slot) X0 (cs := fun kk => 0) (sl := fun kk => 0) (gj := fun q => (mkF m 6 #[oR b, oI 0, oJ nb, q.2.2.1, oJ q.1, q.2.2.2] [])) (P := fun kk L_ h_ q => (Fr n0 L_) ∧ (n0 ≤ h_.size) ∧ (Keep h0 h_ [b]) ∧ (q.2.2.1 = Slot.unset ∨ ∃ x, q.2.2.1 = Slot.val (.int x)) ∧ (q.2.2.2 = Slot.unset ∨ ∃ x, q.2.2.2 = Slot.val (.int x)) ∧ (Arv Z h_ b kb .int (Int32.ofNat nb) (q.2.1.map Value.int) (Value.int 0)) ∧ (q.2.1.length = nb ∧ 1 ≤ q.1 ∧ q.1 ≤ nb + 1 ∧ nb + 1 - q.1 = kk)) ?_ (fun J704 => ?_)
 ·
  rintro kk ih704 T704 L704 h704 ⟨i, us, sv704_3, sv704_5⟩ ⟨N704, Z704, K704, hsv704_3, hsv704_5, F705, hj704⟩ X704 e704
  try dsimp only at hsv704_3 hsv704_5 F705 hj704 X704 ⊢
  have hu := hj704
  refine own_st (g' := (mkF m 9 #[oR b, oI 0, oJ nb, sv704_3, oJ i, sv704_5] [vJ nb, vJ i])) (fun _ kt => XS.iload X704.here hx rfl (hb hby d52_6) rfl (XS.iloadN X704.here hx rfl (hb hby d52_8) rfl kt)) ?_
  by_cases hc706 : (Int32.ofNat i) < (Int32.ofNat nb)
  ·
   have hil : i < nb := (own_ige (by omega) (by omega)).mp hc706
   refine own_st (g' := (mkF m 17 #[oR b, oI 0, oJ nb, oJ i, oJ i, sv704_5] [vJ i, (.ref b)])) (fun _ kt => XS.icmpNo X704.here hx rfl (hb hby d52_9) rfl (XT.ii_ge_f hc706) (XS.aloadN X704.here hx rfl (hb hby d52_12) rfl rfl (XS.iload X704.here hx rfl (hb hby d52_13) rfl (XS.dup X704.here hx rfl (hb hby d52_15) rfl rfl (XS.istoreN X704.here hx rfl (hb hby d52_16) rfl (l' := #[oR b, oI 0, oJ nb, oJ i, oJ i, sv704_5]) (by rcases hsv704_3 with rfl | ⟨_, rfl⟩ <;> rfl) kt))))) ?_
   refine own_st (g' := (mkF m 18 #[oR b, oI 0, oJ nb, oJ i, oJ i, sv704_5] [(.int (us.getD i 0))])) (own_ial X704 hx hZ e704 F705 (own_idx (by omega) (by omega)) (by rw [own_tn (by omega)]; exact own_mg (by omega)) (g := (mkF m 17 #[oR b, oI 0, oJ nb, oJ i, oJ i, sv704_5] [vJ i, (.ref b)])) rfl rfl (hb hby d52_17)) ?_
   obtain ⟨v707, hv707⟩ : ∃ z : Int32, z = (us.getD i 0) := ⟨_, rfl⟩
   rw [← hv707]
   refine own_st (g' := (mkF m 26 #[oR b, oI 0, oJ nb, oJ i, oJ i, oI v707] [(.int ((Int32.ofNat i) - (1 : Int32))), (.ref b), (.int v707)])) (fun _ kt => XS.istore X704.here hx rfl (hb hby d52_18) rfl (l' := #[oR b, oI 0, oJ nb, oJ i, oJ i, oI v707]) (by rcases hsv704_5 with rfl | ⟨_, rfl⟩ <;> rfl) (XS.iload X704.here hx rfl (hb hby d52_20) rfl (XS.aloadN X704.here hx rfl (hb hby d52_22) rfl rfl (XS.iloadN X704.here hx rfl (hb hby d52_23) rfl (XS.iconst X704.here hx rfl (hb hby d52_24) (XS.isub X704.here hx rfl (hb hby d52_25) rfl kt)))))) ?_
   rw [own_prd (n := i) (by omega) (by omega)]
   refine own_st (g' := (mkF m 27 #[oR b, oI 0, oJ nb, oJ i, oJ i, oI v707] [(.int (us.getD (i - 1) 0)), (.int v707)])) (own_ial X704 hx hZ e704 F705 (own_idx (by omega) (by omega)) (by rw [own_tn (by omega)]; exact own_mg (by omega)) (g := (mkF m 26 #[oR b, oI 0, oJ nb, oJ i, oJ i, oI v707] [vJ (i - 1), (.ref b), (.int v707)])) rfl rfl (hb hby d52_26)) ?_
   obtain ⟨v708, hv708⟩ : ∃ z : Int32, z = (us.getD (i - 1) 0) := ⟨_, rfl⟩
   rw [← hv708]
   by_cases hc709 : v707 < v708
   ·
    refine own_st (g' := (mkF m 30 #[oR b, oI 0, oJ nb, oJ i, oJ i, oI v707] [])) (fun _ kt => XS.icmpNo X704.here hx rfl (hb hby d52_27) rfl (XT.ii_ge_f hc709) kt) ?_
    refine own_loopH (α := Nat × List Int32) X704 (cs := fun kk => 0) (sl := fun kk => 0) (gj := fun q => (mkF m 33 #[oR b, oI 0, oJ nb, oI ((Int32.ofNat q.1) - (1 : Int32)), oJ i, oI v707] [])) (P := fun kk L_ h_ q => (Fr n0 L_) ∧ (n0 ≤ h_.size) ∧ (Keep h0 h_ [b]) ∧ (Arv Z h_ b kb .int (Int32.ofNat nb) (q.2.map Value.int) (Value.int 0)) ∧ (q.2.length = nb ∧ q.1 ≤ i ∧ q.1 = kk)) ?_ (fun J710 => ?_)
    ·
     rintro kk ih710 T710 L710 h710 ⟨j, zs⟩ ⟨N710, Z710, K710, F711, hj710⟩ X710 e710
     try dsimp only at F711 hj710 X710 ⊢
     have hz := hj710
     refine own_st (g' := (mkF m 35 #[oR b, oI 0, oJ nb, oI ((Int32.ofNat j) - (1 : Int32)), oJ i, oI v707] [(.int 0), (.int ((Int32.ofNat j) - (1 : Int32)))])) (fun _ kt => XS.iloadN X710.here hx rfl (hb hby d52_33) rfl (XS.iloadN X710.here hx rfl (hb hby d52_34) rfl kt)) ?_
     by_cases hc712 : ((Int32.ofNat j) - (1 : Int32)) < (0 : Int32)
     ·
      have hj0 : j = 0 := by have := (own_lt1 (f := 0) (by omega) (by omega)).mp hc712; omega
      refine own_st (g' := (mkF m 61 #[oR b, oI 0, oJ nb, oI ((Int32.ofNat j) - (1 : Int32)), oJ i, oI v707] [(.int (((Int32.ofNat j) - (1 : Int32)) + (1 : Int32))), (.ref b)])) (fun _ kt => XS.icmpYes X710.here hx rfl (pc0 := 35) (pc' := 57) rfl (hb hby d52_35) rfl (XT.ii_lt_t hc712) (by decide) (by decide) (XS.aloadN X710.here hx rfl (hb hby d52_57) rfl rfl (XS.iloadN X710.here hx rfl (hb hby d52_58) rfl (XS.iconst X710.here hx rfl (hb hby d52_59) (XS.iadd X710.here hx rfl (hb hby d52_60) rfl kt))))) ?_
      rw [Int32.sub_add_cancel]
      refine own_st (g' := (mkF m 63 #[oR b, oI 0, oJ nb, oI ((Int32.ofNat j) - (1 : Int32)), oJ i, oI v707] [(.int v707), vJ j, (.ref b)])) (fun _ kt => XS.iload X710.here hx rfl (hb hby d52_61) rfl kt) ?_
      obtain ⟨T713, h713, X713, e713, W713, V713, st713⟩ := own_ist X710 hx hZ e710 F711 (own_idx (by omega) (by omega)) (i := j) (own_tn (by omega)) (by rw [List.length_map]; omega) (g := (mkF m 63 #[oR b, oI 0, oJ nb, oI ((Int32.ofNat j) - (1 : Int32)), oJ i, oI v707] [(.int v707), vJ j, (.ref b)])) rfl rfl (hb hby d52_63)
      have N713 := Fr.snoc X713 N710 pr1
      have Z714 := Nat.le_trans Z710 (Nat.le_of_eq (Wr.size W713).symm)
      have K714 := (Keep.wr K710 W713 (Or.inl (List.mem_of_getElem? (i := 0) rfl)))
      have F715 : Arv Z h713 b kb .int (Int32.ofNat nb) ((zs.set j v707).map Value.int) (Value.int 0) := (by rw [List.map_set]; exact V713)
      refine own_st st713 ?_
      refine own_st (g' := (mkF m 6 #[oR b, oI 0, oJ nb, oI ((Int32.ofNat j) - (1 : Int32)), oI ((Int32.ofNat i) + (1 : Int32)), oI v707] [])) (fun _ kt => XS.goto X713.here hx rfl (pc0 := 64) (pc' := 3) rfl (hb hby d52_64) (by decide) (by decide) (XS.iinc X713.here hx rfl (hb hby d52_3) rfl (l' := #[oR b, oI 0, oJ nb, oI ((Int32.ofNat j) - (1 : Int32)), oI ((Int32.ofNat i) + (1 : Int32)), oI v707]) rfl kt)) ?_
      rw [own_succ (n := i) (by omega)]
      exact ih704 (nb + 1 - (i + 1)) (by omega) _ _ _ ⟨(i + 1), (zs.set j v707), (Slot.val (.int ((Int32.ofNat j) - (1 : Int32)))), (Slot.val (.int v707))⟩ ⟨N713, Z714, K714, (Or.inr ⟨_, rfl⟩), (Or.inr ⟨_, rfl⟩), F715, ⟨(by (try dsimp only); (repeat rw [List.length_set]); omega), by omega, by omega, rfl⟩⟩ (X713.mono (by first | decide | exact Nat.le_add_right_of_le (by decide) | ((try dsimp only [Pt.cells, Pt.slots]); omega)) (by first | decide | exact Nat.le_add_right_of_le (by decide) | ((try dsimp only [Pt.cells, Pt.slots]); omega))) e713
     ·
      have hj1 : 1 ≤ j := Nat.lt_of_not_le fun g => hc712 ((own_lt1 (f := 0) (by omega) (by omega)).mpr g)
      refine own_st (g' := (mkF m 38 #[oR b, oI 0, oJ nb, oI ((Int32.ofNat j) - (1 : Int32)), oJ i, oI v707] [])) (fun _ kt => XS.icmpNo X710.here hx rfl (hb hby d52_35) rfl (XT.ii_lt_f hc712) kt) ?_
      rw [own_prd (n := j) (by omega) (by omega)]
      refine own_st (g' := (mkF m 42 #[oR b, oI 0, oJ nb, oJ (j - 1), oJ i, oI v707] [vJ (j - 1), (.ref b), (.int v707)])) (fun _ kt => XS.iload X710.here hx rfl (hb hby d52_38) rfl (XS.aloadN X710.here hx rfl (hb hby d52_40) rfl rfl (XS.iloadN X710.here hx rfl (hb hby d52_41) rfl kt))) ?_
      refine own_st (g' := (mkF m 43 #[oR b, oI 0, oJ nb, oJ (j - 1), oJ i, oI v707] [(.int (zs.getD (j - 1) 0)), (.int v707)])) (own_ial X710 hx hZ e710 F711 (own_idx (by omega) (by omega)) (by rw [own_tn (by omega)]; exact own_mg (by omega)) (g := (mkF m 42 #[oR b, oI 0, oJ nb, oJ (j - 1), oJ i, oI v707] [vJ (j - 1), (.ref b), (.int v707)])) rfl rfl (hb hby d52_42)) ?_
      obtain ⟨v716, hv716⟩ : ∃ z : Int32, z = (zs.getD (j - 1) 0) := ⟨_, rfl⟩
      rw [← hv716]
      by_cases hc717 : v707 < v716
      ·
       refine own_st (g' := (mkF m 50 #[oR b, oI 0, oJ nb, oJ (j - 1), oJ i, oI v707] [(.int ((Int32.ofNat (j - 1)) + (1 : Int32))), (.ref b)])) (fun _ kt => XS.icmpNo X710.here hx rfl (hb hby d52_43) rfl (XT.ii_ge_f hc717) (XS.aloadN X710.here hx rfl (hb hby d52_46) rfl rfl (XS.iloadN X710.here hx rfl (hb hby d52_47) rfl (XS.iconst X710.here hx rfl (hb hby d52_48) (XS.iadd X710.here hx rfl (hb hby d52_49) rfl kt))))) ?_
       rw [own_succ (n := j - 1) (by omega)]
       refine own_st (g' := (mkF m 52 #[oR b, oI 0, oJ nb, oJ (j - 1), oJ i, oI v707] [vJ (j - 1), (.ref b), vJ (j - 1 + 1), (.ref b)])) (fun _ kt => XS.aloadN X710.here hx rfl (hb hby d52_50) rfl rfl (XS.iloadN X710.here hx rfl (hb hby d52_51) rfl kt)) ?_
       refine own_st (g' := (mkF m 53 #[oR b, oI 0, oJ nb, oJ (j - 1), oJ i, oI v707] [(.int (zs.getD (j - 1) 0)), vJ (j - 1 + 1), (.ref b)])) (own_ial X710 hx hZ e710 F711 (own_idx (by omega) (by omega)) (by rw [own_tn (by omega)]; exact own_mg (by omega)) (g := (mkF m 52 #[oR b, oI 0, oJ nb, oJ (j - 1), oJ i, oI v707] [vJ (j - 1), (.ref b), vJ (j - 1 + 1), (.ref b)])) rfl rfl (hb hby d52_52)) ?_
       obtain ⟨v718, hv718⟩ : ∃ z : Int32, z = (zs.getD (j - 1) 0) := ⟨_, rfl⟩
       rw [← hv718]
       obtain ⟨T719, h719, X719, e719, W719, V719, st719⟩ := own_ist X710 hx hZ e710 F711 (own_idx (by omega) (by omega)) (i := (j - 1 + 1)) (own_tn (by omega)) (by rw [List.length_map]; omega) (g := (mkF m 53 #[oR b, oI 0, oJ nb, oJ (j - 1), oJ i, oI v707] [(.int v718), vJ (j - 1 + 1), (.ref b)])) rfl rfl (hb hby d52_53)
       have N719 := Fr.snoc X719 N710 pr1
       have Z720 := Nat.le_trans Z710 (Nat.le_of_eq (Wr.size W719).symm)
       have K720 := (Keep.wr K710 W719 (Or.inl (List.mem_of_getElem? (i := 0) rfl)))
       have F721 : Arv Z h719 b kb .int (Int32.ofNat nb) ((zs.set (j - 1 + 1) v718).map Value.int) (Value.int 0) := (by rw [List.map_set]; exact V719)
       refine own_st st719 ?_
       refine own_st (g' := (mkF m 33 #[oR b, oI 0, oJ nb, oI ((Int32.ofNat (j - 1)) + (-1 : Int32)), oJ i, oI v707] [])) (fun _ kt => XS.goto X719.here hx rfl (pc0 := 54) (pc' := 30) rfl (hb hby d52_54) (by decide) (by decide) (XS.iinc X719.here hx rfl (hb hby d52_30) rfl (l' := #[oR b, oI 0, oJ nb, oI ((Int32.ofNat (j - 1)) + (-1 : Int32)), oJ i, oI v707]) rfl kt)) ?_
       rw [own_dec]
       exact ih710 (j - 1) (by omega) _ _ _ ⟨(j - 1), (zs.set (j - 1 + 1) v718)⟩ ⟨N719, Z720, K720, F721, ⟨(by (try dsimp only); (repeat rw [List.length_set]); omega), by omega, rfl⟩⟩ (X719.mono (by first | decide | exact Nat.le_add_right_of_le (by decide) | ((try dsimp only [Pt.cells, Pt.slots]); omega)) (by first | decide | exact Nat.le_add_right_of_le (by decide) | ((try dsimp only [Pt.cells, Pt.slots]); omega))) e719
      ·
       refine own_st (g' := (mkF m 61 #[oR b, oI 0, oJ nb, oJ (j - 1), oJ i, oI v707] [(.int ((Int32.ofNat (j - 1)) + (1 : Int32))), (.ref b)])) (fun _ kt => XS.icmpYes X710.here hx rfl (pc0 := 43) (pc' := 57) rfl (hb hby d52_43) rfl (XT.ii_ge_t hc717) (by decide) (by decide) (XS.aloadN X710.here hx rfl (hb hby d52_57) rfl rfl (XS.iloadN X710.here hx rfl (hb hby d52_58) rfl (XS.iconst X710.here hx rfl (hb hby d52_59) (XS.iadd X710.here hx rfl (hb hby d52_60) rfl kt))))) ?_
       rw [own_succ (n := j - 1) (by omega)]
       refine own_st (g' := (mkF m 63 #[oR b, oI 0, oJ nb, oJ (j - 1), oJ i, oI v707] [(.int v707), vJ (j - 1 + 1), (.ref b)])) (fun _ kt => XS.iload X710.here hx rfl (hb hby d52_61) rfl kt) ?_
       obtain ⟨T722, h722, X722, e722, W722, V722, st722⟩ := own_ist X710 hx hZ e710 F711 (own_idx (by omega) (by omega)) (i := (j - 1 + 1)) (own_tn (by omega)) (by rw [List.length_map]; omega) (g := (mkF m 63 #[oR b, oI 0, oJ nb, oJ (j - 1), oJ i, oI v707] [(.int v707), vJ (j - 1 + 1), (.ref b)])) rfl rfl (hb hby d52_63)
       have N722 := Fr.snoc X722 N710 pr1
       have Z723 := Nat.le_trans Z710 (Nat.le_of_eq (Wr.size W722).symm)
       have K723 := (Keep.wr K710 W722 (Or.inl (List.mem_of_getElem? (i := 0) rfl)))
       have F724 : Arv Z h722 b kb .int (Int32.ofNat nb) ((zs.set (j - 1 + 1) v707).map Value.int) (Value.int 0) := (by rw [List.map_set]; exact V722)
       refine own_st st722 ?_
       refine own_st (g' := (mkF m 6 #[oR b, oI 0, oJ nb, oJ (j - 1), oI ((Int32.ofNat i) + (1 : Int32)), oI v707] [])) (fun _ kt => XS.goto X722.here hx rfl (pc0 := 64) (pc' := 3) rfl (hb hby d52_64) (by decide) (by decide) (XS.iinc X722.here hx rfl (hb hby d52_3) rfl (l' := #[oR b, oI 0, oJ nb, oJ (j - 1), oI ((Int32.ofNat i) + (1 : Int32)), oI v707]) rfl kt)) ?_
       rw [own_succ (n := i) (by omega)]
       exact ih704 (nb + 1 - (i + 1)) (by omega) _ _ _ ⟨(i + 1), (zs.set (j - 1 + 1) v707), (Slot.val (.int (Int32.ofNat (j - 1)))), (Slot.val (.int v707))⟩ ⟨N722, Z723, K723, (Or.inr ⟨_, rfl⟩), (Or.inr ⟨_, rfl⟩), F724, ⟨(by (try dsimp only); (repeat rw [List.length_set]); omega), by omega, by omega, rfl⟩⟩ (X722.mono (by first | decide | exact Nat.le_add_right_of_le (by decide) | ((try dsimp only [Pt.cells, Pt.slots]); omega)) (by first | decide | exact Nat.le_add_right_of_le (by decide) | ((try dsimp only [Pt.cells, Pt.slots]); omega))) e722
    ·
     refine own_st (g' := (mkF m 33 #[oR b, oI 0, oJ nb, oI ((Int32.ofNat i) + (-1 : Int32)), oJ i, oI v707] [])) (fun _ kt => XS.iinc X704.here hx rfl (hb hby d52_30) rfl (l' := #[oR b, oI 0, oJ nb, oI ((Int32.ofNat i) + (-1 : Int32)), oJ i, oI v707]) rfl kt) ?_
     rw [own_dec]
     exact J710 i _ _ _ ⟨i, us⟩ ⟨N704, Z704, K704, F705, ⟨hu.1, Nat.le_refl _, rfl⟩⟩ (X704.mono (by first | decide | exact Nat.le_add_right_of_le (by decide) | ((try dsimp only [Pt.cells, Pt.slots]); omega)) (by first | decide | exact Nat.le_add_right_of_le (by decide) | ((try dsimp only [Pt.cells, Pt.slots]); omega))) e704
   ·
    refine own_st (g' := (mkF m 6 #[oR b, oI 0, oJ nb, oJ i, oI ((Int32.ofNat i) + (1 : Int32)), oI v707] [])) (fun _ kt => XS.icmpYes X704.here hx rfl (pc0 := 27) (pc' := 64) rfl (hb hby d52_27) rfl (XT.ii_ge_t hc709) (by decide) (by decide) (XS.goto X704.here hx rfl (pc0 := 64) (pc' := 3) rfl (hb hby d52_64) (by decide) (by decide) (XS.iinc X704.here hx rfl (hb hby d52_3) rfl (l' := #[oR b, oI 0, oJ nb, oJ i, oI ((Int32.ofNat i) + (1 : Int32)), oI v707]) rfl kt))) ?_
    rw [own_succ (n := i) (by omega)]
    exact ih704 (nb + 1 - (i + 1)) (by omega) _ _ _ ⟨(i + 1), us, (Slot.val (.int (Int32.ofNat i))), (Slot.val (.int v707))⟩ ⟨N704, Z704, K704, (Or.inr ⟨_, rfl⟩), (Or.inr ⟨_, rfl⟩), F705, ⟨(by (try dsimp only); (repeat rw [List.length_set]); omega), by omega, by omega, rfl⟩⟩ (X704.mono (by first | decide | exact Nat.le_add_right_of_le (by decide) | ((try dsimp only [Pt.cells, Pt.slots]); omega)) (by first | decide | exact Nat.le_add_right_of_le (by decide) | ((try dsimp only [Pt.cells, Pt.slots]); omega))) e704
  ·
   refine own_st (g' := (mkF m 67 #[oR b, oI 0, oJ nb, sv704_3, oJ i, sv704_5] [])) (fun _ kt => XS.icmpYes X704.here hx rfl (pc0 := 9) (pc' := 67) rfl (hb hby d52_9) rfl (XT.ii_ge_t hc706) (by decide) (by decide) kt) ?_
   obtain ⟨fs, hr, hrun, hended, hW, hsame⟩ := X704.leave (v := none) (fun _ => rfl)
   refine own_end (X704.returnOut hx Bd.returns (hb hby d52_67) hr) ⟨_, hrun, hended, _, _, rfl, ?_, ⟨_, rfl⟩, hW, hsame.mono (by show _ ≤ (0 : Nat); (try dsimp only [Pt.cells, Pt.slots]); omega) (by show _ ≤ (0 : Nat); (try dsimp only [Pt.cells, Pt.slots]); omega)⟩
   show own_isQ Z _ _ _ _ h0 n0 _ T704.heap _
   rw [e704]
   exact ⟨us, rfl, N704, K704, F705, hu.1⟩
 ·
  refine own_st (g' := (mkF m 6 #[oR b, oI 0, oJ nb, .unset, oI 1, .unset] [])) (fun _ kt => XS.iloadN X0.here hx rfl (hb hby d52_0) rfl (XS.istore X0.here hx rfl (hb hby d52_1) rfl (l' := #[oR b, oI 0, oJ nb, .unset, oI 0, .unset]) rfl (XS.iinc X0.here hx rfl (hb hby d52_3) rfl (l' := #[oR b, oI 0, oJ nb, .unset, oI 1, .unset]) rfl kt))) ?_
  exact J704 nb _ _ _ ⟨1, ys, Slot.unset, Slot.unset⟩ ⟨N0, Z0, K0, (Or.inl rfl), (Or.inl rfl), pr2, ⟨hyl, Nat.le_refl _, by omega, by omega⟩⟩ (X0.mono (by first | decide | exact Nat.le_add_right_of_le (by decide) | ((try dsimp only [Pt.cells, Pt.slots]); omega)) (by first | decide | exact Nat.le_add_right_of_le (by decide) | ((try dsimp only [Pt.cells, Pt.slots]); omega))) e0
abbrev c51 := jdk_2529_method_4_code
theorem d51_0 : dk c51 0 (.iload 4) 2 := by decide +kernel
theorem d51_2 : dk c51 2 (.iconst 1) 1 := by decide +kernel
theorem d51_3 : dk c51 3 (.isub) 1 := by decide +kernel
theorem d51_4 : dk c51 4 (.istore 5) 2 := by decide +kernel
theorem d51_6 : dk c51 6 (.iload 4) 2 := by decide +kernel
theorem d51_8 : dk c51 8 (.iload_n 3) 1 := by decide +kernel
theorem d51_9 : dk c51 9 (.isub) 1 := by decide +kernel
theorem d51_10 : dk c51 10 (.istore 6) 2 := by decide +kernel
theorem d51_12 : dk c51 12 (.iload 6) 2 := by decide +kernel
theorem d51_14 : dk c51 14 (.bipush 65) 2 := by decide +kernel
theorem d51_16 : dk c51 16 (.iload_n 2) 1 := by decide +kernel
theorem d51_17 : dk c51 17 (.iadd) 1 := by decide +kernel
theorem d51_18 : dk c51 18 (.if_icmp .ge 28) 3 := by decide +kernel
theorem d51_21 : dk c51 21 (.iload_n 2) 1 := by decide +kernel
theorem d51_22 : dk c51 22 (.iconst 1) 1 := by decide +kernel
theorem d51_23 : dk c51 23 (.iand) 1 := by decide +kernel
theorem d51_24 : dk c51 24 (.ifCond .le 22) 3 := by decide +kernel
theorem d51_46 : dk c51 46 (.iload 6) 2 := by decide +kernel
theorem d51_48 : dk c51 48 (.bipush 44) 2 := by decide +kernel
theorem d51_50 : dk c51 50 (.if_icmp .ge 11) 3 := by decide +kernel
theorem d51_53 : dk c51 53 (.aload_n 1) 1 := by decide +kernel
theorem d51_54 : dk c51 54 (.iload_n 3) 1 := by decide +kernel
theorem d51_55 : dk c51 55 (.iload 4) 2 := by decide +kernel
theorem d51_57 : dk c51 57 (.invokestatic 34) 3 := by decide +kernel
theorem own_pd9 : parseMethodDescriptor "([III)V" = some ⟨[(.array .int), .int, .int], none⟩ := by decide +kernel
theorem d51_60 : dk c51 60 (.return_) 1 := by decide +kernel
theorem own_ef15 (m : MethodId) (x1 : Addr) (x2 : Int32) (x3 : Int32) (x4 : Int32) : entryFrame m #[.null, (.ref x1), (.int x2), (.int x3), (.int x4)] 21 = mkF m 0 #[.val .null, .val (.ref x1), .val (.int x2), .val (.int x3), .val (.int x4), .unset, .unset, .unset, .unset, .unset, .unset, .unset, .unset, .unset, .unset, .unset, .unset, .unset, .unset, .unset, .unset] [] := by first | (simp [entryFrame, mkF, argsToLocals, Value.category]; done) | rfl
def own_s2Q (Z : State) (b : Addr) (kb : ClassId) (nb : Nat) (ys : List Int32) (h0 : Heap) (n0 : Nat) (v : Option Value) (h : Heap) (L : List Loc) : Prop := ∃ (zs : List Int32), v = none ∧ Fr n0 L ∧ Keep h0 h [b] ∧ (Arv Z h b kb .int (Int32.ofNat nb) (zs.map Value.int) (Value.int 0)) ∧ (zs.length = nb)
abbrev own_s2R : Room := { frames := 1, cells := 0, slots := 0, locals := 17 }
theorem own_s2 (l : Launch) (Z : State) (a0 : Array Value) (hw : ∀ d ∈ tables_1, d.before a0 Z = true) (ws : List Jvm.Cond) (b : Addr) (kb : ClassId) (nb : Nat) (ys : List Int32) (h0 : Heap) (n0 : Nat) (Z0 : n0 ≤ h0.size) (pr1 : n0 ≤ b) (pr2 : Arv Z h0 b kb .int (Int32.ofNat nb) (ys.map Value.int) (Value.int 0)) (pr3 : ys.length = nb) (pr4 : nb ≤ 3) :
    own_M l yN50 jdk_2529_method_4_code 21 none ws own_s2R #[.null, (.ref b), (.int 0), (.int 0), (.int (Int32.ofNat nb))] Z h0 (own_s2Q Z b kb nb ys h0 n0) := by
 refine own_go (plainFor_of_name own_pn22) (fun m => own_ef15 m b (0 : Int32) (0 : Int32) (Int32.ofNat nb) ) ?_
 intro p e s m below meth c s₁ Bd hx hby hml hZ hh hown hnm X0 e0
 have N0 := Fr.nil n0
 have K0 : Keep h0 h0 [b] := Keep.refl h0 _
 refine own_st (g' := (mkF m 18 #[.val .null, oR b, oI 0, oI 0, oJ nb, oI ((Int32.ofNat nb) - (1 : Int32)), oI ((Int32.ofNat nb) - (0 : Int32)), .unset, .unset, .unset, .unset, .unset, .unset, .unset, .unset, .unset, .unset, .unset, .unset, .unset, .unset] [(.int 65), (.int ((Int32.ofNat nb) - (0 : Int32)))])) (fun _ kt => XS.iload X0.here hx rfl (hb hby d51_0) rfl (XS.iconst X0.here hx rfl (hb hby d51_2) (XS.isub X0.here hx rfl (hb hby d51_3) rfl (XS.istore X0.here hx rfl (hb hby d51_4) rfl (l' := #[.val .null, oR b, oI 0, oI 0, oJ nb, oI ((Int32.ofNat nb) - (1 : Int32)), .unset, .unset, .unset, .unset, .unset, .unset, .unset, .unset, .unset, .unset, .unset, .unset, .unset, .unset, .unset]) rfl (XS.iload X0.here hx rfl (hb hby d51_6) rfl (XS.iloadN X0.here hx rfl (hb hby d51_8) rfl (XS.isub X0.here hx rfl (hb hby d51_9) rfl (XS.istore X0.here hx rfl (hb hby d51_10) rfl (l' := #[.val .null, oR b, oI 0, oI 0, oJ nb, oI ((Int32.ofNat nb) - (1 : Int32)), oI ((Int32.ofNat nb) - (0 : Int32)), .unset, .unset, .unset, .unset, .unset, .unset, .unset, .unset, .unset, .unset, .unset, .unset, .unset, .unset]) rfl (XS.iload X0.here hx rfl (hb hby d51_12) rfl (XS.bipush X0.here hx rfl (hb hby d51_14) (XS.iloadN X0.here hx rfl (hb hby d51_16) rfl (XS.iadd X0.here hx rfl (hb hby d51_17) rfl kt)))))))))))) ?_
 refine own_st (g' := (mkF m 57 #[.val .null, oR b, oI 0, oI 0, oJ nb, oI ((Int32.ofNat nb) - (1 : Int32)), oI ((Int32.ofNat nb) - (0 : Int32)), .unset, .unset, .unset, .unset, .unset, .unset, .unset, .unset, .unset, .unset, .unset, .unset, .unset, .unset] [vJ nb, (.int 0), (.ref b)])) (fun _ kt => XS.icmpNo X0.here hx rfl (hb hby d51_18) rfl (XT.ii_ge_f (own_cs pr4).1) (XS.iloadN X0.here hx rfl (hb hby d51_21) rfl (XS.iconst X0.here hx rfl (hb hby d51_22) (XS.iand X0.here hx rfl (hb hby d51_23) rfl (XS.ifYes X0.here hx rfl (pc0 := 24) (pc' := 46) rfl (hb hby d51_24) rfl (XT.i0_le_t (by decide)) (by decide) (by decide) (XS.iload X0.here hx rfl (hb hby d51_46) rfl (XS.bipush X0.here hx rfl (hb hby d51_48) (XS.icmpNo X0.here hx rfl (hb hby d51_50) rfl (XT.ii_ge_f (own_cs pr4).2) (XS.aloadN X0.here hx rfl (hb hby d51_53) rfl rfl (XS.iloadN X0.here hx rfl (hb hby d51_54) rfl (XS.iload X0.here hx rfl (hb hby d51_55) rfl kt))))))))))) ?_
 obtain ⟨_, _, ⟨T725, L725, k725, n725⟩, -, X725, ⟨Lc725, hQ725, l725, y725, z725⟩, st725⟩ := Jvm.LawKit.callS X0 hx (y := yN49) hown (mvT hZ (own_k hw 431 rfl)) (mvT hZ (own_k hw 432 rfl)) (mvT hZ (own_k hw 426 rfl)) (mvT hZ (own_k hw 433 rfl)) (by decide) (backOf (W := 0) (own_is l Z a0 hw [] b kb nb ys h0 n0 Z0 pr1 pr2 pr3 pr4) hZ (own_k hw 433 rfl) (own_k hw 426 rfl) (by decide) (by decide)) (g := (mkF m 57 #[.val .null, oR b, oI 0, oI 0, oJ nb, oI ((Int32.ofNat nb) - (1 : Int32)), oI ((Int32.ofNat nb) - (0 : Int32)), .unset, .unset, .unset, .unset, .unset, .unset, .unset, .unset, .unset, .unset, .unset, .unset, .unset, .unset] [vJ nb, (.int 0), (.ref b)])) rfl hml.symm  (argsL := [(.ref b), (.int 0), vJ nb]) (rest := []) (lenOf own_pd9 rfl) rfl (own_w0 rfl rfl) (hb hby d51_57) (fun _ _ => ⟨rfl, e0, (by decide : 0 + 0 ≤ 0), (by decide : 0 + 0 ≤ 0)⟩)
 dsimp only [Pt.U, Pt.locs, Pt.cells, Pt.slots] at X725 l725 y725 z725 st725 hQ725
 subst l725 y725 z725
 obtain ⟨zs_725, rfl, N725, K725_, P726, P727⟩ := hQ725
 have N728 := Fr.app N0 N725
 have Z729 := Nat.le_trans Z0 K725_.1
 have K729 := (Keep.trans K0 K725_ (allS (Or.inl (List.mem_of_getElem? (i := 0) rfl)) all0))
 refine own_st st725 ?_
 obtain ⟨fs, hr, hrun, hended, hW, hsame⟩ := X725.leave (v := none) (fun _ => rfl)
 refine own_end (X725.returnOut hx Bd.returns (hb hby d51_60) hr) ⟨_, hrun, hended, _, _, rfl, ?_, ⟨_, rfl⟩, hW, hsame.mono (by decide) (by decide)⟩
 show own_s2Q Z _ _ _ _ h0 n0 _ T725.heap _
 show own_s2Q Z _ _ _ _ h0 n0 _ T725.heap _
 exact ⟨zs_725, rfl, N728, K729, P726, P727⟩
abbrev c50 := jdk_2529_method_3_code
theorem d50_0 : dk c50 0 (.iload_n 3) 1 := by decide +kernel
theorem d50_1 : dk c50 1 (.iload_n 2) 1 := by decide +kernel
theorem d50_2 : dk c50 2 (.isub) 1 := by decide +kernel
theorem d50_3 : dk c50 3 (.istore 4) 2 := by decide +kernel
theorem d50_5 : dk c50 5 (.iload_n 1) 1 := by decide +kernel
theorem d50_6 : dk c50 6 (.iconst 1) 1 := by decide +kernel
theorem d50_7 : dk c50 7 (.if_icmp .le 61) 3 := by decide +kernel
theorem d50_68 : dk c50 68 (.aconst_null) 1 := by decide +kernel
theorem d50_69 : dk c50 69 (.aload_n 0) 1 := by decide +kernel
theorem d50_70 : dk c50 70 (.iconst 0) 1 := by decide +kernel
theorem d50_71 : dk c50 71 (.iload_n 2) 1 := by decide +kernel
theorem d50_72 : dk c50 72 (.iload_n 3) 1 := by decide +kernel
theorem d50_73 : dk c50 73 (.invokestatic 26) 3 := by decide +kernel
theorem own_pd10 : parseMethodDescriptor "(Ljava/util/DualPivotQuicksort$Sorter;[IIII)V" = some ⟨[(.object "java/util/DualPivotQuicksort$Sorter"), (.array .int), .int, .int, .int], none⟩ := by decide +kernel
theorem d50_76 : dk c50 76 (.return_) 1 := by decide +kernel
theorem own_ef16 (m : MethodId) (x0 : Addr) (x1 : Int32) (x2 : Int32) (x3 : Int32) : entryFrame m #[(.ref x0), (.int x1), (.int x2), (.int x3)] 7 = mkF m 0 #[.val (.ref x0), .val (.int x1), .val (.int x2), .val (.int x3), .unset, .unset, .unset] [] := by first | (simp [entryFrame, mkF, argsToLocals, Value.category]; done) | rfl
def own_s1Q (Z : State) (b : Addr) (kb : ClassId) (nb : Nat) (ys : List Int32) (h0 : Heap) (n0 : Nat) (v : Option Value) (h : Heap) (L : List Loc) : Prop := ∃ (zs : List Int32), v = none ∧ Fr n0 L ∧ Keep h0 h [b] ∧ (Arv Z h b kb .int (Int32.ofNat nb) (zs.map Value.int) (Value.int 0)) ∧ (zs.length = nb)
abbrev own_s1R : Room := { frames := 2, cells := 0, slots := 0, locals := 49 }
theorem own_s1 (l : Launch) (Z : State) (a0 : Array Value) (hw : ∀ d ∈ tables_1, d.before a0 Z = true) (ws : List Jvm.Cond) (b : Addr) (kb : ClassId) (nb : Nat) (ys : List Int32) (h0 : Heap) (n0 : Nat) (Z0 : n0 ≤ h0.size) (pr1 : n0 ≤ b) (pr2 : Arv Z h0 b kb .int (Int32.ofNat nb) (ys.map Value.int) (Value.int 0)) (pr3 : ys.length = nb) (pr4 : nb ≤ 3) :
    own_M l yN51 jdk_2529_method_3_code 7 none ws own_s1R #[(.ref b), (.int 0), (.int 0), (.int (Int32.ofNat nb))] Z h0 (own_s1Q Z b kb nb ys h0 n0) := by
 refine own_go (plainFor_of_name own_pn22) (fun m => own_ef16 m b (0 : Int32) (0 : Int32) (Int32.ofNat nb) ) ?_
 intro p e s m below meth c s₁ Bd hx hby hml hZ hh hown hnm X0 e0
 have N0 := Fr.nil n0
 have K0 : Keep h0 h0 [b] := Keep.refl h0 _
 refine own_st (g' := (mkF m 73 #[oR b, oI 0, oI 0, oJ nb, oI ((Int32.ofNat nb) - (0 : Int32)), .unset, .unset] [vJ nb, (.int 0), (.int 0), (.ref b), .null])) (fun _ kt => XS.iloadN X0.here hx rfl (hb hby d50_0) rfl (XS.iloadN X0.here hx rfl (hb hby d50_1) rfl (XS.isub X0.here hx rfl (hb hby d50_2) rfl (XS.istore X0.here hx rfl (hb hby d50_3) rfl (l' := #[oR b, oI 0, oI 0, oJ nb, oI ((Int32.ofNat nb) - (0 : Int32)), .unset, .unset]) rfl (XS.iloadN X0.here hx rfl (hb hby d50_5) rfl (XS.iconst X0.here hx rfl (hb hby d50_6) (XS.icmpYes X0.here hx rfl (pc0 := 7) (pc' := 68) rfl (hb hby d50_7) rfl (XT.ii_le_t (by decide)) (by decide) (by decide) (XS.aconstNull X0.here hx rfl (hb hby d50_68) (XS.aloadN X0.here hx rfl (hb hby d50_69) rfl rfl (XS.iconst X0.here hx rfl (hb hby d50_70) (XS.iloadN X0.here hx rfl (hb hby d50_71) rfl (XS.iloadN X0.here hx rfl (hb hby d50_72) rfl kt)))))))))))) ?_
 obtain ⟨_, _, ⟨T730, L730, k730, n730⟩, -, X730, ⟨Lc730, hQ730, l730, y730, z730⟩, st730⟩ := Jvm.LawKit.callS X0 hx (y := yN50) hown (mvT hZ (own_k hw 428 rfl)) (mvT hZ (own_k hw 429 rfl)) (mvT hZ (own_k hw 426 rfl)) (mvT hZ (own_k hw 430 rfl)) (by decide) (backOf (W := 0) (own_s2 l Z a0 hw [] b kb nb ys h0 n0 Z0 pr1 pr2 pr3 pr4) hZ (own_k hw 430 rfl) (own_k hw 426 rfl) (by decide) (by decide)) (g := (mkF m 73 #[oR b, oI 0, oI 0, oJ nb, oI ((Int32.ofNat nb) - (0 : Int32)), .unset, .unset] [vJ nb, (.int 0), (.int 0), (.ref b), .null])) rfl hml.symm  (argsL := [.null, (.ref b), (.int 0), (.int 0), vJ nb]) (rest := []) (lenOf own_pd10 rfl) rfl (own_w0 rfl rfl) (hb hby d50_73) (fun _ _ => ⟨rfl, e0, (by decide : 0 + 0 ≤ 0), (by decide : 0 + 0 ≤ 0)⟩)
 dsimp only [Pt.U, Pt.locs, Pt.cells, Pt.slots] at X730 l730 y730 z730 st730 hQ730
 subst l730 y730 z730
 obtain ⟨zs_730, rfl, N730, K730_, P731, P732⟩ := hQ730
 have N733 := Fr.app N0 N730
 have Z734 := Nat.le_trans Z0 K730_.1
 have K734 := (Keep.trans K0 K730_ (allS (Or.inl (List.mem_of_getElem? (i := 0) rfl)) all0))
 refine own_st st730 ?_
 obtain ⟨fs, hr, hrun, hended, hW, hsame⟩ := X730.leave (v := none) (fun _ => rfl)
 refine own_end (X730.returnOut hx Bd.returns (hb hby d50_76) hr) ⟨_, hrun, hended, _, _, rfl, ?_, ⟨_, rfl⟩, hW, hsame.mono (by decide) (by decide)⟩
 show own_s1Q Z _ _ _ _ h0 n0 _ T730.heap _
 show own_s1Q Z _ _ _ _ h0 n0 _ T730.heap _
 exact ⟨zs_730, rfl, N733, K734, P731, P732⟩
abbrev c49 := jdk_65_method_2_code
theorem d49_0 : dk c49 0 (.aload_n 0) 1 := by decide +kernel
theorem d49_1 : dk c49 1 (.iconst 0) 1 := by decide +kernel
theorem d49_2 : dk c49 2 (.iconst 0) 1 := by decide +kernel
theorem d49_3 : dk c49 3 (.aload_n 0) 1 := by decide +kernel
theorem d49_4 : dk c49 4 (.arraylength) 1 := by decide +kernel
theorem d49_5 : dk c49 5 (.invokestatic 7) 3 := by decide +kernel
theorem own_pd11 : parseMethodDescriptor "([IIII)V" = some ⟨[(.array .int), .int, .int, .int], none⟩ := by decide +kernel
theorem d49_8 : dk c49 8 (.return_) 1 := by decide +kernel
def own_s0Q (Z : State) (b : Addr) (kb : ClassId) (nb : Nat) (ys : List Int32) (h0 : Heap) (n0 : Nat) (v : Option Value) (h : Heap) (L : List Loc) : Prop := ∃ (zs : List Int32), v = none ∧ Fr n0 L ∧ Keep h0 h [b] ∧ (Arv Z h b kb .int (Int32.ofNat nb) (zs.map Value.int) (Value.int 0)) ∧ (zs.length = nb)
abbrev own_s0R : Room := { frames := 3, cells := 0, slots := 0, locals := 67 }
theorem own_s0 (l : Launch) (Z : State) (a0 : Array Value) (hw : ∀ d ∈ tables_1, d.before a0 Z = true) (ws : List Jvm.Cond) (b : Addr) (kb : ClassId) (nb : Nat) (ys : List Int32) (h0 : Heap) (n0 : Nat) (Z0 : n0 ≤ h0.size) (pr1 : n0 ≤ b) (pr2 : Arv Z h0 b kb .int (Int32.ofNat nb) (ys.map Value.int) (Value.int 0)) (pr3 : ys.length = nb) (pr4 : nb ≤ 3) :
    own_M l yN52 jdk_65_method_2_code 1 none ws own_s0R #[(.ref b)] Z h0 (own_s0Q Z b kb nb ys h0 n0) := by
 refine own_go (plainFor_of_name own_pn17) (fun m => own_ef1 m b ) ?_
 intro p e s m below meth c s₁ Bd hx hby hml hZ hh hown hnm X0 e0
 have N0 := Fr.nil n0
 have K0 : Keep h0 h0 [b] := Keep.refl h0 _
 refine own_st (g' := (mkF m 4 #[oR b] [(.ref b), (.int 0), (.int 0), (.ref b)])) (fun _ kt => XS.aloadN X0.here hx rfl (hb hby d49_0) rfl rfl (XS.iconst X0.here hx rfl (hb hby d49_1) (XS.iconst X0.here hx rfl (hb hby d49_2) (XS.aloadN X0.here hx rfl (hb hby d49_3) rfl rfl kt)))) ?_
 refine own_st (g' := (mkF m 5 #[oR b] [vJ nb, (.int 0), (.int 0), (.ref b)])) (own_alen X0 hx hZ e0 pr2 (g := (mkF m 4 #[oR b] [(.ref b), (.int 0), (.int 0), (.ref b)])) rfl rfl (hb hby d49_4)) ?_
 obtain ⟨_, _, ⟨T735, L735, k735, n735⟩, -, X735, ⟨Lc735, hQ735, l735, y735, z735⟩, st735⟩ := Jvm.LawKit.callS X0 hx (y := yN51) hown (mvT hZ (own_k hw 424 rfl)) (mvT hZ (own_k hw 425 rfl)) (mvT hZ (own_k hw 426 rfl)) (mvT hZ (own_k hw 427 rfl)) (by decide) (backOf (W := 0) (own_s1 l Z a0 hw [] b kb nb ys h0 n0 Z0 pr1 pr2 pr3 pr4) hZ (own_k hw 427 rfl) (own_k hw 426 rfl) (by decide) (by decide)) (g := (mkF m 5 #[oR b] [vJ nb, (.int 0), (.int 0), (.ref b)])) rfl hml.symm  (argsL := [(.ref b), (.int 0), (.int 0), vJ nb]) (rest := []) (lenOf own_pd11 rfl) rfl (own_w0 rfl rfl) (hb hby d49_5) (fun _ _ => ⟨rfl, e0, (by decide : 0 + 0 ≤ 0), (by decide : 0 + 0 ≤ 0)⟩)
 dsimp only [Pt.U, Pt.locs, Pt.cells, Pt.slots] at X735 l735 y735 z735 st735 hQ735
 subst l735 y735 z735
 obtain ⟨zs_735, rfl, N735, K735_, P736, P737⟩ := hQ735
 have N738 := Fr.app N0 N735
 have Z739 := Nat.le_trans Z0 K735_.1
 have K739 := (Keep.trans K0 K735_ (allS (Or.inl (List.mem_of_getElem? (i := 0) rfl)) all0))
 refine own_st st735 ?_
 obtain ⟨fs, hr, hrun, hended, hW, hsame⟩ := X735.leave (v := none) (fun _ => rfl)
 refine own_end (X735.returnOut hx Bd.returns (hb hby d49_8) hr) ⟨_, hrun, hended, _, _, rfl, ?_, ⟨_, rfl⟩, hW, hsame.mono (by decide) (by decide)⟩
 show own_s0Q Z _ _ _ _ h0 n0 _ T735.heap _
 show own_s0Q Z _ _ _ _ h0 n0 _ T735.heap _
 exact ⟨zs_735, rfl, N738, K739, P736, P737⟩
theorem own_fst {k P W : Nat} (h1 : 1 ≤ k) (h2 : k ≤ 5) (h3 : P ≤ 7) (h4 : 1 ≤ W) (h5 : W ≤ 4) : (((Int32.ofNat k) - (1 : Int32)).toInt64 * (Int32.ofNat P).toInt64 / (Int32.ofNat W).toInt64).toInt32 = Int32.ofNat ((k - 1) * P / W) := by
  have key : ∀ k : Fin 6, ∀ P : Fin 8, ∀ W : Fin 5, 1 ≤ k.val → 1 ≤ W.val → (((Int32.ofNat k.val) - (1 : Int32)).toInt64 * (Int32.ofNat P.val).toInt64 / (Int32.ofNat W.val).toInt64).toInt32 = Int32.ofNat ((k.val - 1) * P.val / W.val) := by decide +kernel
  exact key ⟨k, by omega⟩ ⟨P, by omega⟩ ⟨W, by omega⟩ h1 h4
theorem own_w64 {W : Nat} (h4 : 1 ≤ W) (h5 : W ≤ 4) : (Int32.ofNat W).toInt64 ≠ 0 := by
  have key : ∀ W : Fin 5, 1 ≤ W.val → (Int32.ofNat W.val).toInt64 ≠ 0 := by decide +kernel
  exact key ⟨W, by omega⟩ h4
abbrev c4 := prog_94_method_22_code
theorem d4_0 : dk c4 0 (.iload_n 1) 1 := by decide +kernel
theorem d4_1 : dk c4 1 (.iconst 1) 1 := by decide +kernel
theorem d4_2 : dk c4 2 (.isub) 1 := by decide +kernel
theorem d4_3 : dk c4 3 (.i2l) 1 := by decide +kernel
theorem d4_4 : dk c4 4 (.aload_n 0) 1 := by decide +kernel
theorem d4_5 : dk c4 5 (.getfield 32) 3 := by decide +kernel
theorem d4_8 : dk c4 8 (.arraylength) 1 := by decide +kernel
theorem d4_9 : dk c4 9 (.i2l) 1 := by decide +kernel
theorem d4_10 : dk c4 10 (.lmul) 1 := by decide +kernel
theorem d4_11 : dk c4 11 (.aload_n 0) 1 := by decide +kernel
theorem d4_12 : dk c4 12 (.getfield 23) 3 := by decide +kernel
theorem d4_15 : dk c4 15 (.i2l) 1 := by decide +kernel
theorem d4_16 : dk c4 16 (.ldiv) 1 := by decide +kernel
theorem d4_17 : dk c4 17 (.l2i) 1 := by decide +kernel
theorem d4_18 : dk c4 18 (.ireturn) 1 := by decide +kernel
def own_fiQ (Z : State) (a : Addr) (b : Addr) (kb : ClassId) (np : Nat) (nw : Nat) (vs : List Value) (k : Nat) (h0 : Heap) (n0 : Nat) (v : Option Value) (h : Heap) (L : List Loc) : Prop := v = some (.int (Int32.ofNat ((k - 1) * np / nw))) ∧ Fr n0 L ∧ h = h0
theorem own_pn23 : plainName "com/example/millrace/millrace/cluster/Placement" = true := by first | (simp [plainName, overriddenIn]; done) | decide +kernel
abbrev own_fiR : Room := { frames := 0, cells := 0, slots := 0, locals := 0 }
theorem own_fi (l : Launch) (Z : State) (a0 : Array Value) (hw : ∀ d ∈ tables_1, d.before a0 Z = true) (ws : List Jvm.Cond) (a : Addr) (b : Addr) (kb : ClassId) (np : Nat) (nw : Nat) (vs : List Value) (k : Nat) (h0 : Heap) (n0 : Nat) (Z0 : n0 ≤ h0.size) (pr1 : Exa Z h0 a zC2) (pr2 : Fld Z h0 a zC2 "workers" "I" (.int (Int32.ofNat nw))) (pr3 : Fld Z h0 a zC2 "owners" "[I" (.ref b)) (pr4 : Arv Z h0 b kb .int (Int32.ofNat np) vs (Value.int 0)) (pr5 : np ≤ 7) (pr6 : 1 ≤ nw) (pr7 : nw ≤ 4) (pr8 : 1 ≤ k) (pr9 : k ≤ 5) :
    own_M l yN2 prog_94_method_22_code 2 (some .int) ws own_fiR #[(.ref a), (.int (Int32.ofNat k))] Z h0 (own_fiQ Z a b kb np nw vs k h0 n0) := by
 refine own_go (plainFor_of_name own_pn23) (fun m => own_ef6 m a (Int32.ofNat k) ) ?_
 intro p e s m below meth c s₁ Bd hx hby hml hZ hh hown hnm X0 e0
 have N0 := Fr.nil n0
 refine own_st (g' := (mkF m 5 #[oR a, oJ k] [(.ref a), (.long (((Int32.ofNat k) - (1 : Int32)).toInt64))])) (fun _ kt => XS.iloadN X0.here hx rfl (hb hby d4_0) rfl (XS.iconst X0.here hx rfl (hb hby d4_1) (XS.isub X0.here hx rfl (hb hby d4_2) rfl (XT.i2l X0.here hx rfl (hb hby d4_3) rfl (XS.aloadN X0.here hx rfl (hb hby d4_4) rfl rfl kt))))) ?_
 obtain ⟨T740, X740, e740, st740⟩ := getF X0 hx hZ hown (host := "") (Or.inl (own_k hw 22 rfl)) Via.refl e0 pr3 (g := (mkF m 5 #[oR a, oJ k] [(.ref a), (.long (((Int32.ofNat k) - (1 : Int32)).toInt64))])) rfl rfl (hb hby d4_5)
 refine own_st st740 ?_
 refine own_st (g' := (mkF m 9 #[oR a, oJ k] [vJ np, (.long (((Int32.ofNat k) - (1 : Int32)).toInt64))])) (own_alen X740 hx hZ e740 pr4 (g := (mkF m 8 #[oR a, oJ k] [(.ref b), (.long (((Int32.ofNat k) - (1 : Int32)).toInt64))])) rfl rfl (hb hby d4_8)) ?_
 refine own_st (g' := (mkF m 12 #[oR a, oJ k] [(.ref a), (.long ((((Int32.ofNat k) - (1 : Int32)).toInt64) * ((Int32.ofNat np).toInt64)))])) (fun _ kt => XT.i2l X740.here hx rfl (hb hby d4_9) rfl (XT.lmul X740.here hx rfl (hb hby d4_10) rfl (XS.aloadN X740.here hx rfl (hb hby d4_11) rfl rfl kt))) ?_
 obtain ⟨T741, X741, e741, st741⟩ := getF X740 hx hZ hown (host := "") (Or.inl (own_k hw 17 rfl)) Via.refl e740 pr2 (g := (mkF m 12 #[oR a, oJ k] [(.ref a), (.long ((((Int32.ofNat k) - (1 : Int32)).toInt64) * ((Int32.ofNat np).toInt64)))])) rfl rfl (hb hby d4_12)
 refine own_st st741 ?_
 refine own_st (g' := (mkF m 18 #[oR a, oJ k] [(.int ((((((Int32.ofNat k) - (1 : Int32)).toInt64) * ((Int32.ofNat np).toInt64)) / ((Int32.ofNat nw).toInt64)).toInt32))])) (fun _ kt => XT.i2l X741.here hx rfl (hb hby d4_15) rfl (XT.ldiv X741.here hx rfl (hb hby d4_16) rfl (own_w64 pr6 pr7) (XT.l2i X741.here hx rfl (hb hby d4_17) rfl kt))) ?_
 obtain ⟨fs, hr, hrun, hended, hW, hsame⟩ := X741.leave (v := some (.int ((((((Int32.ofNat k) - (1 : Int32)).toInt64) * ((Int32.ofNat np).toInt64)) / ((Int32.ofNat nw).toInt64)).toInt32))) (fun h => by rw [Bd.returns] at h; cases h)
 refine own_end (own_retI X741 hx Bd.returns (hb hby d4_18) hr) ⟨_, hrun, hended, _, _, rfl, ?_, ⟨_, rfl⟩, hW, hsame.mono (by decide) (by decide)⟩
 show own_fiQ Z _ _ _ _ _ _ _ h0 n0 _ T741.heap _
 rw [e741]
 exact ⟨(congrArg (fun z => some (Value.int z)) (own_fst pr8 pr9 pr5 pr6 pr7)), N0, rfl⟩
abbrev c9 := prog_94_method_4_code
theorem d9_0 : dk c9 0 (.aload_n 0) 1 := by decide +kernel
theorem d9_1 : dk c9 1 (.getfield 32) 3 := by decide +kernel
theorem d9_4 : dk c9 4 (.arraylength) 1 := by decide +kernel
theorem d9_5 : dk c9 5 (.ireturn) 1 := by decide +kernel
def own_ptQ (Z : State) (a : Addr) (b : Addr) (kb : ClassId) (np : Nat) (nw : Nat) (vs : List Value) (h0 : Heap) (n0 : Nat) (v : Option Value) (h : Heap) (L : List Loc) : Prop := v = some (.int (Int32.ofNat np)) ∧ Fr n0 L ∧ h = h0
abbrev own_ptR : Room := { frames := 0, cells := 0, slots := 0, locals := 0 }
theorem own_pt (l : Launch) (Z : State) (a0 : Array Value) (hw : ∀ d ∈ tables_1, d.before a0 Z = true) (ws : List Jvm.Cond) (a : Addr) (b : Addr) (kb : ClassId) (np : Nat) (nw : Nat) (vs : List Value) (h0 : Heap) (n0 : Nat) (Z0 : n0 ≤ h0.size) (pr1 : Exa Z h0 a zC2) (pr2 : Fld Z h0 a zC2 "workers" "I" (.int (Int32.ofNat nw))) (pr3 : Fld Z h0 a zC2 "owners" "[I" (.ref b)) (pr4 : Arv Z h0 b kb .int (Int32.ofNat np) vs (Value.int 0)) :
    own_M l yN22 prog_94_method_4_code 1 (some .int) ws own_ptR #[(.ref a)] Z h0 (own_ptQ Z a b kb np nw vs h0 n0) := by
 refine own_go (plainFor_of_name own_pn23) (fun m => own_ef1 m a ) ?_
 intro p e s m below meth c s₁ Bd hx hby hml hZ hh hown hnm X0 e0
 have N0 := Fr.nil n0
 refine own_st (g' := (mkF m 1 #[oR a] [(.ref a)])) (fun _ kt => XS.aloadN X0.here hx rfl (hb hby d9_0) rfl rfl kt) ?_
 obtain ⟨T742, X742, e742, st742⟩ := getF X0 hx hZ hown (host := "") (Or.inl (own_k hw 22 rfl)) Via.refl e0 pr3 (g := (mkF m 1 #[oR a] [(.ref a)])) rfl rfl (hb hby d9_1)
 refine own_st st742 ?_
 refine own_st (g' := (mkF m 5 #[oR a] [vJ np])) (own_alen X742 hx hZ e742 pr4 (g := (mkF m 4 #[oR a] [(.ref b)])) rfl rfl (hb hby d9_4)) ?_
 obtain ⟨fs, hr, hrun, hended, hW, hsame⟩ := X742.leave (v := some (.int (Int32.ofNat np))) (fun h => by rw [Bd.returns] at h; cases h)
 refine own_end (own_retI X742 hx Bd.returns (hb hby d9_5) hr) ⟨_, hrun, hended, _, _, rfl, ?_, ⟨_, rfl⟩, hW, hsame.mono (by decide) (by decide)⟩
 show own_ptQ Z _ _ _ _ _ _ h0 n0 _ T742.heap _
 rw [e742]
 exact ⟨rfl, N0, rfl⟩
abbrev c10 := prog_94_method_5_code
theorem d10_0 : dk c10 0 (.aload_n 0) 1 := by decide +kernel
theorem d10_1 : dk c10 1 (.getfield 23) 3 := by decide +kernel
theorem d10_4 : dk c10 4 (.ireturn) 1 := by decide +kernel
def own_pwQ (Z : State) (a : Addr) (nw : Nat) (h0 : Heap) (n0 : Nat) (v : Option Value) (h : Heap) (L : List Loc) : Prop := v = some (.int (Int32.ofNat nw)) ∧ Fr n0 L ∧ h = h0
abbrev own_pwR : Room := { frames := 0, cells := 0, slots := 0, locals := 0 }
theorem own_pw (l : Launch) (Z : State) (a0 : Array Value) (hw : ∀ d ∈ tables_1, d.before a0 Z = true) (ws : List Jvm.Cond) (a : Addr) (nw : Nat) (h0 : Heap) (n0 : Nat) (Z0 : n0 ≤ h0.size) (pr1 : Fld Z h0 a zC2 "workers" "I" (.int (Int32.ofNat nw))) :
    own_M l yN3 prog_94_method_5_code 1 (some .int) ws own_pwR #[(.ref a)] Z h0 (own_pwQ Z a nw h0 n0) := by
 refine own_go (plainFor_of_name own_pn23) (fun m => own_ef1 m a ) ?_
 intro p e s m below meth c s₁ Bd hx hby hml hZ hh hown hnm X0 e0
 have N0 := Fr.nil n0
 refine own_st (g' := (mkF m 1 #[oR a] [(.ref a)])) (fun _ kt => XS.aloadN X0.here hx rfl (hb hby d10_0) rfl rfl kt) ?_
 obtain ⟨T743, X743, e743, st743⟩ := getF X0 hx hZ hown (host := "") (Or.inl (own_k hw 17 rfl)) Via.refl e0 pr1 (g := (mkF m 1 #[oR a] [(.ref a)])) rfl rfl (hb hby d10_1)
 refine own_st st743 ?_
 obtain ⟨fs, hr, hrun, hended, hW, hsame⟩ := X743.leave (v := some (.int (Int32.ofNat nw))) (fun h => by rw [Bd.returns] at h; cases h)
 refine own_end (own_retI X743 hx Bd.returns (hb hby d10_4) hr) ⟨_, hrun, hended, _, _, rfl, ?_, ⟨_, rfl⟩, hW, hsame.mono (by decide) (by decide)⟩
 show own_pwQ Z _ _ h0 n0 _ T743.heap _
 rw [e743]
 exact ⟨rfl, N0, rfl⟩
abbrev c27 := prog_94_method_7_code
theorem d27_0 : dk c27 0 (.aload_n 0) 1 := by decide +kernel
theorem d27_1 : dk c27 1 (.getfield 32) 3 := by decide +kernel
theorem d27_4 : dk c27 4 (.iload_n 1) 1 := by decide +kernel
theorem d27_5 : dk c27 5 (.iaload) 1 := by decide +kernel
theorem d27_6 : dk c27 6 (.ireturn) 1 := by decide +kernel
def own_poQ (Z : State) (a : Addr) (b : Addr) (kb : ClassId) (np : Nat) (nw : Nat) (vs : List Value) (i : Nat) (oo : Int32) (h0 : Heap) (n0 : Nat) (v : Option Value) (h : Heap) (L : List Loc) : Prop := v = some (.int oo) ∧ Fr n0 L ∧ h = h0
abbrev own_poR : Room := { frames := 0, cells := 0, slots := 0, locals := 0 }
theorem own_po (l : Launch) (Z : State) (a0 : Array Value) (hw : ∀ d ∈ tables_1, d.before a0 Z = true) (ws : List Jvm.Cond) (a : Addr) (b : Addr) (kb : ClassId) (np : Nat) (nw : Nat) (vs : List Value) (i : Nat) (oo : Int32) (h0 : Heap) (n0 : Nat) (Z0 : n0 ≤ h0.size) (pr1 : Exa Z h0 a zC2) (pr2 : Fld Z h0 a zC2 "workers" "I" (.int (Int32.ofNat nw))) (pr3 : Fld Z h0 a zC2 "owners" "[I" (.ref b)) (pr4 : Arv Z h0 b kb .int (Int32.ofNat np) vs (Value.int 0)) (pr5 : i < np) (pr6 : np ≤ 7) (pr7 : vs.getD i (Value.int 0) = .int oo) :
    own_M l yN23 prog_94_method_7_code 2 (some .int) ws own_poR #[(.ref a), (.int (Int32.ofNat i))] Z h0 (own_poQ Z a b kb np nw vs i oo h0 n0) := by
 refine own_go (plainFor_of_name own_pn23) (fun m => own_ef6 m a (Int32.ofNat i) ) ?_
 intro p e s m below meth c s₁ Bd hx hby hml hZ hh hown hnm X0 e0
 have N0 := Fr.nil n0
 refine own_st (g' := (mkF m 1 #[oR a, oJ i] [(.ref a)])) (fun _ kt => XS.aloadN X0.here hx rfl (hb hby d27_0) rfl rfl kt) ?_
 obtain ⟨T744, X744, e744, st744⟩ := getF X0 hx hZ hown (host := "") (Or.inl (own_k hw 22 rfl)) Via.refl e0 pr3 (g := (mkF m 1 #[oR a, oJ i] [(.ref a)])) rfl rfl (hb hby d27_1)
 refine own_st st744 ?_
 refine own_st (g' := (mkF m 5 #[oR a, oJ i] [vJ i, (.ref b)])) (fun _ kt => XS.iloadN X744.here hx rfl (hb hby d27_4) rfl kt) ?_
 refine own_st (g' := (mkF m 6 #[oR a, oJ i] [(.int oo)])) (own_ial X744 hx hZ e744 pr4 (own_idx pr5 (by have := pr6; omega)) (by rw [own_tn (by have := pr5; have := pr6; omega)]; exact pr7) (g := (mkF m 5 #[oR a, oJ i] [vJ i, (.ref b)])) rfl rfl (hb hby d27_5)) ?_
 obtain ⟨fs, hr, hrun, hended, hW, hsame⟩ := X744.leave (v := some (.int oo)) (fun h => by rw [Bd.returns] at h; cases h)
 refine own_end (own_retI X744 hx Bd.returns (hb hby d27_6) hr) ⟨_, hrun, hended, _, _, rfl, ?_, ⟨_, rfl⟩, hW, hsame.mono (by decide) (by decide)⟩
 show own_poQ Z _ _ _ _ _ _ _ _ h0 n0 _ T744.heap _
 rw [e744]
 exact ⟨rfl, N0, rfl⟩
def own_max (a b : Int32) : Int32 := if a < b then b else a
theorem own_maxt {a b : Int32} (h : a < b) : b = own_max a b := (if_pos h).symm
theorem own_maxf {a b : Int32} (h : ¬ a < b) : a = own_max a b := (if_neg h).symm
/-- the first partition of worker k -/
def own_fr (np nw k : Nat) : Nat := (k - 1) * np / nw
/-- the owner of partition i -/
def own_on (np nw i : Nat) : Nat := ((List.range nw).filter (fun v => decide ((v + 1) * np / nw ≤ i))).length + 1
def own_od (np nw m : Nat) (us : List Value) : Prop := ∀ i, i < m → us.getD i (Value.int 0) = .int (Int32.ofNat (own_on np nw i))
theorem own_on_eq {np nw w j : Nat} (h1 : 1 ≤ nw) (h2 : nw ≤ 4) (h3 : np ≤ 7) (h4 : 1 ≤ w) (h5 : w ≤ nw) (h6 : (w - 1) * np / nw ≤ j) (h7 : j < (w + 1 - 1) * np / nw) : own_on np nw j = w ∧ j < np := by
  have key : ∀ np : Fin 8, ∀ nw : Fin 5, ∀ w : Fin 5, ∀ j : Fin 8, 1 ≤ nw.val → 1 ≤ w.val → w.val ≤ nw.val → (w.val - 1) * np.val / nw.val ≤ j.val → j.val < (w.val + 1 - 1) * np.val / nw.val → own_on np.val nw.val j.val = w.val ∧ j.val < np.val := by decide +kernel
  have hb : ∀ np : Fin 8, ∀ nw : Fin 5, ∀ w : Fin 5, 1 ≤ nw.val → w.val ≤ nw.val → (w.val + 1 - 1) * np.val / nw.val ≤ np.val := by decide +kernel
  have := hb ⟨np, by omega⟩ ⟨nw, by omega⟩ ⟨w, by omega⟩ h1 h5
  exact key ⟨np, by omega⟩ ⟨nw, by omega⟩ ⟨w, by omega⟩ ⟨j, by dsimp only at this; omega⟩ h1 h4 h5 h6 h7
theorem own_fr_le {np nw w : Nat} (h1 : 1 ≤ nw) (h2 : nw ≤ 4) (h3 : np ≤ 7) (h5 : w ≤ nw) : (w - 1) * np / nw ≤ (w + 1 - 1) * np / nw ∧ (w + 1 - 1) * np / nw ≤ np := by
  have hb : ∀ np : Fin 8, ∀ nw : Fin 5, ∀ w : Fin 5, 1 ≤ nw.val → w.val ≤ nw.val → (w.val - 1) * np.val / nw.val ≤ (w.val + 1 - 1) * np.val / nw.val ∧ (w.val + 1 - 1) * np.val / nw.val ≤ np.val := by decide +kernel
  exact hb ⟨np, by omega⟩ ⟨nw, by omega⟩ ⟨w, by omega⟩ h1 h5
theorem own_od_set {np nw w j : Nat} {us : List Value} (h : own_od np nw j us) (hl : us.length = np) (hj : own_on np nw j = w ∧ j < np) : own_od np nw (j + 1) (us.set j (.int (Int32.ofNat w))) := by
  intro i hi
  rcases Nat.lt_or_ge i j with q | q
  · have := h i q
    simp only [List.getD_eq_getElem?_getD] at this ⊢
    rw [List.getElem?_set_ne (by omega)]; exact this
  · have e : i = j := by omega
    subst e
    simp only [List.getD_eq_getElem?_getD]
    rw [List.getElem?_set_self (by omega), hj.1]; rfl
abbrev c3 := jdk_29_method_65_code
theorem d3_0 : dk c3 0 (.iload_n 0) 1 := by decide +kernel
theorem d3_1 : dk c3 1 (.iload_n 1) 1 := by decide +kernel
theorem d3_2 : dk c3 2 (.if_icmp .lt 7) 3 := by decide +kernel
theorem d3_9 : dk c3 9 (.iload_n 1) 1 := by decide +kernel
theorem d3_10 : dk c3 10 (.ireturn) 1 := by decide +kernel
theorem d3_5 : dk c3 5 (.iload_n 0) 1 := by decide +kernel
theorem d3_6 : dk c3 6 (.goto 4) 3 := by decide +kernel
theorem own_ef17 (m : MethodId) (x0 : Int32) (x1 : Int32) : entryFrame m #[(.int x0), (.int x1)] 2 = mkF m 0 #[.val (.int x0), .val (.int x1)] [] := by first | (simp [entryFrame, mkF, argsToLocals, Value.category]; done) | rfl
def own_mxgQ (Z : State) (u1 : Int32) (u2 : Int32) (h0 : Heap) (n0 : Nat) (v : Option Value) (h : Heap) (L : List Loc) : Prop := v = some (.int (own_max u1 u2)) ∧ Fr n0 L ∧ h = h0
abbrev own_mxgR : Room := { frames := 0, cells := 0, slots := 0, locals := 0 }
theorem own_mxg (l : Launch) (Z : State) (a0 : Array Value) (hw : ∀ d ∈ tables_1, d.before a0 Z = true) (ws : List Jvm.Cond) (u1 : Int32) (u2 : Int32) (h0 : Heap) (n0 : Nat) (Z0 : n0 ≤ h0.size)  :
    own_M l yN12 jdk_29_method_65_code 2 (some .int) ws own_mxgR #[(.int u1), (.int u2)] Z h0 (own_mxgQ Z u1 u2 h0 n0) := by
 refine own_go (Jvm.Free.JP.mathPlain rfl (by decide)) (fun m => own_ef17 m u1 u2 ) ?_
 intro p e s m below meth c s₁ Bd hx hby hml hZ hh hown hnm X0 e0
 have N0 := Fr.nil n0
 refine own_st (g' := (mkF m 2 #[oI u1, oI u2] [(.int u2), (.int u1)])) (fun _ kt => XS.iloadN X0.here hx rfl (hb hby d3_0) rfl (XS.iloadN X0.here hx rfl (hb hby d3_1) rfl kt)) ?_
 by_cases hc745 : u1 < u2
 ·
  refine own_st (g' := (mkF m 10 #[oI u1, oI u2] [(.int u2)])) (fun _ kt => XS.icmpYes X0.here hx rfl (pc0 := 2) (pc' := 9) rfl (hb hby d3_2) rfl (XT.ii_lt_t hc745) (by decide) (by decide) (XS.iloadN X0.here hx rfl (hb hby d3_9) rfl kt)) ?_
  obtain ⟨fs, hr, hrun, hended, hW, hsame⟩ := X0.leave (v := some (.int u2)) (fun h => by rw [Bd.returns] at h; cases h)
  refine own_end (own_retI X0 hx Bd.returns (hb hby d3_10) hr) ⟨_, hrun, hended, _, _, rfl, ?_, ⟨_, rfl⟩, hW, hsame.mono (by decide) (by decide)⟩
  show own_mxgQ Z _ _ h0 n0 _ s₁.heap _
  rw [e0]
  exact ⟨(congrArg (fun z => some (Value.int z)) (own_maxt hc745)), N0, rfl⟩
 ·
  refine own_st (g' := (mkF m 10 #[oI u1, oI u2] [(.int u1)])) (fun _ kt => XS.icmpNo X0.here hx rfl (hb hby d3_2) rfl (XT.ii_lt_f hc745) (XS.iloadN X0.here hx rfl (hb hby d3_5) rfl (XS.goto X0.here hx rfl (pc0 := 6) (pc' := 10) rfl (hb hby d3_6) (by decide) (by decide) kt))) ?_
  obtain ⟨fs, hr, hrun, hended, hW, hsame⟩ := X0.leave (v := some (.int u1)) (fun h => by rw [Bd.returns] at h; cases h)
  refine own_end (own_retI X0 hx Bd.returns (hb hby d3_10) hr) ⟨_, hrun, hended, _, _, rfl, ?_, ⟨_, rfl⟩, hW, hsame.mono (by decide) (by decide)⟩
  show own_mxgQ Z _ _ h0 n0 _ s₁.heap _
  rw [e0]
  exact ⟨(congrArg (fun z => some (Value.int z)) (own_maxf hc745)), N0, rfl⟩
theorem own_mle {nw nr : Nat} (h1 : 1 ≤ nw) (h2 : nw ≤ 4) (h3 : 1 ≤ nr) (h4 : nr = 1 ∨ nr < nw) : ¬ own_max (1 : Int32) ((Int32.ofNat nw) - (1 : Int32)) < Int32.ofNat nr ∧ ¬ Int32.ofNat nr < 1 := by
  have key : ∀ nw : Fin 5, ∀ nr : Fin 5, 1 ≤ nw.val → 1 ≤ nr.val → (nr.val = 1 ∨ nr.val < nw.val) → ¬ own_max (1 : Int32) ((Int32.ofNat nw.val) - (1 : Int32)) < Int32.ofNat nr.val ∧ ¬ Int32.ofNat nr.val < 1 := by decide +kernel
  exact key ⟨nw, by omega⟩ ⟨nr, by omega⟩ h1 h3 h4
abbrev c1 := prog_94_method_1_code
theorem d1_0 : dk c1 0 (.aload_n 0) 1 := by decide +kernel
theorem d1_1 : dk c1 1 (.invokespecial 1) 3 := by decide +kernel
theorem d1_4 : dk c1 4 (.iload_n 2) 1 := by decide +kernel
theorem d1_5 : dk c1 5 (.ifCond .le 8) 3 := by decide +kernel
theorem d1_8 : dk c1 8 (.iload_n 1) 1 := by decide +kernel
theorem d1_9 : dk c1 9 (.iload_n 2) 1 := by decide +kernel
theorem d1_10 : dk c1 10 (.if_icmp .ge 18) 3 := by decide +kernel
theorem d1_28 : dk c1 28 (.iload_n 3) 1 := by decide +kernel
theorem d1_29 : dk c1 29 (.iconst 1) 1 := by decide +kernel
theorem d1_30 : dk c1 30 (.if_icmp .lt 14) 3 := by decide +kernel
theorem d1_33 : dk c1 33 (.iload_n 3) 1 := by decide +kernel
theorem d1_34 : dk c1 34 (.iconst 1) 1 := by decide +kernel
theorem d1_35 : dk c1 35 (.iload_n 2) 1 := by decide +kernel
theorem d1_36 : dk c1 36 (.iconst 1) 1 := by decide +kernel
theorem d1_37 : dk c1 37 (.isub) 1 := by decide +kernel
theorem d1_38 : dk c1 38 (.invokestatic 16) 3 := by decide +kernel
theorem own_pd12 : parseMethodDescriptor "(II)I" = some ⟨[.int, .int], some .int⟩ := by decide +kernel
theorem d1_41 : dk c1 41 (.if_icmp .le 18) 3 := by decide +kernel
theorem d1_59 : dk c1 59 (.aload_n 0) 1 := by decide +kernel
theorem d1_60 : dk c1 60 (.iload_n 2) 1 := by decide +kernel
theorem d1_61 : dk c1 61 (.putfield 23) 3 := by decide +kernel
theorem d1_64 : dk c1 64 (.aload_n 0) 1 := by decide +kernel
theorem d1_65 : dk c1 65 (.iload_n 3) 1 := by decide +kernel
theorem d1_66 : dk c1 66 (.putfield 29) 3 := by decide +kernel
theorem d1_69 : dk c1 69 (.aload_n 0) 1 := by decide +kernel
theorem d1_70 : dk c1 70 (.iload_n 1) 1 := by decide +kernel
theorem d1_71 : dk c1 71 (.newarray .int) 2 := by decide +kernel
theorem d1_73 : dk c1 73 (.putfield 32) 3 := by decide +kernel
theorem d1_121 : dk c1 121 (.iinc 4 1) 3 := by decide +kernel
theorem d1_124 : dk c1 124 (.goto (-45)) 3 := by decide +kernel
theorem d1_79 : dk c1 79 (.iload 4) 2 := by decide +kernel
theorem d1_81 : dk c1 81 (.iload_n 2) 1 := by decide +kernel
theorem d1_82 : dk c1 82 (.if_icmp .gt 45) 3 := by decide +kernel
theorem d1_127 : dk c1 127 (.return_) 1 := by decide +kernel
theorem d1_85 : dk c1 85 (.aload_n 0) 1 := by decide +kernel
theorem d1_86 : dk c1 86 (.iload 4) 2 := by decide +kernel
theorem d1_88 : dk c1 88 (.invokevirtual 36) 3 := by decide +kernel
theorem d1_91 : dk c1 91 (.istore 5) 2 := by decide +kernel
theorem d1_93 : dk c1 93 (.iload 5) 2 := by decide +kernel
theorem d1_95 : dk c1 95 (.aload_n 0) 1 := by decide +kernel
theorem d1_96 : dk c1 96 (.iload 4) 2 := by decide +kernel
theorem d1_98 : dk c1 98 (.iconst 1) 1 := by decide +kernel
theorem d1_99 : dk c1 99 (.iadd) 1 := by decide +kernel
theorem d1_100 : dk c1 100 (.invokevirtual 36) 3 := by decide +kernel
theorem d1_103 : dk c1 103 (.if_icmp .ge 18) 3 := by decide +kernel
theorem d1_106 : dk c1 106 (.aload_n 0) 1 := by decide +kernel
theorem d1_107 : dk c1 107 (.getfield 32) 3 := by decide +kernel
theorem d1_110 : dk c1 110 (.iload 5) 2 := by decide +kernel
theorem d1_112 : dk c1 112 (.iload 4) 2 := by decide +kernel
theorem d1_114 : dk c1 114 (.iastore) 1 := by decide +kernel
theorem d1_115 : dk c1 115 (.iinc 5 1) 3 := by decide +kernel
theorem d1_118 : dk c1 118 (.goto (-25)) 3 := by decide +kernel
theorem d1_76 : dk c1 76 (.iconst 1) 1 := by decide +kernel
theorem d1_77 : dk c1 77 (.istore 4) 2 := by decide +kernel
theorem own_ef18 (m : MethodId) (x0 : Addr) (x1 : Int32) (x2 : Int32) (x3 : Int32) : entryFrame m #[(.ref x0), (.int x1), (.int x2), (.int x3)] 6 = mkF m 0 #[.val (.ref x0), .val (.int x1), .val (.int x2), .val (.int x3), .unset, .unset] [] := by first | (simp [entryFrame, mkF, argsToLocals, Value.category]; done) | rfl
def own_pinQ (Z : State) (a : Addr) (np : Nat) (nw : Nat) (nr : Nat) (h0 : Heap) (n0 : Nat) (v : Option Value) (h : Heap) (L : List Loc) : Prop := ∃ (b : Addr), ∃ (kb : ClassId), ∃ (us : List Value), v = none ∧ Fr n0 L ∧ Keep h0 h [a] ∧ (Exa Z h a zC2) ∧ (Fld Z h a zC2 "workers" "I" (.int (Int32.ofNat nw))) ∧ (Fld Z h a zC2 "owners" "[I" (.ref b)) ∧ (Arv Z h b kb .int (Int32.ofNat np) us (Value.int 0)) ∧ (Fld Z h a zC2 "backupsEach" "I" (.int (Int32.ofNat nr))) ∧ (us.length = np) ∧ (own_od np nw np us) ∧ (h0.size ≤ b)
abbrev own_pinR : Room := { frames := 3, cells := 1, slots := 7, locals := 60 }
theorem own_pin (l : Launch) (Z : State) (a0 : Array Value) (hw : ∀ d ∈ tables_1, d.before a0 Z = true) (ws : List Jvm.Cond) (a : Addr) (np : Nat) (nw : Nat) (nr : Nat) (h0 : Heap) (n0 : Nat) (Z0 : n0 ≤ h0.size) (pr1 : Exa Z h0 a zC2) (pr2 : n0 ≤ a) (pr3 : Fld Z h0 a zC2 "workers" "I" (.int 0)) (pr4 : Fld Z h0 a zC2 "backupsEach" "I" (.int 0)) (pr5 : Fld Z h0 a zC2 "owners" "[I" .null) (pr6 : np ≤ 7) (pr7 : 1 ≤ nw) (pr8 : nw ≤ 4) (pr9 : nw ≤ np) (pr10 : 1 ≤ nr) (pr11 : nr = 1 ∨ nr < nw) :
    own_M l yN53 prog_94_method_1_code 6 none ws own_pinR #[(.ref a), (.int (Int32.ofNat np)), (.int (Int32.ofNat nw)), (.int (Int32.ofNat nr))] Z h0 (own_pinQ Z a np nw nr h0 n0) := by
 refine own_go (plainFor_of_name own_pn23) (fun m => own_ef18 m a (Int32.ofNat np) (Int32.ofNat nw) (Int32.ofNat nr) ) ?_
 intro p e s m below meth c s₁ Bd hx hby hml hZ hh hown hnm X0 e0
 have N0 := Fr.nil n0
 have K0 : Keep h0 h0 [a] := Keep.refl h0 _
 have hq0 := pr6
 have hq1 := pr7
 have hq2 := pr8
 have hq3 := pr9
 have hq4 := pr10
 have hq5 := pr11
 refine own_st (g' := (mkF m 1 #[oR a, oJ np, oJ nw, oJ nr, .unset, .unset] [(.ref a)])) (fun _ kt => XS.aloadN X0.here hx rfl (hb hby d1_0) rfl rfl kt) ?_
 obtain ⟨T746, X746, e746, st746⟩ := initO X0 hx hZ hown (own_k hw 10 rfl) (own_k hw 11 rfl) (own_k hw 12 rfl) e0 (g := (mkF m 1 #[oR a, oJ np, oJ nw, oJ nr, .unset, .unset] [(.ref a)])) rfl hml.symm rfl (hb hby d1_1) (by decide) (W := 0) (own_w0 rfl rfl) (by decide)
 refine own_st st746 ?_
 refine own_st (g' := (mkF m 37 #[oR a, oJ np, oJ nw, oJ nr, .unset, .unset] [(.int 1), vJ nw, (.int 1), vJ nr])) (fun _ kt => XS.iloadN X746.here hx rfl (hb hby d1_4) rfl (XS.ifNo X746.here hx rfl (hb hby d1_5) rfl (XT.i0_le_f (own_pos hq1 (by omega))) (XS.iloadN X746.here hx rfl (hb hby d1_8) rfl (XS.iloadN X746.here hx rfl (hb hby d1_9) rfl (XS.icmpYes X746.here hx rfl (pc0 := 10) (pc' := 28) rfl (hb hby d1_10) rfl (XT.ii_ge_t (fun g => by have := (own_ige (by omega) (by omega)).mp g; omega)) (by decide) (by decide) (XS.iloadN X746.here hx rfl (hb hby d1_28) rfl (XS.iconst X746.here hx rfl (hb hby d1_29) (XS.icmpNo X746.here hx rfl (hb hby d1_30) rfl (XT.ii_lt_f (own_mle hq1 hq2 hq4 hq5).2) (XS.iloadN X746.here hx rfl (hb hby d1_33) rfl (XS.iconst X746.here hx rfl (hb hby d1_34) (XS.iloadN X746.here hx rfl (hb hby d1_35) rfl (XS.iconst X746.here hx rfl (hb hby d1_36) kt)))))))))))) ?_
 refine own_st (g' := (mkF m 38 #[oR a, oJ np, oJ nw, oJ nr, .unset, .unset] [(.int ((Int32.ofNat nw) - (1 : Int32))), (.int 1), vJ nr])) (fun _ kt => XS.isub X746.here hx rfl (hb hby d1_37) rfl kt) ?_
 obtain ⟨_, _, ⟨T747, L747, k747, n747⟩, -, X747, ⟨Lc747, hQ747, l747, y747, z747⟩, st747⟩ := Jvm.LawKit.callS X746 hx (y := yN12) hown (mvT hZ (own_k hw 13 rfl)) (mvT hZ (own_k hw 14 rfl)) (mvT hZ (own_k hw 15 rfl)) (mvT hZ (own_k hw 16 rfl)) (by decide) (backOf (W := 1) (own_mxg l Z a0 hw [] (1 : Int32) ((Int32.ofNat nw) - (1 : Int32)) h0 n0 Z0 ) hZ (own_k hw 16 rfl) (own_k hw 15 rfl) (by decide) (by decide)) (g := (mkF m 38 #[oR a, oJ np, oJ nw, oJ nr, .unset, .unset] [(.int ((Int32.ofNat nw) - (1 : Int32))), (.int 1), vJ nr])) rfl hml.symm  (argsL := [(.int 1), (.int ((Int32.ofNat nw) - (1 : Int32)))]) (rest := [vJ nr]) (lenOf own_pd12 rfl) rfl (own_w0 rfl rfl) (hb hby d1_38) (fun _ _ => ⟨rfl, e746, (by decide : 0 + 0 ≤ 1), (by decide : 0 + 0 ≤ 7)⟩)
 dsimp only [Pt.U, Pt.locs, Pt.cells, Pt.slots] at X747 l747 y747 z747 st747 hQ747
 subst l747 y747 z747
 obtain ⟨rfl, N747, e747⟩ := hQ747
 have N748 := Fr.app N0 N747
 refine own_st st747 ?_
 refine own_st (g' := (mkF m 61 #[oR a, oJ np, oJ nw, oJ nr, .unset, .unset] [vJ nw, (.ref a)])) (fun _ kt => XS.icmpYes X747.here hx rfl (pc0 := 41) (pc' := 59) rfl (hb hby d1_41) rfl (XT.ii_le_t (own_mle hq1 hq2 hq4 hq5).1) (by decide) (by decide) (XS.aloadN X747.here hx rfl (hb hby d1_59) rfl rfl (XS.iloadN X747.here hx rfl (hb hby d1_60) rfl kt))) ?_
 obtain ⟨T749, h749, X749, e749, W749, st749⟩ := putF X747 hx hZ hown (host := "") (Or.inl (own_k hw 17 rfl)) Via.refl e747 pr3 pr1 (Or.inr ⟨(own_k hw 18 rfl), rfl, hnm⟩) (own_k hw 5 rfl) (ty := .int) (by decide) rfl rfl (g := (mkF m 61 #[oR a, oJ np, oJ nw, oJ nr, .unset, .unset] [vJ nw, (.ref a)])) rfl rfl (hb hby d1_61)
 have N749 := Fr.snoc X749 N748 pr2
 have Z750 := Nat.le_trans Z0 (Nat.le_of_eq (Wr.size W749).symm)
 have K750 := (Keep.wr K0 W749 (Or.inl (List.mem_of_getElem? (i := 0) rfl)))
 have F751 : Fld Z h749 a zC2 "workers" "I" (.int (Int32.ofNat nw)) := Fld.same W749 pr3
 refine own_st st749 ?_
 refine own_st (g' := (mkF m 66 #[oR a, oJ np, oJ nw, oJ nr, .unset, .unset] [vJ nr, (.ref a)])) (fun _ kt => XS.aloadN X749.here hx rfl (hb hby d1_64) rfl rfl (XS.iloadN X749.here hx rfl (hb hby d1_65) rfl kt)) ?_
 have F752 := (Fld.other W749 pr4 (Or.inr (slot_ne (Or.inr (own_k hw 20 rfl)) (Or.inr (own_k hw 18 rfl)) (by decide) (t := .int) (t' := .int) (by decide) (by decide))))
 have F753 := (Exa.wr W749 pr1)
 obtain ⟨T754, h754, X754, e754, W754, st754⟩ := putF X749 hx hZ hown (host := "") (Or.inl (own_k hw 19 rfl)) Via.refl e749 F752 F753 (Or.inr ⟨(own_k hw 20 rfl), rfl, hnm⟩) (own_k hw 5 rfl) (ty := .int) (by decide) rfl rfl (g := (mkF m 66 #[oR a, oJ np, oJ nw, oJ nr, .unset, .unset] [vJ nr, (.ref a)])) rfl rfl (hb hby d1_66)
 have N754 := Fr.snoc X754 N749 pr2
 have Z755 := Nat.le_trans Z750 (Nat.le_of_eq (Wr.size W754).symm)
 have K755 := (Keep.wr K750 W754 (Or.inl (List.mem_of_getElem? (i := 0) rfl)))
 have F756 : Fld Z h754 a zC2 "backupsEach" "I" (.int (Int32.ofNat nr)) := Fld.same W754 F752
 refine own_st st754 ?_
 refine own_st (g' := (mkF m 71 #[oR a, oJ np, oJ nw, oJ nr, .unset, .unset] [vJ np, (.ref a)])) (fun _ kt => XS.aloadN X754.here hx rfl (hb hby d1_69) rfl rfl (XS.iloadN X754.here hx rfl (hb hby d1_70) rfl kt)) ?_
 obtain ⟨T757, h757, k757, X757, e757, E757, A757, st757⟩ := newP X754 hx hZ (aty := .int) (own_k hw 21 rfl) e754 (g := (mkF m 71 #[oR a, oJ np, oJ nw, oJ nr, .unset, .unset] [vJ np, (.ref a)])) rfl (hb hby d1_71) rfl (own_nn (by omega)) (cap := 7) (by rw [own_tn (by omega)]; omega) (by decide) (by decide) (by decide)
 obtain ⟨b757, g757⟩ : ∃ z, z = h754.size := ⟨_, rfl⟩
 rw [← g757] at A757 st757
 have Z758 := Nat.le_trans Z755 E757.1
 have K758 := (Keep.ext K755 E757)
 have ge_b757 : n0 ≤ b757 := Nat.le_trans Z755 (Nat.le_of_eq g757.symm)
 have F759 : Arv Z h757 b757 k757 .int (Int32.ofNat np) (List.replicate np (Value.int 0)) (.int 0) := (Arv.new A757 (own_nn (by omega))).pad (pad_rep [] (Value.int 0) np)
 refine own_st st757 ?_
 have F760 := (Fld.ext E757 (Fld.other W754 (Fld.other W749 pr5 (Or.inr (slot_ne (Or.inr (own_k hw 23 rfl)) (Or.inr (own_k hw 18 rfl)) (by decide) (t := (.array .int)) (t' := .int) (by decide) (by decide)))) (Or.inr (slot_ne (Or.inr (own_k hw 23 rfl)) (Or.inr (own_k hw 20 rfl)) (by decide) (t := (.array .int)) (t' := .int) (by decide) (by decide)))))
 have F761 := (Exa.ext E757 (Exa.wr W754 F753))
 obtain ⟨T762, h762, X762, e762, W762, st762⟩ := putF X757 hx hZ hown (host := "") (Or.inl (own_k hw 22 rfl)) Via.refl e757 F760 F761 (Or.inr ⟨(own_k hw 23 rfl), rfl, hnm⟩) (own_k hw 5 rfl) (ty := (.array .int)) (by decide) rfl rfl (g := (mkF m 73 #[oR a, oJ np, oJ nw, oJ nr, .unset, .unset] [(.ref b757), (.ref a)])) rfl rfl (hb hby d1_73)
 have N762 := Fr.snoc X762 N754 pr2
 have Z763 := Nat.le_trans Z758 (Nat.le_of_eq (Wr.size W762).symm)
 have K763 := (Keep.wr K758 W762 (Or.inl (List.mem_of_getElem? (i := 0) rfl)))
 have F764 : Fld Z h762 a zC2 "owners" "[I" (.ref b757) := Fld.same W762 F760
 refine own_st st762 ?_
 refine own_loopH (α := Nat × List Value × Int32) X762 (cs := fun kk => 1) (sl := fun kk => 7) (gj := fun q => (mkF m 121 #[oR a, oJ np, oJ nw, oJ nr, oJ q.1, oI q.2.2] [])) (P := fun kk L_ h_ q => (Fr n0 L_) ∧ (n0 ≤ h_.size) ∧ (Keep h0 h_ [a]) ∧ (Exa Z h_ a zC2) ∧ (Fld Z h_ a zC2 "workers" "I" (.int (Int32.ofNat nw))) ∧ (Fld Z h_ a zC2 "backupsEach" "I" (.int (Int32.ofNat nr))) ∧ (Fld Z h_ a zC2 "owners" "[I" (.ref b757)) ∧ (Arv Z h_ b757 k757 .int (Int32.ofNat np) q.2.1 (Value.int 0)) ∧ (q.2.1.length = np ∧ 1 ≤ q.1 ∧ q.1 ≤ nw ∧ own_od np nw ((q.1 + 1 - 1) * np / nw) q.2.1 ∧ nw - q.1 = kk)) ?_ (fun J765 => ?_)
 ·
  rintro kk ih765 T765 L765 h765 ⟨k, us, j5⟩ ⟨N765, Z765, K765, F766, F767, F768, F769, F770, hj765⟩ X765 e765
  try dsimp only at F766 F767 F768 F769 F770 hj765 X765 ⊢
  have ho := hj765
  refine own_st (g' := (mkF m 124 #[oR a, oJ np, oJ nw, oJ nr, oI ((Int32.ofNat k) + (1 : Int32)), oI j5] [])) (fun _ kt => XS.iinc X765.here hx rfl (hb hby d1_121) rfl (l' := #[oR a, oJ np, oJ nw, oJ nr, oI ((Int32.ofNat k) + (1 : Int32)), oI j5]) rfl kt) ?_
  rw [own_succ (n := k) (by omega)]
  refine own_st (g' := (mkF m 82 #[oR a, oJ np, oJ nw, oJ nr, oJ (k + 1), oI j5] [vJ nw, vJ (k + 1)])) (fun _ kt => XS.goto X765.here hx rfl (pc0 := 124) (pc' := 79) rfl (hb hby d1_124) (by decide) (by decide) (XS.iload X765.here hx rfl (hb hby d1_79) rfl (XS.iloadN X765.here hx rfl (hb hby d1_81) rfl kt))) ?_
  by_cases hc771 : (Int32.ofNat nw) < (Int32.ofNat (k + 1))
  ·
   refine own_st (g' := (mkF m 127 #[oR a, oJ np, oJ nw, oJ nr, oJ (k + 1), oI j5] [])) (fun _ kt => XS.icmpYes X765.here hx rfl (pc0 := 82) (pc' := 127) rfl (hb hby d1_82) rfl (XT.ii_gt_t hc771) (by decide) (by decide) kt) ?_
   obtain ⟨fs, hr, hrun, hended, hW, hsame⟩ := X765.leave (v := none) (fun _ => rfl)
   refine own_end (X765.returnOut hx Bd.returns (hb hby d1_127) hr) ⟨_, hrun, hended, _, _, rfl, ?_, ⟨_, rfl⟩, hW, hsame.mono (by show _ ≤ (1 : Nat); (try dsimp only [Pt.cells, Pt.slots]); omega) (by show _ ≤ (7 : Nat); (try dsimp only [Pt.cells, Pt.slots]); omega)⟩
   show own_pinQ Z _ _ _ _ h0 n0 _ T765.heap _
   rw [e765]
   exact ⟨b757, k757, us, rfl, N765, K765, F766, F767, F769, F770, F768, ho.1, (by have hk := (own_ige (by omega) (by omega)).mp hc771; have hke : k = nw := (by omega); have q := ho.2.2.2.1; rw [hke, Nat.add_sub_cancel, Nat.mul_div_cancel_left _ (by omega)] at q; exact q), (Nat.le_trans K755.1 (Nat.le_of_eq g757.symm))⟩
  ·
   have hk1 : k + 1 ≤ nw := Nat.le_of_not_lt fun g => hc771 ((own_ige (by omega) (by omega)).mpr g)
   refine own_st (g' := (mkF m 88 #[oR a, oJ np, oJ nw, oJ nr, oJ (k + 1), oI j5] [vJ (k + 1), (.ref a)])) (fun _ kt => XS.icmpNo X765.here hx rfl (hb hby d1_82) rfl (XT.ii_gt_f hc771) (XS.aloadN X765.here hx rfl (hb hby d1_85) rfl rfl (XS.iload X765.here hx rfl (hb hby d1_86) rfl kt))) ?_
   obtain ⟨cl773, hcl773, hob773⟩ := Exa.cell F766
   obtain ⟨_, _, ⟨T772, L772, k772, n772⟩, -, X772, ⟨Lc772, hQ772, l772, y772, z772⟩, st772⟩ := X765.privateBack hx (y := yN2) hown (mvT hZ (own_k hw 24 rfl)) (mvT hZ (own_k hw 25 rfl)) (Kit.selects_private (by decide) (mvT hZ (own_k hw 5 rfl)) (mvP hZ (own_k hw 26 rfl)) (mvT hZ (own_k hw 25 rfl))) (Cond.privateMethod_at (mvP hZ (own_k hw 26 rfl) (args := #[]))) (mvT hZ (own_k hw 27 rfl)) (by decide) (backOf (W := 0) (own_fi l Z a0 hw [] a b757 k757 np nw us (k + 1) h765 n0 Z765 F766 F767 F769 F770 hq0 hq1 hq2 (show 1 ≤ (k + 1) from (by omega)) (show (k + 1) ≤ 5 from (by omega))) hZ (own_k hw 27 rfl) (own_k hw 6 rfl) (by decide) (by decide)) (g := (mkF m 88 #[oR a, oJ np, oJ nw, oJ nr, oJ (k + 1), oI j5] [vJ (k + 1), (.ref a)])) rfl hml.symm (Steps.refl _) (a := a) (by rw [e765]; exact hcl773) hob773 (argsL := [vJ (k + 1)]) (rest := []) (lenOf own_pd3 rfl) rfl (own_w0 rfl rfl) (hb hby d1_88) (fun _ _ => ⟨rfl, e765, (by show _ + 0 ≤ (1 : Nat); (try dsimp only [Pt.cells, Pt.slots]); omega), (by show _ + 0 ≤ (7 : Nat); (try dsimp only [Pt.cells, Pt.slots]); omega)⟩)
   dsimp only [Pt.U, Pt.locs, Pt.cells, Pt.slots] at X772 l772 y772 z772 st772 hQ772
   subst l772 y772 z772
   obtain ⟨rfl, N772, e772⟩ := hQ772
   have N774 := Fr.app N765 N772
   refine own_tr st772 ?_
   refine own_st (g' := (mkF m 93 #[oR a, oJ np, oJ nw, oJ nr, oJ (k + 1), oJ (((k + 1) - 1) * np / nw)] [])) (fun _ kt => XS.istore X772.here hx rfl (hb hby d1_91) rfl (l' := #[oR a, oJ np, oJ nw, oJ nr, oJ (k + 1), oJ (((k + 1) - 1) * np / nw)]) rfl kt) ?_
   refine own_loopH (α := Nat × List Value) X772 (cs := fun kk => 1) (sl := fun kk => 7) (gj := fun q => (mkF m 93 #[oR a, oJ np, oJ nw, oJ nr, oJ (k + 1), oJ q.1] [])) (P := fun kk L_ h_ q => (Fr n0 L_) ∧ (n0 ≤ h_.size) ∧ (Keep h0 h_ [a]) ∧ (Exa Z h_ a zC2) ∧ (Fld Z h_ a zC2 "workers" "I" (.int (Int32.ofNat nw))) ∧ (Fld Z h_ a zC2 "backupsEach" "I" (.int (Int32.ofNat nr))) ∧ (Fld Z h_ a zC2 "owners" "[I" (.ref b757)) ∧ (Arv Z h_ b757 k757 .int (Int32.ofNat np) q.2 (Value.int 0)) ∧ (q.2.length = np ∧ ((k + 1) - 1) * np / nw ≤ q.1 ∧ q.1 ≤ ((k + 1) + 1 - 1) * np / nw ∧ own_od np nw q.1 q.2 ∧ np - q.1 = kk)) ?_ (fun J775 => ?_)
   ·
    rintro kk ih775 T775 L775 h775 ⟨j, vs⟩ ⟨N775, Z775, K775, F776, F777, F778, F779, F780, hj775⟩ X775 e775
    try dsimp only at F776 F777 F778 F779 F780 hj775 X775 ⊢
    have hi := hj775
    refine own_st (g' := (mkF m 100 #[oR a, oJ np, oJ nw, oJ nr, oJ (k + 1), oJ j] [(.int ((Int32.ofNat (k + 1)) + (1 : Int32))), (.ref a), vJ j])) (fun _ kt => XS.iload X775.here hx rfl (hb hby d1_93) rfl (XS.aloadN X775.here hx rfl (hb hby d1_95) rfl rfl (XS.iload X775.here hx rfl (hb hby d1_96) rfl (XS.iconst X775.here hx rfl (hb hby d1_98) (XS.iadd X775.here hx rfl (hb hby d1_99) rfl kt))))) ?_
    rw [own_succ (n := (k + 1)) (by omega)]
    obtain ⟨cl782, hcl782, hob782⟩ := Exa.cell F776
    obtain ⟨_, _, ⟨T781, L781, k781, n781⟩, -, X781, ⟨Lc781, hQ781, l781, y781, z781⟩, st781⟩ := X775.privateBack hx (y := yN2) hown (mvT hZ (own_k hw 24 rfl)) (mvT hZ (own_k hw 25 rfl)) (Kit.selects_private (by decide) (mvT hZ (own_k hw 5 rfl)) (mvP hZ (own_k hw 26 rfl)) (mvT hZ (own_k hw 25 rfl))) (Cond.privateMethod_at (mvP hZ (own_k hw 26 rfl) (args := #[]))) (mvT hZ (own_k hw 27 rfl)) (by decide) (backOf (W := 1) (own_fi l Z a0 hw [] a b757 k757 np nw vs ((k + 1) + 1) h775 n0 Z775 F776 F777 F779 F780 hq0 hq1 hq2 (show 1 ≤ ((k + 1) + 1) from (by omega)) (show ((k + 1) + 1) ≤ 5 from (by omega))) hZ (own_k hw 27 rfl) (own_k hw 6 rfl) (by decide) (by decide)) (g := (mkF m 100 #[oR a, oJ np, oJ nw, oJ nr, oJ (k + 1), oJ j] [vJ ((k + 1) + 1), (.ref a), vJ j])) rfl hml.symm (Steps.refl _) (a := a) (by rw [e775]; exact hcl782) hob782 (argsL := [vJ ((k + 1) + 1)]) (rest := [vJ j]) (lenOf own_pd3 rfl) rfl (own_w0 rfl rfl) (hb hby d1_100) (fun _ _ => ⟨rfl, e775, (by show _ + 0 ≤ (1 : Nat); (try dsimp only [Pt.cells, Pt.slots]); omega), (by show _ + 0 ≤ (7 : Nat); (try dsimp only [Pt.cells, Pt.slots]); omega)⟩)
    dsimp only [Pt.U, Pt.locs, Pt.cells, Pt.slots] at X781 l781 y781 z781 st781 hQ781
    subst l781 y781 z781
    obtain ⟨rfl, N781, e781⟩ := hQ781
    have N783 := Fr.app N775 N781
    refine own_tr st781 ?_
    by_cases hc784 : (Int32.ofNat j) < (Int32.ofNat ((((k + 1) + 1) - 1) * np / nw))
    ·
     have hj1 : j + 1 ≤ ((k + 1) + 1 - 1) * np / nw := (own_ige (by have := (own_fr_le (w := (k + 1)) hq1 hq2 hq0 (by omega)); omega) (by have := (own_fr_le (w := (k + 1)) hq1 hq2 hq0 (by omega)); omega)).mp hc784
     have hjo := own_on_eq (w := (k + 1)) hq1 hq2 hq0 (by omega) (by omega) hi.2.1 hj1
     skip
     refine own_st (g' := (mkF m 107 #[oR a, oJ np, oJ nw, oJ nr, oJ (k + 1), oJ j] [(.ref a)])) (fun _ kt => XS.icmpNo X781.here hx rfl (hb hby d1_103) rfl (XT.ii_ge_f hc784) (XS.aloadN X781.here hx rfl (hb hby d1_106) rfl rfl kt)) ?_
     obtain ⟨T785, X785, e785, st785⟩ := getF X781 hx hZ hown (host := "") (Or.inl (own_k hw 22 rfl)) Via.refl e781 F779 (g := (mkF m 107 #[oR a, oJ np, oJ nw, oJ nr, oJ (k + 1), oJ j] [(.ref a)])) rfl rfl (hb hby d1_107)
     refine own_st st785 ?_
     refine own_st (g' := (mkF m 114 #[oR a, oJ np, oJ nw, oJ nr, oJ (k + 1), oJ j] [vJ (k + 1), vJ j, (.ref b757)])) (fun _ kt => XS.iload X785.here hx rfl (hb hby d1_110) rfl (XS.iload X785.here hx rfl (hb hby d1_112) rfl kt)) ?_
     obtain ⟨T786, h786, X786, e786, W786, V786, st786⟩ := own_ist X785 hx hZ e785 F780 (own_idx hjo.2 (by omega)) (i := j) (own_tn (by omega)) (by omega) (g := (mkF m 114 #[oR a, oJ np, oJ nw, oJ nr, oJ (k + 1), oJ j] [vJ (k + 1), vJ j, (.ref b757)])) rfl rfl (hb hby d1_114)
     have N786 := Fr.snoc X786 N783 ge_b757
     have Z787 := Nat.le_trans Z775 (Nat.le_of_eq (Wr.size W786).symm)
     have K787 := (Keep.wr K775 W786 (Or.inr (Nat.le_trans K755.1 (Nat.le_of_eq g757.symm))))
     have F788 : Arv Z h786 b757 k757 .int (Int32.ofNat np) (vs.set j (.int (Int32.ofNat (k + 1)))) (Value.int 0) := V786
     refine own_st st786 ?_
     refine own_st (g' := (mkF m 118 #[oR a, oJ np, oJ nw, oJ nr, oJ (k + 1), oI ((Int32.ofNat j) + (1 : Int32))] [])) (fun _ kt => XS.iinc X786.here hx rfl (hb hby d1_115) rfl (l' := #[oR a, oJ np, oJ nw, oJ nr, oJ (k + 1), oI ((Int32.ofNat j) + (1 : Int32))]) rfl kt) ?_
     rw [own_succ (n := j) (by omega)]
     refine own_st (g' := (mkF m 93 #[oR a, oJ np, oJ nw, oJ nr, oJ (k + 1), oJ (j + 1)] [])) (fun _ kt => XS.goto X786.here hx rfl (pc0 := 118) (pc' := 93) rfl (hb hby d1_118) (by decide) (by decide) kt) ?_
     have F789 := (Exa.wr W786 F776)
     have ne790 : a ≠ b757 := (Nat.ne_of_lt (Nat.lt_of_lt_of_le F756.lt (Nat.le_of_eq g757.symm)))
     have F791 := (Fld.other W786 F777 (Or.inl ne790))
     have F792 := (Fld.other W786 F778 (Or.inl ne790))
     have F793 := (Fld.other W786 F779 (Or.inl ne790))
     exact ih775 (np - (j + 1)) (by have := hi.2.2.2.2; omega) _ _ _ ⟨(j + 1), (vs.set j (.int (Int32.ofNat (k + 1))))⟩ ⟨N786, Z787, K787, F789, F791, F792, F793, F788, ⟨by rw [List.length_set]; exact hi.1, by omega, hj1, own_od_set hi.2.2.2.1 hi.1 hjo, rfl⟩⟩ (X786.mono (by first | decide | exact Nat.le_add_right_of_le (by decide) | ((try dsimp only [Pt.cells, Pt.slots]); omega)) (by first | decide | exact Nat.le_add_right_of_le (by decide) | ((try dsimp only [Pt.cells, Pt.slots]); omega))) e786
    ·
     have hje : j = ((k + 1) + 1 - 1) * np / nw := by have q := hi.2.2.1; have := (own_fr_le (w := (k + 1)) hq1 hq2 hq0 (by omega)); have q2 : ¬ j < ((k + 1) + 1 - 1) * np / nw := fun g => hc784 ((own_ige (by omega) (by omega)).mpr g); omega
     have hod : own_od np nw (((k + 1) + 1 - 1) * np / nw) vs := by rw [← hje]; exact hi.2.2.2.1
     skip
     refine own_st (g' := (mkF m 121 #[oR a, oJ np, oJ nw, oJ nr, oJ (k + 1), oJ j] [])) (fun _ kt => XS.icmpYes X781.here hx rfl (pc0 := 103) (pc' := 121) rfl (hb hby d1_103) rfl (XT.ii_ge_t hc784) (by decide) (by decide) kt) ?_
     exact ih765 (nw - (k + 1)) (by omega) _ _ _ ⟨(k + 1), vs, (Int32.ofNat j)⟩ ⟨N783, Z775, K775, F776, F777, F778, F779, F780, ⟨hi.1, by omega, by omega, hod, rfl⟩⟩ (X781.mono (by first | decide | exact Nat.le_add_right_of_le (by decide) | ((try dsimp only [Pt.cells, Pt.slots]); omega)) (by first | decide | exact Nat.le_add_right_of_le (by decide) | ((try dsimp only [Pt.cells, Pt.slots]); omega))) e781
   ·
    exact J775 (np - ((k + 1) - 1) * np / nw) _ _ _ ⟨(((k + 1) - 1) * np / nw), us⟩ ⟨N774, Z765, K765, F766, F767, F768, F769, F770, ⟨ho.1, Nat.le_refl _, (own_fr_le hq1 hq2 hq0 (by omega)).1, ho.2.2.2.1, rfl⟩⟩ (X772.mono (by first | decide | exact Nat.le_add_right_of_le (by decide) | ((try dsimp only [Pt.cells, Pt.slots]); omega)) (by first | decide | exact Nat.le_add_right_of_le (by decide) | ((try dsimp only [Pt.cells, Pt.slots]); omega))) e772
 ·
  refine own_st (g' := (mkF m 88 #[oR a, oJ np, oJ nw, oJ nr, oI 1, .unset] [(.int 1), (.ref a)])) (fun _ kt => XS.iconst X762.here hx rfl (hb hby d1_76) (XS.istore X762.here hx rfl (hb hby d1_77) rfl (l' := #[oR a, oJ np, oJ nw, oJ nr, oI 1, .unset]) rfl (XS.iload X762.here hx rfl (hb hby d1_79) rfl (XS.iloadN X762.here hx rfl (hb hby d1_81) rfl (XS.icmpNo X762.here hx rfl (hb hby d1_82) rfl (XT.ii_gt_f (fun g => by have := (own_ige (i := nw) (n := 1) (by omega) (by omega)).mp g; omega)) (XS.aloadN X762.here hx rfl (hb hby d1_85) rfl rfl (XS.iload X762.here hx rfl (hb hby d1_86) rfl kt))))))) ?_
  have F794 := (Exa.wr W762 F761)
  have F795 := (Fld.other W762 (Fld.ext E757 (Fld.other W754 F751 (Or.inr (slot_ne (Or.inr (own_k hw 18 rfl)) (Or.inr (own_k hw 20 rfl)) (by decide) (t := .int) (t' := .int) (by decide) (by decide))))) (Or.inr (slot_ne (Or.inr (own_k hw 18 rfl)) (Or.inr (own_k hw 23 rfl)) (by decide) (t := .int) (t' := (.array .int)) (by decide) (by decide))))
  have ne796 : a ≠ b757 := (Nat.ne_of_lt (Nat.lt_of_lt_of_le F756.lt (Nat.le_of_eq g757.symm)))
  have F797 := (Arv.other F759 W762 (Ne.symm ne796))
  obtain ⟨cl799, hcl799, hob799⟩ := Exa.cell F794
  obtain ⟨_, _, ⟨T798, L798, k798, n798⟩, -, X798, ⟨Lc798, hQ798, l798, y798, z798⟩, st798⟩ := X762.privateBack hx (y := yN2) hown (mvT hZ (own_k hw 24 rfl)) (mvT hZ (own_k hw 25 rfl)) (Kit.selects_private (by decide) (mvT hZ (own_k hw 5 rfl)) (mvP hZ (own_k hw 26 rfl)) (mvT hZ (own_k hw 25 rfl))) (Cond.privateMethod_at (mvP hZ (own_k hw 26 rfl) (args := #[]))) (mvT hZ (own_k hw 27 rfl)) (by decide) (backOf (W := 0) (own_fi l Z a0 hw [] a b757 k757 np nw (List.replicate np (Value.int 0)) 1 h762 n0 Z763 F794 F795 F764 F797 hq0 hq1 hq2 (show 1 ≤ 1 from (by omega)) (show 1 ≤ 5 from (by omega))) hZ (own_k hw 27 rfl) (own_k hw 6 rfl) (by decide) (by decide)) (g := (mkF m 88 #[oR a, oJ np, oJ nw, oJ nr, oI 1, .unset] [(.int 1), (.ref a)])) rfl hml.symm (Steps.refl _) (a := a) (by rw [e762]; exact hcl799) hob799 (argsL := [(.int 1)]) (rest := []) (lenOf own_pd3 rfl) rfl (own_w0 rfl rfl) (hb hby d1_88) (fun _ _ => ⟨rfl, e762, (by decide : 1 + 0 ≤ 1), (by decide : 7 + 0 ≤ 7)⟩)
  dsimp only [Pt.U, Pt.locs, Pt.cells, Pt.slots] at X798 l798 y798 z798 st798 hQ798
  subst l798 y798 z798
  obtain ⟨rfl, N798, e798⟩ := hQ798
  have N800 := Fr.app N762 N798
  refine own_tr st798 ?_
  refine own_st (g' := (mkF m 93 #[oR a, oJ np, oJ nw, oJ nr, oI 1, oJ ((1 - 1) * np / nw)] [])) (fun _ kt => XS.istore X798.here hx rfl (hb hby d1_91) rfl (l' := #[oR a, oJ np, oJ nw, oJ nr, oI 1, oJ ((1 - 1) * np / nw)]) rfl kt) ?_
  refine own_loopH (α := Nat × List Value) X798 (cs := fun kk => 1) (sl := fun kk => 7) (gj := fun q => (mkF m 93 #[oR a, oJ np, oJ nw, oJ nr, oI 1, oJ q.1] [])) (P := fun kk L_ h_ q => (Fr n0 L_) ∧ (n0 ≤ h_.size) ∧ (Keep h0 h_ [a]) ∧ (Exa Z h_ a zC2) ∧ (Fld Z h_ a zC2 "workers" "I" (.int (Int32.ofNat nw))) ∧ (Fld Z h_ a zC2 "backupsEach" "I" (.int (Int32.ofNat nr))) ∧ (Fld Z h_ a zC2 "owners" "[I" (.ref b757)) ∧ (Arv Z h_ b757 k757 .int (Int32.ofNat np) q.2 (Value.int 0)) ∧ (q.2.length = np ∧ (1 - 1) * np / nw ≤ q.1 ∧ q.1 ≤ (1 + 1 - 1) * np / nw ∧ own_od np nw q.1 q.2 ∧ np - q.1 = kk)) ?_ (fun J801 => ?_)
  ·
   rintro kk ih801 T801 L801 h801 ⟨j, vs⟩ ⟨N801, Z801, K801, F802, F803, F804, F805, F806, hj801⟩ X801 e801
   try dsimp only at F802 F803 F804 F805 F806 hj801 X801 ⊢
   have hi := hj801
   refine own_st (g' := (mkF m 100 #[oR a, oJ np, oJ nw, oJ nr, oI 1, oJ j] [(.int ((1 : Int32) + (1 : Int32))), (.ref a), vJ j])) (fun _ kt => XS.iload X801.here hx rfl (hb hby d1_93) rfl (XS.aloadN X801.here hx rfl (hb hby d1_95) rfl rfl (XS.iload X801.here hx rfl (hb hby d1_96) rfl (XS.iconst X801.here hx rfl (hb hby d1_98) (XS.iadd X801.here hx rfl (hb hby d1_99) rfl kt))))) ?_
   rw [show ((1 : Int32) + (1 : Int32)) = Int32.ofNat (1 + 1) from rfl]
   obtain ⟨cl808, hcl808, hob808⟩ := Exa.cell F802
   obtain ⟨_, _, ⟨T807, L807, k807, n807⟩, -, X807, ⟨Lc807, hQ807, l807, y807, z807⟩, st807⟩ := X801.privateBack hx (y := yN2) hown (mvT hZ (own_k hw 24 rfl)) (mvT hZ (own_k hw 25 rfl)) (Kit.selects_private (by decide) (mvT hZ (own_k hw 5 rfl)) (mvP hZ (own_k hw 26 rfl)) (mvT hZ (own_k hw 25 rfl))) (Cond.privateMethod_at (mvP hZ (own_k hw 26 rfl) (args := #[]))) (mvT hZ (own_k hw 27 rfl)) (by decide) (backOf (W := 1) (own_fi l Z a0 hw [] a b757 k757 np nw vs (1 + 1) h801 n0 Z801 F802 F803 F805 F806 hq0 hq1 hq2 (show 1 ≤ (1 + 1) from (by omega)) (show (1 + 1) ≤ 5 from (by omega))) hZ (own_k hw 27 rfl) (own_k hw 6 rfl) (by decide) (by decide)) (g := (mkF m 100 #[oR a, oJ np, oJ nw, oJ nr, oI 1, oJ j] [vJ (1 + 1), (.ref a), vJ j])) rfl hml.symm (Steps.refl _) (a := a) (by rw [e801]; exact hcl808) hob808 (argsL := [vJ (1 + 1)]) (rest := [vJ j]) (lenOf own_pd3 rfl) rfl (own_w0 rfl rfl) (hb hby d1_100) (fun _ _ => ⟨rfl, e801, (by show _ + 0 ≤ (1 : Nat); (try dsimp only [Pt.cells, Pt.slots]); omega), (by show _ + 0 ≤ (7 : Nat); (try dsimp only [Pt.cells, Pt.slots]); omega)⟩)
   dsimp only [Pt.U, Pt.locs, Pt.cells, Pt.slots] at X807 l807 y807 z807 st807 hQ807
   subst l807 y807 z807
   obtain ⟨rfl, N807, e807⟩ := hQ807
   have N809 := Fr.app N801 N807
   refine own_tr st807 ?_
   by_cases hc810 : (Int32.ofNat j) < (Int32.ofNat (((1 + 1) - 1) * np / nw))
   ·
    have hj1 : j + 1 ≤ (1 + 1 - 1) * np / nw := (own_ige (by have := (own_fr_le (w := 1) hq1 hq2 hq0 (by omega)); omega) (by have := (own_fr_le (w := 1) hq1 hq2 hq0 (by omega)); omega)).mp hc810
    have hjo := own_on_eq (w := 1) hq1 hq2 hq0 (by omega) (by omega) hi.2.1 hj1
    skip
    refine own_st (g' := (mkF m 107 #[oR a, oJ np, oJ nw, oJ nr, oI 1, oJ j] [(.ref a)])) (fun _ kt => XS.icmpNo X807.here hx rfl (hb hby d1_103) rfl (XT.ii_ge_f hc810) (XS.aloadN X807.here hx rfl (hb hby d1_106) rfl rfl kt)) ?_
    obtain ⟨T811, X811, e811, st811⟩ := getF X807 hx hZ hown (host := "") (Or.inl (own_k hw 22 rfl)) Via.refl e807 F805 (g := (mkF m 107 #[oR a, oJ np, oJ nw, oJ nr, oI 1, oJ j] [(.ref a)])) rfl rfl (hb hby d1_107)
    refine own_st st811 ?_
    refine own_st (g' := (mkF m 114 #[oR a, oJ np, oJ nw, oJ nr, oI 1, oJ j] [(.int 1), vJ j, (.ref b757)])) (fun _ kt => XS.iload X811.here hx rfl (hb hby d1_110) rfl (XS.iload X811.here hx rfl (hb hby d1_112) rfl kt)) ?_
    obtain ⟨T812, h812, X812, e812, W812, V812, st812⟩ := own_ist X811 hx hZ e811 F806 (own_idx hjo.2 (by omega)) (i := j) (own_tn (by omega)) (by omega) (g := (mkF m 114 #[oR a, oJ np, oJ nw, oJ nr, oI 1, oJ j] [(.int 1), vJ j, (.ref b757)])) rfl rfl (hb hby d1_114)
    have N812 := Fr.snoc X812 N809 ge_b757
    have Z813 := Nat.le_trans Z801 (Nat.le_of_eq (Wr.size W812).symm)
    have K813 := (Keep.wr K801 W812 (Or.inr (Nat.le_trans K755.1 (Nat.le_of_eq g757.symm))))
    have F814 : Arv Z h812 b757 k757 .int (Int32.ofNat np) (vs.set j (.int (Int32.ofNat 1))) (Value.int 0) := V812
    refine own_st st812 ?_
    refine own_st (g' := (mkF m 118 #[oR a, oJ np, oJ nw, oJ nr, oI 1, oI ((Int32.ofNat j) + (1 : Int32))] [])) (fun _ kt => XS.iinc X812.here hx rfl (hb hby d1_115) rfl (l' := #[oR a, oJ np, oJ nw, oJ nr, oI 1, oI ((Int32.ofNat j) + (1 : Int32))]) rfl kt) ?_
    rw [own_succ (n := j) (by omega)]
    refine own_st (g' := (mkF m 93 #[oR a, oJ np, oJ nw, oJ nr, oI 1, oJ (j + 1)] [])) (fun _ kt => XS.goto X812.here hx rfl (pc0 := 118) (pc' := 93) rfl (hb hby d1_118) (by decide) (by decide) kt) ?_
    have F815 := (Exa.wr W812 F802)
    have F816 := (Fld.other W812 F803 (Or.inl ne796))
    have F817 := (Fld.other W812 F804 (Or.inl ne796))
    have F818 := (Fld.other W812 F805 (Or.inl ne796))
    exact ih801 (np - (j + 1)) (by have := hi.2.2.2.2; omega) _ _ _ ⟨(j + 1), (vs.set j (.int (Int32.ofNat 1)))⟩ ⟨N812, Z813, K813, F815, F816, F817, F818, F814, ⟨by rw [List.length_set]; exact hi.1, by omega, hj1, own_od_set hi.2.2.2.1 hi.1 hjo, rfl⟩⟩ (X812.mono (by first | decide | exact Nat.le_add_right_of_le (by decide) | ((try dsimp only [Pt.cells, Pt.slots]); omega)) (by first | decide | exact Nat.le_add_right_of_le (by decide) | ((try dsimp only [Pt.cells, Pt.slots]); omega))) e812
   ·
    have hje : j = (1 + 1 - 1) * np / nw := by have q := hi.2.2.1; have := (own_fr_le (w := 1) hq1 hq2 hq0 (by omega)); have q2 : ¬ j < (1 + 1 - 1) * np / nw := fun g => hc810 ((own_ige (by omega) (by omega)).mpr g); omega
    have hod : own_od np nw ((1 + 1 - 1) * np / nw) vs := by rw [← hje]; exact hi.2.2.2.1
    skip
    refine own_st (g' := (mkF m 121 #[oR a, oJ np, oJ nw, oJ nr, oI 1, oJ j] [])) (fun _ kt => XS.icmpYes X807.here hx rfl (pc0 := 103) (pc' := 121) rfl (hb hby d1_103) rfl (XT.ii_ge_t hc810) (by decide) (by decide) kt) ?_
    exact J765 (nw - 1) _ _ _ ⟨1, vs, (Int32.ofNat j)⟩ ⟨N809, Z801, K801, F802, F803, F804, F805, F806, ⟨hi.1, by omega, by omega, hod, rfl⟩⟩ (X807.mono (by first | decide | exact Nat.le_add_right_of_le (by decide) | ((try dsimp only [Pt.cells, Pt.slots]); omega)) (by first | decide | exact Nat.le_add_right_of_le (by decide) | ((try dsimp only [Pt.cells, Pt.slots]); omega))) e807
  ·
   have F819 := (Fld.other W762 (Fld.ext E757 F756) (Or.inr (slot_ne (Or.inr (own_k hw 20 rfl)) (Or.inr (own_k hw 23 rfl)) (by decide) (t := .int) (t' := (.array .int)) (by decide) (by decide))))
   exact J801 (np - (1 - 1) * np / nw) _ _ _ ⟨((1 - 1) * np / nw), (List.replicate np (Value.int 0))⟩ ⟨N800, Z763, K763, F794, F795, F819, F764, F797, ⟨List.length_replicate .., Nat.le_refl _, (own_fr_le hq1 hq2 hq0 (by omega)).1, (by intro i hi; rw [Nat.sub_self, Nat.zero_mul, Nat.zero_div] at hi; omega), rfl⟩⟩ (X798.mono (by first | decide | exact Nat.le_add_right_of_le (by decide) | ((try dsimp only [Pt.cells, Pt.slots]); omega)) (by first | decide | exact Nat.le_add_right_of_le (by decide) | ((try dsimp only [Pt.cells, Pt.slots]); omega))) e798
theorem own_gs {i : Nat} {vs : List Value} {v d : Value} (h : i < vs.length) : (vs.set i v).getD i d = v := by
  simp only [List.getD_eq_getElem?_getD]; rw [List.getElem?_set_self h]; rfl
theorem own_gn {i j : Nat} {vs : List Value} {v d : Value} (h : ¬ j = i) : (vs.set i v).getD j d = vs.getD j d := by
  simp only [List.getD_eq_getElem?_getD]; rw [List.getElem?_set_ne (fun q => h q.symm)]
theorem own_nz {n : Nat} (h : 1 ≤ n) (h2 : n ≤ 1000) : Int32.ofNat n ≠ 0 := fun e => by
  have := congrArg Int32.toInt e
  rw [own_ti h2, show (0 : Int32).toInt = 0 from rfl] at this; omega
theorem own_nz2 {n : Nat} (h : 2 ≤ n) (h2 : n ≤ 1000) : Int32.ofNat n - (1 : Int32) ≠ 0 := by rw [own_prd (by omega) h2]; exact own_nz (by omega) (by omega)
theorem own_ge2 {n : Nat} (h1 : 1 ≤ n) (h2 : n ≤ 1000) (h : ¬ Int32.ofNat n - (1 : Int32) = 0) : 2 ≤ n := by
  rcases Nat.lt_or_ge n 2 with q | q
  · have e : n = 1 := by omega
    subst e; exact absurd rfl h
  · exact q
theorem own_w6 {i : Nat} (h : i ≤ 7) : (Int32.ofNat i) >>> ((6 : Int32) &&& 31) = 0 := by
  have key : ∀ i : Fin 8, (Int32.ofNat i.val) >>> ((6 : Int32) &&& 31) = 0 := by decide +kernel
  exact key ⟨i, by omega⟩
theorem own_padI (n : Nat) : ∀ i, ((List.replicate n (0 : Int32)).map Value.int).getD i (Value.int 0) = ([] : List Value).getD i (Value.int 0) := by
  intro i; rw [List.map_replicate]; exact pad_rep [] (Value.int 0) n i
theorem own_l3 {ys : List Int32} (h : ys.length ≤ 3) : ys = [] ∨ (∃ x0, ys = [x0]) ∨ (∃ x0 x1, ys = [x0, x1]) ∨ ∃ x0 x1 x2, ys = [x0, x1, x2] := by
  match ys, h with
  | [], _ => exact Or.inl rfl
  | [x0], _ => exact Or.inr (Or.inl ⟨x0, rfl⟩)
  | [x0, x1], _ => exact Or.inr (Or.inr (Or.inl ⟨x0, x1, rfl⟩))
  | [x0, x1, x2], _ => exact Or.inr (Or.inr (Or.inr ⟨x0, x1, x2, rfl⟩))
  | _ :: _ :: _ :: _ :: _, h => exact absurd h (by simp)
theorem own_on_le {np nw i : Nat} (h1 : 1 ≤ nw) (h2 : nw ≤ 4) (h3 : np ≤ 7) (h4 : i < np) : 1 ≤ own_on np nw i ∧ own_on np nw i ≤ nw := by
  have key : ∀ np : Fin 8, ∀ nw : Fin 5, ∀ i : Fin 8, 1 ≤ nw.val → i.val < np.val → 1 ≤ own_on np.val nw.val i.val ∧ own_on np.val nw.val i.val ≤ nw.val := by decide +kernel
  exact key ⟨np, by omega⟩ ⟨nw, by omega⟩ ⟨i, by omega⟩ h1 h4
def own_bkp (Z : State) (h : Heap) (n1 : Nat) (bk : Addr) : Prop := ∃ (dq el : Addr), n1 ≤ bk ∧ n1 ≤ dq ∧ (Exa Z h bk zC13) ∧ (Fld Z h bk zC13 "pending" zC26 (.ref dq)) ∧ (Exa Z h dq zC9) ∧ (Fld Z h dq zC9 "elements" zC7 (.ref el)) ∧ (Fld Z h dq zC9 "head" "I" (.int 0)) ∧ (Fld Z h dq zC9 "tail" "I" (.int 0))
theorem own_bkp_keep {Z : State} {h h' : Heap} {n1 : Nat} {bk : Addr} {ks : List Addr} (H : own_bkp Z h n1 bk) (K : Keep h h' ks) (hk : ∀ z ∈ ks, n1 > z) : own_bkp Z h' n1 bk := by
  obtain ⟨dq, el, h_bk, h_dq, g0, g1, g2, g3, g4, g5⟩ := H
  have nin : ∀ x, n1 ≤ x → x ∉ ks := fun x hx q => Nat.not_lt.mpr hx (hk x q)
  exact ⟨dq, el, h_bk, h_dq, g0.keep K, g1.keep K (nin _ h_bk), g2.keep K, g3.keep K (nin _ h_dq), g4.keep K (nin _ h_dq), g5.keep K (nin _ h_dq)⟩
def own_ea (Z : State) (h : Heap) (n1 : Nat) (ee : Addr) (ke : ClassId) (bl : List Addr) : Prop := bl ≠ [] → n1 ≤ ee ∧ Arv Z h ee ke (.object zC3) (10 : Int32) (bl.map Value.ref ++ List.replicate (10 - bl.length) Value.null) .null
def own_bks_ (Z : State) (h : Heap) (n1 : Nat) (bl : List Addr) : Prop := ∀ b ∈ bl, own_bkp Z h n1 b
theorem own_ea_keep {Z : State} {h h' : Heap} {n1 : Nat} {ee : Addr} {ke : ClassId} {bl : List Addr} {ks : List Addr} (H : own_ea Z h n1 ee ke bl) (K : Keep h h' ks) (hk : ∀ z ∈ ks, n1 > z ∨ ∃ C k, (∃ a0 : Array Value, (Cond.instantiable C k).before a0 Z = true) ∧ Exa Z h z C) : own_ea Z h' n1 ee ke bl := fun q => by
  refine ⟨(H q).1, (H q).2.keep K fun m => ?_⟩
  rcases hk _ m with c | ⟨C, k, ⟨a0, w⟩, E⟩
  · exact Nat.not_lt.mpr (H q).1 c
  · exact Exa.neArv E (H q).2 w rfl
theorem own_bks_upd {Z : State} {h h' : Heap} {n1 : Nat} {bl : List Addr} {it dq el : Addr} {C : String} (H : own_bks_ Z h n1 bl) (K : Keep h h' [it, dq]) (E : Exa Z h it C) (h1 : C ≠ zC13) (h2 : C ≠ zC9) (Edq : Exa Z h dq zC9) (F1 : Fld Z h' dq zC9 "elements" zC7 (.ref el)) (F2 : Fld Z h' dq zC9 "head" "I" (.int 0)) (F3 : Fld Z h' dq zC9 "tail" "I" (.int 0)) : own_bks_ Z h' n1 bl := by
  intro b hb
  obtain ⟨dq', el', h_bk, h_dq, g0, g1, g2, g3, g4, g5⟩ := H b hb
  have nb : b ∉ [it, dq] := ninS (ne_exa g0 E (Ne.symm h1)) (ninS (ne_exa g0 Edq (by decide)) nin0)
  by_cases e : dq' = dq
  · subst e
    exact ⟨dq', el, h_bk, h_dq, g0.keep K, g1.keep K nb, g2.keep K, F1, F2, F3⟩
  · have nd : dq' ∉ [it, dq] := ninS (ne_exa g2 E (Ne.symm h2)) (ninS e nin0)
    exact ⟨dq', el', h_bk, h_dq, g0.keep K, g1.keep K nb, g2.keep K, g3.keep K nd, g4.keep K nd, g5.keep K nd⟩
theorem own_bks_keep {Z : State} {h h' : Heap} {n1 : Nat} {bl : List Addr} {ks : List Addr} (H : own_bks_ Z h n1 bl) (K : Keep h h' ks) (hk : ∀ z ∈ ks, n1 > z ∨ ∃ C : String, C ≠ zC13 ∧ C ≠ zC9 ∧ Exa Z h z C) : own_bks_ Z h' n1 bl := by
  intro b hb
  obtain ⟨dq', el', h_bk, h_dq, g0, g1, g2, g3, g4, g5⟩ := H b hb
  have nb : b ∉ ks := fun m => (hk _ m).elim (fun c => Nat.not_lt.mpr h_bk c) fun ⟨C, c1, c2, E⟩ => ne_exa g0 E (Ne.symm c1) rfl
  have nd : dq' ∉ ks := fun m => (hk _ m).elim (fun c => Nat.not_lt.mpr h_dq c) fun ⟨C, c1, c2, E⟩ => ne_exa g2 E (Ne.symm c2) rfl
  exact ⟨dq', el', h_bk, h_dq, g0.keep K, g1.keep K nb, g2.keep K, g3.keep K nd, g4.keep K nd, g5.keep K nd⟩
theorem own_blg {c : Nat} {bl : List Addr} {xs : List Value} (h : c < bl.length) : (bl.map Value.ref ++ xs).getD c .null = .ref (bl.getD c 0) ∧ bl.getD c 0 ∈ bl := by
  constructor
  · simp only [List.getD_eq_getElem?_getD]
    rw [List.getElem?_append_left (by rw [List.length_map]; exact h), List.getElem?_map, List.getElem?_eq_getElem h]; rfl
  · rw [List.getD_eq_getElem?_getD, List.getElem?_eq_getElem h]; exact List.getElem_mem h
theorem own_rn {n i : Nat} : (List.replicate n Value.null).getD i .null = .null := by
  rw [List.getD_eq_getElem?_getD, List.getElem?_replicate]
  split <;> rfl
def own_sh (Z : State) (h : Heap) (n1 : Nat) (sh : Addr) (oo : Int32) : Prop := ∃ (li : Addr) (mc : Int32) (ee : Addr) (ke : ClassId) (bl : List Addr), n1 ≤ sh ∧ n1 ≤ li ∧ bl.length ≤ 3 ∧ own_ea Z h n1 ee ke bl ∧ own_bks_ Z h n1 bl ∧ (Exa Z h sh zC5) ∧ (Fld Z h sh zC5 "owner" "I" (.int oo)) ∧ (Fld Z h sh zC5 "backups" zC16 (.ref li)) ∧ (Fld Z h sh zC5 "ownedFrom" "I" (.int 0)) ∧ (Fld Z h sh zC5 "written" "Z" (.int 0)) ∧ (Fld Z h sh zC5 "writtenTo" "J" (.long (0 : Int64))) ∧ (Exa Z h li zC1) ∧ (Fld Z h li zC10 "modCount" "I" (.int mc)) ∧ (Fld Z h li zC1 "elementData" zC7 (.ref ee)) ∧ (Fld Z h li zC1 "size" "I" (.int (Int32.ofNat bl.length)))
theorem own_sh_keep {Z : State} {h h' : Heap} {n1 : Nat} {sh : Addr} {oo : Int32} {ks : List Addr} (H : own_sh Z h n1 sh oo) (K : Keep h h' ks) (hk : ∀ z ∈ ks, n1 > z) : own_sh Z h' n1 sh oo := by
  obtain ⟨li, mc, ee, ke, bl, h_sh, h_li, hl, hA, hB, s0, s1, s2, s3, s4, s5, r0, r1, r2, r3⟩ := H
  have nin : ∀ x, n1 ≤ x → x ∉ ks := fun x hx q => Nat.not_lt.mpr hx (hk x q)
  exact ⟨li, mc, ee, ke, bl, h_sh, h_li, hl, own_ea_keep hA K fun z m => Or.inl (hk z m), fun b hb => own_bkp_keep (hB b hb) K hk, s0.keep K, s1.keep K (nin _ h_sh), s2.keep K (nin _ h_sh), s3.keep K (nin _ h_sh), s4.keep K (nin _ h_sh), s5.keep K (nin _ h_sh), r0.keep K, r1.keep K (nin _ h_li), r2.keep K (nin _ h_li), r3.keep K (nin _ h_li)⟩
theorem own_sh_o {Z : State} {h : Heap} {n1 : Nat} {sh : Addr} {oo : Int32} (H : own_sh Z h n1 sh oo) : n1 ≤ sh ∧ Exa Z h sh zC5 ∧ Fld Z h sh zC5 "owner" "I" (.int oo) := by
  obtain ⟨li, mc, ee, ke, bl, h_sh, h_li, hl, hA, hB, s0, s1, s2, s3, s4, s5, r0, r1, r2, r3⟩ := H
  exact ⟨h_sh, s0, s1⟩
/-- the first mm shares of the array's list vs -/
def own_S (Z : State) (h : Heap) (n1 mm : Nat) (vs : List Value) (G : Nat → Int32) : Prop := (∀ j, j < mm → ∃ sh, vs.getD j .null = .ref sh ∧ own_sh Z h n1 sh (G j)) ∧ ∀ j k, j < k → k < mm → vs.getD j .null ≠ vs.getD k .null
theorem own_S_nil {Z : State} {h : Heap} {n1 : Nat} {vs : List Value} {G : Nat → Int32} : own_S Z h n1 0 vs G := ⟨fun j hj => absurd hj (Nat.not_lt_zero _), fun j k _ hk => absurd hk (Nat.not_lt_zero _)⟩
theorem own_S_add {Z : State} {h h' : Heap} {n1 i : Nat} {vs : List Value} {G : Nat → Int32} {sh : Addr} {ks : List Addr} (H : own_S Z h n1 i vs G) (K : Keep h h' ks) (hk : ∀ z ∈ ks, n1 > z) (hl : i < vs.length) (hn : h.size ≤ sh) (hs : own_sh Z h' n1 sh (G i)) : own_S Z h' n1 (i + 1) (vs.set i (.ref sh)) G := by
  constructor
  · intro j hj
    by_cases e : j = i
    · subst e; exact ⟨sh, own_gs hl, hs⟩
    · obtain ⟨s, e1, h1⟩ := H.1 j (by omega)
      exact ⟨s, by rw [own_gn e]; exact e1, own_sh_keep h1 K hk⟩
  · intro j k hjk hk2
    by_cases e : k = i
    · subst e
      rw [own_gs hl, own_gn (by omega)]
      obtain ⟨s, e1, h1⟩ := H.1 j hjk
      rw [e1]; intro q
      have q2 : s = sh := by injection q
      have q3 : h.size > s := (own_sh_o h1).2.1.lt
      subst q2; omega
    · rw [own_gn e, own_gn (by omega)]; exact H.2 j k hjk (by omega)
/-- the first mm BitSets of the array's list bs -/
def own_B (Z : State) (h : Heap) (lo hi mm : Nat) (bs : List Value) : Prop := ∀ k, k < mm → ∃ (ba bt : Addr) (kt : ClassId) (ub : Int32) (xb : Int64), bs.getD k .null = .ref ba ∧ lo ≤ ba ∧ hi > ba ∧ lo ≤ bt ∧ hi > bt ∧ (ub = 0 ∨ ub = 1) ∧ Exa Z h ba zC0 ∧ Fld Z h ba zC0 "wordsInUse" "I" (.int ub) ∧ Fld Z h ba zC0 "words" "[J" (.ref bt) ∧ Fld Z h ba zC0 "sizeIsSticky" "Z" (.int 0) ∧ Arv Z h bt kt .long (1 : Int32) [(.long xb)] (Value.long (0 : Int64))
theorem own_B_nil {Z : State} {h : Heap} {lo hi : Nat} {bs : List Value} : own_B Z h lo hi 0 bs := fun k hk => absurd hk (Nat.not_lt_zero _)
theorem own_B_keep {Z : State} {h h' : Heap} {lo hi mm : Nat} {bs : List Value} {ks : List Addr} (H : own_B Z h lo hi mm bs) (K : Keep h h' ks) (hk : ∀ z ∈ ks, lo > z ∨ hi ≤ z) : own_B Z h' lo hi mm bs := by
  intro k hk2
  obtain ⟨ba, bt, kt, ub, xb, e1, b1, b2, b3, b4, hu, E, F1, F2, F3, A⟩ := H k hk2
  have na : ba ∉ ks := fun q => by have := hk _ q; omega
  have nt : bt ∉ ks := fun q => by have := hk _ q; omega
  exact ⟨ba, bt, kt, ub, xb, e1, b1, b2, b3, b4, hu, E.keep K, F1.keep K na, F2.keep K na, F3.keep K na, A.keep K nt⟩
theorem own_B_add {Z : State} {h h' : Heap} {lo mm : Nat} {bs : List Value} {ks : List Addr} {ba bt : Addr} {kt : ClassId} {ub : Int32} {xb : Int64} (H : own_B Z h lo h.size mm bs) (K : Keep h h' ks) (hk : ∀ z ∈ ks, lo > z) (hl : mm < bs.length) (h1 : lo ≤ ba) (h2 : lo ≤ bt) (hu : ub = 0 ∨ ub = 1) (hf : Exa Z h' ba zC0 ∧ Fld Z h' ba zC0 "wordsInUse" "I" (.int ub) ∧ Fld Z h' ba zC0 "words" "[J" (.ref bt) ∧ Fld Z h' ba zC0 "sizeIsSticky" "Z" (.int 0) ∧ Arv Z h' bt kt .long (1 : Int32) [(.long xb)] (Value.long (0 : Int64))) : own_B Z h' lo h'.size (mm + 1) (bs.set mm (.ref ba)) := by
  intro k hk2
  by_cases e : k = mm
  · subst e
    exact ⟨ba, bt, kt, ub, xb, own_gs hl, h1, hf.1.lt, h2, hf.2.2.2.2.lt, hu, hf⟩
  · obtain ⟨ba', bt', kt', ub', xb', e1, b1, b2, b3, b4, hu', E, F1, F2, F3, A⟩ := H k (by omega)
    have na : ba' ∉ ks := fun q => by have := hk _ q; omega
    have nt : bt' ∉ ks := fun q => by have := hk _ q; omega
    have := K.1
    exact ⟨ba', bt', kt', ub', xb', by rw [own_gn e]; exact e1, b1, by omega, b3, by omega, hu', E.keep K, F1.keep K na, F2.keep K na, F3.keep K na, A.keep K nt⟩
theorem own_B_upd {Z : State} {a0 : Array Value} {h h' : Heap} {lo hi mm : Nat} {bs : List Value} {sa ba bt : Addr} {kt kt0 : ClassId} {ub : Int32} {xb : Int64} {vs0 : List Value} (H : own_B Z h lo hi mm bs) (K : Keep h h' [sa, ba, bt]) (hsa : lo > sa) (wi : (Cond.instantiable zC0 3).before a0 Z = true) (E0 : Exa Z h ba zC0) (A0 : Arv Z h bt kt0 .long (1 : Int32) vs0 (Value.long (0 : Int64))) (h1 : lo ≤ bt) (h2 : hi > bt) (hu : ub = 0 ∨ ub = 1) (hf : Exa Z h' ba zC0 ∧ Fld Z h' ba zC0 "wordsInUse" "I" (.int ub) ∧ Fld Z h' ba zC0 "words" "[J" (.ref bt) ∧ Fld Z h' ba zC0 "sizeIsSticky" "Z" (.int 0) ∧ Arv Z h' bt kt .long (1 : Int32) [(.long xb)] (Value.long (0 : Int64))) : own_B Z h' lo hi mm bs := by
  intro k hk2
  obtain ⟨ba', bt', kt', ub', xb', e1, b1, b2, b3, b4, hu', E, F1, F2, F3, A⟩ := H k hk2
  by_cases ha : ba' = ba
  · subst ha
    exact ⟨ba', bt, kt, ub, xb, e1, b1, b2, h1, h2, hu, hf⟩
  · have na : ba' ∉ [sa, ba, bt] := ninS (Nat.ne_of_gt (Nat.lt_of_lt_of_le hsa b1)) (ninS ha (ninS (Exa.neArv E A0 wi) nin0))
    by_cases ht : bt' = bt
    · subst ht
      exact ⟨ba', bt', kt, ub', xb, e1, b1, b2, b3, b4, hu', E.keep K, F1.keep K na, F2.keep K na, F3.keep K na, hf.2.2.2.2⟩
    · have nt : bt' ∉ [sa, ba, bt] := ninS (Nat.ne_of_gt (Nat.lt_of_lt_of_le hsa b3)) (ninS (Ne.symm (Exa.neArv E0 A wi)) (ninS ht nin0))
      exact ⟨ba', bt', kt', ub', xb', e1, b1, b2, b3, b4, hu', E.keep K, F1.keep K na, F2.keep K na, F3.keep K na, A.keep K nt⟩
/-- rows of ints: those that S names -/
def own_R (Z : State) (h : Heap) (lo hi : Nat) (S : Nat → Prop) (vs : List Value) : Prop := ∀ i, S i → ∃ (r : Addr) (kr : ClassId) (ys : List Int32), vs.getD i .null = .ref r ∧ lo ≤ r ∧ hi > r ∧ ys.length ≤ 3 ∧ Arv Z h r kr .int (Int32.ofNat ys.length) (ys.map Value.int) (Value.int 0)
theorem own_R_mono {Z : State} {h : Heap} {lo hi : Nat} {S S' : Nat → Prop} {vs : List Value} (H : own_R Z h lo hi S vs) (q : ∀ i, S' i → S i) : own_R Z h lo hi S' vs := fun i hi => H i (q i hi)
theorem own_R_keep {Z : State} {h h' : Heap} {lo hi : Nat} {S : Nat → Prop} {vs : List Value} {ks : List Addr} (H : own_R Z h lo hi S vs) (K : Keep h h' ks) (hk : ∀ z ∈ ks, lo > z ∨ hi ≤ z) : own_R Z h' lo hi S vs := by
  intro i hi
  obtain ⟨r, kr, ys, e1, b1, b2, hl, A⟩ := H i hi
  exact ⟨r, kr, ys, e1, b1, b2, hl, A.keep K fun q => by have := hk _ q; omega⟩
theorem own_R_add {Z : State} {h h' : Heap} {lo i : Nat} {S S' : Nat → Prop} {vs : List Value} {ra r : Addr} {kr : ClassId} {ys : List Int32} (H : own_R Z h lo h.size S vs) (K : Keep h h' [ra]) (hra : lo > ra) (hl : i < vs.length) (hr : lo ≤ r) (hy : ys.length ≤ 3) (A : Arv Z h' r kr .int (Int32.ofNat ys.length) (ys.map Value.int) (Value.int 0)) (hS : ∀ j, S' j → S j ∨ j = i) : own_R Z h' lo h'.size S' (vs.set i (.ref r)) := by
  intro j hj
  by_cases e : j = i
  · subst e; exact ⟨r, kr, ys, own_gs hl, hr, A.lt, hy, A⟩
  · obtain ⟨r', kr', ys', e1, b1, b2, hl', A'⟩ := H j ((hS j hj).resolve_right e)
    have := K.1
    exact ⟨r', kr', ys', by rw [own_gn e]; exact e1, b1, by omega, hl', A'.keep K (ninS (Nat.ne_of_gt (Nat.lt_of_lt_of_le hra b1)) nin0)⟩
theorem own_R_lo {Z : State} {h : Heap} {lo lo' hi : Nat} {S : Nat → Prop} {vs : List Value} (H : own_R Z h lo hi S vs) (q : lo' ≤ lo) : own_R Z h lo' hi S vs := by
  intro i hi
  obtain ⟨r, kr, ys, e1, b1, b2, hl, A⟩ := H i hi
  exact ⟨r, kr, ys, e1, by omega, b2, hl, A⟩
theorem own_R_grid {Z : State} {h' : Heap} {lo N : Nat} {b : Addr} {comp : ClassId} (hlo : lo ≤ b) (R : ∀ (j : Nat) (x : Addr), ((List.range N).map fun jz => b + 1 + jz)[j]? = some x → Arr Z h' x (newA comp .int 0) .int ∧ Exa Z h' x "[I") : own_R Z h' lo h'.size (fun zz => zz < N) (((List.range N).map fun jz => b + 1 + jz).map Value.ref) := by
  intro i hi
  have e : ((List.range N).map fun jz => b + 1 + jz)[i]? = some (b + 1 + i) := by rw [List.getElem?_map, List.getElem?_range hi]; rfl
  have A := (R i _ e).1
  have A2 : Arv Z h' (b + 1 + i) comp .int 0 [] (Value.int 0) := Arv.new A (by decide)
  refine ⟨b + 1 + i, comp, [], ?_, by omega, A2.lt, by simp, A2⟩
  rw [List.getD_eq_getElem?_getD, List.getElem?_map, e]; rfl
/-- what the shares' owners are -/
def own_OW (Z : State) (h : Heap) (mm : Nat) (vs : List Value) (G : Nat → Int32) : Prop := ∀ i, i < mm → ∃ sh, vs.getD i .null = .ref sh ∧ Exa Z h sh zC5 ∧ Fld Z h sh zC5 "owner" "I" (.int (G i))
theorem own_OW_keep {Z : State} {h h' : Heap} {mm : Nat} {vs : List Value} {G : Nat → Int32} {ks : List Addr} (H : own_OW Z h mm vs G) (K : Keep h h' ks) (hk : ∀ z ∈ ks, ∀ s, Exa Z h s zC5 → s ≠ z) : own_OW Z h' mm vs G := by
  intro i hi
  obtain ⟨s, e1, E, F⟩ := H i hi
  exact ⟨s, e1, E.keep K, F.keep K fun q => hk _ q _ E rfl⟩
def own_gf (np nw : Nat) (gg : Int32) (qn wn i : Nat) : Nat := if gg = 0 then own_on np nw i else if i = qn then wn else own_on np nw i
theorem own_S_ow {Z : State} {h : Heap} {n1 np nw qn wn : Nat} {gg : Int32} {vs : List Value} (H : own_S Z h n1 np vs (fun zz => Int32.ofNat (own_on np nw zz))) (hg : gg = 0) : own_OW Z h np vs (fun zz => Int32.ofNat (own_gf np nw gg qn wn zz)) := by
  intro i hi
  obtain ⟨s, e1, h1⟩ := H.1 i hi
  refine ⟨s, e1, (own_sh_o h1).2.1, ?_⟩
  show Fld Z h s _ _ _ (.int (Int32.ofNat (own_gf np nw gg qn wn i)))
  rw [own_gf, if_pos hg]; exact (own_sh_o h1).2.2
theorem own_S_gv {Z : State} {h h' : Heap} {n1 np nw qn wn : Nat} {gg : Int32} {vs : List Value} {ks : List Addr} {sh : Addr} (H : own_S Z h n1 np vs (fun zz => Int32.ofNat (own_on np nw zz))) (K : Keep h h' ks) (hg : ¬ gg = 0) (hq : qn < np) (hsh : vs.getD qn .null = .ref sh) (hk : ∀ z ∈ ks, z = sh ∨ ∀ s, Exa Z h s zC5 → s ≠ z) (E : Exa Z h' sh zC5) (F : Fld Z h' sh zC5 "owner" "I" (.int (Int32.ofNat wn))) : own_OW Z h' np vs (fun zz => Int32.ofNat (own_gf np nw gg qn wn zz)) := by
  intro i hi
  by_cases e : i = qn
  · subst e
    refine ⟨sh, hsh, E, ?_⟩
    show Fld Z h' sh _ _ _ (.int (Int32.ofNat (own_gf np nw gg i wn i)))
    rw [own_gf, if_neg hg, if_pos rfl]; exact F
  · obtain ⟨s, e1, h1⟩ := H.1 i hi
    have o := own_sh_o h1
    have ns : s ≠ sh := fun q => by
      subst q
      rcases Nat.lt_or_ge i qn with c | c
      · exact H.2 i qn c hq (e1.trans hsh.symm)
      · exact H.2 qn i (by omega) hi (hsh.trans e1.symm)
    have nn : s ∉ ks := fun q => (hk _ q).elim (fun c => ns c) (fun c => c _ o.2.1 rfl)
    refine ⟨s, e1, o.2.1.keep K, ?_⟩
    show Fld Z h' s _ _ _ (.int (Int32.ofNat (own_gf np nw gg qn wn i)))
    rw [own_gf, if_neg hg, if_neg e]; exact o.2.2.keep K nn
def own_mxQ (Z : State)  (h0 : Heap) (n0 : Nat) (v : Option Value) (h : Heap) (L : List Loc) : Prop := v = some (.int 10) ∧ Fr n0 L ∧ h = h0
abbrev own_mxR : Room := { frames := 0, cells := 0, slots := 0, locals := 0 }
theorem own_mx (l : Launch) (Z : State) (a0 : Array Value) (hw : ∀ d ∈ tables_1, d.before a0 Z = true) (ws : List Jvm.Cond)  (h0 : Heap) (n0 : Nat) (Z0 : n0 ≤ h0.size)  :
    own_M l yN12 jdk_29_method_65_code 2 (some .int) ws own_mxR #[(.int 10), (.int 1)] Z h0 (own_mxQ Z  h0 n0) := by
 refine own_go (Jvm.Free.JP.mathPlain rfl (by decide)) (fun m => own_ef17 m (10 : Int32) (1 : Int32) ) ?_
 intro p e s m below meth c s₁ Bd hx hby hml hZ hh hown hnm X0 e0
 have N0 := Fr.nil n0
 refine own_st (g' := (mkF m 10 #[oI 10, oI 1] [(.int 10)])) (fun _ kt => XS.iloadN X0.here hx rfl (hb hby d3_0) rfl (XS.iloadN X0.here hx rfl (hb hby d3_1) rfl (XS.icmpNo X0.here hx rfl (hb hby d3_2) rfl (XT.ii_lt_f (by decide)) (XS.iloadN X0.here hx rfl (hb hby d3_5) rfl (XS.goto X0.here hx rfl (pc0 := 6) (pc' := 10) rfl (hb hby d3_6) (by decide) (by decide) kt))))) ?_
 obtain ⟨fs, hr, hrun, hended, hW, hsame⟩ := X0.leave (v := some (.int 10)) (fun h => by rw [Bd.returns] at h; cases h)
 refine own_end (own_retI X0 hx Bd.returns (hb hby d3_10) hr) ⟨_, hrun, hended, _, _, rfl, ?_, ⟨_, rfl⟩, hW, hsame.mono (by decide) (by decide)⟩
 show own_mxQ Z  h0 n0 _ s₁.heap _
 rw [e0]
 exact ⟨rfl, N0, rfl⟩
abbrev c56 := jdk_38_method_6_code
theorem d56_0 : dk c56 0 (.aload_n 0) 1 := by decide +kernel
theorem d56_1 : dk c56 1 (.getfield 9) 3 := by decide +kernel
theorem d56_4 : dk c56 4 (.arraylength) 1 := by decide +kernel
theorem d56_5 : dk c56 5 (.istore_n 2) 1 := by decide +kernel
theorem d56_6 : dk c56 6 (.iload_n 2) 1 := by decide +kernel
theorem d56_7 : dk c56 7 (.ifCond .gt 13) 3 := by decide +kernel
theorem d56_10 : dk c56 10 (.aload_n 0) 1 := by decide +kernel
theorem d56_11 : dk c56 11 (.getfield 9) 3 := by decide +kernel
theorem d56_14 : dk c56 14 (.getstatic 39) 3 := by decide +kernel
theorem d56_17 : dk c56 17 (.if_acmp .eq 28) 3 := by decide +kernel
theorem d56_45 : dk c56 45 (.aload_n 0) 1 := by decide +kernel
theorem d56_46 : dk c56 46 (.bipush 10) 2 := by decide +kernel
theorem d56_48 : dk c56 48 (.iload_n 1) 1 := by decide +kernel
theorem d56_49 : dk c56 49 (.invokestatic 79) 3 := by decide +kernel
theorem d56_52 : dk c56 52 (.anewarray 7) 3 := by decide +kernel
theorem d56_55 : dk c56 55 (.dup_x1) 1 := by decide +kernel
theorem d56_56 : dk c56 56 (.putfield 9) 3 := by decide +kernel
theorem d56_59 : dk c56 59 (.areturn) 1 := by decide +kernel
theorem own_ef19 (m : MethodId) (x0 : Addr) (x1 : Int32) : entryFrame m #[(.ref x0), (.int x1)] 4 = mkF m 0 #[.val (.ref x0), .val (.int x1), .unset, .unset] [] := by first | (simp [entryFrame, mkF, argsToLocals, Value.category]; done) | rfl
def own_grIQ (Z : State) (a : Addr) (mc : Int32) (de : Addr) (kd : ClassId) (h0 : Heap) (n0 : Nat) (v : Option Value) (h : Heap) (L : List Loc) : Prop := ∃ (b : Addr), ∃ (kb : ClassId), v = some (.ref b) ∧ Fr n0 L ∧ Keep h0 h [a] ∧ (Exa Z h a zC1) ∧ (Fld Z h a zC10 "modCount" "I" (.int mc)) ∧ (Fld Z h a zC1 "elementData" zC7 (.ref b)) ∧ (Fld Z h a zC1 "size" "I" (.int 0)) ∧ (Arv Z h b kb (.object zC3) (10 : Int32) [.null, .null, .null, .null, .null, .null, .null, .null, .null, .null] .null) ∧ (Ovr Z kb zC3) ∧ (h0.size ≤ b)
abbrev own_grIR : Room := { frames := 1, cells := 1, slots := 10, locals := 14 }
theorem own_grI (l : Launch) (Z : State) (a0 : Array Value) (hw : ∀ d ∈ tables_1, d.before a0 Z = true) (ws : List Jvm.Cond) (a : Addr) (mc : Int32) (de : Addr) (kd : ClassId) (h0 : Heap) (n0 : Nat) (Z0 : n0 ≤ h0.size) (pr1 : Old Z n0 h0) (pr2 : Sta Z Z.heap zC1 "DEFAULTCAPACITY_EMPTY_ELEMENTDATA" zC7 (.ref de)) (pr3 : Arv Z Z.heap de kd (.object zC3) (0 : Int32) [] .null) (pr4 : n0 ≤ a) (pr5 : Exa Z h0 a zC1) (pr6 : Fld Z h0 a zC10 "modCount" "I" (.int mc)) (pr7 : Fld Z h0 a zC1 "elementData" zC7 (.ref de)) (pr8 : Fld Z h0 a zC1 "size" "I" (.int 0)) :
    own_M l yN54 jdk_38_method_6_code 4 (some (.array (.object zC3))) ws own_grIR #[(.ref a), (.int 1)] Z h0 (own_grIQ Z a mc de kd h0 n0) := by
 refine own_go (plainFor_of_name own_pn7) (fun m => own_ef19 m a (1 : Int32) ) ?_
 intro p e s m below meth c s₁ Bd hx hby hml hZ hh hown hnm X0 e0
 have N0 := Fr.nil n0
 have K0 : Keep h0 h0 [a] := Keep.refl h0 _
 refine own_st (g' := (mkF m 1 #[oR a, oI 1, .unset, .unset] [(.ref a)])) (fun _ kt => XS.aloadN X0.here hx rfl (hb hby d56_0) rfl rfl kt) ?_
 obtain ⟨T820, X820, e820, st820⟩ := getF X0 hx hZ hown (host := "") (Or.inl (own_k hw 54 rfl)) Via.refl e0 pr7 (g := (mkF m 1 #[oR a, oI 1, .unset, .unset] [(.ref a)])) rfl rfl (hb hby d56_1)
 refine own_st st820 ?_
 have F821 : Arv Z h0 de kd (.object zC3) (0 : Int32) [] .null := (pr3.ext pr1.2)
 refine own_st (g' := (mkF m 5 #[oR a, oI 1, .unset, .unset] [(.int 0)])) (own_alen X820 hx hZ e820 F821 (g := (mkF m 4 #[oR a, oI 1, .unset, .unset] [(.ref de)])) rfl rfl (hb hby d56_4)) ?_
 refine own_st (g' := (mkF m 11 #[oR a, oI 1, oI 0, .unset] [(.ref a)])) (fun _ kt => XS.istoreN X820.here hx rfl (hb hby d56_5) rfl (l' := #[oR a, oI 1, oI 0, .unset]) rfl (XS.iloadN X820.here hx rfl (hb hby d56_6) rfl (XS.ifNo X820.here hx rfl (hb hby d56_7) rfl (XT.i0_gt_f (by decide)) (XS.aloadN X820.here hx rfl (hb hby d56_10) rfl rfl kt)))) ?_
 obtain ⟨T822, X822, e822, st822⟩ := getF X820 hx hZ hown (host := "") (Or.inl (own_k hw 54 rfl)) Via.refl e820 pr7 (g := (mkF m 11 #[oR a, oI 1, oI 0, .unset] [(.ref a)])) rfl rfl (hb hby d56_11)
 refine own_st st822 ?_
 obtain ⟨T823, X823, e823, st823⟩ := getS2 X822 hx hZ hown (host := "") (Or.inl (own_k hw 53 rfl)) Via.refl e822 (Sta.ext pr1.2 pr2) (g := (mkF m 14 #[oR a, oI 1, oI 0, .unset] [(.ref de)])) rfl (hb hby d56_14)
 refine own_st st823 ?_
 refine own_st (g' := (mkF m 49 #[oR a, oI 1, oI 0, .unset] [(.int 1), (.int 10), (.ref a)])) (fun _ kt => XT.acmpYes X823.here hx rfl (pc0 := 17) (pc' := 45) rfl (hb hby d56_17) rfl rfl rfl (XT.aa_eq_t rfl) (by decide) (by decide) (XS.aloadN X823.here hx rfl (hb hby d56_45) rfl rfl (XS.bipush X823.here hx rfl (hb hby d56_46) (XS.iloadN X823.here hx rfl (hb hby d56_48) rfl kt)))) ?_
 obtain ⟨_, _, ⟨T824, L824, k824, n824⟩, -, X824, ⟨Lc824, hQ824, l824, y824, z824⟩, st824⟩ := Jvm.LawKit.callS X823 hx (y := yN12) hown (mvT hZ (own_k hw 470 rfl)) (mvT hZ (own_k hw 14 rfl)) (mvT hZ (own_k hw 15 rfl)) (mvT hZ (own_k hw 16 rfl)) (by decide) (backOf (W := 1) (own_mx l Z a0 hw []  h0 n0 Z0 ) hZ (own_k hw 16 rfl) (own_k hw 15 rfl) (by decide) (by decide)) (g := (mkF m 49 #[oR a, oI 1, oI 0, .unset] [(.int 1), (.int 10), (.ref a)])) rfl hml.symm  (argsL := [(.int 10), (.int 1)]) (rest := [(.ref a)]) (lenOf own_pd12 rfl) rfl (own_w0 rfl rfl) (hb hby d56_49) (fun _ _ => ⟨rfl, e823, (by decide : 0 + 0 ≤ 1), (by decide : 0 + 0 ≤ 10)⟩)
 dsimp only [Pt.U, Pt.locs, Pt.cells, Pt.slots] at X824 l824 y824 z824 st824 hQ824
 subst l824 y824 z824
 obtain ⟨rfl, N824, e824⟩ := hQ824
 have N825 := Fr.app N0 N824
 refine own_st st824 ?_
 obtain ⟨T826, h826, k826, X826, e826, E826, A826, O826, st826⟩ := newR X824 hx hZ hown (own_k hw 91 rfl) (own_k hw 92 rfl) e824 (g := (mkF m 52 #[oR a, oI 1, oI 0, .unset] [(.int 10), (.ref a)])) rfl (hb hby d56_52) rfl (by decide) (cap := 10) (by decide) (by decide) (by decide) (by decide)
 obtain ⟨b826, g826⟩ : ∃ z, z = h0.size := ⟨_, rfl⟩
 rw [← g826] at A826 st826
 have Z827 := Nat.le_trans Z0 E826.1
 have K827 := (Keep.ext K0 E826)
 have ge_b826 : n0 ≤ b826 := Nat.le_trans Z0 (Nat.le_of_eq g826.symm)
 have F828 : Arv Z h826 b826 k826 (.object zC3) (10 : Int32) [.null, .null, .null, .null, .null, .null, .null, .null, .null, .null] .null := (Arv.new A826 (by decide)).pad (pad_rep [] .null 10)
 refine own_st st826 ?_
 refine own_st (g' := (mkF m 56 #[oR a, oI 1, oI 0, .unset] [(.ref b826), (.ref a), (.ref b826)])) (fun _ kt => XT.dupX1 X826.here hx rfl (hb hby d56_55) rfl rfl rfl kt) ?_
 have F829 := (Fld.ext E826 pr7)
 have F830 := (Exa.ext E826 pr5)
 obtain ⟨T831, h831, X831, e831, W831, st831⟩ := putF X826 hx hZ hown (host := "") (Or.inl (own_k hw 54 rfl)) Via.refl e826 F829 F830 (Or.inl (own_k hw 55 rfl)) (own_k hw 33 rfl) (ty := (.array (.object zC3))) (by decide) rfl rfl (g := (mkF m 56 #[oR a, oI 1, oI 0, .unset] [(.ref b826), (.ref a), (.ref b826)])) rfl rfl (hb hby d56_56)
 have N831 := Fr.snoc X831 N825 pr4
 have Z832 := Nat.le_trans Z827 (Nat.le_of_eq (Wr.size W831).symm)
 have K832 := (Keep.wr K827 W831 (Or.inl (List.mem_of_getElem? (i := 0) rfl)))
 have F833 : Fld Z h831 a zC1 "elementData" zC7 (.ref b826) := Fld.same W831 F829
 refine own_st st831 ?_
 obtain ⟨fs, hr, hrun, hended, hW, hsame⟩ := X831.leave (v := some (.ref b826)) (fun h => by rw [Bd.returns] at h; cases h)
 refine own_end (own_retA X831 hx Bd.returns rfl rfl rfl (hb hby d56_59) hr) ⟨_, hrun, hended, _, _, rfl, ?_, ⟨_, rfl⟩, hW, hsame.mono (by decide) (by decide)⟩
 have F834 := (Exa.wr W831 F830)
 have F835 := (Fld.other W831 (Fld.ext E826 pr6) (Or.inr (slot_ne (Or.inl (own_k hw 52 rfl)) (Or.inl (own_k hw 55 rfl)) (by decide) (t := .int) (t' := (.array (.object zC3))) (by decide) (by decide))))
 have F836 := (Fld.other W831 (Fld.ext E826 pr8) (Or.inr (slot_ne (Or.inl (own_k hw 126 rfl)) (Or.inl (own_k hw 55 rfl)) (by decide) (t := .int) (t' := (.array (.object zC3))) (by decide) (by decide))))
 have ne837 : a ≠ b826 := (Nat.ne_of_lt (Nat.lt_of_lt_of_le pr5.lt (Nat.le_of_eq g826.symm)))
 have F838 := (Arv.other F828 W831 (Ne.symm ne837))
 show own_grIQ Z _ _ _ _ h0 n0 _ T831.heap _
 rw [e831]
 exact ⟨b826, k826, rfl, N831, K832, F834, F835, F833, F836, F838, O826, (Nat.le_trans K0.1 (Nat.le_of_eq g826.symm))⟩
abbrev c55 := jdk_38_method_7_code
theorem d55_0 : dk c55 0 (.aload_n 0) 1 := by decide +kernel
theorem d55_1 : dk c55 1 (.aload_n 0) 1 := by decide +kernel
theorem d55_2 : dk c55 2 (.getfield 48) 3 := by decide +kernel
theorem d55_5 : dk c55 5 (.iconst 1) 1 := by decide +kernel
theorem d55_6 : dk c55 6 (.iadd) 1 := by decide +kernel
theorem d55_7 : dk c55 7 (.invokevirtual 69) 3 := by decide +kernel
theorem own_pd13 : parseMethodDescriptor "(I)[Ljava/lang/Object;" = some ⟨[.int], some (.array (.object "java/lang/Object"))⟩ := by decide +kernel
theorem d55_10 : dk c55 10 (.areturn) 1 := by decide +kernel
def own_grQ (Z : State) (a : Addr) (mc : Int32) (de : Addr) (kd : ClassId) (h0 : Heap) (n0 : Nat) (v : Option Value) (h : Heap) (L : List Loc) : Prop := ∃ (b : Addr), ∃ (kb : ClassId), v = some (.ref b) ∧ Fr n0 L ∧ Keep h0 h [a] ∧ (Exa Z h a zC1) ∧ (Fld Z h a zC10 "modCount" "I" (.int mc)) ∧ (Fld Z h a zC1 "elementData" zC7 (.ref b)) ∧ (Fld Z h a zC1 "size" "I" (.int 0)) ∧ (Arv Z h b kb (.object zC3) (10 : Int32) [.null, .null, .null, .null, .null, .null, .null, .null, .null, .null] .null) ∧ (Ovr Z kb zC3) ∧ (h0.size ≤ b)
abbrev own_grR : Room := { frames := 2, cells := 1, slots := 10, locals := 29 }
theorem own_gr (l : Launch) (Z : State) (a0 : Array Value) (hw : ∀ d ∈ tables_1, d.before a0 Z = true) (ws : List Jvm.Cond) (a : Addr) (mc : Int32) (de : Addr) (kd : ClassId) (h0 : Heap) (n0 : Nat) (Z0 : n0 ≤ h0.size) (pr1 : Old Z n0 h0) (pr2 : Sta Z Z.heap zC1 "DEFAULTCAPACITY_EMPTY_ELEMENTDATA" zC7 (.ref de)) (pr3 : Arv Z Z.heap de kd (.object zC3) (0 : Int32) [] .null) (pr4 : n0 ≤ a) (pr5 : Exa Z h0 a zC1) (pr6 : Fld Z h0 a zC10 "modCount" "I" (.int mc)) (pr7 : Fld Z h0 a zC1 "elementData" zC7 (.ref de)) (pr8 : Fld Z h0 a zC1 "size" "I" (.int 0)) :
    own_M l yN55 jdk_38_method_7_code 1 (some (.array (.object zC3))) ws own_grR #[(.ref a)] Z h0 (own_grQ Z a mc de kd h0 n0) := by
 refine own_go (plainFor_of_name own_pn7) (fun m => own_ef1 m a ) ?_
 intro p e s m below meth c s₁ Bd hx hby hml hZ hh hown hnm X0 e0
 have N0 := Fr.nil n0
 have K0 : Keep h0 h0 [a] := Keep.refl h0 _
 refine own_st (g' := (mkF m 2 #[oR a] [(.ref a), (.ref a)])) (fun _ kt => XS.aloadN X0.here hx rfl (hb hby d55_0) rfl rfl (XS.aloadN X0.here hx rfl (hb hby d55_1) rfl rfl kt)) ?_
 obtain ⟨T839, X839, e839, st839⟩ := getF X0 hx hZ hown (host := "") (Or.inl (own_k hw 125 rfl)) Via.refl e0 pr8 (g := (mkF m 2 #[oR a] [(.ref a), (.ref a)])) rfl rfl (hb hby d55_2)
 refine own_st st839 ?_
 refine own_st (g' := (mkF m 7 #[oR a] [(.int 1), (.ref a)])) (fun _ kt => XS.iconst X839.here hx rfl (hb hby d55_5) (XS.iadd X839.here hx rfl (hb hby d55_6) rfl kt)) ?_
 obtain ⟨cl841, hcl841, hob841⟩ := Exa.cell pr5
 obtain ⟨_, _, ⟨T840, L840, k840, n840⟩, -, X840, ⟨Lc840, hQ840, l840, y840, z840⟩, st840⟩ := X839.privateBack hx (y := yN54) hown (mvT hZ (own_k hw 465 rfl)) (mvT hZ (own_k hw 466 rfl)) (mvT hZ (own_k hw 468 rfl)) (Cond.privateMethod_at (mvP hZ (own_k hw 467 rfl) (args := #[]))) (mvT hZ (own_k hw 469 rfl)) (by decide) (backOf (W := 0) (own_grI l Z a0 hw [] a mc de kd h0 n0 Z0 pr1 pr2 pr3 pr4 pr5 pr6 pr7 pr8) hZ (own_k hw 469 rfl) (own_k hw 34 rfl) (by decide) (by decide)) (g := (mkF m 7 #[oR a] [(.int 1), (.ref a)])) rfl hml.symm (Steps.refl _) (a := a) (by rw [e839]; exact hcl841) hob841 (argsL := [(.int 1)]) (rest := []) (lenOf own_pd13 rfl) rfl (own_w0 rfl rfl) (hb hby d55_7) (fun _ _ => ⟨rfl, e839, (by decide : 0 + 1 ≤ 1), (by decide : 0 + 10 ≤ 10)⟩)
 dsimp only [Pt.U, Pt.locs, Pt.cells, Pt.slots] at X840 l840 y840 z840 st840 hQ840
 subst l840 y840 z840
 obtain ⟨b_840, kb_840, rfl, N840, K840_, P842, P843, P844, P845, P846, P847, P848⟩ := hQ840
 have N849 := Fr.app N0 N840
 have Z850 := Nat.le_trans Z0 K840_.1
 have K850 := (Keep.trans K0 K840_ (allS (Or.inl (List.mem_of_getElem? (i := 0) rfl)) all0))
 have ge851 : n0 ≤ b_840 := Nat.le_trans Z0 P848
 refine own_tr st840 ?_
 obtain ⟨fs, hr, hrun, hended, hW, hsame⟩ := X840.leave (v := some (.ref b_840)) (fun h => by rw [Bd.returns] at h; cases h)
 refine own_end (own_retA X840 hx Bd.returns rfl rfl rfl (hb hby d55_10) hr) ⟨_, hrun, hended, _, _, rfl, ?_, ⟨_, rfl⟩, hW, hsame.mono (by decide) (by decide)⟩
 show own_grQ Z _ _ _ _ h0 n0 _ T840.heap _
 show own_grQ Z _ _ _ _ h0 n0 _ T840.heap _
 exact ⟨b_840, kb_840, rfl, N849, K850, P842, P843, P844, P845, P846, P847, (Nat.le_trans K0.1 P848)⟩
theorem d16_6 : dk c16 6 (.aload_n 0) 1 := by decide +kernel
theorem d16_7 : dk c16 7 (.invokevirtual 129) 3 := by decide +kernel
theorem own_pd14 : parseMethodDescriptor "()[Ljava/lang/Object;" = some ⟨[], some (.array (.object "java/lang/Object"))⟩ := by decide +kernel
theorem d16_10 : dk c16 10 (.astore_n 2) 1 := by decide +kernel
def own_b3_0Q (Z : State) (a : Addr) (mc : Int32) (oo0 : Addr) (de : Addr) (kd : ClassId) (h0 : Heap) (n0 : Nat) (v : Option Value) (h : Heap) (L : List Loc) : Prop := ∃ (b : Addr), ∃ (kb : ClassId), v = none ∧ Fr n0 L ∧ Keep h0 h [a] ∧ (Exa Z h a zC1) ∧ (Fld Z h a zC10 "modCount" "I" (.int mc)) ∧ (Fld Z h a zC1 "elementData" zC7 (.ref b)) ∧ (Fld Z h a zC1 "size" "I" (.int 1)) ∧ (Arv Z h b kb (.object zC3) (10 : Int32) [(.ref oo0), .null, .null, .null, .null, .null, .null, .null, .null, .null] .null) ∧ (Ovr Z kb zC3) ∧ (h0.size ≤ b)
abbrev own_b3_0R : Room := { frames := 3, cells := 1, slots := 10, locals := 41 }
theorem own_b3_0 (l : Launch) (Z : State) (a0 : Array Value) (hw : ∀ d ∈ tables_1, d.before a0 Z = true) (ws : List Jvm.Cond) (a : Addr) (mc : Int32) (oo0 : Addr) (de : Addr) (kd : ClassId) (h0 : Heap) (n0 : Nat) (Z0 : n0 ≤ h0.size) (pr1 : Old Z n0 h0) (pr2 : Sta Z Z.heap zC1 "DEFAULTCAPACITY_EMPTY_ELEMENTDATA" zC7 (.ref de)) (pr3 : Arv Z Z.heap de kd (.object zC3) (0 : Int32) [] .null) (pr4 : n0 ≤ a) (pr5 : Exa Z h0 oo0 zC13) (pr6 : Exa Z h0 a zC1) (pr7 : Fld Z h0 a zC10 "modCount" "I" (.int mc)) (pr8 : Fld Z h0 a zC1 "elementData" zC7 (.ref de)) (pr9 : Fld Z h0 a zC1 "size" "I" (.int 0)) :
    own_M l yN11 jdk_38_method_24_code 4 none ws own_b3_0R #[(.ref a), (.ref oo0), (.ref de), (.int 0)] Z h0 (own_b3_0Q Z a mc oo0 de kd h0 n0) := by
 refine own_go (plainFor_of_name own_pn7) (fun m => own_ef12 m a oo0 de (0 : Int32) ) ?_
 intro p e s m below meth c s₁ Bd hx hby hml hZ hh hown hnm X0 e0
 have N0 := Fr.nil n0
 have K0 : Keep h0 h0 [a] := Keep.refl h0 _
 refine own_st (g' := (mkF m 2 #[oR a, oR oo0, oR de, oI 0] [(.ref de), (.int 0)])) (fun _ kt => XS.iloadN X0.here hx rfl (hb hby d16_0) rfl (XS.aloadN X0.here hx rfl (hb hby d16_1) rfl rfl kt)) ?_
 have F852 : Arv Z h0 de kd (.object zC3) (0 : Int32) [] .null := (pr3.ext pr1.2)
 refine own_st (g' := (mkF m 3 #[oR a, oR oo0, oR de, oI 0] [(.int 0), (.int 0)])) (own_alen X0 hx hZ e0 F852 (g := (mkF m 2 #[oR a, oR oo0, oR de, oI 0] [(.ref de), (.int 0)])) rfl rfl (hb hby d16_2)) ?_
 refine own_st (g' := (mkF m 7 #[oR a, oR oo0, oR de, oI 0] [(.ref a)])) (fun _ kt => XS.icmpNo X0.here hx rfl (hb hby d16_3) rfl (XT.ii_ne_f (by decide)) (XS.aloadN X0.here hx rfl (hb hby d16_6) rfl rfl kt)) ?_
 obtain ⟨cl854, hcl854, hob854⟩ := Exa.cell pr6
 obtain ⟨_, _, ⟨T853, L853, k853, n853⟩, -, X853, ⟨Lc853, hQ853, l853, y853, z853⟩, st853⟩ := X0.privateBack hx (y := yN55) hown (mvT hZ (own_k hw 460 rfl)) (mvT hZ (own_k hw 461 rfl)) (mvT hZ (own_k hw 463 rfl)) (Cond.privateMethod_at (mvP hZ (own_k hw 462 rfl) (args := #[]))) (mvT hZ (own_k hw 464 rfl)) (by decide) (backOf (W := 0) (own_gr l Z a0 hw [] a mc de kd h0 n0 Z0 pr1 pr2 pr3 pr4 pr6 pr7 pr8 pr9) hZ (own_k hw 464 rfl) (own_k hw 34 rfl) (by decide) (by decide)) (g := (mkF m 7 #[oR a, oR oo0, oR de, oI 0] [(.ref a)])) rfl hml.symm (Steps.refl _) (a := a) (by rw [e0]; exact hcl854) hob854 (argsL := []) (rest := []) (lenOf own_pd14 rfl) rfl (own_w0 rfl rfl) (hb hby d16_7) (fun _ _ => ⟨rfl, e0, (by decide : 0 + 1 ≤ 1), (by decide : 0 + 10 ≤ 10)⟩)
 dsimp only [Pt.U, Pt.locs, Pt.cells, Pt.slots] at X853 l853 y853 z853 st853 hQ853
 subst l853 y853 z853
 obtain ⟨b_853, kb_853, rfl, N853, K853_, P855, P856, P857, P858, P859, P860, P861⟩ := hQ853
 have N862 := Fr.app N0 N853
 have Z863 := Nat.le_trans Z0 K853_.1
 have K863 := (Keep.trans K0 K853_ (allS (Or.inl (List.mem_of_getElem? (i := 0) rfl)) all0))
 have ge864 : n0 ≤ b_853 := Nat.le_trans Z0 P861
 refine own_tr st853 ?_
 refine own_st (g' := (mkF m 14 #[oR a, oR oo0, oR b_853, oI 0] [(.ref oo0), (.int 0), (.ref b_853)])) (fun _ kt => XS.astoreN X853.here hx rfl (hb hby d16_10) rfl rfl (l' := #[oR a, oR oo0, oR b_853, oI 0]) rfl (XS.aloadN X853.here hx rfl (hb hby d16_11) rfl rfl (XS.iloadN X853.here hx rfl (hb hby d16_12) rfl (XS.aloadN X853.here hx rfl (hb hby d16_13) rfl rfl kt)))) ?_
 have F867 := (Exa.keep pr5 K853_)
 obtain ⟨cs866, As866, qs866, -⟩ := id P859
 obtain ⟨T865, h865, X865, e865, W865, V865, st865⟩ := own_ast X853 hx hZ rfl P859 rfl ⟨by decide, by decide⟩ (i := 0) rfl (by simp) rfl (Sto.ofV As866 qs866 P860 (Ins.of_exa F867 (own_k hw 471 rfl))) (g := (mkF m 14 #[oR a, oR oo0, oR b_853, oI 0] [(.ref oo0), (.int 0), (.ref b_853)])) rfl rfl (hb hby d16_14)
 have N865 := Fr.snoc X865 N862 ge864
 have Z868 := Nat.le_trans Z863 (Nat.le_of_eq (Wr.size W865).symm)
 have K868 := (Keep.wr K863 W865 (Or.inr (Nat.le_trans K0.1 P861)))
 have F869 : Arv Z h865 b_853 kb_853 (.object zC3) (10 : Int32) [(.ref oo0), .null, .null, .null, .null, .null, .null, .null, .null, .null] .null := V865
 refine own_st st865 ?_
 refine own_st (g' := (mkF m 19 #[oR a, oR oo0, oR b_853, oI 0] [(.int 1), (.ref a)])) (fun _ kt => XS.aloadN X865.here hx rfl (hb hby d16_15) rfl rfl (XS.iloadN X865.here hx rfl (hb hby d16_16) rfl (XS.iconst X865.here hx rfl (hb hby d16_17) (XS.iadd X865.here hx rfl (hb hby d16_18) rfl kt)))) ?_
 have ne870 : a ≠ b_853 := (Nat.ne_of_lt (Nat.lt_of_lt_of_le pr6.lt P861))
 have F871 := (Fld.other W865 P858 (Or.inl ne870))
 have F872 := (Exa.wr W865 P855)
 obtain ⟨T873, h873, X873, e873, W873, st873⟩ := putF X865 hx hZ hown (host := "") (Or.inl (own_k hw 125 rfl)) Via.refl e865 F871 F872 (Or.inl (own_k hw 126 rfl)) (own_k hw 33 rfl) (ty := .int) (by decide) rfl rfl (g := (mkF m 19 #[oR a, oR oo0, oR b_853, oI 0] [(.int 1), (.ref a)])) rfl rfl (hb hby d16_19)
 have N873 := Fr.snoc X873 N865 pr4
 have Z874 := Nat.le_trans Z868 (Nat.le_of_eq (Wr.size W873).symm)
 have K874 := (Keep.wr K868 W873 (Or.inl (List.mem_of_getElem? (i := 0) rfl)))
 have F875 : Fld Z h873 a zC1 "size" "I" (.int 1) := Fld.same W873 F871
 refine own_st st873 ?_
 obtain ⟨fs, hr, hrun, hended, hW, hsame⟩ := X873.leave (v := none) (fun _ => rfl)
 refine own_end (X873.returnOut hx Bd.returns (hb hby d16_22) hr) ⟨_, hrun, hended, _, _, rfl, ?_, ⟨_, rfl⟩, hW, hsame.mono (by decide) (by decide)⟩
 have F876 := (Exa.wr W873 F872)
 have F877 := (Fld.other W873 (Fld.other W865 P856 (Or.inl ne870)) (Or.inr (slot_ne (Or.inl (own_k hw 52 rfl)) (Or.inl (own_k hw 126 rfl)) (by decide) (t := .int) (t' := .int) (by decide) (by decide))))
 have F878 := (Fld.other W873 (Fld.other W865 P857 (Or.inl ne870)) (Or.inr (slot_ne (Or.inl (own_k hw 55 rfl)) (Or.inl (own_k hw 126 rfl)) (by decide) (t := (.array (.object zC3))) (t' := .int) (by decide) (by decide))))
 have F879 := (Arv.other F869 W873 (Ne.symm ne870))
 show own_b3_0Q Z _ _ _ _ _ h0 n0 _ T873.heap _
 rw [e873]
 exact ⟨b_853, kb_853, rfl, N873, K874, F876, F877, F878, F875, F879, P860, (Nat.le_trans K0.1 P861)⟩
def own_b1_0Q (Z : State) (a : Addr) (mc : Int32) (oo0 : Addr) (de : Addr) (kd : ClassId) (h0 : Heap) (n0 : Nat) (v : Option Value) (h : Heap) (L : List Loc) : Prop := ∃ (b : Addr), ∃ (kb : ClassId), v = some (.int 1) ∧ Fr n0 L ∧ Keep h0 h [a] ∧ (Exa Z h a zC1) ∧ (Fld Z h a zC10 "modCount" "I" (.int (mc + (1 : Int32)))) ∧ (Fld Z h a zC1 "elementData" zC7 (.ref b)) ∧ (Fld Z h a zC1 "size" "I" (.int 1)) ∧ (Arv Z h b kb (.object zC3) (10 : Int32) [(.ref oo0), .null, .null, .null, .null, .null, .null, .null, .null, .null] .null) ∧ (Ovr Z kb zC3) ∧ (h0.size ≤ b)
abbrev own_b1_0R : Room := { frames := 4, cells := 1, slots := 10, locals := 56 }
theorem own_b1_0 (l : Launch) (Z : State) (a0 : Array Value) (hw : ∀ d ∈ tables_1, d.before a0 Z = true) (ws : List Jvm.Cond) (a : Addr) (mc : Int32) (oo0 : Addr) (de : Addr) (kd : ClassId) (h0 : Heap) (n0 : Nat) (Z0 : n0 ≤ h0.size) (pr1 : Old Z n0 h0) (pr2 : Sta Z Z.heap zC1 "DEFAULTCAPACITY_EMPTY_ELEMENTDATA" zC7 (.ref de)) (pr3 : Arv Z Z.heap de kd (.object zC3) (0 : Int32) [] .null) (pr4 : n0 ≤ a) (pr5 : Exa Z h0 oo0 zC13) (pr6 : Exa Z h0 a zC1) (pr7 : Fld Z h0 a zC10 "modCount" "I" (.int mc)) (pr8 : Fld Z h0 a zC1 "elementData" zC7 (.ref de)) (pr9 : Fld Z h0 a zC1 "size" "I" (.int 0)) :
    own_M l yN1 jdk_38_method_25_code 2 (some .boolean) ws own_b1_0R #[(.ref a), (.ref oo0)] Z h0 (own_b1_0Q Z a mc oo0 de kd h0 n0) := by
 refine own_go (plainFor_of_name own_pn7) (fun m => own_ef13 m a oo0 ) ?_
 intro p e s m below meth c s₁ Bd hx hby hml hZ hh hown hnm X0 e0
 have N0 := Fr.nil n0
 have K0 : Keep h0 h0 [a] := Keep.refl h0 _
 refine own_st (g' := (mkF m 2 #[oR a, oR oo0] [(.ref a), (.ref a)])) (fun _ kt => XS.aloadN X0.here hx rfl (hb hby d15_0) rfl rfl (XS.dup X0.here hx rfl (hb hby d15_1) rfl rfl kt)) ?_
 obtain ⟨T880, X880, e880, st880⟩ := getF X0 hx hZ hown (host := "") (Or.inl (own_k hw 123 rfl)) (Via.of (own_k hw 124 rfl)) e0 pr7 (g := (mkF m 2 #[oR a, oR oo0] [(.ref a), (.ref a)])) rfl rfl (hb hby d15_2)
 refine own_st st880 ?_
 refine own_st (g' := (mkF m 7 #[oR a, oR oo0] [(.int (mc + (1 : Int32))), (.ref a)])) (fun _ kt => XS.iconst X880.here hx rfl (hb hby d15_5) (XS.iadd X880.here hx rfl (hb hby d15_6) rfl kt)) ?_
 obtain ⟨T881, h881, X881, e881, W881, st881⟩ := putF X880 hx hZ hown (host := "") (Or.inl (own_k hw 123 rfl)) (Via.of (own_k hw 124 rfl)) e880 pr7 pr6 (Or.inl (own_k hw 52 rfl)) (own_k hw 33 rfl) (ty := .int) (by decide) rfl rfl (g := (mkF m 7 #[oR a, oR oo0] [(.int (mc + (1 : Int32))), (.ref a)])) rfl rfl (hb hby d15_7)
 have N881 := Fr.snoc X881 N0 pr4
 have Z882 := Nat.le_trans Z0 (Nat.le_of_eq (Wr.size W881).symm)
 have K882 := (Keep.wr K0 W881 (Or.inl (List.mem_of_getElem? (i := 0) rfl)))
 have F883 : Fld Z h881 a zC10 "modCount" "I" (.int (mc + (1 : Int32))) := Fld.same W881 pr7
 refine own_st st881 ?_
 refine own_st (g' := (mkF m 13 #[oR a, oR oo0] [(.ref a), (.ref oo0), (.ref a)])) (fun _ kt => XS.aloadN X881.here hx rfl (hb hby d15_10) rfl rfl (XS.aloadN X881.here hx rfl (hb hby d15_11) rfl rfl (XS.aloadN X881.here hx rfl (hb hby d15_12) rfl rfl kt))) ?_
 have F884 := (Fld.other W881 pr8 (Or.inr (slot_ne (Or.inl (own_k hw 55 rfl)) (Or.inl (own_k hw 52 rfl)) (by decide) (t := (.array (.object zC3))) (t' := .int) (by decide) (by decide))))
 obtain ⟨T885, X885, e885, st885⟩ := getF X881 hx hZ hown (host := "") (Or.inl (own_k hw 54 rfl)) Via.refl e881 F884 (g := (mkF m 13 #[oR a, oR oo0] [(.ref a), (.ref oo0), (.ref a)])) rfl rfl (hb hby d15_13)
 refine own_st st885 ?_
 refine own_st (g' := (mkF m 17 #[oR a, oR oo0] [(.ref a), (.ref de), (.ref oo0), (.ref a)])) (fun _ kt => XS.aloadN X885.here hx rfl (hb hby d15_16) rfl rfl kt) ?_
 have F886 := (Fld.other W881 pr9 (Or.inr (slot_ne (Or.inl (own_k hw 126 rfl)) (Or.inl (own_k hw 52 rfl)) (by decide) (t := .int) (t' := .int) (by decide) (by decide))))
 obtain ⟨T887, X887, e887, st887⟩ := getF X885 hx hZ hown (host := "") (Or.inl (own_k hw 125 rfl)) Via.refl e885 F886 (g := (mkF m 17 #[oR a, oR oo0] [(.ref a), (.ref de), (.ref oo0), (.ref a)])) rfl rfl (hb hby d15_17)
 refine own_st st887 ?_
 have F888 := (Exa.wr W881 pr6)
 have F889 := (Old.wr pr1 W881 pr4)
 have F890 := (Exa.wr W881 pr5)
 obtain ⟨cl892, hcl892, hob892⟩ := Exa.cell F888
 obtain ⟨_, _, ⟨T891, L891, k891, n891⟩, -, X891, ⟨Lc891, hQ891, l891, y891, z891⟩, st891⟩ := X887.privateBack hx (y := yN11) hown (mvT hZ (own_k hw 127 rfl)) (mvT hZ (own_k hw 128 rfl)) (mvT hZ (own_k hw 130 rfl)) (Cond.privateMethod_at (mvP hZ (own_k hw 129 rfl) (args := #[]))) (mvT hZ (own_k hw 131 rfl)) (by decide) (backOf (W := 0) (own_b3_0 l Z a0 hw [] a (mc + (1 : Int32)) oo0 de kd h881 n0 Z882 F889 pr2 pr3 pr4 F890 F888 F883 F884 F886) hZ (own_k hw 131 rfl) (own_k hw 34 rfl) (by decide) (by decide)) (g := (mkF m 20 #[oR a, oR oo0] [(.int 0), (.ref de), (.ref oo0), (.ref a)])) rfl hml.symm (Steps.refl _) (a := a) (by rw [e887]; exact hcl892) hob892 (argsL := [(.ref oo0), (.ref de), (.int 0)]) (rest := []) (lenOf own_pd6 rfl) rfl (own_w0 rfl rfl) (hb hby d15_20) (fun _ _ => ⟨rfl, e887, (by decide : 0 + 1 ≤ 1), (by decide : 0 + 10 ≤ 10)⟩)
 dsimp only [Pt.U, Pt.locs, Pt.cells, Pt.slots] at X891 l891 y891 z891 st891 hQ891
 subst l891 y891 z891
 obtain ⟨b_891, kb_891, rfl, N891, K891_, P893, P894, P895, P896, P897, P898, P899⟩ := hQ891
 have N900 := Fr.app N881 N891
 have Z901 := Nat.le_trans Z882 K891_.1
 have K901 := (Keep.trans K882 K891_ (allS (Or.inl (List.mem_of_getElem? (i := 0) rfl)) all0))
 have ge902 : n0 ≤ b_891 := Nat.le_trans Z882 P899
 refine own_tr st891 ?_
 refine own_st (g' := (mkF m 24 #[oR a, oR oo0] [(.int 1)])) (fun _ kt => XS.iconst X891.here hx rfl (hb hby d15_23) kt) ?_
 obtain ⟨fs, hr, hrun, hended, hW, hsame⟩ := X891.leave (v := some (.int 1)) (fun h => by rw [Bd.returns] at h; cases h)
 refine own_end (retN X891 hx (t := .boolean) Bd.returns (by simp) (hb hby d15_24) hr) ⟨_, hrun, hended, _, _, rfl, ?_, ⟨_, rfl⟩, hW, hsame.mono (by decide) (by decide)⟩
 show own_b1_0Q Z _ _ _ _ _ h0 n0 _ T891.heap _
 show own_b1_0Q Z _ _ _ _ _ h0 n0 _ T891.heap _
 exact ⟨b_891, kb_891, rfl, N900, K901, P893, P894, P895, P896, P897, P898, (Nat.le_trans K882.1 P899)⟩
abbrev c48 := prog_94_method_9_code
theorem d48_0 : dk c48 0 (.aload_n 0) 1 := by decide +kernel
theorem d48_1 : dk c48 1 (.getfield 32) 3 := by decide +kernel
theorem d48_4 : dk c48 4 (.arraylength) 1 := by decide +kernel
theorem d48_5 : dk c48 5 (.anewarray 84) 3 := by decide +kernel
theorem d48_8 : dk c48 8 (.astore_n 1) 1 := by decide +kernel
theorem d48_9 : dk c48 9 (.aload_n 0) 1 := by decide +kernel
theorem d48_10 : dk c48 10 (.getfield 23) 3 := by decide +kernel
theorem d48_13 : dk c48 13 (.iconst 1) 1 := by decide +kernel
theorem d48_14 : dk c48 14 (.isub) 1 := by decide +kernel
theorem d48_15 : dk c48 15 (.istore_n 2) 1 := by decide +kernel
theorem d48_16 : dk c48 16 (.aload_n 0) 1 := by decide +kernel
theorem d48_17 : dk c48 17 (.getfield 32) 3 := by decide +kernel
theorem d48_20 : dk c48 20 (.arraylength) 1 := by decide +kernel
theorem d48_21 : dk c48 21 (.aload_n 0) 1 := by decide +kernel
theorem d48_22 : dk c48 22 (.getfield 23) 3 := by decide +kernel
theorem d48_25 : dk c48 25 (.idiv) 1 := by decide +kernel
theorem d48_26 : dk c48 26 (.istore_n 3) 1 := by decide +kernel
theorem d48_68 : dk c48 68 (.iconst 1) 1 := by decide +kernel
theorem d48_69 : dk c48 69 (.istore 5) 2 := by decide +kernel
theorem d48_71 : dk c48 71 (.iload 5) 2 := by decide +kernel
theorem d48_73 : dk c48 73 (.aload_n 0) 1 := by decide +kernel
theorem d48_74 : dk c48 74 (.getfield 23) 3 := by decide +kernel
theorem d48_77 : dk c48 77 (.if_icmp .gt 149) 3 := by decide +kernel
theorem d48_226 : dk c48 226 (.aload_n 1) 1 := by decide +kernel
theorem d48_227 : dk c48 227 (.areturn) 1 := by decide +kernel
theorem d48_80 : dk c48 80 (.aload_n 0) 1 := by decide +kernel
theorem d48_81 : dk c48 81 (.iload 5) 2 := by decide +kernel
theorem d48_83 : dk c48 83 (.iconst 1) 1 := by decide +kernel
theorem d48_84 : dk c48 84 (.iadd) 1 := by decide +kernel
theorem d48_85 : dk c48 85 (.invokevirtual 36) 3 := by decide +kernel
theorem d48_88 : dk c48 88 (.iconst 1) 1 := by decide +kernel
theorem d48_89 : dk c48 89 (.isub) 1 := by decide +kernel
theorem d48_90 : dk c48 90 (.istore 6) 2 := by decide +kernel
theorem d48_92 : dk c48 92 (.iload 6) 2 := by decide +kernel
theorem d48_94 : dk c48 94 (.istore 7) 2 := by decide +kernel
theorem d48_96 : dk c48 96 (.iload 7) 2 := by decide +kernel
theorem d48_98 : dk c48 98 (.aload_n 0) 1 := by decide +kernel
theorem d48_99 : dk c48 99 (.iload 5) 2 := by decide +kernel
theorem d48_101 : dk c48 101 (.invokevirtual 36) 3 := by decide +kernel
theorem d48_104 : dk c48 104 (.if_icmp .lt 116) 3 := by decide +kernel
theorem d48_220 : dk c48 220 (.iinc 5 1) 3 := by decide +kernel
theorem d48_223 : dk c48 223 (.goto (-152)) 3 := by decide +kernel
theorem d48_107 : dk c48 107 (.iload 6) 2 := by decide +kernel
theorem d48_109 : dk c48 109 (.iload 7) 2 := by decide +kernel
theorem d48_111 : dk c48 111 (.isub) 1 := by decide +kernel
theorem d48_112 : dk c48 112 (.istore 8) 2 := by decide +kernel
theorem d48_126 : dk c48 126 (.newarray .int) 2 := by decide +kernel
theorem d48_128 : dk c48 128 (.astore 9) 2 := by decide +kernel
theorem d48_130 : dk c48 130 (.iconst 0) 1 := by decide +kernel
theorem d48_131 : dk c48 131 (.istore 10) 2 := by decide +kernel
theorem d48_133 : dk c48 133 (.iload 10) 2 := by decide +kernel
theorem d48_135 : dk c48 135 (.aload 9) 2 := by decide +kernel
theorem d48_137 : dk c48 137 (.arraylength) 1 := by decide +kernel
theorem d48_138 : dk c48 138 (.if_icmp .ge 65) 3 := by decide +kernel
theorem d48_171 : dk c48 171 (.istore 11) 2 := by decide +kernel
theorem d48_173 : dk c48 173 (.aload 9) 2 := by decide +kernel
theorem d48_175 : dk c48 175 (.iload 10) 2 := by decide +kernel
theorem d48_177 : dk c48 177 (.iload 5) 2 := by decide +kernel
theorem d48_179 : dk c48 179 (.iconst 1) 1 := by decide +kernel
theorem d48_180 : dk c48 180 (.isub) 1 := by decide +kernel
theorem d48_181 : dk c48 181 (.iload 11) 2 := by decide +kernel
theorem d48_183 : dk c48 183 (.isub) 1 := by decide +kernel
theorem d48_184 : dk c48 184 (.aload_n 0) 1 := by decide +kernel
theorem d48_185 : dk c48 185 (.getfield 23) 3 := by decide +kernel
theorem d48_188 : dk c48 188 (.iadd) 1 := by decide +kernel
theorem d48_189 : dk c48 189 (.aload_n 0) 1 := by decide +kernel
theorem d48_190 : dk c48 190 (.getfield 23) 3 := by decide +kernel
theorem d48_193 : dk c48 193 (.irem) 1 := by decide +kernel
theorem d48_194 : dk c48 194 (.iconst 1) 1 := by decide +kernel
theorem d48_195 : dk c48 195 (.iadd) 1 := by decide +kernel
theorem d48_196 : dk c48 196 (.iastore) 1 := by decide +kernel
theorem d48_197 : dk c48 197 (.iinc 10 1) 3 := by decide +kernel
theorem d48_200 : dk c48 200 (.goto (-67)) 3 := by decide +kernel
theorem d48_141 : dk c48 141 (.iload 8) 2 := by decide +kernel
theorem d48_143 : dk c48 143 (.iload_n 3) 1 := by decide +kernel
theorem d48_144 : dk c48 144 (.if_icmp .ge 20) 3 := by decide +kernel
theorem d48_147 : dk c48 147 (.iconst 1) 1 := by decide +kernel
theorem d48_148 : dk c48 148 (.aload_n 0) 1 := by decide +kernel
theorem d48_149 : dk c48 149 (.getfield 29) 3 := by decide +kernel
theorem d48_152 : dk c48 152 (.iload 8) 2 := by decide +kernel
theorem d48_154 : dk c48 154 (.imul) 1 := by decide +kernel
theorem d48_155 : dk c48 155 (.iload 10) 2 := by decide +kernel
theorem d48_157 : dk c48 157 (.iadd) 1 := by decide +kernel
theorem d48_158 : dk c48 158 (.iload_n 2) 1 := by decide +kernel
theorem d48_159 : dk c48 159 (.irem) 1 := by decide +kernel
theorem d48_160 : dk c48 160 (.iadd) 1 := by decide +kernel
theorem d48_161 : dk c48 161 (.goto 10) 3 := by decide +kernel
theorem d48_164 : dk c48 164 (.iconst 1) 1 := by decide +kernel
theorem d48_165 : dk c48 165 (.iload 4) 2 := by decide +kernel
theorem d48_167 : dk c48 167 (.iadd) 1 := by decide +kernel
theorem d48_168 : dk c48 168 (.iload 10) 2 := by decide +kernel
theorem d48_170 : dk c48 170 (.iadd) 1 := by decide +kernel
theorem d48_203 : dk c48 203 (.aload 9) 2 := by decide +kernel
theorem d48_205 : dk c48 205 (.invokestatic 85) 3 := by decide +kernel
theorem own_pd15 : parseMethodDescriptor "([I)V" = some ⟨[(.array .int)], none⟩ := by decide +kernel
theorem d48_208 : dk c48 208 (.aload_n 1) 1 := by decide +kernel
theorem d48_209 : dk c48 209 (.iload 7) 2 := by decide +kernel
theorem d48_211 : dk c48 211 (.aload 9) 2 := by decide +kernel
theorem d48_213 : dk c48 213 (.aastore) 1 := by decide +kernel
theorem d48_214 : dk c48 214 (.iinc 7 (-1)) 3 := by decide +kernel
theorem d48_217 : dk c48 217 (.goto (-121)) 3 := by decide +kernel
theorem d48_114 : dk c48 114 (.iload_n 2) 1 := by decide +kernel
theorem d48_115 : dk c48 115 (.ifCond .ne 7) 3 := by decide +kernel
theorem d48_118 : dk c48 118 (.iconst 0) 1 := by decide +kernel
theorem d48_119 : dk c48 119 (.goto 7) 3 := by decide +kernel
theorem d48_122 : dk c48 122 (.aload_n 0) 1 := by decide +kernel
theorem d48_123 : dk c48 123 (.getfield 29) 3 := by decide +kernel
theorem d48_27 : dk c48 27 (.iload_n 2) 1 := by decide +kernel
theorem d48_28 : dk c48 28 (.ifCond .ne 7) 3 := by decide +kernel
theorem d48_31 : dk c48 31 (.iconst 0) 1 := by decide +kernel
theorem d48_32 : dk c48 32 (.goto 11) 3 := by decide +kernel
theorem d48_43 : dk c48 43 (.istore 4) 2 := by decide +kernel
theorem d48_45 : dk c48 45 (.iload_n 2) 1 := by decide +kernel
theorem d48_46 : dk c48 46 (.ifCond .le 22) 3 := by decide +kernel
theorem d48_49 : dk c48 49 (.iload 4) 2 := by decide +kernel
theorem d48_51 : dk c48 51 (.aload_n 0) 1 := by decide +kernel
theorem d48_52 : dk c48 52 (.getfield 29) 3 := by decide +kernel
theorem d48_55 : dk c48 55 (.iadd) 1 := by decide +kernel
theorem d48_56 : dk c48 56 (.iload_n 2) 1 := by decide +kernel
theorem d48_57 : dk c48 57 (.if_icmp .le 11) 3 := by decide +kernel
theorem d48_60 : dk c48 60 (.iload_n 2) 1 := by decide +kernel
theorem d48_61 : dk c48 61 (.aload_n 0) 1 := by decide +kernel
theorem d48_62 : dk c48 62 (.getfield 29) 3 := by decide +kernel
theorem d48_65 : dk c48 65 (.isub) 1 := by decide +kernel
theorem d48_66 : dk c48 66 (.istore 4) 2 := by decide +kernel
theorem d48_35 : dk c48 35 (.aload_n 0) 1 := by decide +kernel
theorem d48_36 : dk c48 36 (.getfield 29) 3 := by decide +kernel
theorem d48_39 : dk c48 39 (.iload_n 3) 1 := by decide +kernel
theorem d48_40 : dk c48 40 (.imul) 1 := by decide +kernel
theorem d48_41 : dk c48 41 (.iload_n 2) 1 := by decide +kernel
theorem d48_42 : dk c48 42 (.irem) 1 := by decide +kernel
theorem own_ef20 (m : MethodId) (x0 : Addr) : entryFrame m #[(.ref x0)] 12 = mkF m 0 #[.val (.ref x0), .unset, .unset, .unset, .unset, .unset, .unset, .unset, .unset, .unset, .unset, .unset] [] := by first | (simp [entryFrame, mkF, argsToLocals, Value.category]; done) | rfl
def own_bksQ (Z : State) (a : Addr) (b : Addr) (kb : ClassId) (np : Nat) (nw : Nat) (nr : Nat) (us : List Value) (h0 : Heap) (n0 : Nat) (v : Option Value) (h : Heap) (L : List Loc) : Prop := ∃ (rr : Addr), ∃ (kr : ClassId), ∃ (rs : List Value), v = some (.ref rr) ∧ Fr n0 L ∧ Keep h0 h [] ∧ (Arv Z h rr kr (.array .int) (Int32.ofNat np) rs .null) ∧ (own_R Z h h0.size h.size (fun zz => zz < np) rs) ∧ (rs.length = np) ∧ (h0.size ≤ rr)
abbrev own_bksR : Room := { frames := 4, cells := 40, slots := 200, locals := 79 }
theorem own_bks (l : Launch) (Z : State) (a0 : Array Value) (hw : ∀ d ∈ tables_1, d.before a0 Z = true) (ws : List Jvm.Cond) (a : Addr) (b : Addr) (kb : ClassId) (np : Nat) (nw : Nat) (nr : Nat) (us : List Value) (h0 : Heap) (n0 : Nat) (Z0 : n0 ≤ h0.size) (pr1 : Exa Z h0 a zC2) (pr2 : Fld Z h0 a zC2 "workers" "I" (.int (Int32.ofNat nw))) (pr3 : Fld Z h0 a zC2 "owners" "[I" (.ref b)) (pr4 : Arv Z h0 b kb .int (Int32.ofNat np) us (Value.int 0)) (pr5 : Fld Z h0 a zC2 "backupsEach" "I" (.int (Int32.ofNat nr))) (pr6 : np ≤ 7) (pr7 : 1 ≤ nw) (pr8 : nw ≤ 4) (pr9 : nw ≤ np) (pr10 : 1 ≤ nr) (pr11 : nr = 1 ∨ nr < nw) :
    own_M l yN24 prog_94_method_9_code 12 (some (.array (.array .int))) ws own_bksR #[(.ref a)] Z h0 (own_bksQ Z a b kb np nw nr us h0 n0) := by
 refine own_go (plainFor_of_name own_pn23) (fun m => own_ef20 m a ) ?_
 intro p e s m below meth c s₁ Bd hx hby hml hZ hh hown hnm X0 e0
 have N0 := Fr.nil n0
 have K0 : Keep h0 h0 [] := Keep.refl h0 _
 have hq0 := pr6
 have hq1 := pr7
 have hq2 := pr8
 have hq3 := pr9
 have hq4 := pr10
 have hq5 := pr11
 refine own_st (g' := (mkF m 1 #[oR a, .unset, .unset, .unset, .unset, .unset, .unset, .unset, .unset, .unset, .unset, .unset] [(.ref a)])) (fun _ kt => XS.aloadN X0.here hx rfl (hb hby d48_0) rfl rfl kt) ?_
 obtain ⟨T903, X903, e903, st903⟩ := getF X0 hx hZ hown (host := "") (Or.inl (own_k hw 22 rfl)) Via.refl e0 pr3 (g := (mkF m 1 #[oR a, .unset, .unset, .unset, .unset, .unset, .unset, .unset, .unset, .unset, .unset, .unset] [(.ref a)])) rfl rfl (hb hby d48_1)
 refine own_st st903 ?_
 refine own_st (g' := (mkF m 5 #[oR a, .unset, .unset, .unset, .unset, .unset, .unset, .unset, .unset, .unset, .unset, .unset] [vJ np])) (own_alen X903 hx hZ e903 pr4 (g := (mkF m 4 #[oR a, .unset, .unset, .unset, .unset, .unset, .unset, .unset, .unset, .unset, .unset, .unset] [(.ref b)])) rfl rfl (hb hby d48_4)) ?_
 obtain ⟨T904, h904, k904, X904, e904, E904, A904, B904, O904, st904⟩ := newRA X903 hx hZ (C := "[I") (ty := .int) hown (by decide) (own_k hw 420 rfl) (own_k hw 251 rfl) e903 (g := (mkF m 5 #[oR a, .unset, .unset, .unset, .unset, .unset, .unset, .unset, .unset, .unset, .unset, .unset] [vJ np])) rfl (hb hby d48_5) rfl (own_nn (by omega)) (cap := 7) (by rw [own_tn (by omega)]; omega) (by decide) (by decide) (by decide) (ad := "[[I") (by decide)
 obtain ⟨b904, g904⟩ : ∃ z, z = h0.size := ⟨_, rfl⟩
 rw [← g904] at A904 B904 st904
 have Z905 := Nat.le_trans Z0 E904.1
 have K905 := (Keep.ext K0 E904)
 have ge_b904 : n0 ≤ b904 := Nat.le_trans Z0 (Nat.le_of_eq g904.symm)
 have F906 : Arv Z h904 b904 k904 (.array .int) (Int32.ofNat np) (List.replicate np .null) .null := (Arv.new A904 (own_nn (by omega))).pad (pad_rep [] .null np)
 refine own_st st904 ?_
 refine own_st (g' := (mkF m 10 #[oR a, oR b904, .unset, .unset, .unset, .unset, .unset, .unset, .unset, .unset, .unset, .unset] [(.ref a)])) (fun _ kt => XS.astoreN X904.here hx rfl (hb hby d48_8) rfl rfl (l' := #[oR a, oR b904, .unset, .unset, .unset, .unset, .unset, .unset, .unset, .unset, .unset, .unset]) rfl (XS.aloadN X904.here hx rfl (hb hby d48_9) rfl rfl kt)) ?_
 have F907 := (Fld.ext E904 pr2)
 obtain ⟨T908, X908, e908, st908⟩ := getF X904 hx hZ hown (host := "") (Or.inl (own_k hw 17 rfl)) Via.refl e904 F907 (g := (mkF m 10 #[oR a, oR b904, .unset, .unset, .unset, .unset, .unset, .unset, .unset, .unset, .unset, .unset] [(.ref a)])) rfl rfl (hb hby d48_10)
 refine own_st st908 ?_
 refine own_st (g' := (mkF m 16 #[oR a, oR b904, oI ((Int32.ofNat nw) - (1 : Int32)), .unset, .unset, .unset, .unset, .unset, .unset, .unset, .unset, .unset] [])) (fun _ kt => XS.iconst X908.here hx rfl (hb hby d48_13) (XS.isub X908.here hx rfl (hb hby d48_14) rfl (XS.istoreN X908.here hx rfl (hb hby d48_15) rfl (l' := #[oR a, oR b904, oI ((Int32.ofNat nw) - (1 : Int32)), .unset, .unset, .unset, .unset, .unset, .unset, .unset, .unset, .unset]) rfl kt))) ?_
 obtain ⟨v909, hv909⟩ : ∃ z : Int32, z = ((Int32.ofNat nw) - (1 : Int32)) := ⟨_, rfl⟩
 rw [← hv909]
 refine own_st (g' := (mkF m 17 #[oR a, oR b904, oI v909, .unset, .unset, .unset, .unset, .unset, .unset, .unset, .unset, .unset] [(.ref a)])) (fun _ kt => XS.aloadN X908.here hx rfl (hb hby d48_16) rfl rfl kt) ?_
 have F910 := (Fld.ext E904 pr3)
 obtain ⟨T911, X911, e911, st911⟩ := getF X908 hx hZ hown (host := "") (Or.inl (own_k hw 22 rfl)) Via.refl e908 F910 (g := (mkF m 17 #[oR a, oR b904, oI v909, .unset, .unset, .unset, .unset, .unset, .unset, .unset, .unset, .unset] [(.ref a)])) rfl rfl (hb hby d48_17)
 refine own_st st911 ?_
 have F912 := (pr4.ext E904)
 refine own_st (g' := (mkF m 21 #[oR a, oR b904, oI v909, .unset, .unset, .unset, .unset, .unset, .unset, .unset, .unset, .unset] [vJ np])) (own_alen X911 hx hZ e911 F912 (g := (mkF m 20 #[oR a, oR b904, oI v909, .unset, .unset, .unset, .unset, .unset, .unset, .unset, .unset, .unset] [(.ref b)])) rfl rfl (hb hby d48_20)) ?_
 refine own_st (g' := (mkF m 22 #[oR a, oR b904, oI v909, .unset, .unset, .unset, .unset, .unset, .unset, .unset, .unset, .unset] [(.ref a), vJ np])) (fun _ kt => XS.aloadN X911.here hx rfl (hb hby d48_21) rfl rfl kt) ?_
 obtain ⟨T913, X913, e913, st913⟩ := getF X911 hx hZ hown (host := "") (Or.inl (own_k hw 17 rfl)) Via.refl e911 F907 (g := (mkF m 22 #[oR a, oR b904, oI v909, .unset, .unset, .unset, .unset, .unset, .unset, .unset, .unset, .unset] [(.ref a), vJ np])) rfl rfl (hb hby d48_22)
 refine own_st st913 ?_
 refine own_st (g' := (mkF m 27 #[oR a, oR b904, oI v909, oI ((Int32.ofNat np) / (Int32.ofNat nw)), .unset, .unset, .unset, .unset, .unset, .unset, .unset, .unset] [])) (fun _ kt => XS.idiv X913.here hx rfl (hb hby d48_25) rfl (own_nz hq1 (by omega)) (XS.istoreN X913.here hx rfl (hb hby d48_26) rfl (l' := #[oR a, oR b904, oI v909, oI ((Int32.ofNat np) / (Int32.ofNat nw)), .unset, .unset, .unset, .unset, .unset, .unset, .unset, .unset]) rfl kt)) ?_
 obtain ⟨v914, hv914⟩ : ∃ z : Int32, z = ((Int32.ofNat np) / (Int32.ofNat nw)) := ⟨_, rfl⟩
 rw [← hv914]
 refine own_joinT (α := Int32) X913 e913 (gj := fun q => (mkF m 68 #[oR a, oR b904, oI v909, oI v914, oI q, .unset, .unset, .unset, .unset, .unset, .unset, .unset] [])) (P := fun q => True) ?_ (fun J915 => ?_)
 ·
  rintro T915 l4 hj915 X915 e915
  try dsimp only
  refine own_st (g' := (mkF m 71 #[oR a, oR b904, oI v909, oI v914, oI l4, oI 1, .unset, .unset, .unset, .unset, .unset, .unset] [])) (fun _ kt => XS.iconst X915.here hx rfl (hb hby d48_68) (XS.istore X915.here hx rfl (hb hby d48_69) rfl (l' := #[oR a, oR b904, oI v909, oI v914, oI l4, oI 1, .unset, .unset, .unset, .unset, .unset, .unset]) rfl kt)) ?_
  refine own_loopH (α := Nat × List Value × Slot × Slot × Slot × Slot × Slot × Slot) X915 (cs := fun kk => (1 + (nw - kk) * 8)) (sl := fun kk => (7 + (nw - kk) * 24)) (gj := fun q => (mkF m 71 #[oR a, oR b904, oI v909, oI v914, oI l4, oJ q.1, q.2.2.1, q.2.2.2.1, q.2.2.2.2.1, q.2.2.2.2.2.1, q.2.2.2.2.2.2.1, q.2.2.2.2.2.2.2] [])) (P := fun kk L_ h_ q => (Fr n0 L_) ∧ (n0 ≤ h_.size) ∧ (Keep h0 h_ []) ∧ (q.2.2.1 = Slot.unset ∨ ∃ x, q.2.2.1 = Slot.val (.int x)) ∧ (q.2.2.2.1 = Slot.unset ∨ ∃ x, q.2.2.2.1 = Slot.val (.int x)) ∧ (q.2.2.2.2.1 = Slot.unset ∨ ∃ x, q.2.2.2.2.1 = Slot.val (.int x)) ∧ (q.2.2.2.2.2.1 = Slot.unset ∨ ∃ x, q.2.2.2.2.2.1 = Slot.val (.ref x)) ∧ (q.2.2.2.2.2.2.1 = Slot.unset ∨ ∃ x, q.2.2.2.2.2.2.1 = Slot.val (.int x)) ∧ (q.2.2.2.2.2.2.2 = Slot.unset ∨ ∃ x, q.2.2.2.2.2.2.2 = Slot.val (.int x)) ∧ (Exa Z h_ a zC2) ∧ (Fld Z h_ a zC2 "workers" "I" (.int (Int32.ofNat nw))) ∧ (Fld Z h_ a zC2 "owners" "[I" (.ref b)) ∧ (Arv Z h_ b kb .int (Int32.ofNat np) us (Value.int 0)) ∧ (Fld Z h_ a zC2 "backupsEach" "I" (.int (Int32.ofNat nr))) ∧ (Arv Z h_ b904 k904 (.array .int) (Int32.ofNat np) q.2.1 .null) ∧ (own_R Z h_ (b904 + 1) h_.size (fun zz => zz < ((q.1 - 1) * np / nw)) q.2.1) ∧ (q.2.1.length = np ∧ 1 ≤ q.1 ∧ q.1 ≤ nw + 1 ∧ nw + 1 - q.1 = kk)) ?_ (fun J916 => ?_)
  ·
   rintro kk ih916 T916 L916 h916 ⟨k, vs, sv916_6, sv916_7, sv916_8, sv916_9, sv916_10, sv916_11⟩ ⟨N916, Z916, K916, hsv916_6, hsv916_7, hsv916_8, hsv916_9, hsv916_10, hsv916_11, F917, F918, F919, F920, F921, F922, F923, hj916⟩ X916 e916
   try dsimp only at hsv916_6 hsv916_7 hsv916_8 hsv916_9 hsv916_10 hsv916_11 F917 F918 F919 F920 F921 F922 F923 hj916 X916 ⊢
   have ho := hj916
   refine own_st (g' := (mkF m 74 #[oR a, oR b904, oI v909, oI v914, oI l4, oJ k, sv916_6, sv916_7, sv916_8, sv916_9, sv916_10, sv916_11] [(.ref a), vJ k])) (fun _ kt => XS.iload X916.here hx rfl (hb hby d48_71) rfl (XS.aloadN X916.here hx rfl (hb hby d48_73) rfl rfl kt)) ?_
   obtain ⟨T924, X924, e924, st924⟩ := getF X916 hx hZ hown (host := "") (Or.inl (own_k hw 17 rfl)) Via.refl e916 F918 (g := (mkF m 74 #[oR a, oR b904, oI v909, oI v914, oI l4, oJ k, sv916_6, sv916_7, sv916_8, sv916_9, sv916_10, sv916_11] [(.ref a), vJ k])) rfl rfl (hb hby d48_74)
   refine own_st st924 ?_
   by_cases hc925 : (Int32.ofNat nw) < (Int32.ofNat k)
   ·
    refine own_st (g' := (mkF m 227 #[oR a, oR b904, oI v909, oI v914, oI l4, oJ k, sv916_6, sv916_7, sv916_8, sv916_9, sv916_10, sv916_11] [(.ref b904)])) (fun _ kt => XS.icmpYes X924.here hx rfl (pc0 := 77) (pc' := 226) rfl (hb hby d48_77) rfl (XT.ii_gt_t hc925) (by decide) (by decide) (XS.aloadN X924.here hx rfl (hb hby d48_226) rfl rfl kt)) ?_
    have hke : k = nw + 1 := by have := (own_ige (by omega) (by omega)).mp hc925; omega
    have Q926 : own_R Z h916 h0.size h916.size (fun zz => zz < np) vs := (own_R_lo (own_R_mono F923 (fun i hi => by have hi2 : i < np := hi; show i < ((k - 1) * np / nw); rw [hke, Nat.add_sub_cancel, Nat.mul_div_cancel_left _ (by omega)]; exact hi2)) (by have := (Nat.le_trans K0.1 (Nat.le_of_eq g904.symm)); omega))
    obtain ⟨fs, hr, hrun, hended, hW, hsame⟩ := X924.leave (v := some (.ref b904)) (fun h => by rw [Bd.returns] at h; cases h)
    refine own_end (own_retA X924 hx Bd.returns rfl rfl rfl (hb hby d48_227) hr) ⟨_, hrun, hended, _, _, rfl, ?_, ⟨_, rfl⟩, hW, hsame.mono (by show _ ≤ (40 : Nat); (try dsimp only [Pt.cells, Pt.slots]); omega) (by show _ ≤ (200 : Nat); (try dsimp only [Pt.cells, Pt.slots]); omega)⟩
    show own_bksQ Z _ _ _ _ _ _ _ h0 n0 _ T924.heap _
    rw [e924]
    exact ⟨b904, k904, vs, rfl, N916, K916, F922, Q926, ho.1, (Nat.le_trans K0.1 (Nat.le_of_eq g904.symm))⟩
   ·
    have hk1 : k ≤ nw := Nat.le_of_not_lt fun g => hc925 ((own_ige (by omega) (by omega)).mpr g)
    refine own_st (g' := (mkF m 85 #[oR a, oR b904, oI v909, oI v914, oI l4, oJ k, sv916_6, sv916_7, sv916_8, sv916_9, sv916_10, sv916_11] [(.int ((Int32.ofNat k) + (1 : Int32))), (.ref a)])) (fun _ kt => XS.icmpNo X924.here hx rfl (hb hby d48_77) rfl (XT.ii_gt_f hc925) (XS.aloadN X924.here hx rfl (hb hby d48_80) rfl rfl (XS.iload X924.here hx rfl (hb hby d48_81) rfl (XS.iconst X924.here hx rfl (hb hby d48_83) (XS.iadd X924.here hx rfl (hb hby d48_84) rfl kt))))) ?_
    rw [own_succ (n := k) (by omega)]
    obtain ⟨cl928, hcl928, hob928⟩ := Exa.cell F917
    obtain ⟨_, _, ⟨T927, L927, k927, n927⟩, -, X927, ⟨Lc927, hQ927, l927, y927, z927⟩, st927⟩ := X924.privateBack hx (y := yN2) hown (mvT hZ (own_k hw 24 rfl)) (mvT hZ (own_k hw 25 rfl)) (Kit.selects_private (by decide) (mvT hZ (own_k hw 5 rfl)) (mvP hZ (own_k hw 26 rfl)) (mvT hZ (own_k hw 25 rfl))) (Cond.privateMethod_at (mvP hZ (own_k hw 26 rfl) (args := #[]))) (mvT hZ (own_k hw 27 rfl)) (by decide) (backOf (W := 0) (own_fi l Z a0 hw [] a b kb np nw us (k + 1) h916 n0 Z916 F917 F918 F919 F920 hq0 hq1 hq2 (show 1 ≤ (k + 1) from (by omega)) (show (k + 1) ≤ 5 from (by omega))) hZ (own_k hw 27 rfl) (own_k hw 6 rfl) (by decide) (by decide)) (g := (mkF m 85 #[oR a, oR b904, oI v909, oI v914, oI l4, oJ k, sv916_6, sv916_7, sv916_8, sv916_9, sv916_10, sv916_11] [vJ (k + 1), (.ref a)])) rfl hml.symm (Steps.refl _) (a := a) (by rw [e924]; exact hcl928) hob928 (argsL := [vJ (k + 1)]) (rest := []) (lenOf own_pd3 rfl) rfl (own_w0 rfl rfl) (hb hby d48_85) (fun _ _ => ⟨rfl, e924, (by show _ + 0 ≤ (40 : Nat); (try dsimp only [Pt.cells, Pt.slots]); omega), (by show _ + 0 ≤ (200 : Nat); (try dsimp only [Pt.cells, Pt.slots]); omega)⟩)
    dsimp only [Pt.U, Pt.locs, Pt.cells, Pt.slots] at X927 l927 y927 z927 st927 hQ927
    subst l927 y927 z927
    obtain ⟨rfl, N927, e927⟩ := hQ927
    have N929 := Fr.app N916 N927
    refine own_tr st927 ?_
    refine own_st (g' := (mkF m 96 #[oR a, oR b904, oI v909, oI v914, oI l4, oJ k, oI ((Int32.ofNat (((k + 1) - 1) * np / nw)) - (1 : Int32)), oI ((Int32.ofNat (((k + 1) - 1) * np / nw)) - (1 : Int32)), sv916_8, sv916_9, sv916_10, sv916_11] [])) (fun _ kt => XS.iconst X927.here hx rfl (hb hby d48_88) (XS.isub X927.here hx rfl (hb hby d48_89) rfl (XS.istore X927.here hx rfl (hb hby d48_90) rfl (l' := #[oR a, oR b904, oI v909, oI v914, oI l4, oJ k, oI ((Int32.ofNat (((k + 1) - 1) * np / nw)) - (1 : Int32)), sv916_7, sv916_8, sv916_9, sv916_10, sv916_11]) (by rcases hsv916_6 with rfl | ⟨_, rfl⟩ <;> rfl) (XS.iload X927.here hx rfl (hb hby d48_92) rfl (XS.istore X927.here hx rfl (hb hby d48_94) rfl (l' := #[oR a, oR b904, oI v909, oI v914, oI l4, oJ k, oI ((Int32.ofNat (((k + 1) - 1) * np / nw)) - (1 : Int32)), oI ((Int32.ofNat (((k + 1) - 1) * np / nw)) - (1 : Int32)), sv916_8, sv916_9, sv916_10, sv916_11]) (by rcases hsv916_7 with rfl | ⟨_, rfl⟩ <;> rfl) kt))))) ?_
    have hfl := own_fr_le (w := k) hq1 hq2 hq0 hk1
    refine own_loopH (α := Nat × List Value × Slot × Slot × Slot × Slot) X927 (cs := fun kk => (1 + (k - 1) * 8 + (((k + 1 - 1) * np / nw) - kk))) (sl := fun kk => (7 + (k - 1) * 24 + (((k + 1 - 1) * np / nw) - kk) * 3)) (gj := fun q => (mkF m 96 #[oR a, oR b904, oI v909, oI v914, oI l4, oJ k, oI ((Int32.ofNat (((k + 1) - 1) * np / nw)) - (1 : Int32)), oI ((Int32.ofNat q.1) - (1 : Int32)), q.2.2.1, q.2.2.2.1, q.2.2.2.2.1, q.2.2.2.2.2] [])) (P := fun kk L_ h_ q => (Fr n0 L_) ∧ (n0 ≤ h_.size) ∧ (Keep h0 h_ []) ∧ (q.2.2.1 = Slot.unset ∨ ∃ x, q.2.2.1 = Slot.val (.int x)) ∧ (q.2.2.2.1 = Slot.unset ∨ ∃ x, q.2.2.2.1 = Slot.val (.ref x)) ∧ (q.2.2.2.2.1 = Slot.unset ∨ ∃ x, q.2.2.2.2.1 = Slot.val (.int x)) ∧ (q.2.2.2.2.2 = Slot.unset ∨ ∃ x, q.2.2.2.2.2 = Slot.val (.int x)) ∧ (Exa Z h_ a zC2) ∧ (Fld Z h_ a zC2 "workers" "I" (.int (Int32.ofNat nw))) ∧ (Fld Z h_ a zC2 "owners" "[I" (.ref b)) ∧ (Arv Z h_ b kb .int (Int32.ofNat np) us (Value.int 0)) ∧ (Fld Z h_ a zC2 "backupsEach" "I" (.int (Int32.ofNat nr))) ∧ (Arv Z h_ b904 k904 (.array .int) (Int32.ofNat np) q.2.1 .null) ∧ (own_R Z h_ (b904 + 1) h_.size (fun zz => zz < ((k - 1) * np / nw) ∨ (q.1 ≤ zz ∧ zz < ((k + 1 - 1) * np / nw))) q.2.1) ∧ (q.2.1.length = np ∧ ((k - 1) * np / nw) ≤ q.1 ∧ q.1 ≤ ((k + 1 - 1) * np / nw) ∧ q.1 = kk)) ?_ (fun J930 => ?_)
    ·
     rintro kk ih930 T930 L930 h930 ⟨jj, vs, sv930_8, sv930_9, sv930_10, sv930_11⟩ ⟨N930, Z930, K930, hsv930_8, hsv930_9, hsv930_10, hsv930_11, F931, F932, F933, F934, F935, F936, F937, hj930⟩ X930 e930
     try dsimp only at hsv930_8 hsv930_9 hsv930_10 hsv930_11 F931 F932 F933 F934 F935 F936 F937 hj930 X930 ⊢
     have hm := hj930
     have K2_938 : Keep h930 h930 [b904] := Keep.refl _ _
     refine own_st (g' := (mkF m 101 #[oR a, oR b904, oI v909, oI v914, oI l4, oJ k, oI ((Int32.ofNat (((k + 1) - 1) * np / nw)) - (1 : Int32)), oI ((Int32.ofNat jj) - (1 : Int32)), sv930_8, sv930_9, sv930_10, sv930_11] [vJ k, (.ref a), (.int ((Int32.ofNat jj) - (1 : Int32)))])) (fun _ kt => XS.iload X930.here hx rfl (hb hby d48_96) rfl (XS.aloadN X930.here hx rfl (hb hby d48_98) rfl rfl (XS.iload X930.here hx rfl (hb hby d48_99) rfl kt))) ?_
     obtain ⟨cl940, hcl940, hob940⟩ := Exa.cell F931
     obtain ⟨_, _, ⟨T939, L939, k939, n939⟩, -, X939, ⟨Lc939, hQ939, l939, y939, z939⟩, st939⟩ := X930.privateBack hx (y := yN2) hown (mvT hZ (own_k hw 24 rfl)) (mvT hZ (own_k hw 25 rfl)) (Kit.selects_private (by decide) (mvT hZ (own_k hw 5 rfl)) (mvP hZ (own_k hw 26 rfl)) (mvT hZ (own_k hw 25 rfl))) (Cond.privateMethod_at (mvP hZ (own_k hw 26 rfl) (args := #[]))) (mvT hZ (own_k hw 27 rfl)) (by decide) (backOf (W := 1) (own_fi l Z a0 hw [] a b kb np nw us k h930 n0 Z930 F931 F932 F933 F934 hq0 hq1 hq2 (show 1 ≤ k from (by omega)) (show k ≤ 5 from (by omega))) hZ (own_k hw 27 rfl) (own_k hw 6 rfl) (by decide) (by decide)) (g := (mkF m 101 #[oR a, oR b904, oI v909, oI v914, oI l4, oJ k, oI ((Int32.ofNat (((k + 1) - 1) * np / nw)) - (1 : Int32)), oI ((Int32.ofNat jj) - (1 : Int32)), sv930_8, sv930_9, sv930_10, sv930_11] [vJ k, (.ref a), (.int ((Int32.ofNat jj) - (1 : Int32)))])) rfl hml.symm (Steps.refl _) (a := a) (by rw [e930]; exact hcl940) hob940 (argsL := [vJ k]) (rest := [(.int ((Int32.ofNat jj) - (1 : Int32)))]) (lenOf own_pd3 rfl) rfl (own_w0 rfl rfl) (hb hby d48_101) (fun _ _ => ⟨rfl, e930, (by show _ + 0 ≤ (40 : Nat); (try dsimp only [Pt.cells, Pt.slots]); omega), (by show _ + 0 ≤ (200 : Nat); (try dsimp only [Pt.cells, Pt.slots]); omega)⟩)
     dsimp only [Pt.U, Pt.locs, Pt.cells, Pt.slots] at X939 l939 y939 z939 st939 hQ939
     subst l939 y939 z939
     obtain ⟨rfl, N939, e939⟩ := hQ939
     have N941 := Fr.app N930 N939
     refine own_tr st939 ?_
     by_cases hc942 : ((Int32.ofNat jj) - (1 : Int32)) < (Int32.ofNat ((k - 1) * np / nw))
     ·
      have hjl : jj ≤ ((k - 1) * np / nw) := (own_lt1 (by omega) (by omega)).mp hc942
      refine own_st (g' := (mkF m 223 #[oR a, oR b904, oI v909, oI v914, oI l4, oI ((Int32.ofNat k) + (1 : Int32)), oI ((Int32.ofNat (((k + 1) - 1) * np / nw)) - (1 : Int32)), oI ((Int32.ofNat jj) - (1 : Int32)), sv930_8, sv930_9, sv930_10, sv930_11] [])) (fun _ kt => XS.icmpYes X939.here hx rfl (pc0 := 104) (pc' := 220) rfl (hb hby d48_104) rfl (XT.ii_lt_t hc942) (by decide) (by decide) (XS.iinc X939.here hx rfl (hb hby d48_220) rfl (l' := #[oR a, oR b904, oI v909, oI v914, oI l4, oI ((Int32.ofNat k) + (1 : Int32)), oI ((Int32.ofNat (((k + 1) - 1) * np / nw)) - (1 : Int32)), oI ((Int32.ofNat jj) - (1 : Int32)), sv930_8, sv930_9, sv930_10, sv930_11]) rfl kt)) ?_
      rw [own_succ (n := k) (by omega)]
      refine own_st (g' := (mkF m 71 #[oR a, oR b904, oI v909, oI v914, oI l4, oJ (k + 1), oI ((Int32.ofNat (((k + 1) - 1) * np / nw)) - (1 : Int32)), oI ((Int32.ofNat jj) - (1 : Int32)), sv930_8, sv930_9, sv930_10, sv930_11] [])) (fun _ kt => XS.goto X939.here hx rfl (pc0 := 223) (pc' := 71) rfl (hb hby d48_223) (by decide) (by decide) kt) ?_
      have hje : jj = ((k - 1) * np / nw) := by have := hm.2.1; omega
      have Q943 : own_R Z h930 (b904 + 1) h930.size (fun zz => zz < ((k + 1 - 1) * np / nw)) vs := (own_R_mono F937 (fun i hi => by have hi2 : i < (k + 1 - 1) * np / nw := hi; show i < ((k - 1) * np / nw) ∨ (jj ≤ i ∧ i < ((k + 1 - 1) * np / nw)); omega))
      exact ih916 (nw + 1 - (k + 1)) (by omega) _ _ _ ⟨(k + 1), vs, (Slot.val (.int ((Int32.ofNat (((k + 1) - 1) * np / nw)) - (1 : Int32)))), (Slot.val (.int ((Int32.ofNat jj) - (1 : Int32)))), sv930_8, sv930_9, sv930_10, sv930_11⟩ ⟨N941, Z930, K930, (Or.inr ⟨_, rfl⟩), (Or.inr ⟨_, rfl⟩), hsv930_8, hsv930_9, hsv930_10, hsv930_11, F931, F932, F933, F934, F935, F936, Q943, ⟨hm.1, by omega, by omega, rfl⟩⟩ (X939.mono (by first | decide | exact Nat.le_add_right_of_le (by decide) | ((try dsimp only [Pt.cells, Pt.slots]); omega)) (by first | decide | exact Nat.le_add_right_of_le (by decide) | ((try dsimp only [Pt.cells, Pt.slots]); omega))) e939
     ·
      have hjl : ((k - 1) * np / nw) < jj := Nat.lt_of_not_le fun g => hc942 ((own_lt1 (by omega) (by omega)).mpr g)
      have hjo : 1 ≤ jj := Nat.lt_of_le_of_lt (Nat.zero_le _) hjl
      refine own_st (g' := (mkF m 107 #[oR a, oR b904, oI v909, oI v914, oI l4, oJ k, oI ((Int32.ofNat (((k + 1) - 1) * np / nw)) - (1 : Int32)), oI ((Int32.ofNat jj) - (1 : Int32)), sv930_8, sv930_9, sv930_10, sv930_11] [])) (fun _ kt => XS.icmpNo X939.here hx rfl (hb hby d48_104) rfl (XT.ii_lt_f hc942) kt) ?_
      rw [own_prd (n := jj) (by omega) (by omega)]
      refine own_st (g' := (mkF m 114 #[oR a, oR b904, oI v909, oI v914, oI l4, oJ k, oI ((Int32.ofNat (((k + 1) - 1) * np / nw)) - (1 : Int32)), oJ (jj - 1), oI (((Int32.ofNat (((k + 1) - 1) * np / nw)) - (1 : Int32)) - (Int32.ofNat (jj - 1))), sv930_9, sv930_10, sv930_11] [])) (fun _ kt => XS.iload X939.here hx rfl (hb hby d48_107) rfl (XS.iload X939.here hx rfl (hb hby d48_109) rfl (XS.isub X939.here hx rfl (hb hby d48_111) rfl (XS.istore X939.here hx rfl (hb hby d48_112) rfl (l' := #[oR a, oR b904, oI v909, oI v914, oI l4, oJ k, oI ((Int32.ofNat (((k + 1) - 1) * np / nw)) - (1 : Int32)), oJ (jj - 1), oI (((Int32.ofNat (((k + 1) - 1) * np / nw)) - (1 : Int32)) - (Int32.ofNat (jj - 1))), sv930_9, sv930_10, sv930_11]) (by rcases hsv930_8 with rfl | ⟨_, rfl⟩ <;> rfl) kt)))) ?_
      obtain ⟨v944, hv944⟩ : ∃ z : Int32, z = (((Int32.ofNat (((k + 1) - 1) * np / nw)) - (1 : Int32)) - (Int32.ofNat (jj - 1))) := ⟨_, rfl⟩
      rw [← hv944]
      refine own_joinT (α := Nat) X939 e939 (gj := fun q => (mkF m 126 #[oR a, oR b904, oI v909, oI v914, oI l4, oJ k, oI ((Int32.ofNat (((k + 1) - 1) * np / nw)) - (1 : Int32)), oJ (jj - 1), oI v944, sv930_9, sv930_10, sv930_11] [vJ q])) (P := fun q => q ≤ 3 ∧ (q = 0 ∨ 2 ≤ nw)) ?_ (fun J945 => ?_)
      ·
       rintro T945 nb hj945 X945 e945
       try dsimp only at hj945 ⊢
       have hnb := hj945
       obtain ⟨T946, h946, k946, X946, e946, E946, A946, B946, st946⟩ := newPE X945 hx hZ (aty := .int) (own_k hw 21 rfl) e945 (g := (mkF m 126 #[oR a, oR b904, oI v909, oI v914, oI l4, oJ k, oI ((Int32.ofNat (((k + 1) - 1) * np / nw)) - (1 : Int32)), oJ (jj - 1), oI v944, sv930_9, sv930_10, sv930_11] [vJ nb])) rfl (hb hby d48_126) rfl (own_nn (by omega)) (cap := 3) (by rw [own_tn (by omega)]; omega) (by decide) (by show _ ≤ (40 : Nat); (try dsimp only [Pt.cells, Pt.slots]); omega) (by show _ ≤ (200 : Nat); (try dsimp only [Pt.cells, Pt.slots]); omega) (ad := "[I") (by decide)
       obtain ⟨b946, g946⟩ : ∃ z, z = h930.size := ⟨_, rfl⟩
       rw [← g946] at A946 B946 st946
       have Z947 := Nat.le_trans Z930 E946.1
       have K947 := (Keep.ext K930 E946)
       have K2_947 := (Keep.ext K2_938 E946)
       have ge_b946 : n0 ≤ b946 := Nat.le_trans Z930 (Nat.le_of_eq g946.symm)
       have F948 : Arv Z h946 b946 k946 .int (Int32.ofNat nb) ((List.replicate nb (0 : Int32)).map Value.int) (.int 0) := (Arv.new A946 (own_nn (by omega))).pad (own_padI nb)
       refine own_st st946 ?_
       refine own_st (g' := (mkF m 133 #[oR a, oR b904, oI v909, oI v914, oI l4, oJ k, oI ((Int32.ofNat (((k + 1) - 1) * np / nw)) - (1 : Int32)), oJ (jj - 1), oI v944, oR b946, oI 0, sv930_11] [])) (fun _ kt => XS.astore X946.here hx rfl (hb hby d48_128) rfl rfl (l' := #[oR a, oR b904, oI v909, oI v914, oI l4, oJ k, oI ((Int32.ofNat (((k + 1) - 1) * np / nw)) - (1 : Int32)), oJ (jj - 1), oI v944, oR b946, sv930_10, sv930_11]) (by rcases hsv930_9 with rfl | ⟨_, rfl⟩ <;> rfl) (XS.iconst X946.here hx rfl (hb hby d48_130) (XS.istore X946.here hx rfl (hb hby d48_131) rfl (l' := #[oR a, oR b904, oI v909, oI v914, oI l4, oJ k, oI ((Int32.ofNat (((k + 1) - 1) * np / nw)) - (1 : Int32)), oJ (jj - 1), oI v944, oR b946, oI 0, sv930_11]) (by rcases hsv930_10 with rfl | ⟨_, rfl⟩ <;> rfl) kt))) ?_
       refine own_loopH (α := Nat × List Int32 × Slot) X946 (cs := fun kk => (1 + (k - 1) * 8 + (((k + 1 - 1) * np / nw) - jj) + 1)) (sl := fun kk => (7 + (k - 1) * 24 + (((k + 1 - 1) * np / nw) - jj) * 3 + 3)) (gj := fun q => (mkF m 133 #[oR a, oR b904, oI v909, oI v914, oI l4, oJ k, oI ((Int32.ofNat (((k + 1) - 1) * np / nw)) - (1 : Int32)), oJ (jj - 1), oI v944, oR b946, oJ q.1, q.2.2] [])) (P := fun kk L_ h_ q => (Fr n0 L_) ∧ (n0 ≤ h_.size) ∧ (Keep h0 h_ []) ∧ (Keep h930 h_ [b904]) ∧ (q.2.2 = Slot.unset ∨ ∃ x, q.2.2 = Slot.val (.int x)) ∧ (Exa Z h_ a zC2) ∧ (Fld Z h_ a zC2 "workers" "I" (.int (Int32.ofNat nw))) ∧ (Fld Z h_ a zC2 "owners" "[I" (.ref b)) ∧ (Arv Z h_ b kb .int (Int32.ofNat np) us (Value.int 0)) ∧ (Fld Z h_ a zC2 "backupsEach" "I" (.int (Int32.ofNat nr))) ∧ (Arv Z h_ b904 k904 (.array .int) (Int32.ofNat np) vs .null) ∧ (Arv Z h_ b946 k946 .int (Int32.ofNat nb) (q.2.1.map Value.int) (.int 0)) ∧ (Exa Z h_ b946 "[I") ∧ (q.2.1.length = nb ∧ q.1 ≤ nb ∧ nb - q.1 = kk)) ?_ (fun J949 => ?_)
       ·
        rintro kk ih949 T949 L949 h949 ⟨ei, ys, sv949_11⟩ ⟨N949, Z949, K949, K2_949, hsv949_11, F950, F951, F952, F953, F954, F955, F956, F957, hj949⟩ X949 e949
        try dsimp only at hsv949_11 F950 F951 F952 F953 F954 F955 F956 F957 hj949 X949 ⊢
        have hy := hj949
        refine own_st (g' := (mkF m 137 #[oR a, oR b904, oI v909, oI v914, oI l4, oJ k, oI ((Int32.ofNat (((k + 1) - 1) * np / nw)) - (1 : Int32)), oJ (jj - 1), oI v944, oR b946, oJ ei, sv949_11] [(.ref b946), vJ ei])) (fun _ kt => XS.iload X949.here hx rfl (hb hby d48_133) rfl (XS.aload X949.here hx rfl (hb hby d48_135) rfl rfl kt)) ?_
        refine own_st (g' := (mkF m 138 #[oR a, oR b904, oI v909, oI v914, oI l4, oJ k, oI ((Int32.ofNat (((k + 1) - 1) * np / nw)) - (1 : Int32)), oJ (jj - 1), oI v944, oR b946, oJ ei, sv949_11] [vJ nb, vJ ei])) (own_alen X949 hx hZ e949 F956 (g := (mkF m 137 #[oR a, oR b904, oI v909, oI v914, oI l4, oJ k, oI ((Int32.ofNat (((k + 1) - 1) * np / nw)) - (1 : Int32)), oJ (jj - 1), oI v944, oR b946, oJ ei, sv949_11] [(.ref b946), vJ ei])) rfl rfl (hb hby d48_137)) ?_
        by_cases hc958 : (Int32.ofNat ei) < (Int32.ofNat nb)
        ·
         have hei : ei < nb := (own_ige (by omega) (by omega)).mp hc958
         refine own_st (g' := (mkF m 141 #[oR a, oR b904, oI v909, oI v914, oI l4, oJ k, oI ((Int32.ofNat (((k + 1) - 1) * np / nw)) - (1 : Int32)), oJ (jj - 1), oI v944, oR b946, oJ ei, sv949_11] [])) (fun _ kt => XS.icmpNo X949.here hx rfl (hb hby d48_138) rfl (XT.ii_ge_f hc958) kt) ?_
         have hw2 : 2 ≤ nw := by omega
         refine own_joinT (α := Int32) X949 e949 (gj := fun q => (mkF m 171 #[oR a, oR b904, oI v909, oI v914, oI l4, oJ k, oI ((Int32.ofNat (((k + 1) - 1) * np / nw)) - (1 : Int32)), oJ (jj - 1), oI v944, oR b946, oJ ei, sv949_11] [(.int q)])) (P := fun q => True) ?_ (fun J959 => ?_)
         ·
          rintro T959 xv hj959 X959 e959
          try dsimp only
          refine own_st (g' := (mkF m 185 #[oR a, oR b904, oI v909, oI v914, oI l4, oJ k, oI ((Int32.ofNat (((k + 1) - 1) * np / nw)) - (1 : Int32)), oJ (jj - 1), oI v944, oR b946, oJ ei, oI xv] [(.ref a), (.int (((Int32.ofNat k) - (1 : Int32)) - xv)), vJ ei, (.ref b946)])) (fun _ kt => XS.istore X959.here hx rfl (hb hby d48_171) rfl (l' := #[oR a, oR b904, oI v909, oI v914, oI l4, oJ k, oI ((Int32.ofNat (((k + 1) - 1) * np / nw)) - (1 : Int32)), oJ (jj - 1), oI v944, oR b946, oJ ei, oI xv]) (by rcases hsv949_11 with rfl | ⟨_, rfl⟩ <;> rfl) (XS.aload X959.here hx rfl (hb hby d48_173) rfl rfl (XS.iload X959.here hx rfl (hb hby d48_175) rfl (XS.iload X959.here hx rfl (hb hby d48_177) rfl (XS.iconst X959.here hx rfl (hb hby d48_179) (XS.isub X959.here hx rfl (hb hby d48_180) rfl (XS.iload X959.here hx rfl (hb hby d48_181) rfl (XS.isub X959.here hx rfl (hb hby d48_183) rfl (XS.aloadN X959.here hx rfl (hb hby d48_184) rfl rfl kt))))))))) ?_
          obtain ⟨T960, X960, e960, st960⟩ := getF X959 hx hZ hown (host := "") (Or.inl (own_k hw 17 rfl)) Via.refl e959 F951 (g := (mkF m 185 #[oR a, oR b904, oI v909, oI v914, oI l4, oJ k, oI ((Int32.ofNat (((k + 1) - 1) * np / nw)) - (1 : Int32)), oJ (jj - 1), oI v944, oR b946, oJ ei, oI xv] [(.ref a), (.int (((Int32.ofNat k) - (1 : Int32)) - xv)), vJ ei, (.ref b946)])) rfl rfl (hb hby d48_185)
          refine own_st st960 ?_
          refine own_st (g' := (mkF m 190 #[oR a, oR b904, oI v909, oI v914, oI l4, oJ k, oI ((Int32.ofNat (((k + 1) - 1) * np / nw)) - (1 : Int32)), oJ (jj - 1), oI v944, oR b946, oJ ei, oI xv] [(.ref a), (.int ((((Int32.ofNat k) - (1 : Int32)) - xv) + (Int32.ofNat nw))), vJ ei, (.ref b946)])) (fun _ kt => XS.iadd X960.here hx rfl (hb hby d48_188) rfl (XS.aloadN X960.here hx rfl (hb hby d48_189) rfl rfl kt)) ?_
          obtain ⟨T961, X961, e961, st961⟩ := getF X960 hx hZ hown (host := "") (Or.inl (own_k hw 17 rfl)) Via.refl e960 F951 (g := (mkF m 190 #[oR a, oR b904, oI v909, oI v914, oI l4, oJ k, oI ((Int32.ofNat (((k + 1) - 1) * np / nw)) - (1 : Int32)), oJ (jj - 1), oI v944, oR b946, oJ ei, oI xv] [(.ref a), (.int ((((Int32.ofNat k) - (1 : Int32)) - xv) + (Int32.ofNat nw))), vJ ei, (.ref b946)])) rfl rfl (hb hby d48_190)
          refine own_st st961 ?_
          refine own_st (g' := (mkF m 196 #[oR a, oR b904, oI v909, oI v914, oI l4, oJ k, oI ((Int32.ofNat (((k + 1) - 1) * np / nw)) - (1 : Int32)), oJ (jj - 1), oI v944, oR b946, oJ ei, oI xv] [(.int ((((((Int32.ofNat k) - (1 : Int32)) - xv) + (Int32.ofNat nw)) - (((((Int32.ofNat k) - (1 : Int32)) - xv) + (Int32.ofNat nw)) / (Int32.ofNat nw)) * (Int32.ofNat nw)) + (1 : Int32))), vJ ei, (.ref b946)])) (fun _ kt => XS.irem X961.here hx rfl (hb hby d48_193) rfl (own_nz hq1 (by omega)) (XS.iconst X961.here hx rfl (hb hby d48_194) (XS.iadd X961.here hx rfl (hb hby d48_195) rfl kt))) ?_
          obtain ⟨v962, hv962⟩ : ∃ z : Int32, z = ((((((Int32.ofNat k) - (1 : Int32)) - xv) + (Int32.ofNat nw)) - (((((Int32.ofNat k) - (1 : Int32)) - xv) + (Int32.ofNat nw)) / (Int32.ofNat nw)) * (Int32.ofNat nw)) + (1 : Int32)) := ⟨_, rfl⟩
          rw [← hv962]
          obtain ⟨T963, h963, X963, e963, W963, V963, st963⟩ := own_ist X961 hx hZ e961 F956 (own_idx hei (by omega)) (i := ei) (own_tn (by omega)) (by rw [List.length_map]; omega) (g := (mkF m 196 #[oR a, oR b904, oI v909, oI v914, oI l4, oJ k, oI ((Int32.ofNat (((k + 1) - 1) * np / nw)) - (1 : Int32)), oJ (jj - 1), oI v944, oR b946, oJ ei, oI xv] [(.int v962), vJ ei, (.ref b946)])) rfl rfl (hb hby d48_196)
          have N963 := Fr.snoc X963 N949 ge_b946
          have Z964 := Nat.le_trans Z949 (Nat.le_of_eq (Wr.size W963).symm)
          have K964 := (Keep.wr K949 W963 (Or.inr (Nat.le_trans K930.1 (Nat.le_of_eq g946.symm))))
          have K2_964 := (Keep.wr K2_949 W963 (Or.inr (Nat.le_trans K2_938.1 (Nat.le_of_eq g946.symm))))
          have F965 : Arv Z h963 b946 k946 .int (Int32.ofNat nb) ((ys.set ei v962).map Value.int) (.int 0) := (by rw [List.map_set]; exact V963)
          refine own_st st963 ?_
          refine own_st (g' := (mkF m 200 #[oR a, oR b904, oI v909, oI v914, oI l4, oJ k, oI ((Int32.ofNat (((k + 1) - 1) * np / nw)) - (1 : Int32)), oJ (jj - 1), oI v944, oR b946, oI ((Int32.ofNat ei) + (1 : Int32)), oI xv] [])) (fun _ kt => XS.iinc X963.here hx rfl (hb hby d48_197) rfl (l' := #[oR a, oR b904, oI v909, oI v914, oI l4, oJ k, oI ((Int32.ofNat (((k + 1) - 1) * np / nw)) - (1 : Int32)), oJ (jj - 1), oI v944, oR b946, oI ((Int32.ofNat ei) + (1 : Int32)), oI xv]) rfl kt) ?_
          rw [own_succ (n := ei) (by omega)]
          refine own_st (g' := (mkF m 133 #[oR a, oR b904, oI v909, oI v914, oI l4, oJ k, oI ((Int32.ofNat (((k + 1) - 1) * np / nw)) - (1 : Int32)), oJ (jj - 1), oI v944, oR b946, oJ (ei + 1), oI xv] [])) (fun _ kt => XS.goto X963.here hx rfl (pc0 := 200) (pc' := 133) rfl (hb hby d48_200) (by decide) (by decide) kt) ?_
          have F966 := (Exa.wr W963 F950)
          have ne967 : a ≠ b946 := (Nat.ne_of_lt (Nat.lt_of_lt_of_le F931.lt (Nat.le_of_eq g946.symm)))
          have F968 := (Fld.other W963 F951 (Or.inl ne967))
          have F969 := (Fld.other W963 F952 (Or.inl ne967))
          have ne970 : b ≠ b946 := (Nat.ne_of_lt (Nat.lt_of_lt_of_le F934.lt (Nat.le_of_eq g946.symm)))
          have F971 := (Arv.other F953 W963 ne970)
          have F972 := (Fld.other W963 F954 (Or.inl ne967))
          have ne973 : b904 ≠ b946 := (Nat.ne_of_lt (Nat.lt_of_lt_of_le F936.lt (Nat.le_of_eq g946.symm)))
          have F974 := (Arv.other F955 W963 ne973)
          have F975 := (Exa.wr W963 F957)
          exact ih949 (nb - (ei + 1)) (by omega) _ _ _ ⟨(ei + 1), (ys.set ei v962), (Slot.val (.int xv))⟩ ⟨N963, Z964, K964, K2_964, (Or.inr ⟨_, rfl⟩), F966, F968, F969, F971, F972, F974, F965, F975, ⟨by rw [List.length_set]; exact hy.1, by omega, rfl⟩⟩ (X963.mono (by first | decide | exact Nat.le_add_right_of_le (by decide) | ((try dsimp only [Pt.cells, Pt.slots]); omega)) (by first | decide | exact Nat.le_add_right_of_le (by decide) | ((try dsimp only [Pt.cells, Pt.slots]); omega))) e963
         ·
          refine own_st (g' := (mkF m 144 #[oR a, oR b904, oI v909, oI v914, oI l4, oJ k, oI ((Int32.ofNat (((k + 1) - 1) * np / nw)) - (1 : Int32)), oJ (jj - 1), oI v944, oR b946, oJ ei, sv949_11] [(.int v914), (.int v944)])) (fun _ kt => XS.iload X949.here hx rfl (hb hby d48_141) rfl (XS.iloadN X949.here hx rfl (hb hby d48_143) rfl kt)) ?_
          by_cases hc976 : v944 < v914
          ·
           refine own_st (g' := (mkF m 149 #[oR a, oR b904, oI v909, oI v914, oI l4, oJ k, oI ((Int32.ofNat (((k + 1) - 1) * np / nw)) - (1 : Int32)), oJ (jj - 1), oI v944, oR b946, oJ ei, sv949_11] [(.ref a), (.int 1)])) (fun _ kt => XS.icmpNo X949.here hx rfl (hb hby d48_144) rfl (XT.ii_ge_f hc976) (XS.iconst X949.here hx rfl (hb hby d48_147) (XS.aloadN X949.here hx rfl (hb hby d48_148) rfl rfl kt))) ?_
           obtain ⟨T977, X977, e977, st977⟩ := getF X949 hx hZ hown (host := "") (Or.inl (own_k hw 19 rfl)) Via.refl e949 F954 (g := (mkF m 149 #[oR a, oR b904, oI v909, oI v914, oI l4, oJ k, oI ((Int32.ofNat (((k + 1) - 1) * np / nw)) - (1 : Int32)), oJ (jj - 1), oI v944, oR b946, oJ ei, sv949_11] [(.ref a), (.int 1)])) rfl rfl (hb hby d48_149)
           refine own_st st977 ?_
           refine own_st (g' := (mkF m 171 #[oR a, oR b904, oI v909, oI v914, oI l4, oJ k, oI ((Int32.ofNat (((k + 1) - 1) * np / nw)) - (1 : Int32)), oJ (jj - 1), oI v944, oR b946, oJ ei, sv949_11] [(.int ((1 : Int32) + ((((Int32.ofNat nr) * v944) + (Int32.ofNat ei)) - ((((Int32.ofNat nr) * v944) + (Int32.ofNat ei)) / v909) * v909)))])) (fun _ kt => XS.iload X977.here hx rfl (hb hby d48_152) rfl (XS.imul X977.here hx rfl (hb hby d48_154) rfl (XS.iload X977.here hx rfl (hb hby d48_155) rfl (XS.iadd X977.here hx rfl (hb hby d48_157) rfl (XS.iloadN X977.here hx rfl (hb hby d48_158) rfl (XS.irem X977.here hx rfl (hb hby d48_159) rfl (by rw [hv909]; exact own_nz2 hw2 (by omega)) (XS.iadd X977.here hx rfl (hb hby d48_160) rfl (XS.goto X977.here hx rfl (pc0 := 161) (pc' := 171) rfl (hb hby d48_161) (by decide) (by decide) kt)))))))) ?_
           exact J959 _ ((1 : Int32) + ((((Int32.ofNat nr) * v944) + (Int32.ofNat ei)) - ((((Int32.ofNat nr) * v944) + (Int32.ofNat ei)) / v909) * v909)) trivial X977 e977
          ·
           refine own_st (g' := (mkF m 171 #[oR a, oR b904, oI v909, oI v914, oI l4, oJ k, oI ((Int32.ofNat (((k + 1) - 1) * np / nw)) - (1 : Int32)), oJ (jj - 1), oI v944, oR b946, oJ ei, sv949_11] [(.int (((1 : Int32) + l4) + (Int32.ofNat ei)))])) (fun _ kt => XS.icmpYes X949.here hx rfl (pc0 := 144) (pc' := 164) rfl (hb hby d48_144) rfl (XT.ii_ge_t hc976) (by decide) (by decide) (XS.iconst X949.here hx rfl (hb hby d48_164) (XS.iload X949.here hx rfl (hb hby d48_165) rfl (XS.iadd X949.here hx rfl (hb hby d48_167) rfl (XS.iload X949.here hx rfl (hb hby d48_168) rfl (XS.iadd X949.here hx rfl (hb hby d48_170) rfl kt)))))) ?_
           exact J959 _ (((1 : Int32) + l4) + (Int32.ofNat ei)) trivial X949 e949
        ·
         refine own_st (g' := (mkF m 205 #[oR a, oR b904, oI v909, oI v914, oI l4, oJ k, oI ((Int32.ofNat (((k + 1) - 1) * np / nw)) - (1 : Int32)), oJ (jj - 1), oI v944, oR b946, oJ ei, sv949_11] [(.ref b946)])) (fun _ kt => XS.icmpYes X949.here hx rfl (pc0 := 138) (pc' := 203) rfl (hb hby d48_138) rfl (XT.ii_ge_t hc958) (by decide) (by decide) (XS.aload X949.here hx rfl (hb hby d48_203) rfl rfl kt)) ?_
         have hnb3 : nb ≤ 3 := by omega
         obtain ⟨_, _, ⟨T978, L978, k978, n978⟩, -, X978, ⟨Lc978, hQ978, l978, y978, z978⟩, st978⟩ := Jvm.LawKit.callS X949 hx (y := yN52) hown (mvT hZ (own_k hw 421 rfl)) (mvT hZ (own_k hw 422 rfl)) (mvT hZ (own_k hw 157 rfl)) (mvT hZ (own_k hw 423 rfl)) (by decide) (backOf (W := 0) (own_s0 l Z a0 hw [] b946 k946 nb ys h949 n0 Z949 ge_b946 F956 (show ys.length = nb from hy.1) hnb3) hZ (own_k hw 423 rfl) (own_k hw 157 rfl) (by decide) (by decide)) (g := (mkF m 205 #[oR a, oR b904, oI v909, oI v914, oI l4, oJ k, oI ((Int32.ofNat (((k + 1) - 1) * np / nw)) - (1 : Int32)), oJ (jj - 1), oI v944, oR b946, oJ ei, sv949_11] [(.ref b946)])) rfl hml.symm  (argsL := [(.ref b946)]) (rest := []) (lenOf own_pd15 rfl) rfl (own_w0 rfl rfl) (hb hby d48_205) (fun _ _ => ⟨rfl, e949, (by show _ + 0 ≤ (40 : Nat); (try dsimp only [Pt.cells, Pt.slots]); omega), (by show _ + 0 ≤ (200 : Nat); (try dsimp only [Pt.cells, Pt.slots]); omega)⟩)
         dsimp only [Pt.U, Pt.locs, Pt.cells, Pt.slots] at X978 l978 y978 z978 st978 hQ978
         subst l978 y978 z978
         obtain ⟨zs_978, rfl, N978, K978_, P979, P980⟩ := hQ978
         have N981 := Fr.app N949 N978
         have Z982 := Nat.le_trans Z949 K978_.1
         have K982 := (Keep.trans K949 K978_ (allS (Or.inr (Nat.le_trans K930.1 (Nat.le_of_eq g946.symm))) all0))
         have K2_982 := (Keep.trans K2_949 K978_ (allS (Or.inr (Nat.le_trans K2_938.1 (Nat.le_of_eq g946.symm))) all0))
         refine own_st st978 ?_
         refine own_st (g' := (mkF m 213 #[oR a, oR b904, oI v909, oI v914, oI l4, oJ k, oI ((Int32.ofNat (((k + 1) - 1) * np / nw)) - (1 : Int32)), oJ (jj - 1), oI v944, oR b946, oJ ei, sv949_11] [(.ref b946), vJ (jj - 1), (.ref b904)])) (fun _ kt => XS.aloadN X978.here hx rfl (hb hby d48_208) rfl rfl (XS.iload X978.here hx rfl (hb hby d48_209) rfl (XS.aload X978.here hx rfl (hb hby d48_211) rfl rfl kt))) ?_
         have ne983 : b904 ≠ b946 := (Nat.ne_of_lt (Nat.lt_of_lt_of_le F936.lt (Nat.le_of_eq g946.symm)))
         have F984 := (Arv.keep F955 K978_ (ninS ne983 nin0))
         have F986 := (Exa.keep F957 K978_)
         obtain ⟨cs987, As987, qs987, -⟩ := id F984
         obtain ⟨T985, h985, X985, e985, W985, V985, st985⟩ := own_ast X978 hx hZ rfl F984 rfl (own_idx (by omega) (by omega)) (i := (jj - 1)) (own_tn (by omega)) (by omega) rfl (Sto.ofVA As987 qs987 O904 (Ins.of_exa F986 (own_k hw 434 rfl))) (g := (mkF m 213 #[oR a, oR b904, oI v909, oI v914, oI l4, oJ k, oI ((Int32.ofNat (((k + 1) - 1) * np / nw)) - (1 : Int32)), oJ (jj - 1), oI v944, oR b946, oJ ei, sv949_11] [(.ref b946), vJ (jj - 1), (.ref b904)])) rfl rfl (hb hby d48_213)
         have N985 := Fr.snoc X985 N981 ge_b904
         have Z988 := Nat.le_trans Z982 (Nat.le_of_eq (Wr.size W985).symm)
         have K988 := (Keep.wr K982 W985 (Or.inr (Nat.le_trans K0.1 (Nat.le_of_eq g904.symm))))
         have K2_988 := (Keep.wr K2_982 W985 (Or.inl (List.mem_of_getElem? (i := 0) rfl)))
         have F989 : Arv Z h985 b904 k904 (.array .int) (Int32.ofNat np) (vs.set (jj - 1) (.ref b946)) .null := V985
         refine own_st st985 ?_
         refine own_st (g' := (mkF m 217 #[oR a, oR b904, oI v909, oI v914, oI l4, oJ k, oI ((Int32.ofNat (((k + 1) - 1) * np / nw)) - (1 : Int32)), oI ((Int32.ofNat (jj - 1)) + (-1 : Int32)), oI v944, oR b946, oJ ei, sv949_11] [])) (fun _ kt => XS.iinc X985.here hx rfl (hb hby d48_214) rfl (l' := #[oR a, oR b904, oI v909, oI v914, oI l4, oJ k, oI ((Int32.ofNat (((k + 1) - 1) * np / nw)) - (1 : Int32)), oI ((Int32.ofNat (jj - 1)) + (-1 : Int32)), oI v944, oR b946, oJ ei, sv949_11]) rfl kt) ?_
         rw [own_dec]
         refine own_st (g' := (mkF m 96 #[oR a, oR b904, oI v909, oI v914, oI l4, oJ k, oI ((Int32.ofNat (((k + 1) - 1) * np / nw)) - (1 : Int32)), oI ((Int32.ofNat (jj - 1)) - (1 : Int32)), oI v944, oR b946, oJ ei, sv949_11] [])) (fun _ kt => XS.goto X985.here hx rfl (pc0 := 217) (pc' := 96) rfl (hb hby d48_217) (by decide) (by decide) kt) ?_
         have F990 := (Arv.other P979 W985 (Ne.symm ne983))
         have hzl := P980
         have hrlt : h930.size > b904 := F936.lt
         have Q991 : own_R Z h985 (b904 + 1) h985.size (fun zz => zz < ((k - 1) * np / nw) ∨ (jj - 1 ≤ zz ∧ zz < ((k + 1 - 1) * np / nw))) (vs.set (jj - 1) (.ref b946)) := (own_R_add (i := jj - 1) (ys := zs_978) F937 K2_988 (Nat.lt_succ_self _) (by omega) (by have := (Nat.le_trans K2_938.1 (Nat.le_of_eq g946.symm)); omega) (by omega) (by rw [hzl]; exact F990) (fun i hi => by have hi2 : i < ((k - 1) * np / nw) ∨ (jj - 1 ≤ i ∧ i < ((k + 1 - 1) * np / nw)) := hi; show (i < ((k - 1) * np / nw) ∨ (jj ≤ i ∧ i < ((k + 1 - 1) * np / nw))) ∨ i = jj - 1; omega))
         have F992 := (Exa.wr W985 (Exa.keep F950 K978_))
         have ne993 : a ≠ b946 := (Nat.ne_of_lt (Nat.lt_of_lt_of_le F931.lt (Nat.le_of_eq g946.symm)))
         have ne994 : a ≠ b904 := (Nat.ne_of_lt (Nat.lt_of_lt_of_le pr1.lt (Nat.le_of_eq g904.symm)))
         have F995 := (Fld.other W985 (Fld.keep F951 K978_ (ninS ne993 nin0)) (Or.inl ne994))
         have F996 := (Fld.other W985 (Fld.keep F952 K978_ (ninS ne993 nin0)) (Or.inl ne994))
         have ne997 : b ≠ b946 := (Nat.ne_of_lt (Nat.lt_of_lt_of_le F934.lt (Nat.le_of_eq g946.symm)))
         have ne998 : b ≠ b904 := (Nat.ne_of_lt (Nat.lt_of_lt_of_le pr4.lt (Nat.le_of_eq g904.symm)))
         have F999 := (Arv.other (Arv.keep F953 K978_ (ninS ne997 nin0)) W985 ne998)
         have F1000 := (Fld.other W985 (Fld.keep F954 K978_ (ninS ne993 nin0)) (Or.inl ne994))
         exact ih930 (jj - 1) (by omega) _ _ _ ⟨(jj - 1), (vs.set (jj - 1) (.ref b946)), (Slot.val (.int v944)), (Slot.val (.ref b946)), (Slot.val (.int (Int32.ofNat ei))), sv949_11⟩ ⟨N985, Z988, K988, (Or.inr ⟨_, rfl⟩), (Or.inr ⟨_, rfl⟩), (Or.inr ⟨_, rfl⟩), hsv949_11, F992, F995, F996, F999, F1000, F989, Q991, ⟨by rw [List.length_set]; exact hm.1, by omega, by omega, rfl⟩⟩ (X985.mono (by first | decide | exact Nat.le_add_right_of_le (by decide) | ((try dsimp only [Pt.cells, Pt.slots]); omega)) (by first | decide | exact Nat.le_add_right_of_le (by decide) | ((try dsimp only [Pt.cells, Pt.slots]); omega))) e985
       ·
        have F1001 := (Exa.ext E946 F931)
        have F1002 := (Fld.ext E946 F932)
        have F1003 := (Fld.ext E946 F933)
        have F1004 := (F934.ext E946)
        have F1005 := (Fld.ext E946 F935)
        have F1006 := (F936.ext E946)
        exact J949 nb _ _ _ ⟨0, (List.replicate nb (0 : Int32)), sv930_11⟩ ⟨N941, Z947, K947, K2_947, hsv930_11, F1001, F1002, F1003, F1004, F1005, F1006, F948, B946, ⟨List.length_replicate .., Nat.zero_le _, rfl⟩⟩ (X946.mono (by first | decide | exact Nat.le_add_right_of_le (by decide) | ((try dsimp only [Pt.cells, Pt.slots]); omega)) (by first | decide | exact Nat.le_add_right_of_le (by decide) | ((try dsimp only [Pt.cells, Pt.slots]); omega))) e946
      ·
       refine own_st (g' := (mkF m 115 #[oR a, oR b904, oI v909, oI v914, oI l4, oJ k, oI ((Int32.ofNat (((k + 1) - 1) * np / nw)) - (1 : Int32)), oJ (jj - 1), oI v944, sv930_9, sv930_10, sv930_11] [(.int v909)])) (fun _ kt => XS.iloadN X939.here hx rfl (hb hby d48_114) rfl kt) ?_
       by_cases hc1007 : v909 = 0
       ·
        refine own_st (g' := (mkF m 126 #[oR a, oR b904, oI v909, oI v914, oI l4, oJ k, oI ((Int32.ofNat (((k + 1) - 1) * np / nw)) - (1 : Int32)), oJ (jj - 1), oI v944, sv930_9, sv930_10, sv930_11] [(.int 0)])) (fun _ kt => XS.ifNo X939.here hx rfl (hb hby d48_115) rfl (XT.i0_ne_f hc1007) (XS.iconst X939.here hx rfl (hb hby d48_118) (XS.goto X939.here hx rfl (pc0 := 119) (pc' := 126) rfl (hb hby d48_119) (by decide) (by decide) kt))) ?_
        exact J945 _ 0 ⟨by omega, Or.inl rfl⟩ X939 e939
       ·
        refine own_st (g' := (mkF m 123 #[oR a, oR b904, oI v909, oI v914, oI l4, oJ k, oI ((Int32.ofNat (((k + 1) - 1) * np / nw)) - (1 : Int32)), oJ (jj - 1), oI v944, sv930_9, sv930_10, sv930_11] [(.ref a)])) (fun _ kt => XS.ifYes X939.here hx rfl (pc0 := 115) (pc' := 122) rfl (hb hby d48_115) rfl (XT.i0_ne_t hc1007) (by decide) (by decide) (XS.aloadN X939.here hx rfl (hb hby d48_122) rfl rfl kt)) ?_
        obtain ⟨T1008, X1008, e1008, st1008⟩ := getF X939 hx hZ hown (host := "") (Or.inl (own_k hw 19 rfl)) Via.refl e939 F935 (g := (mkF m 123 #[oR a, oR b904, oI v909, oI v914, oI l4, oJ k, oI ((Int32.ofNat (((k + 1) - 1) * np / nw)) - (1 : Int32)), oJ (jj - 1), oI v944, sv930_9, sv930_10, sv930_11] [(.ref a)])) rfl rfl (hb hby d48_123)
        refine own_st st1008 ?_
        exact J945 _ nr ⟨by omega, Or.inr (own_ge2 hq1 (by omega) (by rw [← hv909]; exact hc1007))⟩ X1008 e1008
    ·
     have Q1009 : own_R Z h916 (b904 + 1) h916.size (fun zz => zz < ((k - 1) * np / nw) ∨ (((k + 1 - 1) * np / nw) ≤ zz ∧ zz < ((k + 1 - 1) * np / nw))) vs := (own_R_mono F923 (fun i hi => by have hi2 : i < ((k - 1) * np / nw) ∨ (((k + 1 - 1) * np / nw) ≤ i ∧ i < ((k + 1 - 1) * np / nw)) := hi; show i < ((k - 1) * np / nw); omega))
     exact J930 ((k + 1 - 1) * np / nw) _ _ _ ⟨((k + 1 - 1) * np / nw), vs, sv916_8, sv916_9, sv916_10, sv916_11⟩ ⟨N929, Z916, K916, hsv916_8, hsv916_9, hsv916_10, hsv916_11, F917, F918, F919, F920, F921, F922, Q1009, ⟨ho.1, by omega, by omega, rfl⟩⟩ (X927.mono (by first | decide | exact Nat.le_add_right_of_le (by decide) | ((try dsimp only [Pt.cells, Pt.slots]); omega)) (by first | decide | exact Nat.le_add_right_of_le (by decide) | ((try dsimp only [Pt.cells, Pt.slots]); omega))) e927
  ·
   have Q1010 : own_R Z h904 (b904 + 1) h904.size (fun zz => zz < ((1 - 1) * np / nw)) (List.replicate np .null) := (fun i hi => by have hi2 : i < (1 - 1) * np / nw := hi; rw [Nat.sub_self, Nat.zero_mul, Nat.zero_div] at hi2; exact absurd hi2 (Nat.not_lt_zero _))
   have F1011 := (Exa.ext E904 pr1)
   have F1012 := (Fld.ext E904 pr5)
   exact J916 nw _ _ _ ⟨1, (List.replicate np .null), Slot.unset, Slot.unset, Slot.unset, Slot.unset, Slot.unset, Slot.unset⟩ ⟨N0, Z905, K905, (Or.inl rfl), (Or.inl rfl), (Or.inl rfl), (Or.inl rfl), (Or.inl rfl), (Or.inl rfl), F1011, F907, F910, F912, F1012, F906, Q1010, ⟨List.length_replicate .., Nat.le_refl _, by omega, by omega⟩⟩ (X915.mono (by first | decide | exact Nat.le_add_right_of_le (by decide) | ((try dsimp only [Pt.cells, Pt.slots]); omega)) (by first | decide | exact Nat.le_add_right_of_le (by decide) | ((try dsimp only [Pt.cells, Pt.slots]); omega))) e915
 ·
  refine own_st (g' := (mkF m 28 #[oR a, oR b904, oI v909, oI v914, .unset, .unset, .unset, .unset, .unset, .unset, .unset, .unset] [(.int v909)])) (fun _ kt => XS.iloadN X913.here hx rfl (hb hby d48_27) rfl kt) ?_
  by_cases hc1013 : v909 = 0
  ·
   refine own_st (g' := (mkF m 46 #[oR a, oR b904, oI v909, oI v914, oI 0, .unset, .unset, .unset, .unset, .unset, .unset, .unset] [(.int v909)])) (fun _ kt => XS.ifNo X913.here hx rfl (hb hby d48_28) rfl (XT.i0_ne_f hc1013) (XS.iconst X913.here hx rfl (hb hby d48_31) (XS.goto X913.here hx rfl (pc0 := 32) (pc' := 43) rfl (hb hby d48_32) (by decide) (by decide) (XS.istore X913.here hx rfl (hb hby d48_43) rfl (l' := #[oR a, oR b904, oI v909, oI v914, oI 0, .unset, .unset, .unset, .unset, .unset, .unset, .unset]) rfl (XS.iloadN X913.here hx rfl (hb hby d48_45) rfl kt))))) ?_
   by_cases hc1014 : 0 < v909
   ·
    refine own_st (g' := (mkF m 52 #[oR a, oR b904, oI v909, oI v914, oI 0, .unset, .unset, .unset, .unset, .unset, .unset, .unset] [(.ref a), (.int 0)])) (fun _ kt => XS.ifNo X913.here hx rfl (hb hby d48_46) rfl (XT.i0_le_f hc1014) (XS.iload X913.here hx rfl (hb hby d48_49) rfl (XS.aloadN X913.here hx rfl (hb hby d48_51) rfl rfl kt))) ?_
    have F1015 := (Fld.ext E904 pr5)
    obtain ⟨T1016, X1016, e1016, st1016⟩ := getF X913 hx hZ hown (host := "") (Or.inl (own_k hw 19 rfl)) Via.refl e913 F1015 (g := (mkF m 52 #[oR a, oR b904, oI v909, oI v914, oI 0, .unset, .unset, .unset, .unset, .unset, .unset, .unset] [(.ref a), (.int 0)])) rfl rfl (hb hby d48_52)
    refine own_st st1016 ?_
    refine own_st (g' := (mkF m 57 #[oR a, oR b904, oI v909, oI v914, oI 0, .unset, .unset, .unset, .unset, .unset, .unset, .unset] [(.int v909), (.int ((0 : Int32) + (Int32.ofNat nr)))])) (fun _ kt => XS.iadd X1016.here hx rfl (hb hby d48_55) rfl (XS.iloadN X1016.here hx rfl (hb hby d48_56) rfl kt)) ?_
    by_cases hc1017 : v909 < ((0 : Int32) + (Int32.ofNat nr))
    ·
     refine own_st (g' := (mkF m 62 #[oR a, oR b904, oI v909, oI v914, oI 0, .unset, .unset, .unset, .unset, .unset, .unset, .unset] [(.ref a), (.int v909)])) (fun _ kt => XS.icmpNo X1016.here hx rfl (hb hby d48_57) rfl (XT.ii_le_f hc1017) (XS.iloadN X1016.here hx rfl (hb hby d48_60) rfl (XS.aloadN X1016.here hx rfl (hb hby d48_61) rfl rfl kt))) ?_
     obtain ⟨T1018, X1018, e1018, st1018⟩ := getF X1016 hx hZ hown (host := "") (Or.inl (own_k hw 19 rfl)) Via.refl e1016 F1015 (g := (mkF m 62 #[oR a, oR b904, oI v909, oI v914, oI 0, .unset, .unset, .unset, .unset, .unset, .unset, .unset] [(.ref a), (.int v909)])) rfl rfl (hb hby d48_62)
     refine own_st st1018 ?_
     refine own_st (g' := (mkF m 68 #[oR a, oR b904, oI v909, oI v914, oI (v909 - (Int32.ofNat nr)), .unset, .unset, .unset, .unset, .unset, .unset, .unset] [])) (fun _ kt => XS.isub X1018.here hx rfl (hb hby d48_65) rfl (XS.istore X1018.here hx rfl (hb hby d48_66) rfl (l' := #[oR a, oR b904, oI v909, oI v914, oI (v909 - (Int32.ofNat nr)), .unset, .unset, .unset, .unset, .unset, .unset, .unset]) rfl kt)) ?_
     exact J915 _ (v909 - (Int32.ofNat nr)) trivial X1018 e1018
    ·
     refine own_st (g' := (mkF m 68 #[oR a, oR b904, oI v909, oI v914, oI 0, .unset, .unset, .unset, .unset, .unset, .unset, .unset] [])) (fun _ kt => XS.icmpYes X1016.here hx rfl (pc0 := 57) (pc' := 68) rfl (hb hby d48_57) rfl (XT.ii_le_t hc1017) (by decide) (by decide) kt) ?_
     exact J915 _ (0 : Int32) trivial X1016 e1016
   ·
    refine own_st (g' := (mkF m 68 #[oR a, oR b904, oI v909, oI v914, oI 0, .unset, .unset, .unset, .unset, .unset, .unset, .unset] [])) (fun _ kt => XS.ifYes X913.here hx rfl (pc0 := 46) (pc' := 68) rfl (hb hby d48_46) rfl (XT.i0_le_t hc1014) (by decide) (by decide) kt) ?_
    exact J915 _ (0 : Int32) trivial X913 e913
  ·
   refine own_st (g' := (mkF m 36 #[oR a, oR b904, oI v909, oI v914, .unset, .unset, .unset, .unset, .unset, .unset, .unset, .unset] [(.ref a)])) (fun _ kt => XS.ifYes X913.here hx rfl (pc0 := 28) (pc' := 35) rfl (hb hby d48_28) rfl (XT.i0_ne_t hc1013) (by decide) (by decide) (XS.aloadN X913.here hx rfl (hb hby d48_35) rfl rfl kt)) ?_
   have F1019 := (Fld.ext E904 pr5)
   obtain ⟨T1020, X1020, e1020, st1020⟩ := getF X913 hx hZ hown (host := "") (Or.inl (own_k hw 19 rfl)) Via.refl e913 F1019 (g := (mkF m 36 #[oR a, oR b904, oI v909, oI v914, .unset, .unset, .unset, .unset, .unset, .unset, .unset, .unset] [(.ref a)])) rfl rfl (hb hby d48_36)
   refine own_st st1020 ?_
   refine own_st (g' := (mkF m 46 #[oR a, oR b904, oI v909, oI v914, oI (((Int32.ofNat nr) * v914) - (((Int32.ofNat nr) * v914) / v909) * v909), .unset, .unset, .unset, .unset, .unset, .unset, .unset] [(.int v909)])) (fun _ kt => XS.iloadN X1020.here hx rfl (hb hby d48_39) rfl (XS.imul X1020.here hx rfl (hb hby d48_40) rfl (XS.iloadN X1020.here hx rfl (hb hby d48_41) rfl (XS.irem X1020.here hx rfl (hb hby d48_42) rfl hc1013 (XS.istore X1020.here hx rfl (hb hby d48_43) rfl (l' := #[oR a, oR b904, oI v909, oI v914, oI (((Int32.ofNat nr) * v914) - (((Int32.ofNat nr) * v914) / v909) * v909), .unset, .unset, .unset, .unset, .unset, .unset, .unset]) rfl (XS.iloadN X1020.here hx rfl (hb hby d48_45) rfl kt)))))) ?_
   by_cases hc1021 : 0 < v909
   ·
    refine own_st (g' := (mkF m 52 #[oR a, oR b904, oI v909, oI v914, oI (((Int32.ofNat nr) * v914) - (((Int32.ofNat nr) * v914) / v909) * v909), .unset, .unset, .unset, .unset, .unset, .unset, .unset] [(.ref a), (.int (((Int32.ofNat nr) * v914) - (((Int32.ofNat nr) * v914) / v909) * v909))])) (fun _ kt => XS.ifNo X1020.here hx rfl (hb hby d48_46) rfl (XT.i0_le_f hc1021) (XS.iload X1020.here hx rfl (hb hby d48_49) rfl (XS.aloadN X1020.here hx rfl (hb hby d48_51) rfl rfl kt))) ?_
    obtain ⟨T1022, X1022, e1022, st1022⟩ := getF X1020 hx hZ hown (host := "") (Or.inl (own_k hw 19 rfl)) Via.refl e1020 F1019 (g := (mkF m 52 #[oR a, oR b904, oI v909, oI v914, oI (((Int32.ofNat nr) * v914) - (((Int32.ofNat nr) * v914) / v909) * v909), .unset, .unset, .unset, .unset, .unset, .unset, .unset] [(.ref a), (.int (((Int32.ofNat nr) * v914) - (((Int32.ofNat nr) * v914) / v909) * v909))])) rfl rfl (hb hby d48_52)
    refine own_st st1022 ?_
    refine own_st (g' := (mkF m 57 #[oR a, oR b904, oI v909, oI v914, oI (((Int32.ofNat nr) * v914) - (((Int32.ofNat nr) * v914) / v909) * v909), .unset, .unset, .unset, .unset, .unset, .unset, .unset] [(.int v909), (.int ((((Int32.ofNat nr) * v914) - (((Int32.ofNat nr) * v914) / v909) * v909) + (Int32.ofNat nr)))])) (fun _ kt => XS.iadd X1022.here hx rfl (hb hby d48_55) rfl (XS.iloadN X1022.here hx rfl (hb hby d48_56) rfl kt)) ?_
    by_cases hc1023 : v909 < ((((Int32.ofNat nr) * v914) - (((Int32.ofNat nr) * v914) / v909) * v909) + (Int32.ofNat nr))
    ·
     refine own_st (g' := (mkF m 62 #[oR a, oR b904, oI v909, oI v914, oI (((Int32.ofNat nr) * v914) - (((Int32.ofNat nr) * v914) / v909) * v909), .unset, .unset, .unset, .unset, .unset, .unset, .unset] [(.ref a), (.int v909)])) (fun _ kt => XS.icmpNo X1022.here hx rfl (hb hby d48_57) rfl (XT.ii_le_f hc1023) (XS.iloadN X1022.here hx rfl (hb hby d48_60) rfl (XS.aloadN X1022.here hx rfl (hb hby d48_61) rfl rfl kt))) ?_
     obtain ⟨T1024, X1024, e1024, st1024⟩ := getF X1022 hx hZ hown (host := "") (Or.inl (own_k hw 19 rfl)) Via.refl e1022 F1019 (g := (mkF m 62 #[oR a, oR b904, oI v909, oI v914, oI (((Int32.ofNat nr) * v914) - (((Int32.ofNat nr) * v914) / v909) * v909), .unset, .unset, .unset, .unset, .unset, .unset, .unset] [(.ref a), (.int v909)])) rfl rfl (hb hby d48_62)
     refine own_st st1024 ?_
     refine own_st (g' := (mkF m 68 #[oR a, oR b904, oI v909, oI v914, oI (v909 - (Int32.ofNat nr)), .unset, .unset, .unset, .unset, .unset, .unset, .unset] [])) (fun _ kt => XS.isub X1024.here hx rfl (hb hby d48_65) rfl (XS.istore X1024.here hx rfl (hb hby d48_66) rfl (l' := #[oR a, oR b904, oI v909, oI v914, oI (v909 - (Int32.ofNat nr)), .unset, .unset, .unset, .unset, .unset, .unset, .unset]) rfl kt)) ?_
     exact J915 _ (v909 - (Int32.ofNat nr)) trivial X1024 e1024
    ·
     refine own_st (g' := (mkF m 68 #[oR a, oR b904, oI v909, oI v914, oI (((Int32.ofNat nr) * v914) - (((Int32.ofNat nr) * v914) / v909) * v909), .unset, .unset, .unset, .unset, .unset, .unset, .unset] [])) (fun _ kt => XS.icmpYes X1022.here hx rfl (pc0 := 57) (pc' := 68) rfl (hb hby d48_57) rfl (XT.ii_le_t hc1023) (by decide) (by decide) kt) ?_
     exact J915 _ (((Int32.ofNat nr) * v914) - (((Int32.ofNat nr) * v914) / v909) * v909) trivial X1022 e1022
   ·
    refine own_st (g' := (mkF m 68 #[oR a, oR b904, oI v909, oI v914, oI (((Int32.ofNat nr) * v914) - (((Int32.ofNat nr) * v914) / v909) * v909), .unset, .unset, .unset, .unset, .unset, .unset, .unset] [])) (fun _ kt => XS.ifYes X1020.here hx rfl (pc0 := 46) (pc' := 68) rfl (hb hby d48_46) rfl (XT.i0_le_t hc1021) (by decide) (by decide) kt) ?_
    exact J915 _ (((Int32.ofNat nr) * v914) - (((Int32.ofNat nr) * v914) / v909) * v909) trivial X1020 e1020
theorem own_mc1 {nw k kk : Nat} (h : nw + 1 - k = kk) (h1 : 1 ≤ k) (h2 : k ≤ nw) : 56 + (nw - kk) * 4 + 1 + 1 + 1 + 1 ≤ 56 + (nw - (nw + 1 - (k + 1))) * 4 := by omega
theorem own_mc2 {nw k kk : Nat} (h : nw + 1 - k = kk) (h1 : 1 ≤ k) (h2 : k ≤ nw) : 4900 + (nw - kk) * 10 + 3 + 1 + 3 + 1 ≤ 4900 + (nw - (nw + 1 - (k + 1))) * 10 := by omega
abbrev c5 := prog_112_method_1_code
theorem d5_0 : dk c5 0 (.aload_n 0) 1 := by decide +kernel
theorem d5_1 : dk c5 1 (.invokespecial 1) 3 := by decide +kernel
theorem d5_4 : dk c5 4 (.aload_n 0) 1 := by decide +kernel
theorem d5_5 : dk c5 5 (.new 7) 3 := by decide +kernel
theorem d5_8 : dk c5 8 (.dup) 1 := by decide +kernel
theorem d5_9 : dk c5 9 (.invokespecial 9) 3 := by decide +kernel
theorem d5_12 : dk c5 12 (.putfield 10) 3 := by decide +kernel
theorem d5_15 : dk c5 15 (.aload_n 0) 1 := by decide +kernel
theorem d5_16 : dk c5 16 (.aload_n 1) 1 := by decide +kernel
theorem d5_17 : dk c5 17 (.invokevirtual 16) 3 := by decide +kernel
theorem own_pd16 : parseMethodDescriptor "()I" = some ⟨[], some .int⟩ := by decide +kernel
theorem d5_20 : dk c5 20 (.anewarray 22) 3 := by decide +kernel
theorem d5_23 : dk c5 23 (.putfield 24) 3 := by decide +kernel
theorem d5_26 : dk c5 26 (.aload_n 0) 1 := by decide +kernel
theorem d5_27 : dk c5 27 (.aload_n 1) 1 := by decide +kernel
theorem d5_28 : dk c5 28 (.putfield 28) 3 := by decide +kernel
theorem d5_31 : dk c5 31 (.aload_n 0) 1 := by decide +kernel
theorem d5_32 : dk c5 32 (.aload_n 1) 1 := by decide +kernel
theorem d5_33 : dk c5 33 (.invokevirtual 32) 3 := by decide +kernel
theorem d5_36 : dk c5 36 (.anewarray 35) 3 := by decide +kernel
theorem d5_39 : dk c5 39 (.putfield 37) 3 := by decide +kernel
theorem d5_42 : dk c5 42 (.aload_n 0) 1 := by decide +kernel
theorem d5_43 : dk c5 43 (.aload_n 1) 1 := by decide +kernel
theorem d5_44 : dk c5 44 (.invokevirtual 32) 3 := by decide +kernel
theorem d5_47 : dk c5 47 (.anewarray 35) 3 := by decide +kernel
theorem d5_50 : dk c5 50 (.putfield 41) 3 := by decide +kernel
theorem d5_53 : dk c5 53 (.aload_n 0) 1 := by decide +kernel
theorem d5_54 : dk c5 54 (.new 44) 3 := by decide +kernel
theorem d5_57 : dk c5 57 (.dup) 1 := by decide +kernel
theorem d5_58 : dk c5 58 (.aload_n 0) 1 := by decide +kernel
theorem d5_59 : dk c5 59 (.getfield 24) 3 := by decide +kernel
theorem d5_62 : dk c5 62 (.arraylength) 1 := by decide +kernel
theorem d5_63 : dk c5 63 (.invokespecial 46) 3 := by decide +kernel
theorem d5_66 : dk c5 66 (.putfield 49) 3 := by decide +kernel
theorem d5_69 : dk c5 69 (.aload_n 0) 1 := by decide +kernel
theorem d5_70 : dk c5 70 (.new 53) 3 := by decide +kernel
theorem d5_73 : dk c5 73 (.dup) 1 := by decide +kernel
theorem d5_74 : dk c5 74 (.aload_n 0) 1 := by decide +kernel
theorem d5_75 : dk c5 75 (.getfield 24) 3 := by decide +kernel
theorem d5_78 : dk c5 78 (.arraylength) 1 := by decide +kernel
theorem d5_79 : dk c5 79 (.aload_n 1) 1 := by decide +kernel
theorem d5_80 : dk c5 80 (.invokevirtual 32) 3 := by decide +kernel
theorem d5_83 : dk c5 83 (.invokespecial 55) 3 := by decide +kernel
theorem own_pd17 : parseMethodDescriptor "(II)V" = some ⟨[.int, .int], none⟩ := by decide +kernel
theorem d5_86 : dk c5 86 (.putfield 58) 3 := by decide +kernel
theorem d5_89 : dk c5 89 (.iconst 1) 1 := by decide +kernel
theorem d5_90 : dk c5 90 (.istore_n 3) 1 := by decide +kernel
theorem d5_91 : dk c5 91 (.iload_n 3) 1 := by decide +kernel
theorem d5_92 : dk c5 92 (.aload_n 0) 1 := by decide +kernel
theorem d5_93 : dk c5 93 (.getfield 37) 3 := by decide +kernel
theorem d5_96 : dk c5 96 (.arraylength) 1 := by decide +kernel
theorem d5_97 : dk c5 97 (.if_icmp .gt 39) 3 := by decide +kernel
theorem d5_157 : dk c5 157 (.astore_n 3) 1 := by decide +kernel
theorem d5_158 : dk c5 158 (.iconst 0) 1 := by decide +kernel
theorem d5_159 : dk c5 159 (.istore 4) 2 := by decide +kernel
theorem d5_161 : dk c5 161 (.iload 4) 2 := by decide +kernel
theorem d5_163 : dk c5 163 (.aload_n 0) 1 := by decide +kernel
theorem d5_164 : dk c5 164 (.getfield 24) 3 := by decide +kernel
theorem d5_167 : dk c5 167 (.arraylength) 1 := by decide +kernel
theorem d5_168 : dk c5 168 (.if_icmp .ge 108) 3 := by decide +kernel
theorem d5_171 : dk c5 171 (.aload_n 1) 1 := by decide +kernel
theorem d5_172 : dk c5 172 (.iload 4) 2 := by decide +kernel
theorem d5_174 : dk c5 174 (.invokevirtual 69) 3 := by decide +kernel
theorem d5_177 : dk c5 177 (.istore 5) 2 := by decide +kernel
theorem d5_179 : dk c5 179 (.aload_n 0) 1 := by decide +kernel
theorem d5_180 : dk c5 180 (.getfield 24) 3 := by decide +kernel
theorem d5_183 : dk c5 183 (.iload 4) 2 := by decide +kernel
theorem d5_185 : dk c5 185 (.new 22) 3 := by decide +kernel
theorem d5_188 : dk c5 188 (.dup) 1 := by decide +kernel
theorem d5_189 : dk c5 189 (.iload 5) 2 := by decide +kernel
theorem d5_191 : dk c5 191 (.invokespecial 73) 3 := by decide +kernel
theorem d5_194 : dk c5 194 (.aastore) 1 := by decide +kernel
theorem d5_195 : dk c5 195 (.aload_n 3) 1 := by decide +kernel
theorem d5_196 : dk c5 196 (.iload 4) 2 := by decide +kernel
theorem d5_198 : dk c5 198 (.aaload) 1 := by decide +kernel
theorem d5_199 : dk c5 199 (.astore 6) 2 := by decide +kernel
theorem d5_256 : dk c5 256 (.aload_n 0) 1 := by decide +kernel
theorem d5_257 : dk c5 257 (.getfield 37) 3 := by decide +kernel
theorem d5_260 : dk c5 260 (.iload 5) 2 := by decide +kernel
theorem d5_262 : dk c5 262 (.iconst 1) 1 := by decide +kernel
theorem d5_263 : dk c5 263 (.isub) 1 := by decide +kernel
theorem d5_264 : dk c5 264 (.aaload) 1 := by decide +kernel
theorem d5_265 : dk c5 265 (.iload 4) 2 := by decide +kernel
theorem d5_267 : dk c5 267 (.invokevirtual 85) 3 := by decide +kernel
theorem d5_270 : dk c5 270 (.iinc 4 1) 3 := by decide +kernel
theorem d5_273 : dk c5 273 (.goto (-112)) 3 := by decide +kernel
theorem d5_201 : dk c5 201 (.aload 6) 2 := by decide +kernel
theorem d5_203 : dk c5 203 (.arraylength) 1 := by decide +kernel
theorem d5_204 : dk c5 204 (.istore 7) 2 := by decide +kernel
theorem d5_206 : dk c5 206 (.iconst 0) 1 := by decide +kernel
theorem d5_207 : dk c5 207 (.istore 8) 2 := by decide +kernel
theorem d5_209 : dk c5 209 (.iload 8) 2 := by decide +kernel
theorem d5_211 : dk c5 211 (.iload 7) 2 := by decide +kernel
theorem d5_213 : dk c5 213 (.if_icmp .ge 43) 3 := by decide +kernel
theorem d5_216 : dk c5 216 (.aload 6) 2 := by decide +kernel
theorem d5_218 : dk c5 218 (.iload 8) 2 := by decide +kernel
theorem d5_220 : dk c5 220 (.iaload) 1 := by decide +kernel
theorem d5_221 : dk c5 221 (.istore 9) 2 := by decide +kernel
theorem d5_223 : dk c5 223 (.aload_n 0) 1 := by decide +kernel
theorem d5_224 : dk c5 224 (.getfield 24) 3 := by decide +kernel
theorem d5_227 : dk c5 227 (.iload 4) 2 := by decide +kernel
theorem d5_229 : dk c5 229 (.aaload) 1 := by decide +kernel
theorem d5_230 : dk c5 230 (.getfield 74) 3 := by decide +kernel
theorem d5_233 : dk c5 233 (.new 76) 3 := by decide +kernel
theorem d5_236 : dk c5 236 (.dup) 1 := by decide +kernel
theorem d5_237 : dk c5 237 (.iload 4) 2 := by decide +kernel
theorem d5_239 : dk c5 239 (.iload 9) 2 := by decide +kernel
theorem d5_241 : dk c5 241 (.invokespecial 78) 3 := by decide +kernel
theorem d5_244 : dk c5 244 (.invokeinterface 79 2) 5 := by decide +kernel
theorem d5_249 : dk c5 249 (.pop) 1 := by decide +kernel
theorem d5_250 : dk c5 250 (.iinc 8 1) 3 := by decide +kernel
theorem d5_253 : dk c5 253 (.goto (-44)) 3 := by decide +kernel
theorem d5_276 : dk c5 276 (.return_) 1 := by decide +kernel
theorem d5_136 : dk c5 136 (.iload_n 2) 1 := by decide +kernel
theorem d5_137 : dk c5 137 (.ifCond .eq 10) 3 := by decide +kernel
theorem d5_147 : dk c5 147 (.aload_n 0) 1 := by decide +kernel
theorem d5_148 : dk c5 148 (.getfield 24) 3 := by decide +kernel
theorem d5_151 : dk c5 151 (.arraylength) 1 := by decide +kernel
theorem d5_152 : dk c5 152 (.iconst 0) 1 := by decide +kernel
theorem d5_153 : dk c5 153 (.multianewarray 67 2) 4 := by decide +kernel
theorem d5_140 : dk c5 140 (.aload_n 1) 1 := by decide +kernel
theorem d5_141 : dk c5 141 (.invokevirtual 63) 3 := by decide +kernel
theorem own_pd18 : parseMethodDescriptor "()[[I" = some ⟨[], some (.array (.array .int))⟩ := by decide +kernel
theorem d5_144 : dk c5 144 (.goto 13) 3 := by decide +kernel
theorem d5_100 : dk c5 100 (.aload_n 0) 1 := by decide +kernel
theorem d5_101 : dk c5 101 (.getfield 37) 3 := by decide +kernel
theorem d5_104 : dk c5 104 (.iload_n 3) 1 := by decide +kernel
theorem d5_105 : dk c5 105 (.iconst 1) 1 := by decide +kernel
theorem d5_106 : dk c5 106 (.isub) 1 := by decide +kernel
theorem d5_107 : dk c5 107 (.new 35) 3 := by decide +kernel
theorem d5_110 : dk c5 110 (.dup) 1 := by decide +kernel
theorem d5_111 : dk c5 111 (.invokespecial 62) 3 := by decide +kernel
theorem d5_114 : dk c5 114 (.aastore) 1 := by decide +kernel
theorem d5_115 : dk c5 115 (.aload_n 0) 1 := by decide +kernel
theorem d5_116 : dk c5 116 (.getfield 41) 3 := by decide +kernel
theorem d5_119 : dk c5 119 (.iload_n 3) 1 := by decide +kernel
theorem d5_120 : dk c5 120 (.iconst 1) 1 := by decide +kernel
theorem d5_121 : dk c5 121 (.isub) 1 := by decide +kernel
theorem d5_122 : dk c5 122 (.new 35) 3 := by decide +kernel
theorem d5_125 : dk c5 125 (.dup) 1 := by decide +kernel
theorem d5_126 : dk c5 126 (.invokespecial 62) 3 := by decide +kernel
theorem d5_129 : dk c5 129 (.aastore) 1 := by decide +kernel
theorem d5_130 : dk c5 130 (.iinc 3 1) 3 := by decide +kernel
theorem d5_133 : dk c5 133 (.goto (-42)) 3 := by decide +kernel
theorem own_ef21 (m : MethodId) (x0 : Addr) (x1 : Addr) (x2 : Int32) : entryFrame m #[(.ref x0), (.ref x1), (.int x2)] 10 = mkF m 0 #[.val (.ref x0), .val (.ref x1), .val (.int x2), .unset, .unset, .unset, .unset, .unset, .unset, .unset] [] := by first | (simp [entryFrame, mkF, argsToLocals, Value.category]; done) | rfl
def own_sinQ (Z : State) (a : Addr) (pl : Addr) (pb : Addr) (pk : ClassId) (np : Nat) (nw : Nat) (nr : Nat) (us : List Value) (ft : Int32) (de : Addr) (kd : ClassId) (h0 : Heap) (n0 : Nat) (v : Option Value) (h : Heap) (L : List Loc) : Prop := ∃ (sa : Addr), ∃ (ks : ClassId), ∃ (vs : List Value), ∃ (sp : Addr), ∃ (kp : ClassId), ∃ (bs : List Value), ∃ (re : Addr), ∃ (db : Addr), ∃ (kdb : ClassId), ∃ (lo : Nat), ∃ (mi : Nat), ∃ (n1 : Nat), v = none ∧ Fr n0 L ∧ Keep h0 h [a] ∧ (Exa Z h a zC4) ∧ (Fld Z h a zC4 "shares" zC19 (.ref sa)) ∧ (Fld Z h a zC4 "spoken" zC18 (.ref sp)) ∧ (Fld Z h a zC4 "retained" zC24 (.ref re)) ∧ (Fld Z h a zC4 "generation" "I" (.int 0)) ∧ (Arv Z h sa ks (.object zC5) (Int32.ofNat np) vs .null) ∧ (Arv Z h sp kp (.object zC0) (Int32.ofNat nw) bs .null) ∧ (Exa Z h re zC6) ∧ (Fld Z h re zC6 "dropping" zC20 (.ref db)) ∧ (Arv Z h db kdb (.object zC12) (Int32.ofNat np) (List.replicate np .null) .null) ∧ (sa ≠ db) ∧ (Ovr Z kdb zC12) ∧ (own_B Z h lo mi nw bs) ∧ (own_S Z h n1 np vs (fun zz => Int32.ofNat (own_on np nw zz))) ∧ (h0.size ≤ sa) ∧ (h0.size ≤ sp) ∧ (h0.size ≤ re) ∧ (h0.size ≤ db) ∧ (h0.size ≤ lo) ∧ (lo > sa) ∧ (lo > sp) ∧ (lo > db) ∧ (lo ≤ mi) ∧ (mi ≤ n1) ∧ (vs.length = np) ∧ (bs.length = nw)
theorem own_pn24 : plainName "com/example/millrace/millrace/cluster/Shares" = true := by first | (simp [plainName, overriddenIn]; done) | decide +kernel
abbrev own_sinR : Room := { frames := 6, cells := 230, slots := 7600, locals := 157 }
theorem own_sin (l : Launch) (Z : State) (a0 : Array Value) (hw : ∀ d ∈ tables_1, d.before a0 Z = true) (ws : List Jvm.Cond) (a : Addr) (pl : Addr) (pb : Addr) (pk : ClassId) (np : Nat) (nw : Nat) (nr : Nat) (us : List Value) (ft : Int32) (de : Addr) (kd : ClassId) (h0 : Heap) (n0 : Nat) (Z0 : n0 ≤ h0.size) (pr1 : Old Z n0 h0) (pr2 : Sta Z Z.heap zC1 "DEFAULTCAPACITY_EMPTY_ELEMENTDATA" zC7 (.ref de)) (pr3 : Arv Z Z.heap de kd (.object zC3) (0 : Int32) [] .null) (pr4 : Sta Z Z.heap zC0 "$assertionsDisabled" "Z" (.int 1)) (pr5 : n0 ≤ a) (pr6 : Exa Z h0 a zC4) (pr7 : Fld Z h0 a zC4 "commits" zC16 .null) (pr8 : Fld Z h0 a zC4 "shares" zC19 .null) (pr9 : Fld Z h0 a zC4 "placement" zC36 .null) (pr10 : Fld Z h0 a zC4 "spoken" zC18 .null) (pr11 : Fld Z h0 a zC4 "pendingOf" zC18 .null) (pr12 : Fld Z h0 a zC4 "retained" zC24 .null) (pr13 : Fld Z h0 a zC4 "coverage" zC37 .null) (pr14 : Fld Z h0 a zC4 "generation" "I" (.int 0)) (pr15 : Exa Z h0 pl zC2) (pr16 : Fld Z h0 pl zC2 "workers" "I" (.int (Int32.ofNat nw))) (pr17 : Fld Z h0 pl zC2 "owners" "[I" (.ref pb)) (pr18 : Fld Z h0 pl zC2 "backupsEach" "I" (.int (Int32.ofNat nr))) (pr19 : Arv Z h0 pb pk .int (Int32.ofNat np) us (Value.int 0)) (pr20 : np ≤ 7) (pr21 : 1 ≤ nw) (pr22 : nw ≤ 4) (pr23 : nw ≤ np) (pr24 : 1 ≤ nr) (pr25 : nr = 1 ∨ nr < nw) (pr26 : own_od np nw np us) :
    own_M l yN56 prog_112_method_1_code 10 none ws own_sinR #[(.ref a), (.ref pl), (.int ft)] Z h0 (own_sinQ Z a pl pb pk np nw nr us ft de kd h0 n0) := by
 refine own_go (plainFor_of_name own_pn24) (fun m => own_ef21 m a pl ft ) ?_
 intro p e s m below meth c s₁ Bd hx hby hml hZ hh hown hnm X0 e0
 have N0 := Fr.nil n0
 have K0 : Keep h0 h0 [a] := Keep.refl h0 _
 have hq0 := pr20
 have hq1 := pr21
 have hq2 := pr22
 have hq3 := pr23
 have hq4 := pr24
 have hq5 := pr25
 have hq6 := pr26
 have hp1 : 1 ≤ np := by omega
 refine own_st (g' := (mkF m 1 #[oR a, oR pl, oI ft, .unset, .unset, .unset, .unset, .unset, .unset, .unset] [(.ref a)])) (fun _ kt => XS.aloadN X0.here hx rfl (hb hby d5_0) rfl rfl kt) ?_
 obtain ⟨T1025, X1025, e1025, st1025⟩ := initO X0 hx hZ hown (own_k hw 31 rfl) (own_k hw 11 rfl) (own_k hw 12 rfl) e0 (g := (mkF m 1 #[oR a, oR pl, oI ft, .unset, .unset, .unset, .unset, .unset, .unset, .unset] [(.ref a)])) rfl hml.symm rfl (hb hby d5_1) (by decide) (W := 0) (own_w0 rfl rfl) (by decide)
 refine own_st st1025 ?_
 refine own_st (g' := (mkF m 5 #[oR a, oR pl, oI ft, .unset, .unset, .unset, .unset, .unset, .unset, .unset] [(.ref a)])) (fun _ kt => XS.aloadN X1025.here hx rfl (hb hby d5_4) rfl rfl kt) ?_
 obtain ⟨T1026, h1026, X1026, e1026, E1026, A1026, D1026, -, st1026⟩ := newO X1025 hx hZ hown (own_k hw 32 rfl) (own_k hw 33 rfl) (own_k hw 34 rfl) e1025 (g := (mkF m 5 #[oR a, oR pl, oI ft, .unset, .unset, .unset, .unset, .unset, .unset, .unset] [(.ref a)])) rfl (hb hby d5_5) (by decide) (by decide)
 obtain ⟨b1026, g1026⟩ : ∃ z, z = h0.size := ⟨_, rfl⟩
 rw [← g1026] at A1026 D1026 st1026
 have Z1027 := Nat.le_trans Z0 E1026.1
 have K1027 := (Keep.ext K0 E1026)
 have ge_b1026 : n0 ≤ b1026 := Nat.le_trans Z0 (Nat.le_of_eq g1026.symm)
 have F1028 : Fld Z h1026 b1026 zC10 "modCount" "I" (.int 0) := D1026 (Or.inl (own_k hw 52 rfl)) (ty := .int) (by decide)
 have F1029 : Fld Z h1026 b1026 zC1 "elementData" zC7 .null := D1026 (Or.inl (own_k hw 55 rfl)) (ty := (.array (.object zC3))) (by decide)
 have F1030 : Fld Z h1026 b1026 zC1 "size" "I" (.int 0) := D1026 (Or.inl (own_k hw 126 rfl)) (ty := .int) (by decide)
 refine own_st st1026 ?_
 refine own_st (g' := (mkF m 9 #[oR a, oR pl, oI ft, .unset, .unset, .unset, .unset, .unset, .unset, .unset] [(.ref b1026), (.ref b1026), (.ref a)])) (fun _ kt => XS.dup X1026.here hx rfl (hb hby d5_8) rfl rfl kt) ?_
 have F1031 := (Old.ext pr1 E1026)
 obtain ⟨_, _, ⟨T1032, L1032, k1032, n1032⟩, -, X1032, ⟨Lc1032, hQ1032, l1032, y1032, z1032⟩, st1032⟩ := X1026.specialBack hx (y := yN8) rfl hown (mvT hZ (own_k hw 35 rfl)) (mvT hZ (own_k hw 36 rfl)) (mvT hZ (own_k hw 37 rfl)) (by decide) (backOf (W := 2) (own_ali l Z a0 hw [] b1026 de h1026 n0 Z1027 F1031 pr2 A1026 ge_b1026 F1028 F1029 F1030) hZ (own_k hw 37 rfl) (own_k hw 34 rfl) (by decide) (by decide)) (g := (mkF m 9 #[oR a, oR pl, oI ft, .unset, .unset, .unset, .unset, .unset, .unset, .unset] [(.ref b1026), (.ref b1026), (.ref a)])) rfl hml.symm (Steps.refl _) (a := b1026) (argsL := []) (rest := [(.ref b1026), (.ref a)]) (lenOf own_pd1 rfl) rfl (own_w0 rfl rfl) (hb hby d5_9) (fun _ _ => ⟨rfl, e1026, (by decide : 1 + 0 ≤ 230), (by decide : 3 + 0 ≤ 7600)⟩)
 dsimp only [Pt.U, Pt.locs, Pt.cells, Pt.slots] at X1032 l1032 y1032 z1032 st1032 hQ1032
 subst l1032 y1032 z1032
 obtain ⟨rfl, N1032, K1032_, P1033, P1034, P1035, P1036⟩ := hQ1032
 have N1037 := Fr.app N0 N1032
 have Z1038 := Nat.le_trans Z1027 K1032_.1
 have K1038 := (Keep.trans K1027 K1032_ (allS (Or.inr (Nat.le_trans K0.1 (Nat.le_of_eq g1026.symm))) all0))
 refine own_tr st1032 ?_
 have ne1039 : a ≠ b1026 := (Nat.ne_of_lt (Nat.lt_of_lt_of_le pr6.lt (Nat.le_of_eq g1026.symm)))
 have F1040 := (Fld.keep (Fld.ext E1026 pr7) K1032_ (ninS ne1039 nin0))
 have F1041 := (Exa.keep pr6 K1038)
 obtain ⟨T1042, h1042, X1042, e1042, W1042, st1042⟩ := putF X1032 hx hZ hown (host := "") (Or.inl (own_k hw 56 rfl)) Via.refl rfl F1040 F1041 (Or.inr ⟨(own_k hw 57 rfl), rfl, hnm⟩) (own_k hw 2 rfl) (ty := (.object zC11)) (by decide) rfl rfl (g := (mkF m 12 #[oR a, oR pl, oI ft, .unset, .unset, .unset, .unset, .unset, .unset, .unset] [(.ref b1026), (.ref a)])) rfl rfl (hb hby d5_12)
 have N1042 := Fr.snoc X1042 N1037 pr5
 have Z1043 := Nat.le_trans Z1038 (Nat.le_of_eq (Wr.size W1042).symm)
 have K1043 := (Keep.wr K1038 W1042 (Or.inl (List.mem_of_getElem? (i := 0) rfl)))
 have F1044 : Fld Z h1042 a zC4 "commits" zC16 (.ref b1026) := Fld.same W1042 F1040
 refine own_st st1042 ?_
 refine own_st (g' := (mkF m 17 #[oR a, oR pl, oI ft, .unset, .unset, .unset, .unset, .unset, .unset, .unset] [(.ref pl), (.ref a)])) (fun _ kt => XS.aloadN X1042.here hx rfl (hb hby d5_15) rfl rfl (XS.aloadN X1042.here hx rfl (hb hby d5_16) rfl rfl kt)) ?_
 have F1045 := (Exa.keep pr15 K1043)
 have ne1046 : pl ≠ a := (ne_exa pr15 pr6 (by decide))
 have F1047 := (Fld.keep pr16 K1043 (ninS ne1046 nin0))
 have F1048 := (Fld.keep pr17 K1043 (ninS ne1046 nin0))
 have ne1049 : a ≠ pb := (Exa.neArv pr6 pr19 (own_k hw 2 rfl))
 have F1050 := (Arv.keep pr19 K1043 (ninS (Ne.symm ne1049) nin0))
 obtain ⟨cq1052, kq1052, qa1052, qb1052, qc1052⟩ := isOf hZ e1042 F1045
 obtain ⟨_, _, ⟨T1051, L1051, k1051, n1051⟩, -, X1051, ⟨Lc1051, hQ1051, l1051, y1051, z1051⟩, st1051⟩ := X1042.virtualBack hx (y := yN22) (z := yN22) hown (mvT hZ (own_k hw 58 rfl)) (mvT hZ (own_k hw 59 rfl)) (notFace_of_selects (args := #[]) (mvT hZ (own_k hw 61 rfl))) (mvT hZ (own_k hw 61 rfl)) (mvT hZ (own_k hw 60 rfl)) (by decide) (backOf (W := 1) (own_pt l Z a0 hw [] pl pb pk np nw us h1042 n0 Z1043 F1045 F1047 F1048 F1050) hZ (own_k hw 62 rfl) (own_k hw 6 rfl) (by decide) (by decide)) qa1052 qc1052 (g := (mkF m 17 #[oR a, oR pl, oI ft, .unset, .unset, .unset, .unset, .unset, .unset, .unset] [(.ref pl), (.ref a)])) rfl hml.symm (Steps.refl _) (argsL := []) (rest := [(.ref a)]) (lenOf own_pd16 rfl) rfl (own_w0 rfl rfl) (hb hby d5_17) (fun _ _ => ⟨rfl, e1042, (by decide : 1 + 0 ≤ 230), (by decide : 3 + 0 ≤ 7600)⟩)
 dsimp only [Pt.U, Pt.locs, Pt.cells, Pt.slots] at X1051 l1051 y1051 z1051 st1051 hQ1051
 subst l1051 y1051 z1051
 obtain ⟨rfl, N1051, e1051⟩ := hQ1051
 have N1053 := Fr.app N1042 N1051
 refine own_tr st1051 ?_
 obtain ⟨T1054, h1054, k1054, X1054, e1054, E1054, A1054, O1054, st1054⟩ := newR X1051 hx hZ hown (own_k hw 63 rfl) (own_k hw 64 rfl) e1051 (g := (mkF m 20 #[oR a, oR pl, oI ft, .unset, .unset, .unset, .unset, .unset, .unset, .unset] [vJ np, (.ref a)])) rfl (hb hby d5_20) rfl (own_nn (by omega)) (cap := 7) (by rw [own_tn (by omega)]; omega) (by decide) (by decide) (by decide)
 obtain ⟨b1054, g1054⟩ : ∃ z, z = h1042.size := ⟨_, rfl⟩
 rw [← g1054] at A1054 st1054
 have Z1055 := Nat.le_trans Z1043 E1054.1
 have K1055 := (Keep.ext K1043 E1054)
 have ge_b1054 : n0 ≤ b1054 := Nat.le_trans Z1043 (Nat.le_of_eq g1054.symm)
 have F1056 : Arv Z h1054 b1054 k1054 (.object zC5) (Int32.ofNat np) (List.replicate np .null) .null := (Arv.new A1054 (own_nn (by omega))).pad (pad_rep [] .null np)
 refine own_st st1054 ?_
 have F1057 := (Fld.ext E1054 (Fld.other W1042 (Fld.keep (Fld.ext E1026 pr8) K1032_ (ninS ne1039 nin0)) (Or.inr (slot_ne (Or.inr (own_k hw 66 rfl)) (Or.inr (own_k hw 57 rfl)) (by decide) (t := (.array (.object zC5))) (t' := (.object zC11)) (by decide) (by decide)))))
 have F1058 := (Exa.ext E1054 (Exa.wr W1042 F1041))
 obtain ⟨T1059, h1059, X1059, e1059, W1059, st1059⟩ := putF X1054 hx hZ hown (host := "") (Or.inl (own_k hw 65 rfl)) Via.refl e1054 F1057 F1058 (Or.inr ⟨(own_k hw 66 rfl), rfl, hnm⟩) (own_k hw 2 rfl) (ty := (.array (.object zC5))) (by decide) rfl rfl (g := (mkF m 23 #[oR a, oR pl, oI ft, .unset, .unset, .unset, .unset, .unset, .unset, .unset] [(.ref b1054), (.ref a)])) rfl rfl (hb hby d5_23)
 have N1059 := Fr.snoc X1059 N1053 pr5
 have Z1060 := Nat.le_trans Z1055 (Nat.le_of_eq (Wr.size W1059).symm)
 have K1060 := (Keep.wr K1055 W1059 (Or.inl (List.mem_of_getElem? (i := 0) rfl)))
 have F1061 : Fld Z h1059 a zC4 "shares" zC19 (.ref b1054) := Fld.same W1059 F1057
 refine own_st st1059 ?_
 refine own_st (g' := (mkF m 28 #[oR a, oR pl, oI ft, .unset, .unset, .unset, .unset, .unset, .unset, .unset] [(.ref pl), (.ref a)])) (fun _ kt => XS.aloadN X1059.here hx rfl (hb hby d5_26) rfl rfl (XS.aloadN X1059.here hx rfl (hb hby d5_27) rfl rfl kt)) ?_
 have F1062 := (Fld.other W1059 (Fld.ext E1054 (Fld.other W1042 (Fld.keep (Fld.ext E1026 pr9) K1032_ (ninS ne1039 nin0)) (Or.inr (slot_ne (Or.inr (own_k hw 68 rfl)) (Or.inr (own_k hw 57 rfl)) (by decide) (t := (.object zC2)) (t' := (.object zC11)) (by decide) (by decide))))) (Or.inr (slot_ne (Or.inr (own_k hw 68 rfl)) (Or.inr (own_k hw 66 rfl)) (by decide) (t := (.object zC2)) (t' := (.array (.object zC5))) (by decide) (by decide))))
 have F1063 := (Exa.wr W1059 F1058)
 obtain ⟨T1064, h1064, X1064, e1064, W1064, st1064⟩ := putF X1059 hx hZ hown (host := "") (Or.inl (own_k hw 67 rfl)) Via.refl e1059 F1062 F1063 (Or.inr ⟨(own_k hw 68 rfl), rfl, hnm⟩) (own_k hw 2 rfl) (ty := (.object zC2)) (by decide) rfl rfl (g := (mkF m 28 #[oR a, oR pl, oI ft, .unset, .unset, .unset, .unset, .unset, .unset, .unset] [(.ref pl), (.ref a)])) rfl rfl (hb hby d5_28)
 have N1064 := Fr.snoc X1064 N1059 pr5
 have Z1065 := Nat.le_trans Z1060 (Nat.le_of_eq (Wr.size W1064).symm)
 have K1065 := (Keep.wr K1060 W1064 (Or.inl (List.mem_of_getElem? (i := 0) rfl)))
 have F1066 : Fld Z h1064 a zC4 "placement" zC36 (.ref pl) := Fld.same W1064 F1062
 refine own_st st1064 ?_
 refine own_st (g' := (mkF m 33 #[oR a, oR pl, oI ft, .unset, .unset, .unset, .unset, .unset, .unset, .unset] [(.ref pl), (.ref a)])) (fun _ kt => XS.aloadN X1064.here hx rfl (hb hby d5_31) rfl rfl (XS.aloadN X1064.here hx rfl (hb hby d5_32) rfl rfl kt)) ?_
 have F1067 := (Exa.wr W1064 (Exa.wr W1059 (Exa.ext E1054 F1045)))
 have F1068 := (Fld.other W1064 (Fld.other W1059 (Fld.ext E1054 F1047) (Or.inl ne1046)) (Or.inl ne1046))
 obtain ⟨cq1070, kq1070, qa1070, qb1070, qc1070⟩ := isOf hZ e1064 F1067
 obtain ⟨_, _, ⟨T1069, L1069, k1069, n1069⟩, -, X1069, ⟨Lc1069, hQ1069, l1069, y1069, z1069⟩, st1069⟩ := X1064.virtualBack hx (y := yN3) (z := yN3) hown (mvT hZ (own_k hw 69 rfl)) (mvT hZ (own_k hw 70 rfl)) (notFace_of_selects (args := #[]) (mvT hZ (own_k hw 72 rfl))) (mvT hZ (own_k hw 72 rfl)) (mvT hZ (own_k hw 71 rfl)) (by decide) (backOf (W := 1) (own_pw l Z a0 hw [] pl nw h1064 n0 Z1065 F1068) hZ (own_k hw 73 rfl) (own_k hw 6 rfl) (by decide) (by decide)) qa1070 qc1070 (g := (mkF m 33 #[oR a, oR pl, oI ft, .unset, .unset, .unset, .unset, .unset, .unset, .unset] [(.ref pl), (.ref a)])) rfl hml.symm (Steps.refl _) (argsL := []) (rest := [(.ref a)]) (lenOf own_pd16 rfl) rfl (own_w0 rfl rfl) (hb hby d5_33) (fun _ _ => ⟨rfl, e1064, (by decide : 2 + 0 ≤ 230), (by decide : 10 + 0 ≤ 7600)⟩)
 dsimp only [Pt.U, Pt.locs, Pt.cells, Pt.slots] at X1069 l1069 y1069 z1069 st1069 hQ1069
 subst l1069 y1069 z1069
 obtain ⟨rfl, N1069, e1069⟩ := hQ1069
 have N1071 := Fr.app N1064 N1069
 refine own_tr st1069 ?_
 obtain ⟨T1072, h1072, k1072, X1072, e1072, E1072, A1072, O1072, st1072⟩ := newR X1069 hx hZ hown (own_k hw 74 rfl) (own_k hw 75 rfl) e1069 (g := (mkF m 36 #[oR a, oR pl, oI ft, .unset, .unset, .unset, .unset, .unset, .unset, .unset] [vJ nw, (.ref a)])) rfl (hb hby d5_36) rfl (own_nn (by omega)) (cap := 4) (by rw [own_tn (by omega)]; omega) (by decide) (by decide) (by decide)
 obtain ⟨b1072, g1072⟩ : ∃ z, z = h1064.size := ⟨_, rfl⟩
 rw [← g1072] at A1072 st1072
 have Z1073 := Nat.le_trans Z1065 E1072.1
 have K1073 := (Keep.ext K1065 E1072)
 have ge_b1072 : n0 ≤ b1072 := Nat.le_trans Z1065 (Nat.le_of_eq g1072.symm)
 have F1074 : Arv Z h1072 b1072 k1072 (.object zC0) (Int32.ofNat nw) (List.replicate nw .null) .null := (Arv.new A1072 (own_nn (by omega))).pad (pad_rep [] .null nw)
 refine own_st st1072 ?_
 have F1075 := (Fld.ext E1072 (Fld.other W1064 (Fld.other W1059 (Fld.ext E1054 (Fld.other W1042 (Fld.keep (Fld.ext E1026 pr10) K1032_ (ninS ne1039 nin0)) (Or.inr (slot_ne (Or.inr (own_k hw 77 rfl)) (Or.inr (own_k hw 57 rfl)) (by decide) (t := (.array (.object zC0))) (t' := (.object zC11)) (by decide) (by decide))))) (Or.inr (slot_ne (Or.inr (own_k hw 77 rfl)) (Or.inr (own_k hw 66 rfl)) (by decide) (t := (.array (.object zC0))) (t' := (.array (.object zC5))) (by decide) (by decide)))) (Or.inr (slot_ne (Or.inr (own_k hw 77 rfl)) (Or.inr (own_k hw 68 rfl)) (by decide) (t := (.array (.object zC0))) (t' := (.object zC2)) (by decide) (by decide)))))
 have F1076 := (Exa.ext E1072 (Exa.wr W1064 F1063))
 obtain ⟨T1077, h1077, X1077, e1077, W1077, st1077⟩ := putF X1072 hx hZ hown (host := "") (Or.inl (own_k hw 76 rfl)) Via.refl e1072 F1075 F1076 (Or.inr ⟨(own_k hw 77 rfl), rfl, hnm⟩) (own_k hw 2 rfl) (ty := (.array (.object zC0))) (by decide) rfl rfl (g := (mkF m 39 #[oR a, oR pl, oI ft, .unset, .unset, .unset, .unset, .unset, .unset, .unset] [(.ref b1072), (.ref a)])) rfl rfl (hb hby d5_39)
 have N1077 := Fr.snoc X1077 N1071 pr5
 have Z1078 := Nat.le_trans Z1073 (Nat.le_of_eq (Wr.size W1077).symm)
 have K1078 := (Keep.wr K1073 W1077 (Or.inl (List.mem_of_getElem? (i := 0) rfl)))
 have F1079 : Fld Z h1077 a zC4 "spoken" zC18 (.ref b1072) := Fld.same W1077 F1075
 refine own_st st1077 ?_
 refine own_st (g' := (mkF m 44 #[oR a, oR pl, oI ft, .unset, .unset, .unset, .unset, .unset, .unset, .unset] [(.ref pl), (.ref a)])) (fun _ kt => XS.aloadN X1077.here hx rfl (hb hby d5_42) rfl rfl (XS.aloadN X1077.here hx rfl (hb hby d5_43) rfl rfl kt)) ?_
 have F1080 := (Exa.wr W1077 (Exa.ext E1072 F1067))
 have F1081 := (Fld.other W1077 (Fld.ext E1072 F1068) (Or.inl ne1046))
 obtain ⟨cq1083, kq1083, qa1083, qb1083, qc1083⟩ := isOf hZ e1077 F1080
 obtain ⟨_, _, ⟨T1082, L1082, k1082, n1082⟩, -, X1082, ⟨Lc1082, hQ1082, l1082, y1082, z1082⟩, st1082⟩ := X1077.virtualBack hx (y := yN3) (z := yN3) hown (mvT hZ (own_k hw 69 rfl)) (mvT hZ (own_k hw 70 rfl)) (notFace_of_selects (args := #[]) (mvT hZ (own_k hw 72 rfl))) (mvT hZ (own_k hw 72 rfl)) (mvT hZ (own_k hw 71 rfl)) (by decide) (backOf (W := 1) (own_pw l Z a0 hw [] pl nw h1077 n0 Z1078 F1081) hZ (own_k hw 73 rfl) (own_k hw 6 rfl) (by decide) (by decide)) qa1083 qc1083 (g := (mkF m 44 #[oR a, oR pl, oI ft, .unset, .unset, .unset, .unset, .unset, .unset, .unset] [(.ref pl), (.ref a)])) rfl hml.symm (Steps.refl _) (argsL := []) (rest := [(.ref a)]) (lenOf own_pd16 rfl) rfl (own_w0 rfl rfl) (hb hby d5_44) (fun _ _ => ⟨rfl, e1077, (by decide : 3 + 0 ≤ 230), (by decide : 14 + 0 ≤ 7600)⟩)
 dsimp only [Pt.U, Pt.locs, Pt.cells, Pt.slots] at X1082 l1082 y1082 z1082 st1082 hQ1082
 subst l1082 y1082 z1082
 obtain ⟨rfl, N1082, e1082⟩ := hQ1082
 have N1084 := Fr.app N1077 N1082
 refine own_tr st1082 ?_
 obtain ⟨T1085, h1085, k1085, X1085, e1085, E1085, A1085, O1085, st1085⟩ := newR X1082 hx hZ hown (own_k hw 74 rfl) (own_k hw 75 rfl) e1082 (g := (mkF m 47 #[oR a, oR pl, oI ft, .unset, .unset, .unset, .unset, .unset, .unset, .unset] [vJ nw, (.ref a)])) rfl (hb hby d5_47) rfl (own_nn (by omega)) (cap := 4) (by rw [own_tn (by omega)]; omega) (by decide) (by decide) (by decide)
 obtain ⟨b1085, g1085⟩ : ∃ z, z = h1077.size := ⟨_, rfl⟩
 rw [← g1085] at A1085 st1085
 have Z1086 := Nat.le_trans Z1078 E1085.1
 have K1086 := (Keep.ext K1078 E1085)
 have ge_b1085 : n0 ≤ b1085 := Nat.le_trans Z1078 (Nat.le_of_eq g1085.symm)
 have F1087 : Arv Z h1085 b1085 k1085 (.object zC0) (Int32.ofNat nw) (List.replicate nw .null) .null := (Arv.new A1085 (own_nn (by omega))).pad (pad_rep [] .null nw)
 refine own_st st1085 ?_
 have F1088 := (Fld.ext E1085 (Fld.other W1077 (Fld.ext E1072 (Fld.other W1064 (Fld.other W1059 (Fld.ext E1054 (Fld.other W1042 (Fld.keep (Fld.ext E1026 pr11) K1032_ (ninS ne1039 nin0)) (Or.inr (slot_ne (Or.inr (own_k hw 79 rfl)) (Or.inr (own_k hw 57 rfl)) (by decide) (t := (.array (.object zC0))) (t' := (.object zC11)) (by decide) (by decide))))) (Or.inr (slot_ne (Or.inr (own_k hw 79 rfl)) (Or.inr (own_k hw 66 rfl)) (by decide) (t := (.array (.object zC0))) (t' := (.array (.object zC5))) (by decide) (by decide)))) (Or.inr (slot_ne (Or.inr (own_k hw 79 rfl)) (Or.inr (own_k hw 68 rfl)) (by decide) (t := (.array (.object zC0))) (t' := (.object zC2)) (by decide) (by decide))))) (Or.inr (slot_ne (Or.inr (own_k hw 79 rfl)) (Or.inr (own_k hw 77 rfl)) (by decide) (t := (.array (.object zC0))) (t' := (.array (.object zC0))) (by decide) (by decide)))))
 have F1089 := (Exa.ext E1085 (Exa.wr W1077 F1076))
 obtain ⟨T1090, h1090, X1090, e1090, W1090, st1090⟩ := putF X1085 hx hZ hown (host := "") (Or.inl (own_k hw 78 rfl)) Via.refl e1085 F1088 F1089 (Or.inr ⟨(own_k hw 79 rfl), rfl, hnm⟩) (own_k hw 2 rfl) (ty := (.array (.object zC0))) (by decide) rfl rfl (g := (mkF m 50 #[oR a, oR pl, oI ft, .unset, .unset, .unset, .unset, .unset, .unset, .unset] [(.ref b1085), (.ref a)])) rfl rfl (hb hby d5_50)
 have N1090 := Fr.snoc X1090 N1084 pr5
 have Z1091 := Nat.le_trans Z1086 (Nat.le_of_eq (Wr.size W1090).symm)
 have K1091 := (Keep.wr K1086 W1090 (Or.inl (List.mem_of_getElem? (i := 0) rfl)))
 have F1092 : Fld Z h1090 a zC4 "pendingOf" zC18 (.ref b1085) := Fld.same W1090 F1088
 refine own_st st1090 ?_
 refine own_st (g' := (mkF m 54 #[oR a, oR pl, oI ft, .unset, .unset, .unset, .unset, .unset, .unset, .unset] [(.ref a)])) (fun _ kt => XS.aloadN X1090.here hx rfl (hb hby d5_53) rfl rfl kt) ?_
 obtain ⟨T1093, h1093, X1093, e1093, E1093, A1093, D1093, -, st1093⟩ := newO X1090 hx hZ hown (own_k hw 80 rfl) (own_k hw 81 rfl) (own_k hw 82 rfl) e1090 (g := (mkF m 54 #[oR a, oR pl, oI ft, .unset, .unset, .unset, .unset, .unset, .unset, .unset] [(.ref a)])) rfl (hb hby d5_54) (by decide) (by decide)
 obtain ⟨b1093, g1093⟩ : ∃ z, z = h1090.size := ⟨_, rfl⟩
 rw [← g1093] at A1093 D1093 st1093
 have Z1094 := Nat.le_trans Z1091 E1093.1
 have K1094 := (Keep.ext K1091 E1093)
 have ge_b1093 : n0 ≤ b1093 := Nat.le_trans Z1091 (Nat.le_of_eq g1093.symm)
 have F1095 : Fld Z h1093 b1093 zC6 "partitions" zC16 .null := D1093 (Or.inr (own_k hw 94 rfl)) (ty := (.object zC11)) (by decide)
 have F1096 : Fld Z h1093 b1093 zC6 "last" zC30 .null := D1093 (Or.inr (own_k hw 136 rfl)) (ty := (.array (.object zC27))) (by decide)
 have F1097 : Fld Z h1093 b1093 zC6 "lastLateFrom" "[J" .null := D1093 (Or.inr (own_k hw 139 rfl)) (ty := (.array .long)) (by decide)
 have F1098 : Fld Z h1093 b1093 zC6 "places" zC31 .null := D1093 (Or.inr (own_k hw 160 rfl)) (ty := (.object zC17)) (by decide)
 have F1099 : Fld Z h1093 b1093 zC6 "dropping" zC20 .null := D1093 (Or.inr (own_k hw 164 rfl)) (ty := (.array (.object zC12))) (by decide)
 refine own_st st1093 ?_
 refine own_st (g' := (mkF m 59 #[oR a, oR pl, oI ft, .unset, .unset, .unset, .unset, .unset, .unset, .unset] [(.ref a), (.ref b1093), (.ref b1093), (.ref a)])) (fun _ kt => XS.dup X1093.here hx rfl (hb hby d5_57) rfl rfl (XS.aloadN X1093.here hx rfl (hb hby d5_58) rfl rfl kt)) ?_
 have F1100 := (Fld.ext E1093 (Fld.other W1090 (Fld.ext E1085 (Fld.other W1077 (Fld.ext E1072 (Fld.other W1064 F1061 (Or.inr (slot_ne (Or.inr (own_k hw 66 rfl)) (Or.inr (own_k hw 68 rfl)) (by decide) (t := (.array (.object zC5))) (t' := (.object zC2)) (by decide) (by decide))))) (Or.inr (slot_ne (Or.inr (own_k hw 66 rfl)) (Or.inr (own_k hw 77 rfl)) (by decide) (t := (.array (.object zC5))) (t' := (.array (.object zC0))) (by decide) (by decide))))) (Or.inr (slot_ne (Or.inr (own_k hw 66 rfl)) (Or.inr (own_k hw 79 rfl)) (by decide) (t := (.array (.object zC5))) (t' := (.array (.object zC0))) (by decide) (by decide)))))
 obtain ⟨T1101, X1101, e1101, st1101⟩ := getF X1093 hx hZ hown (host := "") (Or.inl (own_k hw 65 rfl)) Via.refl e1093 F1100 (g := (mkF m 59 #[oR a, oR pl, oI ft, .unset, .unset, .unset, .unset, .unset, .unset, .unset] [(.ref a), (.ref b1093), (.ref b1093), (.ref a)])) rfl rfl (hb hby d5_59)
 refine own_st st1101 ?_
 have ne1102 : a ≠ b1054 := (Nat.ne_of_lt (Nat.lt_of_lt_of_le F1044.lt (Nat.le_of_eq g1054.symm)))
 have F1103 := ((Arv.other ((Arv.other ((Arv.other (Arv.other F1056 W1059 (Ne.symm ne1102)) W1064 (Ne.symm ne1102)).ext E1072) W1077 (Ne.symm ne1102)).ext E1085) W1090 (Ne.symm ne1102)).ext E1093)
 refine own_st (g' := (mkF m 63 #[oR a, oR pl, oI ft, .unset, .unset, .unset, .unset, .unset, .unset, .unset] [vJ np, (.ref b1093), (.ref b1093), (.ref a)])) (own_alen X1101 hx hZ e1101 F1103 (g := (mkF m 62 #[oR a, oR pl, oI ft, .unset, .unset, .unset, .unset, .unset, .unset, .unset] [(.ref b1054), (.ref b1093), (.ref b1093), (.ref a)])) rfl rfl (hb hby d5_62)) ?_
 obtain ⟨_, _, ⟨T1104, L1104, k1104, n1104⟩, -, X1104, ⟨Lc1104, hQ1104, l1104, y1104, z1104⟩, st1104⟩ := X1101.specialBack hx (y := yN46) rfl hown (mvT hZ (own_k hw 83 rfl)) (mvT hZ (own_k hw 84 rfl)) (mvT hZ (own_k hw 85 rfl)) (by decide) (backOf (W := 2) (own_ret l Z a0 hw [] b1093 np h1093 n0 Z1094 A1093 ge_b1093 F1095 F1096 F1097 F1098 F1099 hp1 hq0) hZ (own_k hw 85 rfl) (own_k hw 82 rfl) (by decide) (by decide)) (g := (mkF m 63 #[oR a, oR pl, oI ft, .unset, .unset, .unset, .unset, .unset, .unset, .unset] [vJ np, (.ref b1093), (.ref b1093), (.ref a)])) rfl hml.symm (Steps.refl _) (a := b1093) (argsL := [vJ np]) (rest := [(.ref b1093), (.ref a)]) (lenOf own_pd4 rfl) rfl (own_w0 rfl rfl) (hb hby d5_63) (fun _ _ => ⟨rfl, e1101, (by decide : 5 + 20 ≤ 230), (by decide : 26 + 4500 ≤ 7600)⟩)
 dsimp only [Pt.U, Pt.locs, Pt.cells, Pt.slots] at X1104 l1104 y1104 z1104 st1104 hQ1104
 subst l1104 y1104 z1104
 obtain ⟨b_1104, kb_1104, rfl, N1104, K1104_, P1105, P1106, P1107, P1108, P1109⟩ := hQ1104
 have N1110 := Fr.app N1090 N1104
 have Z1111 := Nat.le_trans Z1094 K1104_.1
 have K1111 := (Keep.trans K1094 K1104_ (allS (Or.inr (Nat.le_trans K1091.1 (Nat.le_of_eq g1093.symm))) all0))
 have ge1112 : n0 ≤ b_1104 := Nat.le_trans Z1094 P1109
 refine own_tr st1104 ?_
 have ne1113 : a ≠ b1093 := (Nat.ne_of_lt (Nat.lt_of_lt_of_le F1092.lt (Nat.le_of_eq g1093.symm)))
 have F1114 := (Fld.keep (Fld.ext E1093 (Fld.other W1090 (Fld.ext E1085 (Fld.other W1077 (Fld.ext E1072 (Fld.other W1064 (Fld.other W1059 (Fld.ext E1054 (Fld.other W1042 (Fld.keep (Fld.ext E1026 pr12) K1032_ (ninS ne1039 nin0)) (Or.inr (slot_ne (Or.inr (own_k hw 166 rfl)) (Or.inr (own_k hw 57 rfl)) (by decide) (t := (.object zC6)) (t' := (.object zC11)) (by decide) (by decide))))) (Or.inr (slot_ne (Or.inr (own_k hw 166 rfl)) (Or.inr (own_k hw 66 rfl)) (by decide) (t := (.object zC6)) (t' := (.array (.object zC5))) (by decide) (by decide)))) (Or.inr (slot_ne (Or.inr (own_k hw 166 rfl)) (Or.inr (own_k hw 68 rfl)) (by decide) (t := (.object zC6)) (t' := (.object zC2)) (by decide) (by decide))))) (Or.inr (slot_ne (Or.inr (own_k hw 166 rfl)) (Or.inr (own_k hw 77 rfl)) (by decide) (t := (.object zC6)) (t' := (.array (.object zC0))) (by decide) (by decide))))) (Or.inr (slot_ne (Or.inr (own_k hw 166 rfl)) (Or.inr (own_k hw 79 rfl)) (by decide) (t := (.object zC6)) (t' := (.array (.object zC0))) (by decide) (by decide))))) K1104_ (ninS ne1113 nin0))
 have F1115 := (Exa.keep (Exa.ext E1093 (Exa.wr W1090 F1089)) K1104_)
 obtain ⟨T1116, h1116, X1116, e1116, W1116, st1116⟩ := putF X1104 hx hZ hown (host := "") (Or.inl (own_k hw 165 rfl)) Via.refl rfl F1114 F1115 (Or.inr ⟨(own_k hw 166 rfl), rfl, hnm⟩) (own_k hw 2 rfl) (ty := (.object zC6)) (by decide) rfl rfl (g := (mkF m 66 #[oR a, oR pl, oI ft, .unset, .unset, .unset, .unset, .unset, .unset, .unset] [(.ref b1093), (.ref a)])) rfl rfl (hb hby d5_66)
 have N1116 := Fr.snoc X1116 N1110 pr5
 have Z1117 := Nat.le_trans Z1111 (Nat.le_of_eq (Wr.size W1116).symm)
 have K1117 := (Keep.wr K1111 W1116 (Or.inl (List.mem_of_getElem? (i := 0) rfl)))
 have F1118 : Fld Z h1116 a zC4 "retained" zC24 (.ref b1093) := Fld.same W1116 F1114
 refine own_st st1116 ?_
 refine own_st (g' := (mkF m 70 #[oR a, oR pl, oI ft, .unset, .unset, .unset, .unset, .unset, .unset, .unset] [(.ref a)])) (fun _ kt => XS.aloadN X1116.here hx rfl (hb hby d5_69) rfl rfl kt) ?_
 obtain ⟨T1119, h1119, X1119, e1119, E1119, A1119, D1119, -, st1119⟩ := newO X1116 hx hZ hown (own_k hw 167 rfl) (own_k hw 168 rfl) (own_k hw 169 rfl) e1116 (g := (mkF m 70 #[oR a, oR pl, oI ft, .unset, .unset, .unset, .unset, .unset, .unset, .unset] [(.ref a)])) rfl (hb hby d5_70) (by decide) (by decide)
 obtain ⟨b1119, g1119⟩ : ∃ z, z = h1116.size := ⟨_, rfl⟩
 rw [← g1119] at A1119 D1119 st1119
 have Z1120 := Nat.le_trans Z1117 E1119.1
 have K1120 := (Keep.ext K1117 E1119)
 have ge_b1119 : n0 ≤ b1119 := Nat.le_trans Z1117 (Nat.le_of_eq g1119.symm)
 have F1121 : Fld Z h1119 b1119 zC14 "covered" "[J" .null := D1119 (Or.inr (own_k hw 175 rfl)) (ty := (.array .long)) (by decide)
 have F1122 : Fld Z h1119 b1119 zC14 "owners" zC16 .null := D1119 (Or.inr (own_k hw 181 rfl)) (ty := (.object zC11)) (by decide)
 refine own_st st1119 ?_
 refine own_st (g' := (mkF m 75 #[oR a, oR pl, oI ft, .unset, .unset, .unset, .unset, .unset, .unset, .unset] [(.ref a), (.ref b1119), (.ref b1119), (.ref a)])) (fun _ kt => XS.dup X1119.here hx rfl (hb hby d5_73) rfl rfl (XS.aloadN X1119.here hx rfl (hb hby d5_74) rfl rfl kt)) ?_
 have F1123 := (Fld.ext E1119 (Fld.other W1116 (Fld.keep F1100 K1104_ (ninS ne1113 nin0)) (Or.inr (slot_ne (Or.inr (own_k hw 66 rfl)) (Or.inr (own_k hw 166 rfl)) (by decide) (t := (.array (.object zC5))) (t' := (.object zC6)) (by decide) (by decide)))))
 obtain ⟨T1124, X1124, e1124, st1124⟩ := getF X1119 hx hZ hown (host := "") (Or.inl (own_k hw 65 rfl)) Via.refl e1119 F1123 (g := (mkF m 75 #[oR a, oR pl, oI ft, .unset, .unset, .unset, .unset, .unset, .unset, .unset] [(.ref a), (.ref b1119), (.ref b1119), (.ref a)])) rfl rfl (hb hby d5_75)
 refine own_st st1124 ?_
 have ne1125 : b1054 ≠ b1093 := (Nat.ne_of_lt (Nat.lt_of_lt_of_le (Nat.lt_of_lt_of_le (Nat.lt_of_lt_of_le (Nat.lt_of_lt_of_le (Nat.lt_of_lt_of_le (Nat.lt_of_lt_of_le (Nat.lt_of_lt_of_le F1056.lt (Nat.le_of_eq (Wr.size W1059).symm)) (Nat.le_of_eq (Wr.size W1064).symm)) E1072.1) (Nat.le_of_eq (Wr.size W1077).symm)) E1085.1) (Nat.le_of_eq (Wr.size W1090).symm)) (Nat.le_of_eq g1093.symm)))
 have F1126 := ((Arv.other (Arv.keep F1103 K1104_ (ninS ne1125 nin0)) W1116 (Ne.symm ne1102)).ext E1119)
 refine own_st (g' := (mkF m 79 #[oR a, oR pl, oI ft, .unset, .unset, .unset, .unset, .unset, .unset, .unset] [vJ np, (.ref b1119), (.ref b1119), (.ref a)])) (own_alen X1124 hx hZ e1124 F1126 (g := (mkF m 78 #[oR a, oR pl, oI ft, .unset, .unset, .unset, .unset, .unset, .unset, .unset] [(.ref b1054), (.ref b1119), (.ref b1119), (.ref a)])) rfl rfl (hb hby d5_78)) ?_
 refine own_st (g' := (mkF m 80 #[oR a, oR pl, oI ft, .unset, .unset, .unset, .unset, .unset, .unset, .unset] [(.ref pl), vJ np, (.ref b1119), (.ref b1119), (.ref a)])) (fun _ kt => XS.aloadN X1124.here hx rfl (hb hby d5_79) rfl rfl kt) ?_
 have F1127 := (Exa.ext E1119 (Exa.wr W1116 (Exa.keep (Exa.ext E1093 (Exa.wr W1090 (Exa.ext E1085 F1080))) K1104_)))
 have ne1128 : pl ≠ b1093 := (Nat.ne_of_lt (Nat.lt_of_lt_of_le (Nat.lt_of_lt_of_le (Nat.lt_of_lt_of_le F1080.lt E1085.1) (Nat.le_of_eq (Wr.size W1090).symm)) (Nat.le_of_eq g1093.symm)))
 have F1129 := (Fld.ext E1119 (Fld.other W1116 (Fld.keep (Fld.ext E1093 (Fld.other W1090 (Fld.ext E1085 F1081) (Or.inl ne1046))) K1104_ (ninS ne1128 nin0)) (Or.inl ne1046)))
 obtain ⟨cq1131, kq1131, qa1131, qb1131, qc1131⟩ := isOf hZ e1124 F1127
 obtain ⟨_, _, ⟨T1130, L1130, k1130, n1130⟩, -, X1130, ⟨Lc1130, hQ1130, l1130, y1130, z1130⟩, st1130⟩ := X1124.virtualBack hx (y := yN3) (z := yN3) hown (mvT hZ (own_k hw 69 rfl)) (mvT hZ (own_k hw 70 rfl)) (notFace_of_selects (args := #[]) (mvT hZ (own_k hw 72 rfl))) (mvT hZ (own_k hw 72 rfl)) (mvT hZ (own_k hw 71 rfl)) (by decide) (backOf (W := 4) (own_pw l Z a0 hw [] pl nw h1119 n0 Z1120 F1129) hZ (own_k hw 73 rfl) (own_k hw 6 rfl) (by decide) (by decide)) qa1131 qc1131 (g := (mkF m 80 #[oR a, oR pl, oI ft, .unset, .unset, .unset, .unset, .unset, .unset, .unset] [(.ref pl), vJ np, (.ref b1119), (.ref b1119), (.ref a)])) rfl hml.symm (Steps.refl _) (argsL := []) (rest := [vJ np, (.ref b1119), (.ref b1119), (.ref a)]) (lenOf own_pd16 rfl) rfl (own_w0 rfl rfl) (hb hby d5_80) (fun _ _ => ⟨rfl, e1124, (by decide : 26 + 0 ≤ 230), (by decide : 4528 + 0 ≤ 7600)⟩)
 dsimp only [Pt.U, Pt.locs, Pt.cells, Pt.slots] at X1130 l1130 y1130 z1130 st1130 hQ1130
 subst l1130 y1130 z1130
 obtain ⟨rfl, N1130, e1130⟩ := hQ1130
 have N1132 := Fr.app N1116 N1130
 refine own_tr st1130 ?_
 have F1133 := (Old.ext (Old.wr (Old.keep (Old.ext (Old.wr (Old.ext (Old.wr (Old.ext (Old.wr (Old.wr (Old.ext (Old.wr (Old.keep F1031 K1032_ (allS ge_b1026 all0)) W1042 pr5) E1054) W1059 pr5) W1064 pr5) E1072) W1077 pr5) E1085) W1090 pr5) E1093) K1104_ (allS ge_b1093 all0)) W1116 pr5) E1119)
 obtain ⟨_, _, ⟨T1134, L1134, k1134, n1134⟩, -, X1134, ⟨Lc1134, hQ1134, l1134, y1134, z1134⟩, st1134⟩ := X1130.specialBack hx (y := yN48) rfl hown (mvT hZ (own_k hw 170 rfl)) (mvT hZ (own_k hw 171 rfl)) (mvT hZ (own_k hw 172 rfl)) (by decide) (backOf (W := 2) (own_cov l Z a0 hw [] b1119 np nw de h1119 n0 Z1120 F1133 pr2 A1119 ge_b1119 F1121 F1122 hp1 hq0 hq1 hq2) hZ (own_k hw 172 rfl) (own_k hw 169 rfl) (by decide) (by decide)) (g := (mkF m 83 #[oR a, oR pl, oI ft, .unset, .unset, .unset, .unset, .unset, .unset, .unset] [vJ nw, vJ np, (.ref b1119), (.ref b1119), (.ref a)])) rfl hml.symm (Steps.refl _) (a := b1119) (argsL := [vJ np, vJ nw]) (rest := [(.ref b1119), (.ref a)]) (lenOf own_pd17 rfl) rfl (own_w0 rfl rfl) (hb hby d5_83) (fun _ _ => ⟨rfl, e1130, (by decide : 26 + 30 ≤ 230), (by decide : 4528 + 300 ≤ 7600)⟩)
 dsimp only [Pt.U, Pt.locs, Pt.cells, Pt.slots] at X1134 l1134 y1134 z1134 st1134 hQ1134
 subst l1134 y1134 z1134
 obtain ⟨rfl, N1134, K1134_, P1135⟩ := hQ1134
 have N1136 := Fr.app N1132 N1134
 have Z1137 := Nat.le_trans Z1120 K1134_.1
 have K1137 := (Keep.trans K1120 K1134_ (allS (Or.inr (Nat.le_trans K1117.1 (Nat.le_of_eq g1119.symm))) all0))
 refine own_tr st1134 ?_
 have ne1138 : a ≠ b1119 := (Nat.ne_of_lt (Nat.lt_of_lt_of_le F1118.lt (Nat.le_of_eq g1119.symm)))
 have F1139 := (Fld.keep (Fld.ext E1119 (Fld.other W1116 (Fld.keep (Fld.ext E1093 (Fld.other W1090 (Fld.ext E1085 (Fld.other W1077 (Fld.ext E1072 (Fld.other W1064 (Fld.other W1059 (Fld.ext E1054 (Fld.other W1042 (Fld.keep (Fld.ext E1026 pr13) K1032_ (ninS ne1039 nin0)) (Or.inr (slot_ne (Or.inr (own_k hw 228 rfl)) (Or.inr (own_k hw 57 rfl)) (by decide) (t := (.object zC14)) (t' := (.object zC11)) (by decide) (by decide))))) (Or.inr (slot_ne (Or.inr (own_k hw 228 rfl)) (Or.inr (own_k hw 66 rfl)) (by decide) (t := (.object zC14)) (t' := (.array (.object zC5))) (by decide) (by decide)))) (Or.inr (slot_ne (Or.inr (own_k hw 228 rfl)) (Or.inr (own_k hw 68 rfl)) (by decide) (t := (.object zC14)) (t' := (.object zC2)) (by decide) (by decide))))) (Or.inr (slot_ne (Or.inr (own_k hw 228 rfl)) (Or.inr (own_k hw 77 rfl)) (by decide) (t := (.object zC14)) (t' := (.array (.object zC0))) (by decide) (by decide))))) (Or.inr (slot_ne (Or.inr (own_k hw 228 rfl)) (Or.inr (own_k hw 79 rfl)) (by decide) (t := (.object zC14)) (t' := (.array (.object zC0))) (by decide) (by decide))))) K1104_ (ninS ne1113 nin0)) (Or.inr (slot_ne (Or.inr (own_k hw 228 rfl)) (Or.inr (own_k hw 166 rfl)) (by decide) (t := (.object zC14)) (t' := (.object zC6)) (by decide) (by decide))))) K1134_ (ninS ne1138 nin0))
 have F1140 := (Exa.keep (Exa.ext E1119 (Exa.wr W1116 F1115)) K1134_)
 obtain ⟨T1141, h1141, X1141, e1141, W1141, st1141⟩ := putF X1134 hx hZ hown (host := "") (Or.inl (own_k hw 227 rfl)) Via.refl rfl F1139 F1140 (Or.inr ⟨(own_k hw 228 rfl), rfl, hnm⟩) (own_k hw 2 rfl) (ty := (.object zC14)) (by decide) rfl rfl (g := (mkF m 86 #[oR a, oR pl, oI ft, .unset, .unset, .unset, .unset, .unset, .unset, .unset] [(.ref b1119), (.ref a)])) rfl rfl (hb hby d5_86)
 have N1141 := Fr.snoc X1141 N1136 pr5
 have Z1142 := Nat.le_trans Z1137 (Nat.le_of_eq (Wr.size W1141).symm)
 have K1142 := (Keep.wr K1137 W1141 (Or.inl (List.mem_of_getElem? (i := 0) rfl)))
 have F1143 : Fld Z h1141 a zC4 "coverage" zC37 (.ref b1119) := Fld.same W1141 F1139
 refine own_st st1141 ?_
 refine own_st (g' := (mkF m 91 #[oR a, oR pl, oI ft, oI 1, .unset, .unset, .unset, .unset, .unset, .unset] [])) (fun _ kt => XS.iconst X1141.here hx rfl (hb hby d5_89) (XS.istoreN X1141.here hx rfl (hb hby d5_90) rfl (l' := #[oR a, oR pl, oI ft, oI 1, .unset, .unset, .unset, .unset, .unset, .unset]) rfl kt)) ?_
 have ne1144 : b1054 ≠ b1119 := (Nat.ne_of_lt (Nat.lt_of_lt_of_le (Nat.lt_of_lt_of_le (Nat.lt_of_lt_of_le F1103.lt K1104_.1) (Nat.le_of_eq (Wr.size W1116).symm)) (Nat.le_of_eq g1119.symm)))
 have F1145 := (Arv.other (Arv.keep F1126 K1134_ (ninS ne1144 nin0)) W1141 (Ne.symm ne1102))
 have hsaL : h1141.size > b1054 := F1145.lt
 have ne1146 : a ≠ b1072 := (Nat.ne_of_lt (Nat.lt_of_lt_of_le F1066.lt (Nat.le_of_eq g1072.symm)))
 have ne1147 : b1072 ≠ b1093 := (Nat.ne_of_lt (Nat.lt_of_lt_of_le (Nat.lt_of_lt_of_le (Nat.lt_of_lt_of_le (Nat.lt_of_lt_of_le F1074.lt (Nat.le_of_eq (Wr.size W1077).symm)) E1085.1) (Nat.le_of_eq (Wr.size W1090).symm)) (Nat.le_of_eq g1093.symm)))
 have ne1148 : b1072 ≠ b1119 := (Nat.ne_of_lt (Nat.lt_of_lt_of_le (Nat.lt_of_lt_of_le (Nat.lt_of_lt_of_le (Nat.lt_of_lt_of_le (Nat.lt_of_lt_of_le (Nat.lt_of_lt_of_le (Nat.lt_of_lt_of_le F1074.lt (Nat.le_of_eq (Wr.size W1077).symm)) E1085.1) (Nat.le_of_eq (Wr.size W1090).symm)) E1093.1) K1104_.1) (Nat.le_of_eq (Wr.size W1116).symm)) (Nat.le_of_eq g1119.symm)))
 have F1149 := (Arv.other (Arv.keep ((Arv.other (Arv.keep ((Arv.other ((Arv.other F1074 W1077 (Ne.symm ne1146)).ext E1085) W1090 (Ne.symm ne1146)).ext E1093) K1104_ (ninS ne1147 nin0)) W1116 (Ne.symm ne1146)).ext E1119) K1134_ (ninS ne1148 nin0)) W1141 (Ne.symm ne1146))
 have hspL : h1141.size > b1072 := F1149.lt
 have ne1150 : a ≠ b_1104 := (Nat.ne_of_lt (Nat.lt_of_lt_of_le F1100.lt P1109))
 have ne1151 : b_1104 ≠ b1119 := (Nat.ne_of_lt (Nat.lt_of_lt_of_le (Nat.lt_of_lt_of_le P1107.lt (Nat.le_of_eq (Wr.size W1116).symm)) (Nat.le_of_eq g1119.symm)))
 have F1152 := (Arv.other (Arv.keep ((Arv.other P1107 W1116 (Ne.symm ne1150)).ext E1119) K1134_ (ninS ne1151 nin0)) W1141 (Ne.symm ne1150))
 have hdbL : h1141.size > b_1104 := F1152.lt
 have ne1153 : a ≠ b1085 := (Nat.ne_of_lt (Nat.lt_of_lt_of_le F1079.lt (Nat.le_of_eq g1085.symm)))
 have ne1154 : b1085 ≠ b1093 := (Nat.ne_of_lt (Nat.lt_of_lt_of_le (Nat.lt_of_lt_of_le F1087.lt (Nat.le_of_eq (Wr.size W1090).symm)) (Nat.le_of_eq g1093.symm)))
 have ne1155 : b1085 ≠ b1119 := (Nat.ne_of_lt (Nat.lt_of_lt_of_le (Nat.lt_of_lt_of_le (Nat.lt_of_lt_of_le (Nat.lt_of_lt_of_le (Nat.lt_of_lt_of_le F1087.lt (Nat.le_of_eq (Wr.size W1090).symm)) E1093.1) K1104_.1) (Nat.le_of_eq (Wr.size W1116).symm)) (Nat.le_of_eq g1119.symm)))
 have F1156 := (Arv.other (Arv.keep ((Arv.other (Arv.keep ((Arv.other F1087 W1090 (Ne.symm ne1153)).ext E1093) K1104_ (ninS ne1154 nin0)) W1116 (Ne.symm ne1153)).ext E1119) K1134_ (ninS ne1155 nin0)) W1141 (Ne.symm ne1153))
 have hpeL : h1141.size > b1085 := F1156.lt
 have ne1157 : pb ≠ b1093 := (Nat.ne_of_lt (Nat.lt_of_lt_of_le (Nat.lt_of_lt_of_le (Nat.lt_of_lt_of_le (Nat.lt_of_lt_of_le (Nat.lt_of_lt_of_le (Nat.lt_of_lt_of_le (Nat.lt_of_lt_of_le (Nat.lt_of_lt_of_le F1050.lt E1054.1) (Nat.le_of_eq (Wr.size W1059).symm)) (Nat.le_of_eq (Wr.size W1064).symm)) E1072.1) (Nat.le_of_eq (Wr.size W1077).symm)) E1085.1) (Nat.le_of_eq (Wr.size W1090).symm)) (Nat.le_of_eq g1093.symm)))
 have ne1158 : pb ≠ b1119 := (Nat.ne_of_lt (Nat.lt_of_lt_of_le (Nat.lt_of_lt_of_le (Nat.lt_of_lt_of_le (Nat.lt_of_lt_of_le (Nat.lt_of_lt_of_le (Nat.lt_of_lt_of_le (Nat.lt_of_lt_of_le (Nat.lt_of_lt_of_le (Nat.lt_of_lt_of_le (Nat.lt_of_lt_of_le (Nat.lt_of_lt_of_le F1050.lt E1054.1) (Nat.le_of_eq (Wr.size W1059).symm)) (Nat.le_of_eq (Wr.size W1064).symm)) E1072.1) (Nat.le_of_eq (Wr.size W1077).symm)) E1085.1) (Nat.le_of_eq (Wr.size W1090).symm)) E1093.1) K1104_.1) (Nat.le_of_eq (Wr.size W1116).symm)) (Nat.le_of_eq g1119.symm)))
 have F1159 := (Arv.other (Arv.keep ((Arv.other (Arv.keep ((Arv.other ((Arv.other ((Arv.other (Arv.other (F1050.ext E1054) W1059 (Ne.symm ne1049)) W1064 (Ne.symm ne1049)).ext E1072) W1077 (Ne.symm ne1049)).ext E1085) W1090 (Ne.symm ne1049)).ext E1093) K1104_ (ninS ne1157 nin0)) W1116 (Ne.symm ne1049)).ext E1119) K1134_ (ninS ne1158 nin0)) W1141 (Ne.symm ne1049))
 have hpbL : h1141.size > pb := F1159.lt
 have F1160 := (Exa.wr W1141 (Exa.keep (Exa.ext E1119 (Exa.wr W1116 P1105)) K1134_))
 have hreL : h1141.size > b1093 := F1160.lt
 have hloK : h0.size ≤ h1141.size := K1142.1
 refine own_loopH (α := Nat × List Value × List Value) X1141 (cs := fun kk => (56 + (nw - kk) * 4)) (sl := fun kk => (4900 + (nw - kk) * 10)) (gj := fun q => (mkF m 91 #[oR a, oR pl, oI ft, oJ q.1, .unset, .unset, .unset, .unset, .unset, .unset] [])) (P := fun kk L_ h_ q => (Fr n0 L_) ∧ (n0 ≤ h_.size) ∧ (Keep h0 h_ [a]) ∧ (Old Z n0 h_) ∧ (Exa Z h_ a zC4) ∧ (Fld Z h_ a zC4 "shares" zC19 (.ref b1054)) ∧ (Fld Z h_ a zC4 "spoken" zC18 (.ref b1072)) ∧ (Fld Z h_ a zC4 "pendingOf" zC18 (.ref b1085)) ∧ (Fld Z h_ a zC4 "retained" zC24 (.ref b1093)) ∧ (Fld Z h_ a zC4 "generation" "I" (.int 0)) ∧ (Exa Z h_ pl zC2) ∧ (Fld Z h_ pl zC2 "workers" "I" (.int (Int32.ofNat nw))) ∧ (Fld Z h_ pl zC2 "owners" "[I" (.ref pb)) ∧ (Fld Z h_ pl zC2 "backupsEach" "I" (.int (Int32.ofNat nr))) ∧ (Arv Z h_ pb pk .int (Int32.ofNat np) us (Value.int 0)) ∧ (Arv Z h_ b1054 k1054 (.object zC5) (Int32.ofNat np) (List.replicate np .null) .null) ∧ (Arv Z h_ b1072 k1072 (.object zC0) (Int32.ofNat nw) q.2.1 .null) ∧ (Exa Z h_ b1093 zC6) ∧ (Fld Z h_ b1093 zC6 "dropping" zC20 (.ref b_1104)) ∧ (Arv Z h_ b_1104 kb_1104 (.object zC12) (Int32.ofNat np) (List.replicate np .null) .null) ∧ (Arv Z h_ b1085 k1085 (.object zC0) (Int32.ofNat nw) q.2.2 .null) ∧ (own_B Z h_ h1141.size h_.size (q.1 - 1) q.2.1) ∧ (q.2.1.length = nw ∧ q.2.2.length = nw ∧ 1 ≤ q.1 ∧ q.1 ≤ nw + 1 ∧ h1141.size ≤ h_.size ∧ nw + 1 - q.1 = kk)) ?_ (fun J1161 => ?_)
 ·
  rintro kk ih1161 T1161 L1161 h1161 ⟨k, bs, ps⟩ ⟨N1161, Z1161, K1161, O1161, F1162, F1163, F1164, F1165, F1166, F1167, F1168, F1169, F1170, F1171, F1172, F1173, F1174, F1175, F1176, F1177, F1178, F1179, hj1161⟩ X1161 e1161
  try dsimp only at F1162 F1163 F1164 F1165 F1166 F1167 F1168 F1169 F1170 F1171 F1172 F1173 F1174 F1175 F1176 F1177 F1178 F1179 hj1161 X1161 ⊢
  have ho := hj1161
  have K2_1180 : Keep h1161 h1161 [b1072, b1085] := Keep.refl _ _
  refine own_st (g' := (mkF m 93 #[oR a, oR pl, oI ft, oJ k, .unset, .unset, .unset, .unset, .unset, .unset] [(.ref a), vJ k])) (fun _ kt => XS.iloadN X1161.here hx rfl (hb hby d5_91) rfl (XS.aloadN X1161.here hx rfl (hb hby d5_92) rfl rfl kt)) ?_
  obtain ⟨T1181, X1181, e1181, st1181⟩ := getF X1161 hx hZ hown (host := "") (Or.inl (own_k hw 76 rfl)) Via.refl e1161 F1164 (g := (mkF m 93 #[oR a, oR pl, oI ft, oJ k, .unset, .unset, .unset, .unset, .unset, .unset] [(.ref a), vJ k])) rfl rfl (hb hby d5_93)
  refine own_st st1181 ?_
  refine own_st (g' := (mkF m 97 #[oR a, oR pl, oI ft, oJ k, .unset, .unset, .unset, .unset, .unset, .unset] [vJ nw, vJ k])) (own_alen X1181 hx hZ e1181 F1174 (g := (mkF m 96 #[oR a, oR pl, oI ft, oJ k, .unset, .unset, .unset, .unset, .unset, .unset] [(.ref b1072), vJ k])) rfl rfl (hb hby d5_96)) ?_
  by_cases hc1182 : (Int32.ofNat nw) < (Int32.ofNat k)
  ·
   refine own_st (g' := (mkF m 136 #[oR a, oR pl, oI ft, oJ k, .unset, .unset, .unset, .unset, .unset, .unset] [])) (fun _ kt => XS.icmpYes X1181.here hx rfl (pc0 := 97) (pc' := 136) rfl (hb hby d5_97) rfl (XT.ii_gt_t hc1182) (by decide) (by decide) kt) ?_
   have hke : k = nw + 1 := by have := (own_ige (by omega) (by omega)).mp hc1182; omega
   have Q1183 : own_B Z h1161 h1141.size h1161.size nw bs := (by have q := F1179; rw [hke, Nat.add_sub_cancel] at q; exact q)
   have hml1 : h1141.size ≤ h1161.size := ho.2.2.2.2.1
   have K2_1184 : Keep h1161 h1161 [] := Keep.refl _ _
   refine own_joinH (α := Addr × ClassId × List Value) X1181 (cells' := 115) (slots' := 5200) (gj := fun q => (mkF m 157 #[oR a, oR pl, oI ft, oJ k, .unset, .unset, .unset, .unset, .unset, .unset] [(.ref q.1)])) (P := fun L_ h_ q => (Fr n0 L_) ∧ (n0 ≤ h_.size) ∧ (Keep h0 h_ [a]) ∧ (Old Z n0 h_) ∧ (Keep h1161 h_ []) ∧ (Exa Z h_ a zC4) ∧ (Fld Z h_ a zC4 "shares" zC19 (.ref b1054)) ∧ (Fld Z h_ a zC4 "spoken" zC18 (.ref b1072)) ∧ (Fld Z h_ a zC4 "pendingOf" zC18 (.ref b1085)) ∧ (Fld Z h_ a zC4 "retained" zC24 (.ref b1093)) ∧ (Fld Z h_ a zC4 "generation" "I" (.int 0)) ∧ (Exa Z h_ pl zC2) ∧ (Fld Z h_ pl zC2 "workers" "I" (.int (Int32.ofNat nw))) ∧ (Fld Z h_ pl zC2 "owners" "[I" (.ref pb)) ∧ (Fld Z h_ pl zC2 "backupsEach" "I" (.int (Int32.ofNat nr))) ∧ (Arv Z h_ pb pk .int (Int32.ofNat np) us (Value.int 0)) ∧ (Arv Z h_ b1054 k1054 (.object zC5) (Int32.ofNat np) (List.replicate np .null) .null) ∧ (Arv Z h_ b1072 k1072 (.object zC0) (Int32.ofNat nw) bs .null) ∧ (Exa Z h_ b1093 zC6) ∧ (Fld Z h_ b1093 zC6 "dropping" zC20 (.ref b_1104)) ∧ (Arv Z h_ b_1104 kb_1104 (.object zC12) (Int32.ofNat np) (List.replicate np .null) .null) ∧ (Arv Z h_ q.1 q.2.1 (.array .int) (Int32.ofNat np) q.2.2 .null) ∧ (own_B Z h_ h1141.size h1161.size nw bs) ∧ (own_R Z h_ h1161.size h_.size (fun zz => zz < np) q.2.2) ∧ (b1054 ≠ q.1) ∧ (b1072 ≠ q.1) ∧ (b_1104 ≠ q.1) ∧ (pb ≠ q.1) ∧ (q.2.2.length = np ∧ h1161.size ≤ q.1 ∧ h1161.size ≤ h_.size)) ?_ (fun J1185 => ?_)
   ·
    rintro T1185 L1185 h1185 ⟨rr, kr, rs⟩ ⟨N1185, Z1185, K1185, O1185, K2_1185, F1186, F1187, F1188, F1189, F1190, F1191, F1192, F1193, F1194, F1195, F1196, F1197, F1198, F1199, F1200, F1201, F1202, F1203, F1204, F1205, F1206, F1207, F1208, hj1185⟩ X1185 e1185
    try dsimp only at F1186 F1187 F1188 F1189 F1190 F1191 F1192 F1193 F1194 F1195 F1196 F1197 F1198 F1199 F1200 F1201 F1202 F1203 F1204 F1205 F1206 F1207 F1208 hj1185 ⊢
    have hrr := hj1185
    refine own_st (g' := (mkF m 161 #[oR a, oR pl, oI ft, oR rr, oI 0, .unset, .unset, .unset, .unset, .unset] [])) (fun _ kt => XS.astoreN X1185.here hx rfl (hb hby d5_157) rfl rfl (l' := #[oR a, oR pl, oI ft, oR rr, .unset, .unset, .unset, .unset, .unset, .unset]) rfl (XS.iconst X1185.here hx rfl (hb hby d5_158) (XS.istore X1185.here hx rfl (hb hby d5_159) rfl (l' := #[oR a, oR pl, oI ft, oR rr, oI 0, .unset, .unset, .unset, .unset, .unset]) rfl kt))) ?_
    refine own_loopH (α := Nat × List Value × Slot × Slot × Slot × Slot × Slot) X1185 (cs := fun kk => (115 + (np - kk) * 14)) (sl := fun kk => (5200 + (np - kk) * 160)) (gj := fun q => (mkF m 161 #[oR a, oR pl, oI ft, oR rr, oJ q.1, q.2.2.1, q.2.2.2.1, q.2.2.2.2.1, q.2.2.2.2.2.1, q.2.2.2.2.2.2] [])) (P := fun kk L_ h_ q => (Fr n0 L_) ∧ (n0 ≤ h_.size) ∧ (Keep h0 h_ [a]) ∧ (Old Z n0 h_) ∧ (q.2.2.1 = Slot.unset ∨ ∃ x, q.2.2.1 = Slot.val (.int x)) ∧ (q.2.2.2.1 = Slot.unset ∨ ∃ x, q.2.2.2.1 = Slot.val (.ref x)) ∧ (q.2.2.2.2.1 = Slot.unset ∨ ∃ x, q.2.2.2.2.1 = Slot.val (.int x)) ∧ (q.2.2.2.2.2.1 = Slot.unset ∨ ∃ x, q.2.2.2.2.2.1 = Slot.val (.int x)) ∧ (q.2.2.2.2.2.2 = Slot.unset ∨ ∃ x, q.2.2.2.2.2.2 = Slot.val (.int x)) ∧ (Exa Z h_ a zC4) ∧ (Fld Z h_ a zC4 "shares" zC19 (.ref b1054)) ∧ (Fld Z h_ a zC4 "spoken" zC18 (.ref b1072)) ∧ (Fld Z h_ a zC4 "pendingOf" zC18 (.ref b1085)) ∧ (Fld Z h_ a zC4 "retained" zC24 (.ref b1093)) ∧ (Fld Z h_ a zC4 "generation" "I" (.int 0)) ∧ (Exa Z h_ pl zC2) ∧ (Fld Z h_ pl zC2 "workers" "I" (.int (Int32.ofNat nw))) ∧ (Fld Z h_ pl zC2 "owners" "[I" (.ref pb)) ∧ (Fld Z h_ pl zC2 "backupsEach" "I" (.int (Int32.ofNat nr))) ∧ (Arv Z h_ pb pk .int (Int32.ofNat np) us (Value.int 0)) ∧ (Arv Z h_ b1054 k1054 (.object zC5) (Int32.ofNat np) q.2.1 .null) ∧ (Arv Z h_ b1072 k1072 (.object zC0) (Int32.ofNat nw) bs .null) ∧ (Exa Z h_ b1093 zC6) ∧ (Fld Z h_ b1093 zC6 "dropping" zC20 (.ref b_1104)) ∧ (Arv Z h_ b_1104 kb_1104 (.object zC12) (Int32.ofNat np) (List.replicate np .null) .null) ∧ (Arv Z h_ rr kr (.array .int) (Int32.ofNat np) rs .null) ∧ (own_B Z h_ h1141.size h1161.size nw bs) ∧ (own_R Z h_ h1161.size h1185.size (fun zz => zz < np) rs) ∧ (own_S Z h_ h1185.size q.1 q.2.1 (fun zz => Int32.ofNat (own_on np nw zz))) ∧ (q.2.1.length = np ∧ q.1 ≤ np ∧ h1185.size ≤ h_.size ∧ np - q.1 = kk)) ?_ (fun J1209 => ?_)
    ·
     rintro kk ih1209 T1209 L1209 h1209 ⟨i, vs, sv1209_5, sv1209_6, sv1209_7, sv1209_8, sv1209_9⟩ ⟨N1209, Z1209, K1209, O1209, hsv1209_5, hsv1209_6, hsv1209_7, hsv1209_8, hsv1209_9, F1210, F1211, F1212, F1213, F1214, F1215, F1216, F1217, F1218, F1219, F1220, F1221, F1222, F1223, F1224, F1225, F1226, F1227, F1228, F1229, hj1209⟩ X1209 e1209
     try dsimp only at hsv1209_5 hsv1209_6 hsv1209_7 hsv1209_8 hsv1209_9 F1210 F1211 F1212 F1213 F1214 F1215 F1216 F1217 F1218 F1219 F1220 F1221 F1222 F1223 F1224 F1225 F1226 F1227 F1228 F1229 hj1209 X1209 ⊢
     have hi2 := hj1209
     refine own_st (g' := (mkF m 164 #[oR a, oR pl, oI ft, oR rr, oJ i, sv1209_5, sv1209_6, sv1209_7, sv1209_8, sv1209_9] [(.ref a), vJ i])) (fun _ kt => XS.iload X1209.here hx rfl (hb hby d5_161) rfl (XS.aloadN X1209.here hx rfl (hb hby d5_163) rfl rfl kt)) ?_
     obtain ⟨T1230, X1230, e1230, st1230⟩ := getF X1209 hx hZ hown (host := "") (Or.inl (own_k hw 65 rfl)) Via.refl e1209 F1211 (g := (mkF m 164 #[oR a, oR pl, oI ft, oR rr, oJ i, sv1209_5, sv1209_6, sv1209_7, sv1209_8, sv1209_9] [(.ref a), vJ i])) rfl rfl (hb hby d5_164)
     refine own_st st1230 ?_
     refine own_st (g' := (mkF m 168 #[oR a, oR pl, oI ft, oR rr, oJ i, sv1209_5, sv1209_6, sv1209_7, sv1209_8, sv1209_9] [vJ np, vJ i])) (own_alen X1230 hx hZ e1230 F1221 (g := (mkF m 167 #[oR a, oR pl, oI ft, oR rr, oJ i, sv1209_5, sv1209_6, sv1209_7, sv1209_8, sv1209_9] [(.ref b1054), vJ i])) rfl rfl (hb hby d5_167)) ?_
     by_cases hc1231 : (Int32.ofNat i) < (Int32.ofNat np)
     ·
      have hi1 : i < np := (own_ige (by omega) (by omega)).mp hc1231
      refine own_st (g' := (mkF m 171 #[oR a, oR pl, oI ft, oR rr, oJ i, sv1209_5, sv1209_6, sv1209_7, sv1209_8, sv1209_9] [])) (fun _ kt => XS.icmpNo X1230.here hx rfl (hb hby d5_168) rfl (XT.ii_ge_f hc1231) kt) ?_
      have hon := own_on_le hq1 hq2 hq0 hi1
      obtain ⟨row, krow, ys, hR1, hR2, hR3, hR4, hR5⟩ := F1228 i hi1
      obtain ⟨ba, bt, kbt, ub, xb, hB0, hB1, hB2, hB3, hB4, hB5, hB6, hB7, hB8, hB9, hB10⟩ := F1227 (own_on np nw i - 1) (by omega)
      have ge_ba : n0 ≤ ba := Nat.le_trans (Nat.le_trans Z1142 (Nat.le_refl _)) hB1
      have sz_ba : h0.size ≤ ba := Nat.le_trans hloK hB1
      have ge_bt : n0 ≤ bt := Nat.le_trans (Nat.le_trans Z1142 (Nat.le_refl _)) hB3
      have sz_bt : h0.size ≤ bt := Nat.le_trans hloK hB3
      have ne1232 : b1054 ≠ bt := Nat.ne_of_lt (Nat.lt_of_lt_of_le hsaL hB3)
      have ne1233 : b1054 ≠ row := Nat.ne_of_lt (Nat.lt_of_lt_of_le hsaL (Nat.le_trans hml1 hR2))
      have ne1234 : b1072 ≠ bt := Nat.ne_of_lt (Nat.lt_of_lt_of_le hspL hB3)
      have ne1235 : b1072 ≠ row := Nat.ne_of_lt (Nat.lt_of_lt_of_le hspL (Nat.le_trans hml1 hR2))
      have ne1236 : b_1104 ≠ bt := Nat.ne_of_lt (Nat.lt_of_lt_of_le hdbL hB3)
      have ne1237 : b_1104 ≠ row := Nat.ne_of_lt (Nat.lt_of_lt_of_le hdbL (Nat.le_trans hml1 hR2))
      have ne1238 : pb ≠ bt := Nat.ne_of_lt (Nat.lt_of_lt_of_le hpbL hB3)
      have ne1239 : pb ≠ row := Nat.ne_of_lt (Nat.lt_of_lt_of_le hpbL (Nat.le_trans hml1 hR2))
      have ne1240 : rr ≠ bt := Nat.ne_of_gt (Nat.lt_of_lt_of_le hB4 hrr.2.1)
      have K2_1241 : Keep h1209 h1209 [b1054, ba, bt] := Keep.refl _ _
      refine own_st (g' := (mkF m 174 #[oR a, oR pl, oI ft, oR rr, oJ i, sv1209_5, sv1209_6, sv1209_7, sv1209_8, sv1209_9] [vJ i, (.ref pl)])) (fun _ kt => XS.aloadN X1230.here hx rfl (hb hby d5_171) rfl rfl (XS.iload X1230.here hx rfl (hb hby d5_172) rfl kt)) ?_
      obtain ⟨cq1243, kq1243, qa1243, qb1243, qc1243⟩ := isOf hZ e1230 F1216
      obtain ⟨_, _, ⟨T1242, L1242, k1242, n1242⟩, -, X1242, ⟨Lc1242, hQ1242, l1242, y1242, z1242⟩, st1242⟩ := X1230.virtualBack hx (y := yN23) (z := yN23) hown (mvT hZ (own_k hw 252 rfl)) (mvT hZ (own_k hw 253 rfl)) (notFace_of_selects (args := #[]) (mvT hZ (own_k hw 255 rfl))) (mvT hZ (own_k hw 255 rfl)) (mvT hZ (own_k hw 254 rfl)) (by decide) (backOf (W := 0) (own_po l Z a0 hw [] pl pb pk np nw us i (Int32.ofNat (own_on np nw i)) h1209 n0 Z1209 F1216 F1217 F1218 F1220 hi1 hq0 (show us.getD i (Value.int 0) = .int (Int32.ofNat (own_on np nw i)) from (hq6 i hi1))) hZ (own_k hw 256 rfl) (own_k hw 6 rfl) (by decide) (by decide)) qa1243 qc1243 (g := (mkF m 174 #[oR a, oR pl, oI ft, oR rr, oJ i, sv1209_5, sv1209_6, sv1209_7, sv1209_8, sv1209_9] [vJ i, (.ref pl)])) rfl hml.symm (Steps.refl _) (argsL := [vJ i]) (rest := []) (lenOf own_pd3 rfl) rfl (own_w0 rfl rfl) (hb hby d5_174) (fun _ _ => ⟨rfl, e1230, (by show _ + 0 ≤ (230 : Nat); (try dsimp only [Pt.cells, Pt.slots]); omega), (by show _ + 0 ≤ (7600 : Nat); (try dsimp only [Pt.cells, Pt.slots]); omega)⟩)
      dsimp only [Pt.U, Pt.locs, Pt.cells, Pt.slots] at X1242 l1242 y1242 z1242 st1242 hQ1242
      subst l1242 y1242 z1242
      obtain ⟨rfl, N1242, e1242⟩ := hQ1242
      have N1244 := Fr.app N1209 N1242
      refine own_tr st1242 ?_
      refine own_st (g' := (mkF m 180 #[oR a, oR pl, oI ft, oR rr, oJ i, oJ (own_on np nw i), sv1209_6, sv1209_7, sv1209_8, sv1209_9] [(.ref a)])) (fun _ kt => XS.istore X1242.here hx rfl (hb hby d5_177) rfl (l' := #[oR a, oR pl, oI ft, oR rr, oJ i, oJ (own_on np nw i), sv1209_6, sv1209_7, sv1209_8, sv1209_9]) (by rcases hsv1209_5 with rfl | ⟨_, rfl⟩ <;> rfl) (XS.aloadN X1242.here hx rfl (hb hby d5_179) rfl rfl kt)) ?_
      obtain ⟨T1245, X1245, e1245, st1245⟩ := getF X1242 hx hZ hown (host := "") (Or.inl (own_k hw 65 rfl)) Via.refl e1242 F1211 (g := (mkF m 180 #[oR a, oR pl, oI ft, oR rr, oJ i, oJ (own_on np nw i), sv1209_6, sv1209_7, sv1209_8, sv1209_9] [(.ref a)])) rfl rfl (hb hby d5_180)
      refine own_st st1245 ?_
      refine own_st (g' := (mkF m 185 #[oR a, oR pl, oI ft, oR rr, oJ i, oJ (own_on np nw i), sv1209_6, sv1209_7, sv1209_8, sv1209_9] [vJ i, (.ref b1054)])) (fun _ kt => XS.iload X1245.here hx rfl (hb hby d5_183) rfl kt) ?_
      obtain ⟨T1246, h1246, X1246, e1246, E1246, A1246, D1246, -, st1246⟩ := newO X1245 hx hZ hown (own_k hw 63 rfl) (own_k hw 257 rfl) (own_k hw 258 rfl) e1245 (g := (mkF m 185 #[oR a, oR pl, oI ft, oR rr, oJ i, oJ (own_on np nw i), sv1209_6, sv1209_7, sv1209_8, sv1209_9] [vJ i, (.ref b1054)])) rfl (hb hby d5_185) (by show _ ≤ (230 : Nat); (try dsimp only [Pt.cells, Pt.slots]); omega) (by show _ ≤ (7600 : Nat); (try dsimp only [Pt.cells, Pt.slots]); omega)
      obtain ⟨b1246, g1246⟩ : ∃ z, z = h1209.size := ⟨_, rfl⟩
      rw [← g1246] at A1246 D1246 st1246
      have Z1247 := Nat.le_trans Z1209 E1246.1
      have K1247 := (Keep.ext K1209 E1246)
      have K2_1247 := (Keep.ext K2_1241 E1246)
      have ge_b1246 : n0 ≤ b1246 := Nat.le_trans Z1209 (Nat.le_of_eq g1246.symm)
      have F1248 : Fld Z h1246 b1246 zC5 "backups" zC16 .null := D1246 (Or.inr (own_k hw 266 rfl)) (ty := (.object zC11)) (by decide)
      have F1249 : Fld Z h1246 b1246 zC5 "owner" "I" (.int 0) := D1246 (Or.inl (own_k hw 268 rfl)) (ty := .int) (by decide)
      have F1250 : Fld Z h1246 b1246 zC5 "ownedFrom" "I" (.int 0) := D1246 (Or.inl (own_k hw 323 rfl)) (ty := .int) (by decide)
      have F1251 : Fld Z h1246 b1246 zC5 "written" "Z" (.int 0) := D1246 (Or.inl (own_k hw 390 rfl)) (ty := .boolean) (by decide)
      have F1252 : Fld Z h1246 b1246 zC5 "writtenTo" "J" (.long (0 : Int64)) := D1246 (Or.inl (own_k hw 392 rfl)) (ty := .long) (by decide)
      refine own_st st1246 ?_
      refine own_st (g' := (mkF m 191 #[oR a, oR pl, oI ft, oR rr, oJ i, oJ (own_on np nw i), sv1209_6, sv1209_7, sv1209_8, sv1209_9] [vJ (own_on np nw i), (.ref b1246), (.ref b1246), vJ i, (.ref b1054)])) (fun _ kt => XS.dup X1246.here hx rfl (hb hby d5_188) rfl rfl (XS.iload X1246.here hx rfl (hb hby d5_189) rfl kt)) ?_
      have F1253 := (Old.ext O1209 E1246)
      obtain ⟨_, _, ⟨T1254, L1254, k1254, n1254⟩, -, X1254, ⟨Lc1254, hQ1254, l1254, y1254, z1254⟩, st1254⟩ := X1246.specialBack hx (y := yN44) rfl hown (mvT hZ (own_k hw 259 rfl)) (mvT hZ (own_k hw 260 rfl)) (mvT hZ (own_k hw 261 rfl)) (by decide) (backOf (W := 3) (own_sr l Z a0 hw [] b1246 (Int32.ofNat (own_on np nw i)) de h1246 n0 Z1247 F1253 pr2 A1246 ge_b1246 F1248 F1249 F1250 F1251 F1252) hZ (own_k hw 261 rfl) (own_k hw 258 rfl) (by decide) (by decide)) (g := (mkF m 191 #[oR a, oR pl, oI ft, oR rr, oJ i, oJ (own_on np nw i), sv1209_6, sv1209_7, sv1209_8, sv1209_9] [vJ (own_on np nw i), (.ref b1246), (.ref b1246), vJ i, (.ref b1054)])) rfl hml.symm (Steps.refl _) (a := b1246) (argsL := [vJ (own_on np nw i)]) (rest := [(.ref b1246), vJ i, (.ref b1054)]) (lenOf own_pd4 rfl) rfl (own_w0 rfl rfl) (hb hby d5_191) (fun _ _ => ⟨rfl, e1246, (by show _ + 1 ≤ (230 : Nat); (try dsimp only [Pt.cells, Pt.slots]); omega), (by show _ + 3 ≤ (7600 : Nat); (try dsimp only [Pt.cells, Pt.slots]); omega)⟩)
      dsimp only [Pt.U, Pt.locs, Pt.cells, Pt.slots] at X1254 l1254 y1254 z1254 st1254 hQ1254
      subst l1254 y1254 z1254
      obtain ⟨d_1254, rfl, N1254, K1254_, P1255, P1256, P1257, P1258, P1259, P1260, P1261, P1262, P1263, P1264, P1265⟩ := hQ1254
      have N1266 := Fr.app N1244 N1254
      have Z1267 := Nat.le_trans Z1247 K1254_.1
      have K1267 := (Keep.trans K1247 K1254_ (allS (Or.inr (Nat.le_trans K1209.1 (Nat.le_of_eq g1246.symm))) all0))
      have K2_1267 := (Keep.trans K2_1247 K1254_ (allS (Or.inr (Nat.le_trans K2_1241.1 (Nat.le_of_eq g1246.symm))) all0))
      have ge1268 : n0 ≤ d_1254 := Nat.le_trans Z1247 P1265
      refine own_tr st1254 ?_
      have ne1269 : ba ≠ b1054 := (Exa.neArv hB6 F1221 (own_k hw 229 rfl))
      have ne1270 : b1054 ≠ b1246 := (Nat.ne_of_lt (Nat.lt_of_lt_of_le F1221.lt (Nat.le_of_eq g1246.symm)))
      have F1271 := (Arv.keep (F1221.ext E1246) K1254_ (ninS ne1270 nin0))
      obtain ⟨cs1273, As1273, qs1273, -⟩ := id F1271
      obtain ⟨T1272, h1272, X1272, e1272, W1272, V1272, st1272⟩ := own_ast X1254 hx hZ rfl F1271 rfl (own_idx hi1 (by omega)) (i := i) (own_tn (by omega)) (by omega) rfl (Sto.ofV As1273 qs1273 O1054 (Ins.of_exa P1258 (own_k hw 269 rfl))) (g := (mkF m 194 #[oR a, oR pl, oI ft, oR rr, oJ i, oJ (own_on np nw i), sv1209_6, sv1209_7, sv1209_8, sv1209_9] [(.ref b1246), vJ i, (.ref b1054)])) rfl rfl (hb hby d5_194)
      have N1272 := Fr.snoc X1272 N1266 ge_b1054
      have Z1274 := Nat.le_trans Z1267 (Nat.le_of_eq (Wr.size W1272).symm)
      have K1274 := (Keep.wr K1267 W1272 (Or.inr (Nat.le_trans K1043.1 (Nat.le_of_eq g1054.symm))))
      have K2_1274 := (Keep.wr K2_1267 W1272 (Or.inl (List.mem_of_getElem? (i := 0) rfl)))
      have F1275 : Arv Z h1272 b1054 k1054 (.object zC5) (Int32.ofNat np) (vs.set i (.ref b1246)) .null := V1272
      refine own_st st1272 ?_
      refine own_st (g' := (mkF m 198 #[oR a, oR pl, oI ft, oR rr, oJ i, oJ (own_on np nw i), sv1209_6, sv1209_7, sv1209_8, sv1209_9] [vJ i, (.ref rr)])) (fun _ kt => XS.aloadN X1272.here hx rfl (hb hby d5_195) rfl rfl (XS.iload X1272.here hx rfl (hb hby d5_196) rfl kt)) ?_
      have ne1276 : ba ≠ rr := (Exa.neArv hB6 F1226 (own_k hw 229 rfl))
      have F1277 := (Arv.keep F1226 K2_1274 (ninS (Ne.symm F1205) (ninS (Ne.symm ne1276) (ninS ne1240 nin0))))
      refine own_st (g' := (mkF m 199 #[oR a, oR pl, oI ft, oR rr, oJ i, oJ (own_on np nw i), sv1209_6, sv1209_7, sv1209_8, sv1209_9] [(.ref row)])) (own_aal X1272 hx hZ e1272 F1277 rfl (own_idx hi1 (by omega)) (by rw [own_tn (by omega)]; exact hR1) (g := (mkF m 198 #[oR a, oR pl, oI ft, oR rr, oJ i, oJ (own_on np nw i), sv1209_6, sv1209_7, sv1209_8, sv1209_9] [vJ i, (.ref rr)])) rfl rfl (hb hby d5_198)) ?_
      refine own_st (g' := (mkF m 201 #[oR a, oR pl, oI ft, oR rr, oJ i, oJ (own_on np nw i), oR row, sv1209_7, sv1209_8, sv1209_9] [])) (fun _ kt => XS.astore X1272.here hx rfl (hb hby d5_199) rfl rfl (l' := #[oR a, oR pl, oI ft, oR rr, oJ i, oJ (own_on np nw i), oR row, sv1209_7, sv1209_8, sv1209_9]) (by rcases hsv1209_6 with rfl | ⟨_, rfl⟩ <;> rfl) kt) ?_
      refine own_joinH (α := Int32 × Int32 × Slot) X1272 (cells' := (115 + (np - kk) * 14 + 13)) (slots' := (5200 + (np - kk) * 160 + 140)) (gj := fun q => (mkF m 256 #[oR a, oR pl, oI ft, oR rr, oJ i, oJ (own_on np nw i), oR row, oI q.1, oI q.2.1, q.2.2] [])) (P := fun L_ h_ q => (Fr n0 L_) ∧ (n0 ≤ h_.size) ∧ (Keep h0 h_ [a]) ∧ (Old Z n0 h_) ∧ (Keep h1209 h_ [b1054, ba, bt]) ∧ (Exa Z h_ a zC4) ∧ (Fld Z h_ a zC4 "shares" zC19 (.ref b1054)) ∧ (Fld Z h_ a zC4 "spoken" zC18 (.ref b1072)) ∧ (Fld Z h_ a zC4 "pendingOf" zC18 (.ref b1085)) ∧ (Fld Z h_ a zC4 "retained" zC24 (.ref b1093)) ∧ (Fld Z h_ a zC4 "generation" "I" (.int 0)) ∧ (Exa Z h_ pl zC2) ∧ (Fld Z h_ pl zC2 "workers" "I" (.int (Int32.ofNat nw))) ∧ (Fld Z h_ pl zC2 "owners" "[I" (.ref pb)) ∧ (Fld Z h_ pl zC2 "backupsEach" "I" (.int (Int32.ofNat nr))) ∧ (Arv Z h_ pb pk .int (Int32.ofNat np) us (Value.int 0)) ∧ (Arv Z h_ b1054 k1054 (.object zC5) (Int32.ofNat np) (vs.set i (.ref b1246)) .null) ∧ (Arv Z h_ b1072 k1072 (.object zC0) (Int32.ofNat nw) bs .null) ∧ (Exa Z h_ b1093 zC6) ∧ (Fld Z h_ b1093 zC6 "dropping" zC20 (.ref b_1104)) ∧ (Arv Z h_ b_1104 kb_1104 (.object zC12) (Int32.ofNat np) (List.replicate np .null) .null) ∧ (Arv Z h_ rr kr (.array .int) (Int32.ofNat np) rs .null) ∧ (Exa Z h_ ba zC0) ∧ (Fld Z h_ ba zC0 "wordsInUse" "I" (.int ub)) ∧ (Fld Z h_ ba zC0 "words" "[J" (.ref bt)) ∧ (Fld Z h_ ba zC0 "sizeIsSticky" "Z" (.int 0)) ∧ (Arv Z h_ bt kbt .long (1 : Int32) [(.long xb)] (Value.long (0 : Int64))) ∧ (own_sh Z h_ h1185.size b1246 (Int32.ofNat (own_on np nw i))) ∧ (q.2.2 = Slot.unset ∨ ∃ x, q.2.2 = Slot.val (.int x))) ?_ (fun J1278 => ?_)
      ·
       rintro T1278 L1278 h1278 ⟨l7, l8, svj⟩ ⟨N1278, Z1278, K1278, O1278, K2_1278, F1279, F1280, F1281, F1282, F1283, F1284, F1285, F1286, F1287, F1288, F1289, F1290, F1291, F1292, F1293, F1294, F1295, F1296, F1297, F1298, F1299, F1300, F1301, hj1278⟩ X1278 e1278
       try dsimp only at F1279 F1280 F1281 F1282 F1283 F1284 F1285 F1286 F1287 F1288 F1289 F1290 F1291 F1292 F1293 F1294 F1295 F1296 F1297 F1298 F1299 F1300 F1301 hj1278 ⊢
       have hsvj := hj1278
       refine own_st (g' := (mkF m 257 #[oR a, oR pl, oI ft, oR rr, oJ i, oJ (own_on np nw i), oR row, oI l7, oI l8, svj] [(.ref a)])) (fun _ kt => XS.aloadN X1278.here hx rfl (hb hby d5_256) rfl rfl kt) ?_
       obtain ⟨T1302, X1302, e1302, st1302⟩ := getF X1278 hx hZ hown (host := "") (Or.inl (own_k hw 76 rfl)) Via.refl e1278 F1281 (g := (mkF m 257 #[oR a, oR pl, oI ft, oR rr, oJ i, oJ (own_on np nw i), oR row, oI l7, oI l8, svj] [(.ref a)])) rfl rfl (hb hby d5_257)
       refine own_st st1302 ?_
       refine own_st (g' := (mkF m 264 #[oR a, oR pl, oI ft, oR rr, oJ i, oJ (own_on np nw i), oR row, oI l7, oI l8, svj] [(.int ((Int32.ofNat (own_on np nw i)) - (1 : Int32))), (.ref b1072)])) (fun _ kt => XS.iload X1302.here hx rfl (hb hby d5_260) rfl (XS.iconst X1302.here hx rfl (hb hby d5_262) (XS.isub X1302.here hx rfl (hb hby d5_263) rfl kt))) ?_
       rw [own_prd (n := own_on np nw i) (by omega) (by omega)]
       refine own_st (g' := (mkF m 265 #[oR a, oR pl, oI ft, oR rr, oJ i, oJ (own_on np nw i), oR row, oI l7, oI l8, svj] [(.ref ba)])) (own_aal X1302 hx hZ e1302 F1291 rfl (own_idx (by omega) (by omega)) (by rw [own_tn (by omega)]; exact hB0) (g := (mkF m 264 #[oR a, oR pl, oI ft, oR rr, oJ i, oJ (own_on np nw i), oR row, oI l7, oI l8, svj] [vJ (own_on np nw i - 1), (.ref b1072)])) rfl rfl (hb hby d5_264)) ?_
       refine own_st (g' := (mkF m 267 #[oR a, oR pl, oI ft, oR rr, oJ i, oJ (own_on np nw i), oR row, oI l7, oI l8, svj] [vJ i, (.ref ba)])) (fun _ kt => XS.iload X1302.here hx rfl (hb hby d5_265) rfl kt) ?_
       obtain ⟨cq1304, kq1304, qa1304, qb1304, qc1304⟩ := isOf hZ e1302 F1296
       obtain ⟨_, _, ⟨T1303, L1303, k1303, n1303⟩, -, X1303, ⟨Lc1303, hQ1303, l1303, y1303, z1303⟩, st1303⟩ := X1302.virtualBack hx (y := yN18) (z := yN18) hown (mvT hZ (own_k hw 270 rfl)) (mvT hZ (own_k hw 271 rfl)) (notFace_of_selects (args := #[]) (mvT hZ (own_k hw 273 rfl))) (mvT hZ (own_k hw 273 rfl)) (mvT hZ (own_k hw 272 rfl)) (by decide) (backOf (W := 0) (own_bset l Z a0 hw [] ba bt kbt ub xb (Int32.ofNat i) h1278 n0 Z1278 O1278 pr4 ge_ba ge_bt hB5 (show ¬ (Int32.ofNat i) < 0 from (own_nn (by omega))) (show (Int32.ofNat i) >>> ((6 : Int32) &&& 31) = 0 from (own_w6 (by omega))) F1296 F1297 F1298 F1299 F1300) hZ (own_k hw 274 rfl) (own_k hw 230 rfl) (by decide) (by decide)) qa1304 qc1304 (g := (mkF m 267 #[oR a, oR pl, oI ft, oR rr, oJ i, oJ (own_on np nw i), oR row, oI l7, oI l8, svj] [vJ i, (.ref ba)])) rfl hml.symm (Steps.refl _) (argsL := [vJ i]) (rest := []) (lenOf own_pd4 rfl) rfl (own_w0 rfl rfl) (hb hby d5_267) (fun _ _ => ⟨rfl, e1302, (by show _ + 0 ≤ (230 : Nat); (try dsimp only [Pt.cells, Pt.slots]); omega), (by show _ + 0 ≤ (7600 : Nat); (try dsimp only [Pt.cells, Pt.slots]); omega)⟩)
       dsimp only [Pt.U, Pt.locs, Pt.cells, Pt.slots] at X1303 l1303 y1303 z1303 st1303 hQ1303
       subst l1303 y1303 z1303
       obtain ⟨y_1303, rfl, N1303, K1303_, P1305, P1306, P1307, P1308, P1309⟩ := hQ1303
       have N1310 := Fr.app N1278 N1303
       have Z1311 := Nat.le_trans Z1278 K1303_.1
       have K1311 := (Keep.trans K1278 K1303_ (allS (Or.inr sz_ba) (allS (Or.inr sz_bt) all0)))
       have K2_1311 := (Keep.trans K2_1278 K1303_ (allS (Or.inl (List.mem_of_getElem? (i := 1) rfl)) (allS (Or.inl (List.mem_of_getElem? (i := 2) rfl)) all0)))
       refine own_tr st1303 ?_
       refine own_st (g' := (mkF m 273 #[oR a, oR pl, oI ft, oR rr, oI ((Int32.ofNat i) + (1 : Int32)), oJ (own_on np nw i), oR row, oI l7, oI l8, svj] [])) (fun _ kt => XS.iinc X1303.here hx rfl (hb hby d5_270) rfl (l' := #[oR a, oR pl, oI ft, oR rr, oI ((Int32.ofNat i) + (1 : Int32)), oJ (own_on np nw i), oR row, oI l7, oI l8, svj]) rfl kt) ?_
       rw [own_succ (n := i) (by omega)]
       refine own_st (g' := (mkF m 161 #[oR a, oR pl, oI ft, oR rr, oJ (i + 1), oJ (own_on np nw i), oR row, oI l7, oI l8, svj] [])) (fun _ kt => XS.goto X1303.here hx rfl (pc0 := 273) (pc' := 161) rfl (hb hby d5_273) (by decide) (by decide) kt) ?_
       have hbK := K2_1311.1
       have Q1312 : own_S Z T1303.heap h1185.size (i + 1) (vs.set i (.ref b1246)) (fun zz => Int32.ofNat (own_on np nw zz)) := (own_S_add F1229 K2_1311 (allS (Nat.lt_of_lt_of_le hsaL (Nat.le_trans hml1 hrr.2.2)) (allS (Nat.lt_of_lt_of_le hB2 hrr.2.2) (allS (Nat.lt_of_lt_of_le hB4 hrr.2.2) all0))) (by rw [hi2.1]; exact hi1) (Nat.le_trans K2_1241.1 (Nat.le_of_eq g1246.symm)) (own_sh_keep F1301 K1303_ (allS (Nat.lt_of_lt_of_le hB2 hrr.2.2) (allS (Nat.lt_of_lt_of_le hB4 hrr.2.2) all0))))
       have Q1313 : own_B Z T1303.heap h1141.size h1161.size nw bs := (own_B_upd F1227 K2_1311 hsaL (own_k hw 229 rfl) hB6 hB10 hB3 hB4 (Or.inr rfl) ⟨P1305, P1306, P1307, P1308, P1309⟩)
       have Q1314 : own_R Z T1303.heap h1161.size h1185.size (fun zz => zz < np) rs := (own_R_keep F1228 K2_1311 (allS (Or.inl (Nat.lt_of_lt_of_le hsaL hml1)) (allS (Or.inl hB2) (allS (Or.inl hB4) all0))))
       have F1315 := (Old.keep O1278 K1303_ (allS ge_ba (allS ge_bt all0)))
       have F1316 := (Exa.keep F1279 K1303_)
       have ne1317 : a ≠ bt := (Exa.neArv F1210 hB10 (own_k hw 2 rfl))
       have ne1318 : a ≠ ba := (ne_exa F1210 hB6 (by decide))
       have F1319 := (Fld.keep F1280 K1303_ (ninS ne1318 (ninS ne1317 nin0)))
       have F1320 := (Fld.keep F1281 K1303_ (ninS ne1318 (ninS ne1317 nin0)))
       have F1321 := (Fld.keep F1282 K1303_ (ninS ne1318 (ninS ne1317 nin0)))
       have F1322 := (Fld.keep F1283 K1303_ (ninS ne1318 (ninS ne1317 nin0)))
       have F1323 := (Fld.keep F1284 K1303_ (ninS ne1318 (ninS ne1317 nin0)))
       have F1324 := (Exa.keep F1285 K1303_)
       have ne1325 : pl ≠ bt := (Exa.neArv F1216 hB10 (own_k hw 5 rfl))
       have ne1326 : pl ≠ ba := (ne_exa F1216 hB6 (by decide))
       have F1327 := (Fld.keep F1286 K1303_ (ninS ne1326 (ninS ne1325 nin0)))
       have F1328 := (Fld.keep F1287 K1303_ (ninS ne1326 (ninS ne1325 nin0)))
       have F1329 := (Fld.keep F1288 K1303_ (ninS ne1326 (ninS ne1325 nin0)))
       have ne1330 : ba ≠ pb := (Exa.neArv hB6 F1220 (own_k hw 229 rfl))
       have F1331 := (Arv.keep F1289 K1303_ (ninS (Ne.symm ne1330) (ninS ne1238 nin0)))
       have F1332 := (Arv.keep F1290 K1303_ (ninS (Ne.symm ne1269) (ninS ne1232 nin0)))
       have ne1333 : ba ≠ b1072 := (Exa.neArv hB6 F1222 (own_k hw 229 rfl))
       have F1334 := (Arv.keep F1291 K1303_ (ninS (Ne.symm ne1333) (ninS ne1234 nin0)))
       have F1335 := (Exa.keep F1292 K1303_)
       have ne1336 : b1093 ≠ bt := (Exa.neArv F1223 hB10 (own_k hw 81 rfl))
       have ne1337 : b1093 ≠ ba := (ne_exa F1223 hB6 (by decide))
       have F1338 := (Fld.keep F1293 K1303_ (ninS ne1337 (ninS ne1336 nin0)))
       have ne1339 : ba ≠ b_1104 := (Exa.neArv hB6 F1225 (own_k hw 229 rfl))
       have F1340 := (Arv.keep F1294 K1303_ (ninS (Ne.symm ne1339) (ninS ne1236 nin0)))
       have F1341 := (Arv.keep F1295 K1303_ (ninS (Ne.symm ne1276) (ninS ne1240 nin0)))
       exact ih1209 (np - (i + 1)) (by omega) _ _ _ ⟨(i + 1), (vs.set i (.ref b1246)), (Slot.val (.int (Int32.ofNat (own_on np nw i)))), (Slot.val (.ref row)), (Slot.val (.int l7)), (Slot.val (.int l8)), svj⟩ ⟨N1310, Z1311, K1311, F1315, (Or.inr ⟨_, rfl⟩), (Or.inr ⟨_, rfl⟩), (Or.inr ⟨_, rfl⟩), (Or.inr ⟨_, rfl⟩), hsvj, F1316, F1319, F1320, F1321, F1322, F1323, F1324, F1327, F1328, F1329, F1331, F1332, F1334, F1335, F1338, F1340, F1341, Q1313, Q1314, Q1312, ⟨by rw [List.length_set]; exact hi2.1, by omega, Nat.le_trans hi2.2.2.1 hbK, rfl⟩⟩ (X1303.mono (by first | decide | exact Nat.le_add_right_of_le (by decide) | ((try dsimp only [Pt.cells, Pt.slots]); omega)) (by first | decide | exact Nat.le_add_right_of_le (by decide) | ((try dsimp only [Pt.cells, Pt.slots]); omega))) rfl
      ·
       refine own_st (g' := (mkF m 203 #[oR a, oR pl, oI ft, oR rr, oJ i, oJ (own_on np nw i), oR row, sv1209_7, sv1209_8, sv1209_9] [(.ref row)])) (fun _ kt => XS.aload X1272.here hx rfl (hb hby d5_201) rfl rfl kt) ?_
       have ne1342 : row ≠ b1246 := (Nat.ne_of_lt (Nat.lt_of_lt_of_le hR5.lt (Nat.le_of_eq g1246.symm)))
       have F1343 := (Arv.other (Arv.keep (hR5.ext E1246) K1254_ (ninS ne1342 nin0)) W1272 (Ne.symm ne1233))
       refine own_st (g' := (mkF m 204 #[oR a, oR pl, oI ft, oR rr, oJ i, oJ (own_on np nw i), oR row, sv1209_7, sv1209_8, sv1209_9] [vJ ys.length])) (own_alen X1272 hx hZ e1272 F1343 (g := (mkF m 203 #[oR a, oR pl, oI ft, oR rr, oJ i, oJ (own_on np nw i), oR row, sv1209_7, sv1209_8, sv1209_9] [(.ref row)])) rfl rfl (hb hby d5_203)) ?_
       refine own_st (g' := (mkF m 213 #[oR a, oR pl, oI ft, oR rr, oJ i, oJ (own_on np nw i), oR row, oJ ys.length, oI 0, sv1209_9] [vJ ys.length, (.int 0)])) (fun _ kt => XS.istore X1272.here hx rfl (hb hby d5_204) rfl (l' := #[oR a, oR pl, oI ft, oR rr, oJ i, oJ (own_on np nw i), oR row, oJ ys.length, sv1209_8, sv1209_9]) (by rcases hsv1209_7 with rfl | ⟨_, rfl⟩ <;> rfl) (XS.iconst X1272.here hx rfl (hb hby d5_206) (XS.istore X1272.here hx rfl (hb hby d5_207) rfl (l' := #[oR a, oR pl, oI ft, oR rr, oJ i, oJ (own_on np nw i), oR row, oJ ys.length, oI 0, sv1209_9]) (by rcases hsv1209_8 with rfl | ⟨_, rfl⟩ <;> rfl) (XS.iload X1272.here hx rfl (hb hby d5_209) rfl (XS.iload X1272.here hx rfl (hb hby d5_211) rfl kt))))) ?_
       by_cases hc1344 : (0 : Int32) < (Int32.ofNat ys.length)
       ·
        have hk0 : 0 < ys.length := (own_ige (i := 0) (n := ys.length) (by omega) (by omega)).mp hc1344
        refine own_st (g' := (mkF m 220 #[oR a, oR pl, oI ft, oR rr, oJ i, oJ (own_on np nw i), oR row, oJ ys.length, oI 0, sv1209_9] [(.int 0), (.ref row)])) (fun _ kt => XS.icmpNo X1272.here hx rfl (hb hby d5_213) rfl (XT.ii_ge_f hc1344) (XS.aload X1272.here hx rfl (hb hby d5_216) rfl rfl (XS.iload X1272.here hx rfl (hb hby d5_218) rfl kt))) ?_
        refine own_st (g' := (mkF m 221 #[oR a, oR pl, oI ft, oR rr, oJ i, oJ (own_on np nw i), oR row, oJ ys.length, oI 0, sv1209_9] [(.int (ys.getD 0 0))])) (own_ial X1272 hx hZ e1272 F1343 ⟨by decide, hc1344⟩ (own_mg (i := 0) hk0) (g := (mkF m 220 #[oR a, oR pl, oI ft, oR rr, oJ i, oJ (own_on np nw i), oR row, oJ ys.length, oI 0, sv1209_9] [(.int 0), (.ref row)])) rfl rfl (hb hby d5_220)) ?_
        refine own_st (g' := (mkF m 224 #[oR a, oR pl, oI ft, oR rr, oJ i, oJ (own_on np nw i), oR row, oJ ys.length, oI 0, oI (ys.getD 0 0)] [(.ref a)])) (fun _ kt => XS.istore X1272.here hx rfl (hb hby d5_221) rfl (l' := #[oR a, oR pl, oI ft, oR rr, oJ i, oJ (own_on np nw i), oR row, oJ ys.length, oI 0, oI (ys.getD 0 0)]) (by rcases hsv1209_9 with rfl | ⟨_, rfl⟩ <;> rfl) (XS.aloadN X1272.here hx rfl (hb hby d5_223) rfl rfl kt)) ?_
        have ne1345 : a ≠ bt := (Exa.neArv F1210 hB10 (own_k hw 2 rfl))
        have ne1346 : a ≠ ba := (ne_exa F1210 hB6 (by decide))
        have F1347 := (Fld.keep F1211 K2_1274 (ninS ne1102 (ninS ne1346 (ninS ne1345 nin0))))
        obtain ⟨T1348, X1348, e1348, st1348⟩ := getF X1272 hx hZ hown (host := "") (Or.inl (own_k hw 65 rfl)) Via.refl e1272 F1347 (g := (mkF m 224 #[oR a, oR pl, oI ft, oR rr, oJ i, oJ (own_on np nw i), oR row, oJ ys.length, oI 0, oI (ys.getD 0 0)] [(.ref a)])) rfl rfl (hb hby d5_224)
        refine own_st st1348 ?_
        refine own_st (g' := (mkF m 229 #[oR a, oR pl, oI ft, oR rr, oJ i, oJ (own_on np nw i), oR row, oJ ys.length, oI 0, oI (ys.getD 0 0)] [vJ i, (.ref b1054)])) (fun _ kt => XS.iload X1348.here hx rfl (hb hby d5_227) rfl kt) ?_
        refine own_st (g' := (mkF m 230 #[oR a, oR pl, oI ft, oR rr, oJ i, oJ (own_on np nw i), oR row, oJ ys.length, oI 0, oI (ys.getD 0 0)] [(.ref b1246)])) (own_aal X1348 hx hZ e1348 F1275 rfl (own_idx hi1 (by omega)) (by rw [own_tn (by omega)]; exact own_gs (by omega)) (g := (mkF m 229 #[oR a, oR pl, oI ft, oR rr, oJ i, oJ (own_on np nw i), oR row, oJ ys.length, oI 0, oI (ys.getD 0 0)] [vJ i, (.ref b1054)])) rfl rfl (hb hby d5_229)) ?_
        have F1349 := (Fld.other W1272 P1259 (Or.inl (Ne.symm ne1270)))
        obtain ⟨T1350, X1350, e1350, st1350⟩ := getF X1348 hx hZ hown (host := "") (Or.inl (own_k hw 324 rfl)) Via.refl e1348 F1349 (g := (mkF m 230 #[oR a, oR pl, oI ft, oR rr, oJ i, oJ (own_on np nw i), oR row, oJ ys.length, oI 0, oI (ys.getD 0 0)] [(.ref b1246)])) rfl rfl (hb hby d5_230)
        refine own_st st1350 ?_
        obtain ⟨T1351, h1351, X1351, e1351, E1351, A1351, D1351, -, st1351⟩ := newO X1350 hx hZ hown (own_k hw 435 rfl) (own_k hw 436 rfl) (own_k hw 437 rfl) e1350 (g := (mkF m 233 #[oR a, oR pl, oI ft, oR rr, oJ i, oJ (own_on np nw i), oR row, oJ ys.length, oI 0, oI (ys.getD 0 0)] [(.ref d_1254)])) rfl (hb hby d5_233) (by show _ ≤ (230 : Nat); (try dsimp only [Pt.cells, Pt.slots]); omega) (by show _ ≤ (7600 : Nat); (try dsimp only [Pt.cells, Pt.slots]); omega)
        obtain ⟨b1351, g1351⟩ : ∃ z, z = h1272.size := ⟨_, rfl⟩
        rw [← g1351] at A1351 D1351 st1351
        have Z1352 := Nat.le_trans Z1274 E1351.1
        have K1352 := (Keep.ext K1274 E1351)
        have K2_1352 := (Keep.ext K2_1274 E1351)
        have ge_b1351 : n0 ≤ b1351 := Nat.le_trans Z1274 (Nat.le_of_eq g1351.symm)
        have F1353 : Fld Z h1351 b1351 zC13 "pending" zC26 .null := D1351 (Or.inr (own_k hw 454 rfl)) (ty := (.object zC9)) (by decide)
        have F1354 : Fld Z h1351 b1351 zC13 "partition" "I" (.int 0) := D1351 (Or.inr (own_k hw 456 rfl)) (ty := .int) (by decide)
        have F1355 : Fld Z h1351 b1351 zC13 "worker" "I" (.int 0) := D1351 (Or.inl (own_k hw 458 rfl)) (ty := .int) (by decide)
        refine own_st st1351 ?_
        refine own_st (g' := (mkF m 241 #[oR a, oR pl, oI ft, oR rr, oJ i, oJ (own_on np nw i), oR row, oJ ys.length, oI 0, oI (ys.getD 0 0)] [(.int (ys.getD 0 0)), vJ i, (.ref b1351), (.ref b1351), (.ref d_1254)])) (fun _ kt => XS.dup X1351.here hx rfl (hb hby d5_236) rfl rfl (XS.iload X1351.here hx rfl (hb hby d5_237) rfl (XS.iload X1351.here hx rfl (hb hby d5_239) rfl kt))) ?_
        obtain ⟨_, _, ⟨T1356, L1356, k1356, n1356⟩, -, X1356, ⟨Lc1356, hQ1356, l1356, y1356, z1356⟩, st1356⟩ := X1351.specialBack hx (y := yN9) rfl hown (mvT hZ (own_k hw 438 rfl)) (mvT hZ (own_k hw 439 rfl)) (mvT hZ (own_k hw 440 rfl)) (by decide) (backOf (W := 2) (own_bk l Z a0 hw [] b1351 (Int32.ofNat i) (ys.getD 0 0) h1351 n0 Z1352 A1351 ge_b1351 F1353 F1354 F1355) hZ (own_k hw 440 rfl) (own_k hw 437 rfl) (by decide) (by decide)) (g := (mkF m 241 #[oR a, oR pl, oI ft, oR rr, oJ i, oJ (own_on np nw i), oR row, oJ ys.length, oI 0, oI (ys.getD 0 0)] [(.int (ys.getD 0 0)), vJ i, (.ref b1351), (.ref b1351), (.ref d_1254)])) rfl hml.symm (Steps.refl _) (a := b1351) (argsL := [vJ i, (.int (ys.getD 0 0))]) (rest := [(.ref b1351), (.ref d_1254)]) (lenOf own_pd17 rfl) rfl (own_w0 rfl rfl) (hb hby d5_241) (fun _ _ => ⟨rfl, e1351, (by show _ + 2 ≤ (230 : Nat); (try dsimp only [Pt.cells, Pt.slots]); omega), (by show _ + 20 ≤ (7600 : Nat); (try dsimp only [Pt.cells, Pt.slots]); omega)⟩)
        dsimp only [Pt.U, Pt.locs, Pt.cells, Pt.slots] at X1356 l1356 y1356 z1356 st1356 hQ1356
        subst l1356 y1356 z1356
        obtain ⟨d_1356, b_1356, rfl, N1356, K1356_, P1357, P1358, P1359, P1360, P1361, P1362, P1363⟩ := hQ1356
        have N1364 := Fr.app N1272 N1356
        have Z1365 := Nat.le_trans Z1352 K1356_.1
        have K1365 := (Keep.trans K1352 K1356_ (allS (Or.inr (Nat.le_trans K1274.1 (Nat.le_of_eq g1351.symm))) all0))
        have K2_1365 := (Keep.trans K2_1352 K1356_ (allS (Or.inr (Nat.le_trans K2_1274.1 (Nat.le_of_eq g1351.symm))) all0))
        have ge1366 : n0 ≤ d_1356 := Nat.le_trans Z1352 P1363
        refine own_tr st1356 ?_
        have F1367 := (Exa.keep (Exa.ext E1351 (Exa.wr W1272 P1261)) K1356_)
        have F1368 := (Old.keep (Old.ext (Old.wr (Old.keep F1253 K1254_ (allS ge_b1246 all0)) W1272 ge_b1054) E1351) K1356_ (allS ge_b1351 all0))
        have ne1369 : d_1254 ≠ b1054 := (Exa.neArv P1261 F1271 (own_k hw 33 rfl))
        have ne1370 : d_1254 ≠ b1351 := (Nat.ne_of_lt (Nat.lt_of_lt_of_le (Nat.lt_of_lt_of_le P1261.lt (Nat.le_of_eq (Wr.size W1272).symm)) (Nat.le_of_eq g1351.symm)))
        have F1371 := (Fld.keep (Fld.ext E1351 (Fld.other W1272 P1262 (Or.inl ne1369))) K1356_ (ninS ne1370 nin0))
        have F1372 := (Fld.keep (Fld.ext E1351 (Fld.other W1272 P1263 (Or.inl ne1369))) K1356_ (ninS ne1370 nin0))
        have F1373 := (Fld.keep (Fld.ext E1351 (Fld.other W1272 P1264 (Or.inl ne1369))) K1356_ (ninS ne1370 nin0))
        obtain ⟨cq1375, kq1375, qa1375, qb1375, qc1375⟩ := isOf hZ rfl F1367
        obtain ⟨_, _, ⟨T1374, L1374, k1374, n1374⟩, -, X1374, ⟨Lc1374, hQ1374, l1374, y1374, z1374⟩, st1374⟩ := X1356.interfaceBack hx (xi := yN5) (y := yN1) hown (mvT hZ (own_k hw 459 rfl)) (mvT hZ (own_k hw 115 rfl)) (mvT hZ (own_k hw 116 rfl)) (mvT hZ (own_k hw 117 rfl)) (mvT hZ (own_k hw 118 rfl)) (mvT hZ (own_k hw 119 rfl)) (mvT hZ (own_k hw 120 rfl)) (mvT hZ (own_k hw 121 rfl)) (by decide) (backOf (W := 0) (own_b1_0 l Z a0 hw [] d_1254 (0 : Int32) b1351 de kd T1356.heap n0 Z1365 F1368 pr2 pr3 ge1268 P1357 F1367 F1371 F1372 F1373) hZ (own_k hw 122 rfl) (own_k hw 34 rfl) (by decide) (by decide)) qa1375 qb1375 qc1375 (g := (mkF m 244 #[oR a, oR pl, oI ft, oR rr, oJ i, oJ (own_on np nw i), oR row, oJ ys.length, oI 0, oI (ys.getD 0 0)] [(.ref b1351), (.ref d_1254)])) rfl hml.symm (Steps.refl _) (argsL := [(.ref b1351)]) (rest := []) (lenOf own_pd8 rfl) rfl (own_w0 rfl rfl) (hb hby d5_244) (fun _ _ => ⟨rfl, rfl, (by show _ + 1 ≤ (230 : Nat); (try dsimp only [Pt.cells, Pt.slots]); omega), (by show _ + 10 ≤ (7600 : Nat); (try dsimp only [Pt.cells, Pt.slots]); omega)⟩)
        dsimp only [Pt.U, Pt.locs, Pt.cells, Pt.slots] at X1374 l1374 y1374 z1374 st1374 hQ1374
        subst l1374 y1374 z1374
        obtain ⟨b_1374, kb_1374, rfl, N1374, K1374_, P1376, P1377, P1378, P1379, P1380, P1381, P1382⟩ := hQ1374
        have N1383 := Fr.app N1364 N1374
        have Z1384 := Nat.le_trans Z1365 K1374_.1
        have K1384 := (Keep.trans K1365 K1374_ (allS (Or.inr (Nat.le_trans K1247.1 P1265)) all0))
        have K2_1384 := (Keep.trans K2_1365 K1374_ (allS (Or.inr (Nat.le_trans K2_1247.1 P1265)) all0))
        have ge1385 : n0 ≤ b_1374 := Nat.le_trans Z1365 P1382
        refine own_tr st1374 ?_
        refine own_st (g' := (mkF m 213 #[oR a, oR pl, oI ft, oR rr, oJ i, oJ (own_on np nw i), oR row, oJ ys.length, oI 1, oI (ys.getD 0 0)] [vJ ys.length, (.int 1)])) (fun _ kt => XT.pop X1374.here hx rfl (hb hby d5_249) rfl rfl (XS.iinc X1374.here hx rfl (hb hby d5_250) rfl (l' := #[oR a, oR pl, oI ft, oR rr, oJ i, oJ (own_on np nw i), oR row, oJ ys.length, oI 1, oI (ys.getD 0 0)]) rfl (XS.goto X1374.here hx rfl (pc0 := 253) (pc' := 209) rfl (hb hby d5_253) (by decide) (by decide) (XS.iload X1374.here hx rfl (hb hby d5_209) rfl (XS.iload X1374.here hx rfl (hb hby d5_211) rfl kt))))) ?_
        by_cases hc1386 : (1 : Int32) < (Int32.ofNat ys.length)
        ·
         have hk1 : 1 < ys.length := (own_ige (i := 1) (n := ys.length) (by omega) (by omega)).mp hc1386
         refine own_st (g' := (mkF m 220 #[oR a, oR pl, oI ft, oR rr, oJ i, oJ (own_on np nw i), oR row, oJ ys.length, oI 1, oI (ys.getD 0 0)] [(.int 1), (.ref row)])) (fun _ kt => XS.icmpNo X1374.here hx rfl (hb hby d5_213) rfl (XT.ii_ge_f hc1386) (XS.aload X1374.here hx rfl (hb hby d5_216) rfl rfl (XS.iload X1374.here hx rfl (hb hby d5_218) rfl kt))) ?_
         have ne1387 : row ≠ b1351 := (Nat.ne_of_lt (Nat.lt_of_lt_of_le F1343.lt (Nat.le_of_eq g1351.symm)))
         have ne1388 : row ≠ d_1254 := (Nat.ne_of_lt (Nat.lt_of_lt_of_le (Nat.lt_of_lt_of_le hR5.lt E1246.1) P1265))
         have F1389 := (Arv.keep (Arv.keep (F1343.ext E1351) K1356_ (ninS ne1387 nin0)) K1374_ (ninS ne1388 nin0))
         refine own_st (g' := (mkF m 221 #[oR a, oR pl, oI ft, oR rr, oJ i, oJ (own_on np nw i), oR row, oJ ys.length, oI 1, oI (ys.getD 0 0)] [(.int (ys.getD 1 0))])) (own_ial X1374 hx hZ rfl F1389 ⟨by decide, hc1386⟩ (own_mg (i := 1) hk1) (g := (mkF m 220 #[oR a, oR pl, oI ft, oR rr, oJ i, oJ (own_on np nw i), oR row, oJ ys.length, oI 1, oI (ys.getD 0 0)] [(.int 1), (.ref row)])) rfl rfl (hb hby d5_220)) ?_
         refine own_st (g' := (mkF m 224 #[oR a, oR pl, oI ft, oR rr, oJ i, oJ (own_on np nw i), oR row, oJ ys.length, oI 1, oI (ys.getD 1 0)] [(.ref a)])) (fun _ kt => XS.istore X1374.here hx rfl (hb hby d5_221) rfl (l' := #[oR a, oR pl, oI ft, oR rr, oJ i, oJ (own_on np nw i), oR row, oJ ys.length, oI 1, oI (ys.getD 1 0)]) rfl (XS.aloadN X1374.here hx rfl (hb hby d5_223) rfl rfl kt)) ?_
         have ne1390 : a ≠ b1351 := (Nat.ne_of_lt (Nat.lt_of_lt_of_le F1347.lt (Nat.le_of_eq g1351.symm)))
         have ne1391 : a ≠ d_1254 := (Nat.ne_of_lt (Nat.lt_of_lt_of_le (Nat.lt_of_lt_of_le F1210.lt E1246.1) P1265))
         have F1392 := (Fld.keep (Fld.keep (Fld.ext E1351 F1347) K1356_ (ninS ne1390 nin0)) K1374_ (ninS ne1391 nin0))
         obtain ⟨T1393, X1393, e1393, st1393⟩ := getF X1374 hx hZ hown (host := "") (Or.inl (own_k hw 65 rfl)) Via.refl rfl F1392 (g := (mkF m 224 #[oR a, oR pl, oI ft, oR rr, oJ i, oJ (own_on np nw i), oR row, oJ ys.length, oI 1, oI (ys.getD 1 0)] [(.ref a)])) rfl rfl (hb hby d5_224)
         refine own_st st1393 ?_
         refine own_st (g' := (mkF m 229 #[oR a, oR pl, oI ft, oR rr, oJ i, oJ (own_on np nw i), oR row, oJ ys.length, oI 1, oI (ys.getD 1 0)] [vJ i, (.ref b1054)])) (fun _ kt => XS.iload X1393.here hx rfl (hb hby d5_227) rfl kt) ?_
         have ne1394 : b1054 ≠ b1351 := (Nat.ne_of_lt (Nat.lt_of_lt_of_le F1275.lt (Nat.le_of_eq g1351.symm)))
         have F1395 := (Arv.keep (Arv.keep (F1275.ext E1351) K1356_ (ninS ne1394 nin0)) K1374_ (ninS (Ne.symm ne1369) nin0))
         refine own_st (g' := (mkF m 230 #[oR a, oR pl, oI ft, oR rr, oJ i, oJ (own_on np nw i), oR row, oJ ys.length, oI 1, oI (ys.getD 1 0)] [(.ref b1246)])) (own_aal X1393 hx hZ e1393 F1395 rfl (own_idx hi1 (by omega)) (by rw [own_tn (by omega)]; exact own_gs (by omega)) (g := (mkF m 229 #[oR a, oR pl, oI ft, oR rr, oJ i, oJ (own_on np nw i), oR row, oJ ys.length, oI 1, oI (ys.getD 1 0)] [vJ i, (.ref b1054)])) rfl rfl (hb hby d5_229)) ?_
         have ne1396 : b1246 ≠ b1351 := (Nat.ne_of_lt (Nat.lt_of_lt_of_le F1349.lt (Nat.le_of_eq g1351.symm)))
         have ne1397 : b1246 ≠ d_1254 := (Nat.ne_of_lt (Nat.lt_of_lt_of_le A1246.lt P1265))
         have F1398 := (Fld.keep (Fld.keep (Fld.ext E1351 F1349) K1356_ (ninS ne1396 nin0)) K1374_ (ninS ne1397 nin0))
         obtain ⟨T1399, X1399, e1399, st1399⟩ := getF X1393 hx hZ hown (host := "") (Or.inl (own_k hw 324 rfl)) Via.refl e1393 F1398 (g := (mkF m 230 #[oR a, oR pl, oI ft, oR rr, oJ i, oJ (own_on np nw i), oR row, oJ ys.length, oI 1, oI (ys.getD 1 0)] [(.ref b1246)])) rfl rfl (hb hby d5_230)
         refine own_st st1399 ?_
         obtain ⟨T1400, h1400, X1400, e1400, E1400, A1400, D1400, -, st1400⟩ := newO X1399 hx hZ hown (own_k hw 435 rfl) (own_k hw 436 rfl) (own_k hw 437 rfl) e1399 (g := (mkF m 233 #[oR a, oR pl, oI ft, oR rr, oJ i, oJ (own_on np nw i), oR row, oJ ys.length, oI 1, oI (ys.getD 1 0)] [(.ref d_1254)])) rfl (hb hby d5_233) (by show _ ≤ (230 : Nat); (try dsimp only [Pt.cells, Pt.slots]); omega) (by show _ ≤ (7600 : Nat); (try dsimp only [Pt.cells, Pt.slots]); omega)
         obtain ⟨b1400, g1400⟩ : ∃ z, z = T1374.heap.size := ⟨_, rfl⟩
         rw [← g1400] at A1400 D1400 st1400
         have Z1401 := Nat.le_trans Z1384 E1400.1
         have K1401 := (Keep.ext K1384 E1400)
         have K2_1401 := (Keep.ext K2_1384 E1400)
         have ge_b1400 : n0 ≤ b1400 := Nat.le_trans Z1384 (Nat.le_of_eq g1400.symm)
         have F1402 : Fld Z h1400 b1400 zC13 "pending" zC26 .null := D1400 (Or.inr (own_k hw 454 rfl)) (ty := (.object zC9)) (by decide)
         have F1403 : Fld Z h1400 b1400 zC13 "partition" "I" (.int 0) := D1400 (Or.inr (own_k hw 456 rfl)) (ty := .int) (by decide)
         have F1404 : Fld Z h1400 b1400 zC13 "worker" "I" (.int 0) := D1400 (Or.inl (own_k hw 458 rfl)) (ty := .int) (by decide)
         refine own_st st1400 ?_
         refine own_st (g' := (mkF m 241 #[oR a, oR pl, oI ft, oR rr, oJ i, oJ (own_on np nw i), oR row, oJ ys.length, oI 1, oI (ys.getD 1 0)] [(.int (ys.getD 1 0)), vJ i, (.ref b1400), (.ref b1400), (.ref d_1254)])) (fun _ kt => XS.dup X1400.here hx rfl (hb hby d5_236) rfl rfl (XS.iload X1400.here hx rfl (hb hby d5_237) rfl (XS.iload X1400.here hx rfl (hb hby d5_239) rfl kt))) ?_
         obtain ⟨_, _, ⟨T1405, L1405, k1405, n1405⟩, -, X1405, ⟨Lc1405, hQ1405, l1405, y1405, z1405⟩, st1405⟩ := X1400.specialBack hx (y := yN9) rfl hown (mvT hZ (own_k hw 438 rfl)) (mvT hZ (own_k hw 439 rfl)) (mvT hZ (own_k hw 440 rfl)) (by decide) (backOf (W := 2) (own_bk l Z a0 hw [] b1400 (Int32.ofNat i) (ys.getD 1 0) h1400 n0 Z1401 A1400 ge_b1400 F1402 F1403 F1404) hZ (own_k hw 440 rfl) (own_k hw 437 rfl) (by decide) (by decide)) (g := (mkF m 241 #[oR a, oR pl, oI ft, oR rr, oJ i, oJ (own_on np nw i), oR row, oJ ys.length, oI 1, oI (ys.getD 1 0)] [(.int (ys.getD 1 0)), vJ i, (.ref b1400), (.ref b1400), (.ref d_1254)])) rfl hml.symm (Steps.refl _) (a := b1400) (argsL := [vJ i, (.int (ys.getD 1 0))]) (rest := [(.ref b1400), (.ref d_1254)]) (lenOf own_pd17 rfl) rfl (own_w0 rfl rfl) (hb hby d5_241) (fun _ _ => ⟨rfl, e1400, (by show _ + 2 ≤ (230 : Nat); (try dsimp only [Pt.cells, Pt.slots]); omega), (by show _ + 20 ≤ (7600 : Nat); (try dsimp only [Pt.cells, Pt.slots]); omega)⟩)
         dsimp only [Pt.U, Pt.locs, Pt.cells, Pt.slots] at X1405 l1405 y1405 z1405 st1405 hQ1405
         subst l1405 y1405 z1405
         obtain ⟨d_1405, b_1405, rfl, N1405, K1405_, P1406, P1407, P1408, P1409, P1410, P1411, P1412⟩ := hQ1405
         have N1413 := Fr.app N1383 N1405
         have Z1414 := Nat.le_trans Z1401 K1405_.1
         have K1414 := (Keep.trans K1401 K1405_ (allS (Or.inr (Nat.le_trans K1384.1 (Nat.le_of_eq g1400.symm))) all0))
         have K2_1414 := (Keep.trans K2_1401 K1405_ (allS (Or.inr (Nat.le_trans K2_1384.1 (Nat.le_of_eq g1400.symm))) all0))
         have ge1415 : n0 ≤ d_1405 := Nat.le_trans Z1401 P1412
         refine own_tr st1405 ?_
         have F1416 := (Exa.keep (Exa.ext E1400 P1376) K1405_)
         have ne1417 : d_1254 ≠ b1400 := (Nat.ne_of_lt (Nat.lt_of_lt_of_le P1376.lt (Nat.le_of_eq g1400.symm)))
         have F1418 := (Fld.keep (Fld.ext E1400 P1377) K1405_ (ninS ne1417 nin0))
         have F1419 := (Fld.keep (Fld.ext E1400 P1378) K1405_ (ninS ne1417 nin0))
         have F1420 := (Fld.keep (Fld.ext E1400 P1379) K1405_ (ninS ne1417 nin0))
         have ne1421 : b_1374 ≠ b1400 := (Nat.ne_of_lt (Nat.lt_of_lt_of_le P1380.lt (Nat.le_of_eq g1400.symm)))
         have F1422 := (Arv.keep (P1380.ext E1400) K1405_ (ninS ne1421 nin0))
         obtain ⟨cq1424, kq1424, qa1424, qb1424, qc1424⟩ := isOf hZ rfl F1416
         obtain ⟨_, _, ⟨T1423, L1423, k1423, n1423⟩, -, X1423, ⟨Lc1423, hQ1423, l1423, y1423, z1423⟩, st1423⟩ := X1405.interfaceBack hx (xi := yN5) (y := yN1) hown (mvT hZ (own_k hw 459 rfl)) (mvT hZ (own_k hw 115 rfl)) (mvT hZ (own_k hw 116 rfl)) (mvT hZ (own_k hw 117 rfl)) (mvT hZ (own_k hw 118 rfl)) (mvT hZ (own_k hw 119 rfl)) (mvT hZ (own_k hw 120 rfl)) (mvT hZ (own_k hw 121 rfl)) (by decide) (backOf (W := 0) (own_a1 l Z a0 hw [] d_1254 ((0 : Int32) + (1 : Int32)) b1400 b_1374 kb_1374 1 10 ([(.ref b1351), .null, .null, .null, .null, .null, .null, .null, .null, .null]) T1405.heap n0 Z1414 ge1268 ge1385 F1416 F1418 F1419 F1420 F1422 P1381 (Ins.of_exa P1406 (own_k hw 471 rfl)) (show 1 < 10 from (by decide)) (show 10 ≤ 10 from (by decide)) rfl) hZ (own_k hw 122 rfl) (own_k hw 34 rfl) (by decide) (by decide)) qa1424 qb1424 qc1424 (g := (mkF m 244 #[oR a, oR pl, oI ft, oR rr, oJ i, oJ (own_on np nw i), oR row, oJ ys.length, oI 1, oI (ys.getD 1 0)] [(.ref b1400), (.ref d_1254)])) rfl hml.symm (Steps.refl _) (argsL := [(.ref b1400)]) (rest := []) (lenOf own_pd8 rfl) rfl (own_w0 rfl rfl) (hb hby d5_244) (fun _ _ => ⟨rfl, rfl, (by show _ + 0 ≤ (230 : Nat); (try dsimp only [Pt.cells, Pt.slots]); omega), (by show _ + 0 ≤ (7600 : Nat); (try dsimp only [Pt.cells, Pt.slots]); omega)⟩)
         dsimp only [Pt.U, Pt.locs, Pt.cells, Pt.slots] at X1423 l1423 y1423 z1423 st1423 hQ1423
         subst l1423 y1423 z1423
         obtain ⟨rfl, N1423, K1423_, P1425, P1426, P1427, P1428, P1429⟩ := hQ1423
         have N1430 := Fr.app N1413 N1423
         have Z1431 := Nat.le_trans Z1414 K1423_.1
         have K1431 := (Keep.trans K1414 K1423_ (allS (Or.inr (Nat.le_trans K1247.1 P1265)) (allS (Or.inr (Nat.le_trans K1365.1 P1382)) all0)))
         have K2_1431 := (Keep.trans K2_1414 K1423_ (allS (Or.inr (Nat.le_trans K2_1247.1 P1265)) (allS (Or.inr (Nat.le_trans K2_1365.1 P1382)) all0)))
         have F1432 : Arv Z T1423.heap b_1374 kb_1374 (.object zC3) (10 : Int32) [(.ref b1351), (.ref b1400), .null, .null, .null, .null, .null, .null, .null, .null] .null := P1429
         refine own_tr st1423 ?_
         refine own_st (g' := (mkF m 213 #[oR a, oR pl, oI ft, oR rr, oJ i, oJ (own_on np nw i), oR row, oJ ys.length, oI 2, oI (ys.getD 1 0)] [vJ ys.length, (.int 2)])) (fun _ kt => XT.pop X1423.here hx rfl (hb hby d5_249) rfl rfl (XS.iinc X1423.here hx rfl (hb hby d5_250) rfl (l' := #[oR a, oR pl, oI ft, oR rr, oJ i, oJ (own_on np nw i), oR row, oJ ys.length, oI 2, oI (ys.getD 1 0)]) rfl (XS.goto X1423.here hx rfl (pc0 := 253) (pc' := 209) rfl (hb hby d5_253) (by decide) (by decide) (XS.iload X1423.here hx rfl (hb hby d5_209) rfl (XS.iload X1423.here hx rfl (hb hby d5_211) rfl kt))))) ?_
         by_cases hc1433 : (2 : Int32) < (Int32.ofNat ys.length)
         ·
          have hk2 : 2 < ys.length := (own_ige (i := 2) (n := ys.length) (by omega) (by omega)).mp hc1433
          refine own_st (g' := (mkF m 220 #[oR a, oR pl, oI ft, oR rr, oJ i, oJ (own_on np nw i), oR row, oJ ys.length, oI 2, oI (ys.getD 1 0)] [(.int 2), (.ref row)])) (fun _ kt => XS.icmpNo X1423.here hx rfl (hb hby d5_213) rfl (XT.ii_ge_f hc1433) (XS.aload X1423.here hx rfl (hb hby d5_216) rfl rfl (XS.iload X1423.here hx rfl (hb hby d5_218) rfl kt))) ?_
          have ne1434 : row ≠ b1400 := (Nat.ne_of_lt (Nat.lt_of_lt_of_le F1389.lt (Nat.le_of_eq g1400.symm)))
          have ne1435 : row ≠ b_1374 := (Nat.ne_of_lt (Nat.lt_of_lt_of_le (Nat.lt_of_lt_of_le (Nat.lt_of_lt_of_le F1343.lt E1351.1) K1356_.1) P1382))
          have F1436 := (Arv.keep (Arv.keep (F1389.ext E1400) K1405_ (ninS ne1434 nin0)) K1423_ (ninS ne1388 (ninS ne1435 nin0)))
          refine own_st (g' := (mkF m 221 #[oR a, oR pl, oI ft, oR rr, oJ i, oJ (own_on np nw i), oR row, oJ ys.length, oI 2, oI (ys.getD 1 0)] [(.int (ys.getD 2 0))])) (own_ial X1423 hx hZ rfl F1436 ⟨by decide, hc1433⟩ (own_mg (i := 2) hk2) (g := (mkF m 220 #[oR a, oR pl, oI ft, oR rr, oJ i, oJ (own_on np nw i), oR row, oJ ys.length, oI 2, oI (ys.getD 1 0)] [(.int 2), (.ref row)])) rfl rfl (hb hby d5_220)) ?_
          refine own_st (g' := (mkF m 224 #[oR a, oR pl, oI ft, oR rr, oJ i, oJ (own_on np nw i), oR row, oJ ys.length, oI 2, oI (ys.getD 2 0)] [(.ref a)])) (fun _ kt => XS.istore X1423.here hx rfl (hb hby d5_221) rfl (l' := #[oR a, oR pl, oI ft, oR rr, oJ i, oJ (own_on np nw i), oR row, oJ ys.length, oI 2, oI (ys.getD 2 0)]) rfl (XS.aloadN X1423.here hx rfl (hb hby d5_223) rfl rfl kt)) ?_
          have ne1437 : a ≠ b1400 := (Nat.ne_of_lt (Nat.lt_of_lt_of_le F1392.lt (Nat.le_of_eq g1400.symm)))
          have ne1438 : a ≠ b_1374 := (Nat.ne_of_lt (Nat.lt_of_lt_of_le (Nat.lt_of_lt_of_le (Nat.lt_of_lt_of_le F1347.lt E1351.1) K1356_.1) P1382))
          have F1439 := (Fld.keep (Fld.keep (Fld.ext E1400 F1392) K1405_ (ninS ne1437 nin0)) K1423_ (ninS ne1391 (ninS ne1438 nin0)))
          obtain ⟨T1440, X1440, e1440, st1440⟩ := getF X1423 hx hZ hown (host := "") (Or.inl (own_k hw 65 rfl)) Via.refl rfl F1439 (g := (mkF m 224 #[oR a, oR pl, oI ft, oR rr, oJ i, oJ (own_on np nw i), oR row, oJ ys.length, oI 2, oI (ys.getD 2 0)] [(.ref a)])) rfl rfl (hb hby d5_224)
          refine own_st st1440 ?_
          refine own_st (g' := (mkF m 229 #[oR a, oR pl, oI ft, oR rr, oJ i, oJ (own_on np nw i), oR row, oJ ys.length, oI 2, oI (ys.getD 2 0)] [vJ i, (.ref b1054)])) (fun _ kt => XS.iload X1440.here hx rfl (hb hby d5_227) rfl kt) ?_
          have ne1441 : b1054 ≠ b1400 := (Nat.ne_of_lt (Nat.lt_of_lt_of_le F1395.lt (Nat.le_of_eq g1400.symm)))
          have ne1442 : b1054 ≠ b_1374 := (Nat.ne_of_lt (Nat.lt_of_lt_of_le (Nat.lt_of_lt_of_le (Nat.lt_of_lt_of_le F1275.lt E1351.1) K1356_.1) P1382))
          have F1443 := (Arv.keep (Arv.keep (F1395.ext E1400) K1405_ (ninS ne1441 nin0)) K1423_ (ninS (Ne.symm ne1369) (ninS ne1442 nin0)))
          refine own_st (g' := (mkF m 230 #[oR a, oR pl, oI ft, oR rr, oJ i, oJ (own_on np nw i), oR row, oJ ys.length, oI 2, oI (ys.getD 2 0)] [(.ref b1246)])) (own_aal X1440 hx hZ e1440 F1443 rfl (own_idx hi1 (by omega)) (by rw [own_tn (by omega)]; exact own_gs (by omega)) (g := (mkF m 229 #[oR a, oR pl, oI ft, oR rr, oJ i, oJ (own_on np nw i), oR row, oJ ys.length, oI 2, oI (ys.getD 2 0)] [vJ i, (.ref b1054)])) rfl rfl (hb hby d5_229)) ?_
          have ne1444 : b1246 ≠ b1400 := (Nat.ne_of_lt (Nat.lt_of_lt_of_le F1398.lt (Nat.le_of_eq g1400.symm)))
          have ne1445 : b1246 ≠ b_1374 := (Nat.ne_of_lt (Nat.lt_of_lt_of_le (Nat.lt_of_lt_of_le (Nat.lt_of_lt_of_le F1349.lt E1351.1) K1356_.1) P1382))
          have F1446 := (Fld.keep (Fld.keep (Fld.ext E1400 F1398) K1405_ (ninS ne1444 nin0)) K1423_ (ninS ne1397 (ninS ne1445 nin0)))
          obtain ⟨T1447, X1447, e1447, st1447⟩ := getF X1440 hx hZ hown (host := "") (Or.inl (own_k hw 324 rfl)) Via.refl e1440 F1446 (g := (mkF m 230 #[oR a, oR pl, oI ft, oR rr, oJ i, oJ (own_on np nw i), oR row, oJ ys.length, oI 2, oI (ys.getD 2 0)] [(.ref b1246)])) rfl rfl (hb hby d5_230)
          refine own_st st1447 ?_
          obtain ⟨T1448, h1448, X1448, e1448, E1448, A1448, D1448, -, st1448⟩ := newO X1447 hx hZ hown (own_k hw 435 rfl) (own_k hw 436 rfl) (own_k hw 437 rfl) e1447 (g := (mkF m 233 #[oR a, oR pl, oI ft, oR rr, oJ i, oJ (own_on np nw i), oR row, oJ ys.length, oI 2, oI (ys.getD 2 0)] [(.ref d_1254)])) rfl (hb hby d5_233) (by show _ ≤ (230 : Nat); (try dsimp only [Pt.cells, Pt.slots]); omega) (by show _ ≤ (7600 : Nat); (try dsimp only [Pt.cells, Pt.slots]); omega)
          obtain ⟨b1448, g1448⟩ : ∃ z, z = T1423.heap.size := ⟨_, rfl⟩
          rw [← g1448] at A1448 D1448 st1448
          have Z1449 := Nat.le_trans Z1431 E1448.1
          have K1449 := (Keep.ext K1431 E1448)
          have K2_1449 := (Keep.ext K2_1431 E1448)
          have ge_b1448 : n0 ≤ b1448 := Nat.le_trans Z1431 (Nat.le_of_eq g1448.symm)
          have F1450 : Fld Z h1448 b1448 zC13 "pending" zC26 .null := D1448 (Or.inr (own_k hw 454 rfl)) (ty := (.object zC9)) (by decide)
          have F1451 : Fld Z h1448 b1448 zC13 "partition" "I" (.int 0) := D1448 (Or.inr (own_k hw 456 rfl)) (ty := .int) (by decide)
          have F1452 : Fld Z h1448 b1448 zC13 "worker" "I" (.int 0) := D1448 (Or.inl (own_k hw 458 rfl)) (ty := .int) (by decide)
          refine own_st st1448 ?_
          refine own_st (g' := (mkF m 241 #[oR a, oR pl, oI ft, oR rr, oJ i, oJ (own_on np nw i), oR row, oJ ys.length, oI 2, oI (ys.getD 2 0)] [(.int (ys.getD 2 0)), vJ i, (.ref b1448), (.ref b1448), (.ref d_1254)])) (fun _ kt => XS.dup X1448.here hx rfl (hb hby d5_236) rfl rfl (XS.iload X1448.here hx rfl (hb hby d5_237) rfl (XS.iload X1448.here hx rfl (hb hby d5_239) rfl kt))) ?_
          obtain ⟨_, _, ⟨T1453, L1453, k1453, n1453⟩, -, X1453, ⟨Lc1453, hQ1453, l1453, y1453, z1453⟩, st1453⟩ := X1448.specialBack hx (y := yN9) rfl hown (mvT hZ (own_k hw 438 rfl)) (mvT hZ (own_k hw 439 rfl)) (mvT hZ (own_k hw 440 rfl)) (by decide) (backOf (W := 2) (own_bk l Z a0 hw [] b1448 (Int32.ofNat i) (ys.getD 2 0) h1448 n0 Z1449 A1448 ge_b1448 F1450 F1451 F1452) hZ (own_k hw 440 rfl) (own_k hw 437 rfl) (by decide) (by decide)) (g := (mkF m 241 #[oR a, oR pl, oI ft, oR rr, oJ i, oJ (own_on np nw i), oR row, oJ ys.length, oI 2, oI (ys.getD 2 0)] [(.int (ys.getD 2 0)), vJ i, (.ref b1448), (.ref b1448), (.ref d_1254)])) rfl hml.symm (Steps.refl _) (a := b1448) (argsL := [vJ i, (.int (ys.getD 2 0))]) (rest := [(.ref b1448), (.ref d_1254)]) (lenOf own_pd17 rfl) rfl (own_w0 rfl rfl) (hb hby d5_241) (fun _ _ => ⟨rfl, e1448, (by show _ + 2 ≤ (230 : Nat); (try dsimp only [Pt.cells, Pt.slots]); omega), (by show _ + 20 ≤ (7600 : Nat); (try dsimp only [Pt.cells, Pt.slots]); omega)⟩)
          dsimp only [Pt.U, Pt.locs, Pt.cells, Pt.slots] at X1453 l1453 y1453 z1453 st1453 hQ1453
          subst l1453 y1453 z1453
          obtain ⟨d_1453, b_1453, rfl, N1453, K1453_, P1454, P1455, P1456, P1457, P1458, P1459, P1460⟩ := hQ1453
          have N1461 := Fr.app N1430 N1453
          have Z1462 := Nat.le_trans Z1449 K1453_.1
          have K1462 := (Keep.trans K1449 K1453_ (allS (Or.inr (Nat.le_trans K1431.1 (Nat.le_of_eq g1448.symm))) all0))
          have K2_1462 := (Keep.trans K2_1449 K1453_ (allS (Or.inr (Nat.le_trans K2_1431.1 (Nat.le_of_eq g1448.symm))) all0))
          have ge1463 : n0 ≤ d_1453 := Nat.le_trans Z1449 P1460
          refine own_tr st1453 ?_
          have F1464 := (Exa.keep (Exa.ext E1448 P1425) K1453_)
          have ne1465 : d_1254 ≠ b1448 := (Nat.ne_of_lt (Nat.lt_of_lt_of_le P1425.lt (Nat.le_of_eq g1448.symm)))
          have F1466 := (Fld.keep (Fld.ext E1448 P1426) K1453_ (ninS ne1465 nin0))
          have F1467 := (Fld.keep (Fld.ext E1448 P1427) K1453_ (ninS ne1465 nin0))
          have F1468 := (Fld.keep (Fld.ext E1448 P1428) K1453_ (ninS ne1465 nin0))
          have ne1469 : b_1374 ≠ b1448 := (Nat.ne_of_lt (Nat.lt_of_lt_of_le F1432.lt (Nat.le_of_eq g1448.symm)))
          have F1470 := (Arv.keep (F1432.ext E1448) K1453_ (ninS ne1469 nin0))
          obtain ⟨cq1472, kq1472, qa1472, qb1472, qc1472⟩ := isOf hZ rfl F1464
          obtain ⟨_, _, ⟨T1471, L1471, k1471, n1471⟩, -, X1471, ⟨Lc1471, hQ1471, l1471, y1471, z1471⟩, st1471⟩ := X1453.interfaceBack hx (xi := yN5) (y := yN1) hown (mvT hZ (own_k hw 459 rfl)) (mvT hZ (own_k hw 115 rfl)) (mvT hZ (own_k hw 116 rfl)) (mvT hZ (own_k hw 117 rfl)) (mvT hZ (own_k hw 118 rfl)) (mvT hZ (own_k hw 119 rfl)) (mvT hZ (own_k hw 120 rfl)) (mvT hZ (own_k hw 121 rfl)) (by decide) (backOf (W := 0) (own_a1 l Z a0 hw [] d_1254 (((0 : Int32) + (1 : Int32)) + (1 : Int32)) b1448 b_1374 kb_1374 2 10 ([(.ref b1351), (.ref b1400), .null, .null, .null, .null, .null, .null, .null, .null]) T1453.heap n0 Z1462 ge1268 ge1385 F1464 F1466 F1467 F1468 F1470 P1381 (Ins.of_exa P1454 (own_k hw 471 rfl)) (show 2 < 10 from (by decide)) (show 10 ≤ 10 from (by decide)) rfl) hZ (own_k hw 122 rfl) (own_k hw 34 rfl) (by decide) (by decide)) qa1472 qb1472 qc1472 (g := (mkF m 244 #[oR a, oR pl, oI ft, oR rr, oJ i, oJ (own_on np nw i), oR row, oJ ys.length, oI 2, oI (ys.getD 2 0)] [(.ref b1448), (.ref d_1254)])) rfl hml.symm (Steps.refl _) (argsL := [(.ref b1448)]) (rest := []) (lenOf own_pd8 rfl) rfl (own_w0 rfl rfl) (hb hby d5_244) (fun _ _ => ⟨rfl, rfl, (by show _ + 0 ≤ (230 : Nat); (try dsimp only [Pt.cells, Pt.slots]); omega), (by show _ + 0 ≤ (7600 : Nat); (try dsimp only [Pt.cells, Pt.slots]); omega)⟩)
          dsimp only [Pt.U, Pt.locs, Pt.cells, Pt.slots] at X1471 l1471 y1471 z1471 st1471 hQ1471
          subst l1471 y1471 z1471
          obtain ⟨rfl, N1471, K1471_, P1473, P1474, P1475, P1476, P1477⟩ := hQ1471
          have N1478 := Fr.app N1461 N1471
          have Z1479 := Nat.le_trans Z1462 K1471_.1
          have K1479 := (Keep.trans K1462 K1471_ (allS (Or.inr (Nat.le_trans K1247.1 P1265)) (allS (Or.inr (Nat.le_trans K1365.1 P1382)) all0)))
          have K2_1479 := (Keep.trans K2_1462 K1471_ (allS (Or.inr (Nat.le_trans K2_1247.1 P1265)) (allS (Or.inr (Nat.le_trans K2_1365.1 P1382)) all0)))
          have F1480 : Arv Z T1471.heap b_1374 kb_1374 (.object zC3) (10 : Int32) [(.ref b1351), (.ref b1400), (.ref b1448), .null, .null, .null, .null, .null, .null, .null] .null := P1477
          refine own_tr st1471 ?_
          refine own_st (g' := (mkF m 213 #[oR a, oR pl, oI ft, oR rr, oJ i, oJ (own_on np nw i), oR row, oJ ys.length, oI 3, oI (ys.getD 2 0)] [vJ ys.length, (.int 3)])) (fun _ kt => XT.pop X1471.here hx rfl (hb hby d5_249) rfl rfl (XS.iinc X1471.here hx rfl (hb hby d5_250) rfl (l' := #[oR a, oR pl, oI ft, oR rr, oJ i, oJ (own_on np nw i), oR row, oJ ys.length, oI 3, oI (ys.getD 2 0)]) rfl (XS.goto X1471.here hx rfl (pc0 := 253) (pc' := 209) rfl (hb hby d5_253) (by decide) (by decide) (XS.iload X1471.here hx rfl (hb hby d5_209) rfl (XS.iload X1471.here hx rfl (hb hby d5_211) rfl kt))))) ?_
          by_cases hc1481 : (3 : Int32) < (Int32.ofNat ys.length)
          ·
           exfalso
           have q := (own_ige (i := 3) (n := ys.length) (by omega) (by omega)).mp hc1481; omega
          ·
           refine own_st (g' := (mkF m 256 #[oR a, oR pl, oI ft, oR rr, oJ i, oJ (own_on np nw i), oR row, oJ ys.length, oI 3, oI (ys.getD 2 0)] [])) (fun _ kt => XS.icmpYes X1471.here hx rfl (pc0 := 213) (pc' := 256) rfl (hb hby d5_213) rfl (XT.ii_ge_t hc1481) (by decide) (by decide) kt) ?_
           have F1482 := (Exa.keep (Exa.keep (Exa.ext E1448 (Exa.keep (Exa.keep (Exa.ext E1400 (Exa.keep P1357 K1374_)) K1405_) K1423_)) K1453_) K1471_)
           have ne1483 : b1351 ≠ b1400 := (Nat.ne_of_lt (Nat.lt_of_lt_of_le (Nat.lt_of_lt_of_le P1357.lt K1374_.1) (Nat.le_of_eq g1400.symm)))
           have ne1484 : b1351 ≠ b_1374 := (Nat.ne_of_lt (Nat.lt_of_lt_of_le P1357.lt P1382))
           have ne1485 : b1351 ≠ b1448 := (Nat.ne_of_lt (Nat.lt_of_lt_of_le (Nat.lt_of_lt_of_le (Nat.lt_of_lt_of_le (Nat.lt_of_lt_of_le (Nat.lt_of_lt_of_le P1357.lt K1374_.1) E1400.1) K1405_.1) K1423_.1) (Nat.le_of_eq g1448.symm)))
           have F1486 := (Fld.keep (Fld.keep (Fld.ext E1448 (Fld.keep (Fld.keep (Fld.ext E1400 (Fld.keep P1358 K1374_ (ninS (Ne.symm ne1370) nin0))) K1405_ (ninS ne1483 nin0)) K1423_ (ninS (Ne.symm ne1370) (ninS ne1484 nin0)))) K1453_ (ninS ne1485 nin0)) K1471_ (ninS (Ne.symm ne1370) (ninS ne1484 nin0)))
           have F1487 := (Exa.keep (Exa.keep (Exa.ext E1448 (Exa.keep (Exa.keep (Exa.ext E1400 (Exa.keep P1359 K1374_)) K1405_) K1423_)) K1453_) K1471_)
           have ne1488 : d_1356 ≠ d_1254 := (ne_exa P1359 F1367 (by decide))
           have ne1489 : d_1356 ≠ b1400 := (Nat.ne_of_lt (Nat.lt_of_lt_of_le (Nat.lt_of_lt_of_le P1359.lt K1374_.1) (Nat.le_of_eq g1400.symm)))
           have ne1490 : d_1356 ≠ b_1374 := (Nat.ne_of_lt (Nat.lt_of_lt_of_le P1359.lt P1382))
           have ne1491 : d_1356 ≠ b1448 := (Nat.ne_of_lt (Nat.lt_of_lt_of_le (Nat.lt_of_lt_of_le (Nat.lt_of_lt_of_le (Nat.lt_of_lt_of_le (Nat.lt_of_lt_of_le P1359.lt K1374_.1) E1400.1) K1405_.1) K1423_.1) (Nat.le_of_eq g1448.symm)))
           have F1492 := (Fld.keep (Fld.keep (Fld.ext E1448 (Fld.keep (Fld.keep (Fld.ext E1400 (Fld.keep P1360 K1374_ (ninS ne1488 nin0))) K1405_ (ninS ne1489 nin0)) K1423_ (ninS ne1488 (ninS ne1490 nin0)))) K1453_ (ninS ne1491 nin0)) K1471_ (ninS ne1488 (ninS ne1490 nin0)))
           have F1493 := (Fld.keep (Fld.keep (Fld.ext E1448 (Fld.keep (Fld.keep (Fld.ext E1400 (Fld.keep P1361 K1374_ (ninS ne1488 nin0))) K1405_ (ninS ne1489 nin0)) K1423_ (ninS ne1488 (ninS ne1490 nin0)))) K1453_ (ninS ne1491 nin0)) K1471_ (ninS ne1488 (ninS ne1490 nin0)))
           have F1494 := (Fld.keep (Fld.keep (Fld.ext E1448 (Fld.keep (Fld.keep (Fld.ext E1400 (Fld.keep P1362 K1374_ (ninS ne1488 nin0))) K1405_ (ninS ne1489 nin0)) K1423_ (ninS ne1488 (ninS ne1490 nin0)))) K1453_ (ninS ne1491 nin0)) K1471_ (ninS ne1488 (ninS ne1490 nin0)))
           have F1495 := (Exa.keep (Exa.keep (Exa.ext E1448 (Exa.keep P1406 K1423_)) K1453_) K1471_)
           have ne1496 : b1400 ≠ b1448 := (Nat.ne_of_lt (Nat.lt_of_lt_of_le (Nat.lt_of_lt_of_le P1406.lt K1423_.1) (Nat.le_of_eq g1448.symm)))
           have F1497 := (Fld.keep (Fld.keep (Fld.ext E1448 (Fld.keep P1407 K1423_ (ninS (Ne.symm ne1417) (ninS (Ne.symm ne1421) nin0)))) K1453_ (ninS ne1496 nin0)) K1471_ (ninS (Ne.symm ne1417) (ninS (Ne.symm ne1421) nin0)))
           have F1498 := (Exa.keep (Exa.keep (Exa.ext E1448 (Exa.keep P1408 K1423_)) K1453_) K1471_)
           have ne1499 : d_1405 ≠ b_1374 := (Exa.neArv P1408 F1422 (own_k hw 443 rfl))
           have ne1500 : d_1405 ≠ d_1254 := (ne_exa P1408 F1416 (by decide))
           have ne1501 : d_1405 ≠ b1448 := (Nat.ne_of_lt (Nat.lt_of_lt_of_le (Nat.lt_of_lt_of_le P1408.lt K1423_.1) (Nat.le_of_eq g1448.symm)))
           have F1502 := (Fld.keep (Fld.keep (Fld.ext E1448 (Fld.keep P1409 K1423_ (ninS ne1500 (ninS ne1499 nin0)))) K1453_ (ninS ne1501 nin0)) K1471_ (ninS ne1500 (ninS ne1499 nin0)))
           have F1503 := (Fld.keep (Fld.keep (Fld.ext E1448 (Fld.keep P1410 K1423_ (ninS ne1500 (ninS ne1499 nin0)))) K1453_ (ninS ne1501 nin0)) K1471_ (ninS ne1500 (ninS ne1499 nin0)))
           have F1504 := (Fld.keep (Fld.keep (Fld.ext E1448 (Fld.keep P1411 K1423_ (ninS ne1500 (ninS ne1499 nin0)))) K1453_ (ninS ne1501 nin0)) K1471_ (ninS ne1500 (ninS ne1499 nin0)))
           have F1505 := (Exa.keep P1454 K1471_)
           have F1506 := (Fld.keep P1455 K1471_ (ninS (Ne.symm ne1465) (ninS (Ne.symm ne1469) nin0)))
           have F1507 := (Exa.keep P1456 K1471_)
           have ne1508 : d_1453 ≠ b_1374 := (Exa.neArv P1456 F1470 (own_k hw 443 rfl))
           have ne1509 : d_1453 ≠ d_1254 := (ne_exa P1456 F1464 (by decide))
           have F1510 := (Fld.keep P1457 K1471_ (ninS ne1509 (ninS ne1508 nin0)))
           have F1511 := (Fld.keep P1458 K1471_ (ninS ne1509 (ninS ne1508 nin0)))
           have F1512 := (Fld.keep P1459 K1471_ (ninS ne1509 (ninS ne1508 nin0)))
           have F1513 := (Exa.keep (Exa.keep (Exa.ext E1448 (Exa.keep (Exa.keep (Exa.ext E1400 (Exa.keep (Exa.keep (Exa.ext E1351 (Exa.wr W1272 P1258)) K1356_) K1374_)) K1405_) K1423_)) K1453_) K1471_)
           have ne1514 : b1246 ≠ b1448 := (Nat.ne_of_lt (Nat.lt_of_lt_of_le F1446.lt (Nat.le_of_eq g1448.symm)))
           have F1515 := (Fld.keep (Fld.keep (Fld.ext E1448 (Fld.keep (Fld.keep (Fld.ext E1400 (Fld.keep (Fld.keep (Fld.ext E1351 (Fld.other W1272 P1260 (Or.inl (Ne.symm ne1270)))) K1356_ (ninS ne1396 nin0)) K1374_ (ninS ne1397 nin0))) K1405_ (ninS ne1444 nin0)) K1423_ (ninS ne1397 (ninS ne1445 nin0)))) K1453_ (ninS ne1514 nin0)) K1471_ (ninS ne1397 (ninS ne1445 nin0)))
           have F1516 := (Fld.keep (Fld.keep (Fld.ext E1448 F1446) K1453_ (ninS ne1514 nin0)) K1471_ (ninS ne1397 (ninS ne1445 nin0)))
           have F1517 := (Fld.keep (Fld.keep (Fld.ext E1448 (Fld.keep (Fld.keep (Fld.ext E1400 (Fld.keep (Fld.keep (Fld.ext E1351 (Fld.other W1272 P1255 (Or.inl (Ne.symm ne1270)))) K1356_ (ninS ne1396 nin0)) K1374_ (ninS ne1397 nin0))) K1405_ (ninS ne1444 nin0)) K1423_ (ninS ne1397 (ninS ne1445 nin0)))) K1453_ (ninS ne1514 nin0)) K1471_ (ninS ne1397 (ninS ne1445 nin0)))
           have F1518 := (Fld.keep (Fld.keep (Fld.ext E1448 (Fld.keep (Fld.keep (Fld.ext E1400 (Fld.keep (Fld.keep (Fld.ext E1351 (Fld.other W1272 P1256 (Or.inl (Ne.symm ne1270)))) K1356_ (ninS ne1396 nin0)) K1374_ (ninS ne1397 nin0))) K1405_ (ninS ne1444 nin0)) K1423_ (ninS ne1397 (ninS ne1445 nin0)))) K1453_ (ninS ne1514 nin0)) K1471_ (ninS ne1397 (ninS ne1445 nin0)))
           have F1519 := (Fld.keep (Fld.keep (Fld.ext E1448 (Fld.keep (Fld.keep (Fld.ext E1400 (Fld.keep (Fld.keep (Fld.ext E1351 (Fld.other W1272 P1257 (Or.inl (Ne.symm ne1270)))) K1356_ (ninS ne1396 nin0)) K1374_ (ninS ne1397 nin0))) K1405_ (ninS ne1444 nin0)) K1423_ (ninS ne1397 (ninS ne1445 nin0)))) K1453_ (ninS ne1514 nin0)) K1471_ (ninS ne1397 (ninS ne1445 nin0)))
           have Q1520 : own_sh Z T1471.heap h1185.size b1246 (Int32.ofNat (own_on np nw i)) := ⟨d_1254, ((((0 : Int32) + (1 : Int32)) + (1 : Int32)) + (1 : Int32)), b_1374, kb_1374, [b1351, b1400, b1448], (Nat.le_trans hi2.2.2.1 (Nat.le_trans K2_1241.1 (Nat.le_of_eq g1246.symm))), (Nat.le_trans hi2.2.2.1 (Nat.le_trans K2_1247.1 P1265)), (by decide : 3 ≤ 3), (fun _ => ⟨(Nat.le_trans hi2.2.2.1 (Nat.le_trans K2_1365.1 P1382)), F1480⟩), (allS ⟨d_1356, b_1356, (Nat.le_trans hi2.2.2.1 (Nat.le_trans K2_1274.1 (Nat.le_of_eq g1351.symm))), (Nat.le_trans hi2.2.2.1 (Nat.le_trans K2_1352.1 P1363)), F1482, F1486, F1487, F1492, F1493, F1494⟩ (allS ⟨d_1405, b_1405, (Nat.le_trans hi2.2.2.1 (Nat.le_trans K2_1384.1 (Nat.le_of_eq g1400.symm))), (Nat.le_trans hi2.2.2.1 (Nat.le_trans K2_1401.1 P1412)), F1495, F1497, F1498, F1502, F1503, F1504⟩ (allS ⟨d_1453, b_1453, (Nat.le_trans hi2.2.2.1 (Nat.le_trans K2_1431.1 (Nat.le_of_eq g1448.symm))), (Nat.le_trans hi2.2.2.1 (Nat.le_trans K2_1449.1 P1460)), F1505, F1506, F1507, F1510, F1511, F1512⟩ all0))), F1513, F1515, F1516, F1517, F1518, F1519, P1473, P1474, P1475, P1476⟩
           have F1521 := (Old.keep (Old.keep (Old.ext (Old.keep (Old.keep (Old.ext (Old.keep F1368 K1374_ (allS ge1268 all0)) E1400) K1405_ (allS ge_b1400 all0)) K1423_ (allS ge1268 (allS ge1385 all0))) E1448) K1453_ (allS ge_b1448 all0)) K1471_ (allS ge1268 (allS ge1385 all0)))
           have F1522 := (Exa.keep F1210 K2_1479)
           have ne1523 : a ≠ b1448 := (Nat.ne_of_lt (Nat.lt_of_lt_of_le F1439.lt (Nat.le_of_eq g1448.symm)))
           have F1524 := (Fld.keep (Fld.keep (Fld.ext E1448 F1439) K1453_ (ninS ne1523 nin0)) K1471_ (ninS ne1391 (ninS ne1438 nin0)))
           have F1525 := (Fld.keep F1212 K2_1479 (ninS ne1102 (ninS ne1346 (ninS ne1345 nin0))))
           have F1526 := (Fld.keep F1213 K2_1479 (ninS ne1102 (ninS ne1346 (ninS ne1345 nin0))))
           have F1527 := (Fld.keep F1214 K2_1479 (ninS ne1102 (ninS ne1346 (ninS ne1345 nin0))))
           have F1528 := (Fld.keep F1215 K2_1479 (ninS ne1102 (ninS ne1346 (ninS ne1345 nin0))))
           have F1529 := (Exa.keep F1216 K2_1479)
           have ne1530 : pl ≠ bt := (Exa.neArv F1216 hB10 (own_k hw 5 rfl))
           have ne1531 : pl ≠ ba := (ne_exa F1216 hB6 (by decide))
           have ne1532 : pl ≠ b1054 := (Nat.ne_of_lt (Nat.lt_of_lt_of_le F1045.lt (Nat.le_of_eq g1054.symm)))
           have F1533 := (Fld.keep F1217 K2_1479 (ninS ne1532 (ninS ne1531 (ninS ne1530 nin0))))
           have F1534 := (Fld.keep F1218 K2_1479 (ninS ne1532 (ninS ne1531 (ninS ne1530 nin0))))
           have F1535 := (Fld.keep F1219 K2_1479 (ninS ne1532 (ninS ne1531 (ninS ne1530 nin0))))
           have ne1536 : ba ≠ pb := (Exa.neArv hB6 F1220 (own_k hw 229 rfl))
           have ne1537 : pb ≠ b1054 := (Nat.ne_of_lt (Nat.lt_of_lt_of_le F1050.lt (Nat.le_of_eq g1054.symm)))
           have F1538 := (Arv.keep F1220 K2_1479 (ninS ne1537 (ninS (Ne.symm ne1536) (ninS ne1238 nin0))))
           have ne1539 : b1054 ≠ b1448 := (Nat.ne_of_lt (Nat.lt_of_lt_of_le F1443.lt (Nat.le_of_eq g1448.symm)))
           have F1540 := (Arv.keep (Arv.keep (F1443.ext E1448) K1453_ (ninS ne1539 nin0)) K1471_ (ninS (Ne.symm ne1369) (ninS ne1442 nin0)))
           have ne1541 : ba ≠ b1072 := (Exa.neArv hB6 F1222 (own_k hw 229 rfl))
           have ne1542 : b1054 ≠ b1072 := (Nat.ne_of_lt (Nat.lt_of_lt_of_le (Nat.lt_of_lt_of_le (Nat.lt_of_lt_of_le F1056.lt (Nat.le_of_eq (Wr.size W1059).symm)) (Nat.le_of_eq (Wr.size W1064).symm)) (Nat.le_of_eq g1072.symm)))
           have F1543 := (Arv.keep F1222 K2_1479 (ninS (Ne.symm ne1542) (ninS (Ne.symm ne1541) (ninS ne1234 nin0))))
           have F1544 := (Exa.keep F1223 K2_1479)
           have ne1545 : b1093 ≠ bt := (Exa.neArv F1223 hB10 (own_k hw 81 rfl))
           have ne1546 : b1093 ≠ ba := (ne_exa F1223 hB6 (by decide))
           have F1547 := (Fld.keep F1224 K2_1479 (ninS (Ne.symm ne1125) (ninS ne1546 (ninS ne1545 nin0))))
           have ne1548 : ba ≠ b_1104 := (Exa.neArv hB6 F1225 (own_k hw 229 rfl))
           have ne1549 : b1054 ≠ b_1104 := (Nat.ne_of_lt (Nat.lt_of_lt_of_le F1103.lt P1109))
           have F1550 := (Arv.keep F1225 K2_1479 (ninS (Ne.symm ne1549) (ninS (Ne.symm ne1548) (ninS ne1236 nin0))))
           have ne1551 : rr ≠ b1351 := (Nat.ne_of_lt (Nat.lt_of_lt_of_le F1277.lt (Nat.le_of_eq g1351.symm)))
           have ne1552 : rr ≠ d_1254 := (Nat.ne_of_lt (Nat.lt_of_lt_of_le (Nat.lt_of_lt_of_le F1226.lt E1246.1) P1265))
           have ne1553 : rr ≠ b1400 := (Nat.ne_of_lt (Nat.lt_of_lt_of_le (Nat.lt_of_lt_of_le (Nat.lt_of_lt_of_le (Nat.lt_of_lt_of_le F1277.lt E1351.1) K1356_.1) K1374_.1) (Nat.le_of_eq g1400.symm)))
           have ne1554 : rr ≠ b_1374 := (Nat.ne_of_lt (Nat.lt_of_lt_of_le (Nat.lt_of_lt_of_le (Nat.lt_of_lt_of_le F1277.lt E1351.1) K1356_.1) P1382))
           have ne1555 : rr ≠ b1448 := (Nat.ne_of_lt (Nat.lt_of_lt_of_le (Nat.lt_of_lt_of_le (Nat.lt_of_lt_of_le (Nat.lt_of_lt_of_le (Nat.lt_of_lt_of_le (Nat.lt_of_lt_of_le (Nat.lt_of_lt_of_le F1277.lt E1351.1) K1356_.1) K1374_.1) E1400.1) K1405_.1) K1423_.1) (Nat.le_of_eq g1448.symm)))
           have F1556 := (Arv.keep (Arv.keep ((Arv.keep (Arv.keep ((Arv.keep (Arv.keep (F1277.ext E1351) K1356_ (ninS ne1551 nin0)) K1374_ (ninS ne1552 nin0)).ext E1400) K1405_ (ninS ne1553 nin0)) K1423_ (ninS ne1552 (ninS ne1554 nin0))).ext E1448) K1453_ (ninS ne1555 nin0)) K1471_ (ninS ne1552 (ninS ne1554 nin0)))
           have F1557 := (Exa.keep hB6 K2_1479)
           have ne1558 : ba ≠ bt := (Exa.neArv hB6 hB10 (own_k hw 229 rfl))
           have ne1559 : ba ≠ b1246 := (Nat.ne_of_lt (Nat.lt_of_lt_of_le hB6.lt (Nat.le_of_eq g1246.symm)))
           have ne1560 : ba ≠ b1351 := (Nat.ne_of_lt (Nat.lt_of_lt_of_le (Nat.lt_of_lt_of_le (Nat.lt_of_lt_of_le (Nat.lt_of_lt_of_le hB6.lt E1246.1) K1254_.1) (Nat.le_of_eq (Wr.size W1272).symm)) (Nat.le_of_eq g1351.symm)))
           have ne1561 : ba ≠ d_1254 := (Nat.ne_of_lt (Nat.lt_of_lt_of_le (Nat.lt_of_lt_of_le hB6.lt E1246.1) P1265))
           have ne1562 : ba ≠ b1400 := (Nat.ne_of_lt (Nat.lt_of_lt_of_le (Nat.lt_of_lt_of_le (Nat.lt_of_lt_of_le (Nat.lt_of_lt_of_le (Nat.lt_of_lt_of_le (Nat.lt_of_lt_of_le (Nat.lt_of_lt_of_le hB6.lt E1246.1) K1254_.1) (Nat.le_of_eq (Wr.size W1272).symm)) E1351.1) K1356_.1) K1374_.1) (Nat.le_of_eq g1400.symm)))
           have ne1563 : ba ≠ b_1374 := (Nat.ne_of_lt (Nat.lt_of_lt_of_le (Nat.lt_of_lt_of_le (Nat.lt_of_lt_of_le (Nat.lt_of_lt_of_le (Nat.lt_of_lt_of_le (Nat.lt_of_lt_of_le hB6.lt E1246.1) K1254_.1) (Nat.le_of_eq (Wr.size W1272).symm)) E1351.1) K1356_.1) P1382))
           have ne1564 : ba ≠ b1448 := (Nat.ne_of_lt (Nat.lt_of_lt_of_le (Nat.lt_of_lt_of_le (Nat.lt_of_lt_of_le (Nat.lt_of_lt_of_le (Nat.lt_of_lt_of_le (Nat.lt_of_lt_of_le (Nat.lt_of_lt_of_le (Nat.lt_of_lt_of_le (Nat.lt_of_lt_of_le (Nat.lt_of_lt_of_le hB6.lt E1246.1) K1254_.1) (Nat.le_of_eq (Wr.size W1272).symm)) E1351.1) K1356_.1) K1374_.1) E1400.1) K1405_.1) K1423_.1) (Nat.le_of_eq g1448.symm)))
           have F1565 := (Fld.keep (Fld.keep (Fld.ext E1448 (Fld.keep (Fld.keep (Fld.ext E1400 (Fld.keep (Fld.keep (Fld.ext E1351 (Fld.other W1272 (Fld.keep (Fld.ext E1246 hB7) K1254_ (ninS ne1559 nin0)) (Or.inl ne1269))) K1356_ (ninS ne1560 nin0)) K1374_ (ninS ne1561 nin0))) K1405_ (ninS ne1562 nin0)) K1423_ (ninS ne1561 (ninS ne1563 nin0)))) K1453_ (ninS ne1564 nin0)) K1471_ (ninS ne1561 (ninS ne1563 nin0)))
           have F1566 := (Fld.keep (Fld.keep (Fld.ext E1448 (Fld.keep (Fld.keep (Fld.ext E1400 (Fld.keep (Fld.keep (Fld.ext E1351 (Fld.other W1272 (Fld.keep (Fld.ext E1246 hB8) K1254_ (ninS ne1559 nin0)) (Or.inl ne1269))) K1356_ (ninS ne1560 nin0)) K1374_ (ninS ne1561 nin0))) K1405_ (ninS ne1562 nin0)) K1423_ (ninS ne1561 (ninS ne1563 nin0)))) K1453_ (ninS ne1564 nin0)) K1471_ (ninS ne1561 (ninS ne1563 nin0)))
           have F1567 := (Fld.keep (Fld.keep (Fld.ext E1448 (Fld.keep (Fld.keep (Fld.ext E1400 (Fld.keep (Fld.keep (Fld.ext E1351 (Fld.other W1272 (Fld.keep (Fld.ext E1246 hB9) K1254_ (ninS ne1559 nin0)) (Or.inl ne1269))) K1356_ (ninS ne1560 nin0)) K1374_ (ninS ne1561 nin0))) K1405_ (ninS ne1562 nin0)) K1423_ (ninS ne1561 (ninS ne1563 nin0)))) K1453_ (ninS ne1564 nin0)) K1471_ (ninS ne1561 (ninS ne1563 nin0)))
           have ne1568 : bt ≠ b1246 := (Nat.ne_of_lt (Nat.lt_of_lt_of_le hB10.lt (Nat.le_of_eq g1246.symm)))
           have ne1569 : bt ≠ b1351 := (Nat.ne_of_lt (Nat.lt_of_lt_of_le (Nat.lt_of_lt_of_le (Nat.lt_of_lt_of_le (Nat.lt_of_lt_of_le hB10.lt E1246.1) K1254_.1) (Nat.le_of_eq (Wr.size W1272).symm)) (Nat.le_of_eq g1351.symm)))
           have ne1570 : bt ≠ d_1254 := (Nat.ne_of_lt (Nat.lt_of_lt_of_le (Nat.lt_of_lt_of_le hB10.lt E1246.1) P1265))
           have ne1571 : bt ≠ b1400 := (Nat.ne_of_lt (Nat.lt_of_lt_of_le (Nat.lt_of_lt_of_le (Nat.lt_of_lt_of_le (Nat.lt_of_lt_of_le (Nat.lt_of_lt_of_le (Nat.lt_of_lt_of_le (Nat.lt_of_lt_of_le hB10.lt E1246.1) K1254_.1) (Nat.le_of_eq (Wr.size W1272).symm)) E1351.1) K1356_.1) K1374_.1) (Nat.le_of_eq g1400.symm)))
           have ne1572 : bt ≠ b_1374 := (Nat.ne_of_lt (Nat.lt_of_lt_of_le (Nat.lt_of_lt_of_le (Nat.lt_of_lt_of_le (Nat.lt_of_lt_of_le (Nat.lt_of_lt_of_le (Nat.lt_of_lt_of_le hB10.lt E1246.1) K1254_.1) (Nat.le_of_eq (Wr.size W1272).symm)) E1351.1) K1356_.1) P1382))
           have ne1573 : bt ≠ b1448 := (Nat.ne_of_lt (Nat.lt_of_lt_of_le (Nat.lt_of_lt_of_le (Nat.lt_of_lt_of_le (Nat.lt_of_lt_of_le (Nat.lt_of_lt_of_le (Nat.lt_of_lt_of_le (Nat.lt_of_lt_of_le (Nat.lt_of_lt_of_le (Nat.lt_of_lt_of_le (Nat.lt_of_lt_of_le hB10.lt E1246.1) K1254_.1) (Nat.le_of_eq (Wr.size W1272).symm)) E1351.1) K1356_.1) K1374_.1) E1400.1) K1405_.1) K1423_.1) (Nat.le_of_eq g1448.symm)))
           have F1574 := (Arv.keep (Arv.keep ((Arv.keep (Arv.keep ((Arv.keep (Arv.keep ((Arv.other (Arv.keep (hB10.ext E1246) K1254_ (ninS ne1568 nin0)) W1272 (Ne.symm ne1232)).ext E1351) K1356_ (ninS ne1569 nin0)) K1374_ (ninS ne1570 nin0)).ext E1400) K1405_ (ninS ne1571 nin0)) K1423_ (ninS ne1570 (ninS ne1572 nin0))).ext E1448) K1453_ (ninS ne1573 nin0)) K1471_ (ninS ne1570 (ninS ne1572 nin0)))
           exact J1278 _ _ _ ⟨(Int32.ofNat ys.length), (3 : Int32), (Slot.val (.int (ys.getD 2 0)))⟩ ⟨N1478, Z1479, K1479, F1521, K2_1479, F1522, F1524, F1525, F1526, F1527, F1528, F1529, F1533, F1534, F1535, F1538, F1540, F1543, F1544, F1547, F1550, F1556, F1557, F1565, F1566, F1567, F1574, Q1520, (Or.inr ⟨_, rfl⟩)⟩ (X1471.mono (by first | decide | exact Nat.le_add_right_of_le (by decide) | ((try dsimp only [Pt.cells, Pt.slots]); omega)) (by first | decide | exact Nat.le_add_right_of_le (by decide) | ((try dsimp only [Pt.cells, Pt.slots]); omega))) rfl
         ·
          refine own_st (g' := (mkF m 256 #[oR a, oR pl, oI ft, oR rr, oJ i, oJ (own_on np nw i), oR row, oJ ys.length, oI 2, oI (ys.getD 1 0)] [])) (fun _ kt => XS.icmpYes X1423.here hx rfl (pc0 := 213) (pc' := 256) rfl (hb hby d5_213) rfl (XT.ii_ge_t hc1433) (by decide) (by decide) kt) ?_
          have F1575 := (Exa.keep (Exa.keep (Exa.ext E1400 (Exa.keep P1357 K1374_)) K1405_) K1423_)
          have ne1576 : b1351 ≠ b1400 := (Nat.ne_of_lt (Nat.lt_of_lt_of_le (Nat.lt_of_lt_of_le P1357.lt K1374_.1) (Nat.le_of_eq g1400.symm)))
          have ne1577 : b1351 ≠ b_1374 := (Nat.ne_of_lt (Nat.lt_of_lt_of_le P1357.lt P1382))
          have F1578 := (Fld.keep (Fld.keep (Fld.ext E1400 (Fld.keep P1358 K1374_ (ninS (Ne.symm ne1370) nin0))) K1405_ (ninS ne1576 nin0)) K1423_ (ninS (Ne.symm ne1370) (ninS ne1577 nin0)))
          have F1579 := (Exa.keep (Exa.keep (Exa.ext E1400 (Exa.keep P1359 K1374_)) K1405_) K1423_)
          have ne1580 : d_1356 ≠ d_1254 := (ne_exa P1359 F1367 (by decide))
          have ne1581 : d_1356 ≠ b1400 := (Nat.ne_of_lt (Nat.lt_of_lt_of_le (Nat.lt_of_lt_of_le P1359.lt K1374_.1) (Nat.le_of_eq g1400.symm)))
          have ne1582 : d_1356 ≠ b_1374 := (Nat.ne_of_lt (Nat.lt_of_lt_of_le P1359.lt P1382))
          have F1583 := (Fld.keep (Fld.keep (Fld.ext E1400 (Fld.keep P1360 K1374_ (ninS ne1580 nin0))) K1405_ (ninS ne1581 nin0)) K1423_ (ninS ne1580 (ninS ne1582 nin0)))
          have F1584 := (Fld.keep (Fld.keep (Fld.ext E1400 (Fld.keep P1361 K1374_ (ninS ne1580 nin0))) K1405_ (ninS ne1581 nin0)) K1423_ (ninS ne1580 (ninS ne1582 nin0)))
          have F1585 := (Fld.keep (Fld.keep (Fld.ext E1400 (Fld.keep P1362 K1374_ (ninS ne1580 nin0))) K1405_ (ninS ne1581 nin0)) K1423_ (ninS ne1580 (ninS ne1582 nin0)))
          have F1586 := (Exa.keep P1406 K1423_)
          have F1587 := (Fld.keep P1407 K1423_ (ninS (Ne.symm ne1417) (ninS (Ne.symm ne1421) nin0)))
          have F1588 := (Exa.keep P1408 K1423_)
          have ne1589 : d_1405 ≠ b_1374 := (Exa.neArv P1408 F1422 (own_k hw 443 rfl))
          have ne1590 : d_1405 ≠ d_1254 := (ne_exa P1408 F1416 (by decide))
          have F1591 := (Fld.keep P1409 K1423_ (ninS ne1590 (ninS ne1589 nin0)))
          have F1592 := (Fld.keep P1410 K1423_ (ninS ne1590 (ninS ne1589 nin0)))
          have F1593 := (Fld.keep P1411 K1423_ (ninS ne1590 (ninS ne1589 nin0)))
          have F1594 := (Exa.keep (Exa.keep (Exa.ext E1400 (Exa.keep (Exa.keep (Exa.ext E1351 (Exa.wr W1272 P1258)) K1356_) K1374_)) K1405_) K1423_)
          have ne1595 : b1246 ≠ b1400 := (Nat.ne_of_lt (Nat.lt_of_lt_of_le F1398.lt (Nat.le_of_eq g1400.symm)))
          have ne1596 : b1246 ≠ b_1374 := (Nat.ne_of_lt (Nat.lt_of_lt_of_le (Nat.lt_of_lt_of_le (Nat.lt_of_lt_of_le F1349.lt E1351.1) K1356_.1) P1382))
          have F1597 := (Fld.keep (Fld.keep (Fld.ext E1400 (Fld.keep (Fld.keep (Fld.ext E1351 (Fld.other W1272 P1260 (Or.inl (Ne.symm ne1270)))) K1356_ (ninS ne1396 nin0)) K1374_ (ninS ne1397 nin0))) K1405_ (ninS ne1595 nin0)) K1423_ (ninS ne1397 (ninS ne1596 nin0)))
          have F1598 := (Fld.keep (Fld.keep (Fld.ext E1400 F1398) K1405_ (ninS ne1595 nin0)) K1423_ (ninS ne1397 (ninS ne1596 nin0)))
          have F1599 := (Fld.keep (Fld.keep (Fld.ext E1400 (Fld.keep (Fld.keep (Fld.ext E1351 (Fld.other W1272 P1255 (Or.inl (Ne.symm ne1270)))) K1356_ (ninS ne1396 nin0)) K1374_ (ninS ne1397 nin0))) K1405_ (ninS ne1595 nin0)) K1423_ (ninS ne1397 (ninS ne1596 nin0)))
          have F1600 := (Fld.keep (Fld.keep (Fld.ext E1400 (Fld.keep (Fld.keep (Fld.ext E1351 (Fld.other W1272 P1256 (Or.inl (Ne.symm ne1270)))) K1356_ (ninS ne1396 nin0)) K1374_ (ninS ne1397 nin0))) K1405_ (ninS ne1595 nin0)) K1423_ (ninS ne1397 (ninS ne1596 nin0)))
          have F1601 := (Fld.keep (Fld.keep (Fld.ext E1400 (Fld.keep (Fld.keep (Fld.ext E1351 (Fld.other W1272 P1257 (Or.inl (Ne.symm ne1270)))) K1356_ (ninS ne1396 nin0)) K1374_ (ninS ne1397 nin0))) K1405_ (ninS ne1595 nin0)) K1423_ (ninS ne1397 (ninS ne1596 nin0)))
          have Q1602 : own_sh Z T1423.heap h1185.size b1246 (Int32.ofNat (own_on np nw i)) := ⟨d_1254, (((0 : Int32) + (1 : Int32)) + (1 : Int32)), b_1374, kb_1374, [b1351, b1400], (Nat.le_trans hi2.2.2.1 (Nat.le_trans K2_1241.1 (Nat.le_of_eq g1246.symm))), (Nat.le_trans hi2.2.2.1 (Nat.le_trans K2_1247.1 P1265)), (by decide : 2 ≤ 3), (fun _ => ⟨(Nat.le_trans hi2.2.2.1 (Nat.le_trans K2_1365.1 P1382)), F1432⟩), (allS ⟨d_1356, b_1356, (Nat.le_trans hi2.2.2.1 (Nat.le_trans K2_1274.1 (Nat.le_of_eq g1351.symm))), (Nat.le_trans hi2.2.2.1 (Nat.le_trans K2_1352.1 P1363)), F1575, F1578, F1579, F1583, F1584, F1585⟩ (allS ⟨d_1405, b_1405, (Nat.le_trans hi2.2.2.1 (Nat.le_trans K2_1384.1 (Nat.le_of_eq g1400.symm))), (Nat.le_trans hi2.2.2.1 (Nat.le_trans K2_1401.1 P1412)), F1586, F1587, F1588, F1591, F1592, F1593⟩ all0)), F1594, F1597, F1598, F1599, F1600, F1601, P1425, P1426, P1427, P1428⟩
          have F1603 := (Old.keep (Old.keep (Old.ext (Old.keep F1368 K1374_ (allS ge1268 all0)) E1400) K1405_ (allS ge_b1400 all0)) K1423_ (allS ge1268 (allS ge1385 all0)))
          have F1604 := (Exa.keep F1210 K2_1431)
          have ne1605 : a ≠ b1400 := (Nat.ne_of_lt (Nat.lt_of_lt_of_le F1392.lt (Nat.le_of_eq g1400.symm)))
          have ne1606 : a ≠ b_1374 := (Nat.ne_of_lt (Nat.lt_of_lt_of_le (Nat.lt_of_lt_of_le (Nat.lt_of_lt_of_le F1347.lt E1351.1) K1356_.1) P1382))
          have F1607 := (Fld.keep (Fld.keep (Fld.ext E1400 F1392) K1405_ (ninS ne1605 nin0)) K1423_ (ninS ne1391 (ninS ne1606 nin0)))
          have F1608 := (Fld.keep F1212 K2_1431 (ninS ne1102 (ninS ne1346 (ninS ne1345 nin0))))
          have F1609 := (Fld.keep F1213 K2_1431 (ninS ne1102 (ninS ne1346 (ninS ne1345 nin0))))
          have F1610 := (Fld.keep F1214 K2_1431 (ninS ne1102 (ninS ne1346 (ninS ne1345 nin0))))
          have F1611 := (Fld.keep F1215 K2_1431 (ninS ne1102 (ninS ne1346 (ninS ne1345 nin0))))
          have F1612 := (Exa.keep F1216 K2_1431)
          have ne1613 : pl ≠ bt := (Exa.neArv F1216 hB10 (own_k hw 5 rfl))
          have ne1614 : pl ≠ ba := (ne_exa F1216 hB6 (by decide))
          have ne1615 : pl ≠ b1054 := (Nat.ne_of_lt (Nat.lt_of_lt_of_le F1045.lt (Nat.le_of_eq g1054.symm)))
          have F1616 := (Fld.keep F1217 K2_1431 (ninS ne1615 (ninS ne1614 (ninS ne1613 nin0))))
          have F1617 := (Fld.keep F1218 K2_1431 (ninS ne1615 (ninS ne1614 (ninS ne1613 nin0))))
          have F1618 := (Fld.keep F1219 K2_1431 (ninS ne1615 (ninS ne1614 (ninS ne1613 nin0))))
          have ne1619 : ba ≠ pb := (Exa.neArv hB6 F1220 (own_k hw 229 rfl))
          have ne1620 : pb ≠ b1054 := (Nat.ne_of_lt (Nat.lt_of_lt_of_le F1050.lt (Nat.le_of_eq g1054.symm)))
          have F1621 := (Arv.keep F1220 K2_1431 (ninS ne1620 (ninS (Ne.symm ne1619) (ninS ne1238 nin0))))
          have ne1622 : b1054 ≠ b1400 := (Nat.ne_of_lt (Nat.lt_of_lt_of_le F1395.lt (Nat.le_of_eq g1400.symm)))
          have ne1623 : b1054 ≠ b_1374 := (Nat.ne_of_lt (Nat.lt_of_lt_of_le (Nat.lt_of_lt_of_le (Nat.lt_of_lt_of_le F1275.lt E1351.1) K1356_.1) P1382))
          have F1624 := (Arv.keep (Arv.keep (F1395.ext E1400) K1405_ (ninS ne1622 nin0)) K1423_ (ninS (Ne.symm ne1369) (ninS ne1623 nin0)))
          have ne1625 : ba ≠ b1072 := (Exa.neArv hB6 F1222 (own_k hw 229 rfl))
          have ne1626 : b1054 ≠ b1072 := (Nat.ne_of_lt (Nat.lt_of_lt_of_le (Nat.lt_of_lt_of_le (Nat.lt_of_lt_of_le F1056.lt (Nat.le_of_eq (Wr.size W1059).symm)) (Nat.le_of_eq (Wr.size W1064).symm)) (Nat.le_of_eq g1072.symm)))
          have F1627 := (Arv.keep F1222 K2_1431 (ninS (Ne.symm ne1626) (ninS (Ne.symm ne1625) (ninS ne1234 nin0))))
          have F1628 := (Exa.keep F1223 K2_1431)
          have ne1629 : b1093 ≠ bt := (Exa.neArv F1223 hB10 (own_k hw 81 rfl))
          have ne1630 : b1093 ≠ ba := (ne_exa F1223 hB6 (by decide))
          have F1631 := (Fld.keep F1224 K2_1431 (ninS (Ne.symm ne1125) (ninS ne1630 (ninS ne1629 nin0))))
          have ne1632 : ba ≠ b_1104 := (Exa.neArv hB6 F1225 (own_k hw 229 rfl))
          have ne1633 : b1054 ≠ b_1104 := (Nat.ne_of_lt (Nat.lt_of_lt_of_le F1103.lt P1109))
          have F1634 := (Arv.keep F1225 K2_1431 (ninS (Ne.symm ne1633) (ninS (Ne.symm ne1632) (ninS ne1236 nin0))))
          have ne1635 : rr ≠ b1351 := (Nat.ne_of_lt (Nat.lt_of_lt_of_le F1277.lt (Nat.le_of_eq g1351.symm)))
          have ne1636 : rr ≠ d_1254 := (Nat.ne_of_lt (Nat.lt_of_lt_of_le (Nat.lt_of_lt_of_le F1226.lt E1246.1) P1265))
          have ne1637 : rr ≠ b1400 := (Nat.ne_of_lt (Nat.lt_of_lt_of_le (Nat.lt_of_lt_of_le (Nat.lt_of_lt_of_le (Nat.lt_of_lt_of_le F1277.lt E1351.1) K1356_.1) K1374_.1) (Nat.le_of_eq g1400.symm)))
          have ne1638 : rr ≠ b_1374 := (Nat.ne_of_lt (Nat.lt_of_lt_of_le (Nat.lt_of_lt_of_le (Nat.lt_of_lt_of_le F1277.lt E1351.1) K1356_.1) P1382))
          have F1639 := (Arv.keep (Arv.keep ((Arv.keep (Arv.keep (F1277.ext E1351) K1356_ (ninS ne1635 nin0)) K1374_ (ninS ne1636 nin0)).ext E1400) K1405_ (ninS ne1637 nin0)) K1423_ (ninS ne1636 (ninS ne1638 nin0)))
          have F1640 := (Exa.keep hB6 K2_1431)
          have ne1641 : ba ≠ bt := (Exa.neArv hB6 hB10 (own_k hw 229 rfl))
          have ne1642 : ba ≠ b1246 := (Nat.ne_of_lt (Nat.lt_of_lt_of_le hB6.lt (Nat.le_of_eq g1246.symm)))
          have ne1643 : ba ≠ b1351 := (Nat.ne_of_lt (Nat.lt_of_lt_of_le (Nat.lt_of_lt_of_le (Nat.lt_of_lt_of_le (Nat.lt_of_lt_of_le hB6.lt E1246.1) K1254_.1) (Nat.le_of_eq (Wr.size W1272).symm)) (Nat.le_of_eq g1351.symm)))
          have ne1644 : ba ≠ d_1254 := (Nat.ne_of_lt (Nat.lt_of_lt_of_le (Nat.lt_of_lt_of_le hB6.lt E1246.1) P1265))
          have ne1645 : ba ≠ b1400 := (Nat.ne_of_lt (Nat.lt_of_lt_of_le (Nat.lt_of_lt_of_le (Nat.lt_of_lt_of_le (Nat.lt_of_lt_of_le (Nat.lt_of_lt_of_le (Nat.lt_of_lt_of_le (Nat.lt_of_lt_of_le hB6.lt E1246.1) K1254_.1) (Nat.le_of_eq (Wr.size W1272).symm)) E1351.1) K1356_.1) K1374_.1) (Nat.le_of_eq g1400.symm)))
          have ne1646 : ba ≠ b_1374 := (Nat.ne_of_lt (Nat.lt_of_lt_of_le (Nat.lt_of_lt_of_le (Nat.lt_of_lt_of_le (Nat.lt_of_lt_of_le (Nat.lt_of_lt_of_le (Nat.lt_of_lt_of_le hB6.lt E1246.1) K1254_.1) (Nat.le_of_eq (Wr.size W1272).symm)) E1351.1) K1356_.1) P1382))
          have F1647 := (Fld.keep (Fld.keep (Fld.ext E1400 (Fld.keep (Fld.keep (Fld.ext E1351 (Fld.other W1272 (Fld.keep (Fld.ext E1246 hB7) K1254_ (ninS ne1642 nin0)) (Or.inl ne1269))) K1356_ (ninS ne1643 nin0)) K1374_ (ninS ne1644 nin0))) K1405_ (ninS ne1645 nin0)) K1423_ (ninS ne1644 (ninS ne1646 nin0)))
          have F1648 := (Fld.keep (Fld.keep (Fld.ext E1400 (Fld.keep (Fld.keep (Fld.ext E1351 (Fld.other W1272 (Fld.keep (Fld.ext E1246 hB8) K1254_ (ninS ne1642 nin0)) (Or.inl ne1269))) K1356_ (ninS ne1643 nin0)) K1374_ (ninS ne1644 nin0))) K1405_ (ninS ne1645 nin0)) K1423_ (ninS ne1644 (ninS ne1646 nin0)))
          have F1649 := (Fld.keep (Fld.keep (Fld.ext E1400 (Fld.keep (Fld.keep (Fld.ext E1351 (Fld.other W1272 (Fld.keep (Fld.ext E1246 hB9) K1254_ (ninS ne1642 nin0)) (Or.inl ne1269))) K1356_ (ninS ne1643 nin0)) K1374_ (ninS ne1644 nin0))) K1405_ (ninS ne1645 nin0)) K1423_ (ninS ne1644 (ninS ne1646 nin0)))
          have ne1650 : bt ≠ b1246 := (Nat.ne_of_lt (Nat.lt_of_lt_of_le hB10.lt (Nat.le_of_eq g1246.symm)))
          have ne1651 : bt ≠ b1351 := (Nat.ne_of_lt (Nat.lt_of_lt_of_le (Nat.lt_of_lt_of_le (Nat.lt_of_lt_of_le (Nat.lt_of_lt_of_le hB10.lt E1246.1) K1254_.1) (Nat.le_of_eq (Wr.size W1272).symm)) (Nat.le_of_eq g1351.symm)))
          have ne1652 : bt ≠ d_1254 := (Nat.ne_of_lt (Nat.lt_of_lt_of_le (Nat.lt_of_lt_of_le hB10.lt E1246.1) P1265))
          have ne1653 : bt ≠ b1400 := (Nat.ne_of_lt (Nat.lt_of_lt_of_le (Nat.lt_of_lt_of_le (Nat.lt_of_lt_of_le (Nat.lt_of_lt_of_le (Nat.lt_of_lt_of_le (Nat.lt_of_lt_of_le (Nat.lt_of_lt_of_le hB10.lt E1246.1) K1254_.1) (Nat.le_of_eq (Wr.size W1272).symm)) E1351.1) K1356_.1) K1374_.1) (Nat.le_of_eq g1400.symm)))
          have ne1654 : bt ≠ b_1374 := (Nat.ne_of_lt (Nat.lt_of_lt_of_le (Nat.lt_of_lt_of_le (Nat.lt_of_lt_of_le (Nat.lt_of_lt_of_le (Nat.lt_of_lt_of_le (Nat.lt_of_lt_of_le hB10.lt E1246.1) K1254_.1) (Nat.le_of_eq (Wr.size W1272).symm)) E1351.1) K1356_.1) P1382))
          have F1655 := (Arv.keep (Arv.keep ((Arv.keep (Arv.keep ((Arv.other (Arv.keep (hB10.ext E1246) K1254_ (ninS ne1650 nin0)) W1272 (Ne.symm ne1232)).ext E1351) K1356_ (ninS ne1651 nin0)) K1374_ (ninS ne1652 nin0)).ext E1400) K1405_ (ninS ne1653 nin0)) K1423_ (ninS ne1652 (ninS ne1654 nin0)))
          exact J1278 _ _ _ ⟨(Int32.ofNat ys.length), (2 : Int32), (Slot.val (.int (ys.getD 1 0)))⟩ ⟨N1430, Z1431, K1431, F1603, K2_1431, F1604, F1607, F1608, F1609, F1610, F1611, F1612, F1616, F1617, F1618, F1621, F1624, F1627, F1628, F1631, F1634, F1639, F1640, F1647, F1648, F1649, F1655, Q1602, (Or.inr ⟨_, rfl⟩)⟩ (X1423.mono (by first | decide | exact Nat.le_add_right_of_le (by decide) | ((try dsimp only [Pt.cells, Pt.slots]); omega)) (by first | decide | exact Nat.le_add_right_of_le (by decide) | ((try dsimp only [Pt.cells, Pt.slots]); omega))) rfl
        ·
         refine own_st (g' := (mkF m 256 #[oR a, oR pl, oI ft, oR rr, oJ i, oJ (own_on np nw i), oR row, oJ ys.length, oI 1, oI (ys.getD 0 0)] [])) (fun _ kt => XS.icmpYes X1374.here hx rfl (pc0 := 213) (pc' := 256) rfl (hb hby d5_213) rfl (XT.ii_ge_t hc1386) (by decide) (by decide) kt) ?_
         have F1656 := (Exa.keep P1357 K1374_)
         have F1657 := (Fld.keep P1358 K1374_ (ninS (Ne.symm ne1370) nin0))
         have F1658 := (Exa.keep P1359 K1374_)
         have ne1659 : d_1356 ≠ d_1254 := (ne_exa P1359 F1367 (by decide))
         have F1660 := (Fld.keep P1360 K1374_ (ninS ne1659 nin0))
         have F1661 := (Fld.keep P1361 K1374_ (ninS ne1659 nin0))
         have F1662 := (Fld.keep P1362 K1374_ (ninS ne1659 nin0))
         have F1663 := (Exa.keep (Exa.keep (Exa.ext E1351 (Exa.wr W1272 P1258)) K1356_) K1374_)
         have ne1664 : b1246 ≠ b1351 := (Nat.ne_of_lt (Nat.lt_of_lt_of_le F1349.lt (Nat.le_of_eq g1351.symm)))
         have ne1665 : b1246 ≠ d_1254 := (Nat.ne_of_lt (Nat.lt_of_lt_of_le A1246.lt P1265))
         have F1666 := (Fld.keep (Fld.keep (Fld.ext E1351 (Fld.other W1272 P1260 (Or.inl (Ne.symm ne1270)))) K1356_ (ninS ne1664 nin0)) K1374_ (ninS ne1665 nin0))
         have F1667 := (Fld.keep (Fld.keep (Fld.ext E1351 F1349) K1356_ (ninS ne1664 nin0)) K1374_ (ninS ne1665 nin0))
         have F1668 := (Fld.keep (Fld.keep (Fld.ext E1351 (Fld.other W1272 P1255 (Or.inl (Ne.symm ne1270)))) K1356_ (ninS ne1664 nin0)) K1374_ (ninS ne1665 nin0))
         have F1669 := (Fld.keep (Fld.keep (Fld.ext E1351 (Fld.other W1272 P1256 (Or.inl (Ne.symm ne1270)))) K1356_ (ninS ne1664 nin0)) K1374_ (ninS ne1665 nin0))
         have F1670 := (Fld.keep (Fld.keep (Fld.ext E1351 (Fld.other W1272 P1257 (Or.inl (Ne.symm ne1270)))) K1356_ (ninS ne1664 nin0)) K1374_ (ninS ne1665 nin0))
         have Q1671 : own_sh Z T1374.heap h1185.size b1246 (Int32.ofNat (own_on np nw i)) := ⟨d_1254, ((0 : Int32) + (1 : Int32)), b_1374, kb_1374, [b1351], (Nat.le_trans hi2.2.2.1 (Nat.le_trans K2_1241.1 (Nat.le_of_eq g1246.symm))), (Nat.le_trans hi2.2.2.1 (Nat.le_trans K2_1247.1 P1265)), (by decide : 1 ≤ 3), (fun _ => ⟨(Nat.le_trans hi2.2.2.1 (Nat.le_trans K2_1365.1 P1382)), P1380⟩), (allS ⟨d_1356, b_1356, (Nat.le_trans hi2.2.2.1 (Nat.le_trans K2_1274.1 (Nat.le_of_eq g1351.symm))), (Nat.le_trans hi2.2.2.1 (Nat.le_trans K2_1352.1 P1363)), F1656, F1657, F1658, F1660, F1661, F1662⟩ all0), F1663, F1666, F1667, F1668, F1669, F1670, P1376, P1377, P1378, P1379⟩
         have F1672 := (Old.keep F1368 K1374_ (allS ge1268 all0))
         have F1673 := (Exa.keep F1210 K2_1384)
         have ne1674 : a ≠ b1351 := (Nat.ne_of_lt (Nat.lt_of_lt_of_le F1347.lt (Nat.le_of_eq g1351.symm)))
         have ne1675 : a ≠ d_1254 := (Nat.ne_of_lt (Nat.lt_of_lt_of_le (Nat.lt_of_lt_of_le F1210.lt E1246.1) P1265))
         have F1676 := (Fld.keep (Fld.keep (Fld.ext E1351 F1347) K1356_ (ninS ne1674 nin0)) K1374_ (ninS ne1675 nin0))
         have F1677 := (Fld.keep F1212 K2_1384 (ninS ne1102 (ninS ne1346 (ninS ne1345 nin0))))
         have F1678 := (Fld.keep F1213 K2_1384 (ninS ne1102 (ninS ne1346 (ninS ne1345 nin0))))
         have F1679 := (Fld.keep F1214 K2_1384 (ninS ne1102 (ninS ne1346 (ninS ne1345 nin0))))
         have F1680 := (Fld.keep F1215 K2_1384 (ninS ne1102 (ninS ne1346 (ninS ne1345 nin0))))
         have F1681 := (Exa.keep F1216 K2_1384)
         have ne1682 : pl ≠ bt := (Exa.neArv F1216 hB10 (own_k hw 5 rfl))
         have ne1683 : pl ≠ ba := (ne_exa F1216 hB6 (by decide))
         have ne1684 : pl ≠ b1054 := (Nat.ne_of_lt (Nat.lt_of_lt_of_le F1045.lt (Nat.le_of_eq g1054.symm)))
         have F1685 := (Fld.keep F1217 K2_1384 (ninS ne1684 (ninS ne1683 (ninS ne1682 nin0))))
         have F1686 := (Fld.keep F1218 K2_1384 (ninS ne1684 (ninS ne1683 (ninS ne1682 nin0))))
         have F1687 := (Fld.keep F1219 K2_1384 (ninS ne1684 (ninS ne1683 (ninS ne1682 nin0))))
         have ne1688 : ba ≠ pb := (Exa.neArv hB6 F1220 (own_k hw 229 rfl))
         have ne1689 : pb ≠ b1054 := (Nat.ne_of_lt (Nat.lt_of_lt_of_le F1050.lt (Nat.le_of_eq g1054.symm)))
         have F1690 := (Arv.keep F1220 K2_1384 (ninS ne1689 (ninS (Ne.symm ne1688) (ninS ne1238 nin0))))
         have ne1691 : b1054 ≠ b1351 := (Nat.ne_of_lt (Nat.lt_of_lt_of_le F1275.lt (Nat.le_of_eq g1351.symm)))
         have F1692 := (Arv.keep (Arv.keep (F1275.ext E1351) K1356_ (ninS ne1691 nin0)) K1374_ (ninS (Ne.symm ne1369) nin0))
         have ne1693 : ba ≠ b1072 := (Exa.neArv hB6 F1222 (own_k hw 229 rfl))
         have ne1694 : b1054 ≠ b1072 := (Nat.ne_of_lt (Nat.lt_of_lt_of_le (Nat.lt_of_lt_of_le (Nat.lt_of_lt_of_le F1056.lt (Nat.le_of_eq (Wr.size W1059).symm)) (Nat.le_of_eq (Wr.size W1064).symm)) (Nat.le_of_eq g1072.symm)))
         have F1695 := (Arv.keep F1222 K2_1384 (ninS (Ne.symm ne1694) (ninS (Ne.symm ne1693) (ninS ne1234 nin0))))
         have F1696 := (Exa.keep F1223 K2_1384)
         have ne1697 : b1093 ≠ bt := (Exa.neArv F1223 hB10 (own_k hw 81 rfl))
         have ne1698 : b1093 ≠ ba := (ne_exa F1223 hB6 (by decide))
         have F1699 := (Fld.keep F1224 K2_1384 (ninS (Ne.symm ne1125) (ninS ne1698 (ninS ne1697 nin0))))
         have ne1700 : ba ≠ b_1104 := (Exa.neArv hB6 F1225 (own_k hw 229 rfl))
         have ne1701 : b1054 ≠ b_1104 := (Nat.ne_of_lt (Nat.lt_of_lt_of_le F1103.lt P1109))
         have F1702 := (Arv.keep F1225 K2_1384 (ninS (Ne.symm ne1701) (ninS (Ne.symm ne1700) (ninS ne1236 nin0))))
         have ne1703 : rr ≠ b1351 := (Nat.ne_of_lt (Nat.lt_of_lt_of_le F1277.lt (Nat.le_of_eq g1351.symm)))
         have ne1704 : rr ≠ d_1254 := (Nat.ne_of_lt (Nat.lt_of_lt_of_le (Nat.lt_of_lt_of_le F1226.lt E1246.1) P1265))
         have F1705 := (Arv.keep (Arv.keep (F1277.ext E1351) K1356_ (ninS ne1703 nin0)) K1374_ (ninS ne1704 nin0))
         have F1706 := (Exa.keep hB6 K2_1384)
         have ne1707 : ba ≠ bt := (Exa.neArv hB6 hB10 (own_k hw 229 rfl))
         have ne1708 : ba ≠ b1246 := (Nat.ne_of_lt (Nat.lt_of_lt_of_le hB6.lt (Nat.le_of_eq g1246.symm)))
         have ne1709 : ba ≠ b1351 := (Nat.ne_of_lt (Nat.lt_of_lt_of_le (Nat.lt_of_lt_of_le (Nat.lt_of_lt_of_le (Nat.lt_of_lt_of_le hB6.lt E1246.1) K1254_.1) (Nat.le_of_eq (Wr.size W1272).symm)) (Nat.le_of_eq g1351.symm)))
         have ne1710 : ba ≠ d_1254 := (Nat.ne_of_lt (Nat.lt_of_lt_of_le (Nat.lt_of_lt_of_le hB6.lt E1246.1) P1265))
         have F1711 := (Fld.keep (Fld.keep (Fld.ext E1351 (Fld.other W1272 (Fld.keep (Fld.ext E1246 hB7) K1254_ (ninS ne1708 nin0)) (Or.inl ne1269))) K1356_ (ninS ne1709 nin0)) K1374_ (ninS ne1710 nin0))
         have F1712 := (Fld.keep (Fld.keep (Fld.ext E1351 (Fld.other W1272 (Fld.keep (Fld.ext E1246 hB8) K1254_ (ninS ne1708 nin0)) (Or.inl ne1269))) K1356_ (ninS ne1709 nin0)) K1374_ (ninS ne1710 nin0))
         have F1713 := (Fld.keep (Fld.keep (Fld.ext E1351 (Fld.other W1272 (Fld.keep (Fld.ext E1246 hB9) K1254_ (ninS ne1708 nin0)) (Or.inl ne1269))) K1356_ (ninS ne1709 nin0)) K1374_ (ninS ne1710 nin0))
         have ne1714 : bt ≠ b1246 := (Nat.ne_of_lt (Nat.lt_of_lt_of_le hB10.lt (Nat.le_of_eq g1246.symm)))
         have ne1715 : bt ≠ b1351 := (Nat.ne_of_lt (Nat.lt_of_lt_of_le (Nat.lt_of_lt_of_le (Nat.lt_of_lt_of_le (Nat.lt_of_lt_of_le hB10.lt E1246.1) K1254_.1) (Nat.le_of_eq (Wr.size W1272).symm)) (Nat.le_of_eq g1351.symm)))
         have ne1716 : bt ≠ d_1254 := (Nat.ne_of_lt (Nat.lt_of_lt_of_le (Nat.lt_of_lt_of_le hB10.lt E1246.1) P1265))
         have F1717 := (Arv.keep (Arv.keep ((Arv.other (Arv.keep (hB10.ext E1246) K1254_ (ninS ne1714 nin0)) W1272 (Ne.symm ne1232)).ext E1351) K1356_ (ninS ne1715 nin0)) K1374_ (ninS ne1716 nin0))
         exact J1278 _ _ _ ⟨(Int32.ofNat ys.length), (1 : Int32), (Slot.val (.int (ys.getD 0 0)))⟩ ⟨N1383, Z1384, K1384, F1672, K2_1384, F1673, F1676, F1677, F1678, F1679, F1680, F1681, F1685, F1686, F1687, F1690, F1692, F1695, F1696, F1699, F1702, F1705, F1706, F1711, F1712, F1713, F1717, Q1671, (Or.inr ⟨_, rfl⟩)⟩ (X1374.mono (by first | decide | exact Nat.le_add_right_of_le (by decide) | ((try dsimp only [Pt.cells, Pt.slots]); omega)) (by first | decide | exact Nat.le_add_right_of_le (by decide) | ((try dsimp only [Pt.cells, Pt.slots]); omega))) rfl
       ·
        refine own_st (g' := (mkF m 256 #[oR a, oR pl, oI ft, oR rr, oJ i, oJ (own_on np nw i), oR row, oJ ys.length, oI 0, sv1209_9] [])) (fun _ kt => XS.icmpYes X1272.here hx rfl (pc0 := 213) (pc' := 256) rfl (hb hby d5_213) rfl (XT.ii_ge_t hc1344) (by decide) (by decide) kt) ?_
        have F1718 := (Exa.wr W1272 P1258)
        have F1719 := (Fld.other W1272 P1260 (Or.inl (Ne.symm ne1270)))
        have F1720 := (Fld.other W1272 P1259 (Or.inl (Ne.symm ne1270)))
        have F1721 := (Fld.other W1272 P1255 (Or.inl (Ne.symm ne1270)))
        have F1722 := (Fld.other W1272 P1256 (Or.inl (Ne.symm ne1270)))
        have F1723 := (Fld.other W1272 P1257 (Or.inl (Ne.symm ne1270)))
        have F1724 := (Exa.wr W1272 P1261)
        have ne1725 : d_1254 ≠ b1054 := (Exa.neArv P1261 F1271 (own_k hw 33 rfl))
        have F1726 := (Fld.other W1272 P1262 (Or.inl ne1725))
        have F1727 := (Fld.other W1272 P1263 (Or.inl ne1725))
        have F1728 := (Fld.other W1272 P1264 (Or.inl ne1725))
        have Q1729 : own_sh Z h1272 h1185.size b1246 (Int32.ofNat (own_on np nw i)) := ⟨d_1254, (0 : Int32), de, kd, [], (Nat.le_trans hi2.2.2.1 (Nat.le_trans K2_1241.1 (Nat.le_of_eq g1246.symm))), (Nat.le_trans hi2.2.2.1 (Nat.le_trans K2_1247.1 P1265)), (by decide : 0 ≤ 3), (fun q => absurd rfl q), all0, F1718, F1719, F1720, F1721, F1722, F1723, F1724, F1726, F1727, F1728⟩
        have F1730 := (Old.wr (Old.keep F1253 K1254_ (allS ge_b1246 all0)) W1272 ge_b1054)
        have F1731 := (Exa.keep F1210 K2_1274)
        have ne1732 : a ≠ bt := (Exa.neArv F1210 hB10 (own_k hw 2 rfl))
        have ne1733 : a ≠ ba := (ne_exa F1210 hB6 (by decide))
        have F1734 := (Fld.keep F1211 K2_1274 (ninS ne1102 (ninS ne1733 (ninS ne1732 nin0))))
        have F1735 := (Fld.keep F1212 K2_1274 (ninS ne1102 (ninS ne1733 (ninS ne1732 nin0))))
        have F1736 := (Fld.keep F1213 K2_1274 (ninS ne1102 (ninS ne1733 (ninS ne1732 nin0))))
        have F1737 := (Fld.keep F1214 K2_1274 (ninS ne1102 (ninS ne1733 (ninS ne1732 nin0))))
        have F1738 := (Fld.keep F1215 K2_1274 (ninS ne1102 (ninS ne1733 (ninS ne1732 nin0))))
        have F1739 := (Exa.keep F1216 K2_1274)
        have ne1740 : pl ≠ bt := (Exa.neArv F1216 hB10 (own_k hw 5 rfl))
        have ne1741 : pl ≠ ba := (ne_exa F1216 hB6 (by decide))
        have ne1742 : pl ≠ b1054 := (Nat.ne_of_lt (Nat.lt_of_lt_of_le F1045.lt (Nat.le_of_eq g1054.symm)))
        have F1743 := (Fld.keep F1217 K2_1274 (ninS ne1742 (ninS ne1741 (ninS ne1740 nin0))))
        have F1744 := (Fld.keep F1218 K2_1274 (ninS ne1742 (ninS ne1741 (ninS ne1740 nin0))))
        have F1745 := (Fld.keep F1219 K2_1274 (ninS ne1742 (ninS ne1741 (ninS ne1740 nin0))))
        have ne1746 : ba ≠ pb := (Exa.neArv hB6 F1220 (own_k hw 229 rfl))
        have ne1747 : pb ≠ b1054 := (Nat.ne_of_lt (Nat.lt_of_lt_of_le F1050.lt (Nat.le_of_eq g1054.symm)))
        have F1748 := (Arv.keep F1220 K2_1274 (ninS ne1747 (ninS (Ne.symm ne1746) (ninS ne1238 nin0))))
        have ne1749 : ba ≠ b1072 := (Exa.neArv hB6 F1222 (own_k hw 229 rfl))
        have ne1750 : b1054 ≠ b1072 := (Nat.ne_of_lt (Nat.lt_of_lt_of_le (Nat.lt_of_lt_of_le (Nat.lt_of_lt_of_le F1056.lt (Nat.le_of_eq (Wr.size W1059).symm)) (Nat.le_of_eq (Wr.size W1064).symm)) (Nat.le_of_eq g1072.symm)))
        have F1751 := (Arv.keep F1222 K2_1274 (ninS (Ne.symm ne1750) (ninS (Ne.symm ne1749) (ninS ne1234 nin0))))
        have F1752 := (Exa.keep F1223 K2_1274)
        have ne1753 : b1093 ≠ bt := (Exa.neArv F1223 hB10 (own_k hw 81 rfl))
        have ne1754 : b1093 ≠ ba := (ne_exa F1223 hB6 (by decide))
        have F1755 := (Fld.keep F1224 K2_1274 (ninS (Ne.symm ne1125) (ninS ne1754 (ninS ne1753 nin0))))
        have ne1756 : ba ≠ b_1104 := (Exa.neArv hB6 F1225 (own_k hw 229 rfl))
        have ne1757 : b1054 ≠ b_1104 := (Nat.ne_of_lt (Nat.lt_of_lt_of_le F1103.lt P1109))
        have F1758 := (Arv.keep F1225 K2_1274 (ninS (Ne.symm ne1757) (ninS (Ne.symm ne1756) (ninS ne1236 nin0))))
        have F1759 := (Exa.keep hB6 K2_1274)
        have ne1760 : ba ≠ bt := (Exa.neArv hB6 hB10 (own_k hw 229 rfl))
        have ne1761 : ba ≠ b1246 := (Nat.ne_of_lt (Nat.lt_of_lt_of_le hB6.lt (Nat.le_of_eq g1246.symm)))
        have F1762 := (Fld.other W1272 (Fld.keep (Fld.ext E1246 hB7) K1254_ (ninS ne1761 nin0)) (Or.inl ne1269))
        have F1763 := (Fld.other W1272 (Fld.keep (Fld.ext E1246 hB8) K1254_ (ninS ne1761 nin0)) (Or.inl ne1269))
        have F1764 := (Fld.other W1272 (Fld.keep (Fld.ext E1246 hB9) K1254_ (ninS ne1761 nin0)) (Or.inl ne1269))
        have ne1765 : bt ≠ b1246 := (Nat.ne_of_lt (Nat.lt_of_lt_of_le hB10.lt (Nat.le_of_eq g1246.symm)))
        have F1766 := (Arv.other (Arv.keep (hB10.ext E1246) K1254_ (ninS ne1765 nin0)) W1272 (Ne.symm ne1232))
        exact J1278 _ _ _ ⟨(Int32.ofNat ys.length), (0 : Int32), sv1209_9⟩ ⟨N1272, Z1274, K1274, F1730, K2_1274, F1731, F1734, F1735, F1736, F1737, F1738, F1739, F1743, F1744, F1745, F1748, F1275, F1751, F1752, F1755, F1758, F1277, F1759, F1762, F1763, F1764, F1766, Q1729, hsv1209_9⟩ (X1272.mono (by first | decide | exact Nat.le_add_right_of_le (by decide) | ((try dsimp only [Pt.cells, Pt.slots]); omega)) (by first | decide | exact Nat.le_add_right_of_le (by decide) | ((try dsimp only [Pt.cells, Pt.slots]); omega))) e1272
     ·
      refine own_st (g' := (mkF m 276 #[oR a, oR pl, oI ft, oR rr, oJ i, sv1209_5, sv1209_6, sv1209_7, sv1209_8, sv1209_9] [])) (fun _ kt => XS.icmpYes X1230.here hx rfl (pc0 := 168) (pc' := 276) rfl (hb hby d5_168) rfl (XT.ii_ge_t hc1231) (by decide) (by decide) kt) ?_
      have hie : i = np := Nat.le_antisymm hi2.2.1 (Nat.le_of_not_lt fun g => hc1231 ((own_ige (by omega) (by omega)).mpr g))
      have Q1767 : own_S Z h1209 h1185.size np vs (fun zz => Int32.ofNat (own_on np nw zz)) := (by have q := F1229; rw [hie] at q; exact q)
      obtain ⟨fs, hr, hrun, hended, hW, hsame⟩ := X1230.leave (v := none) (fun _ => rfl)
      refine own_end (X1230.returnOut hx Bd.returns (hb hby d5_276) hr) ⟨_, hrun, hended, _, _, rfl, ?_, ⟨_, rfl⟩, hW, hsame.mono (by show _ ≤ (230 : Nat); (try dsimp only [Pt.cells, Pt.slots]); omega) (by show _ ≤ (7600 : Nat); (try dsimp only [Pt.cells, Pt.slots]); omega)⟩
      have ne1768 : b1054 ≠ b_1104 := (Nat.ne_of_lt (Nat.lt_of_lt_of_le F1103.lt P1109))
      show own_sinQ Z _ _ _ _ _ _ _ _ _ _ _ h0 n0 _ T1230.heap _
      rw [e1230]
      exact ⟨b1054, k1054, vs, b1072, k1072, bs, b1093, b_1104, kb_1104, h1141.size, h1161.size, h1185.size, rfl, N1209, K1209, F1210, F1211, F1212, F1214, F1215, F1221, F1222, F1223, F1224, F1225, ne1768, P1108, F1227, Q1767, (Nat.le_trans K1043.1 (Nat.le_of_eq g1054.symm)), (Nat.le_trans K1065.1 (Nat.le_of_eq g1072.symm)), (Nat.le_trans K1091.1 (Nat.le_of_eq g1093.symm)), (Nat.le_trans K1094.1 P1109), hloK, hsaL, hspL, hdbL, hml1, hrr.2.2, hi2.1, ho.1⟩
    ·
     have Q1769 : own_S Z h1185 h1185.size 0 (List.replicate np .null) (fun zz => Int32.ofNat (own_on np nw zz)) := own_S_nil
     exact J1209 np _ _ _ ⟨0, (List.replicate np .null), Slot.unset, Slot.unset, Slot.unset, Slot.unset, Slot.unset⟩ ⟨N1185, Z1185, K1185, O1185, (Or.inl rfl), (Or.inl rfl), (Or.inl rfl), (Or.inl rfl), (Or.inl rfl), F1186, F1187, F1188, F1189, F1190, F1191, F1192, F1193, F1194, F1195, F1196, F1197, F1198, F1199, F1200, F1201, F1202, F1203, F1204, Q1769, ⟨List.length_replicate .., Nat.zero_le _, Nat.le_refl _, rfl⟩⟩ (X1185.mono (by first | decide | exact Nat.le_add_right_of_le (by decide) | ((try dsimp only [Pt.cells, Pt.slots]); omega)) (by first | decide | exact Nat.le_add_right_of_le (by decide) | ((try dsimp only [Pt.cells, Pt.slots]); omega))) e1185
   ·
    refine own_st (g' := (mkF m 137 #[oR a, oR pl, oI ft, oJ k, .unset, .unset, .unset, .unset, .unset, .unset] [(.int ft)])) (fun _ kt => XS.iloadN X1181.here hx rfl (hb hby d5_136) rfl kt) ?_
    by_cases hc1770 : ft = 0
    ·
     refine own_st (g' := (mkF m 148 #[oR a, oR pl, oI ft, oJ k, .unset, .unset, .unset, .unset, .unset, .unset] [(.ref a)])) (fun _ kt => XS.ifYes X1181.here hx rfl (pc0 := 137) (pc' := 147) rfl (hb hby d5_137) rfl (XT.i0_eq_t hc1770) (by decide) (by decide) (XS.aloadN X1181.here hx rfl (hb hby d5_147) rfl rfl kt)) ?_
     obtain ⟨T1771, X1771, e1771, st1771⟩ := getF X1181 hx hZ hown (host := "") (Or.inl (own_k hw 65 rfl)) Via.refl e1181 F1163 (g := (mkF m 148 #[oR a, oR pl, oI ft, oJ k, .unset, .unset, .unset, .unset, .unset, .unset] [(.ref a)])) rfl rfl (hb hby d5_148)
     refine own_st st1771 ?_
     refine own_st (g' := (mkF m 152 #[oR a, oR pl, oI ft, oJ k, .unset, .unset, .unset, .unset, .unset, .unset] [vJ np])) (own_alen X1771 hx hZ e1771 F1173 (g := (mkF m 151 #[oR a, oR pl, oI ft, oJ k, .unset, .unset, .unset, .unset, .unset, .unset] [(.ref b1054)])) rfl rfl (hb hby d5_151)) ?_
     refine own_st (g' := (mkF m 153 #[oR a, oR pl, oI ft, oJ k, .unset, .unset, .unset, .unset, .unset, .unset] [(.int 0), vJ np])) (fun _ kt => XS.iconst X1771.here hx rfl (hb hby d5_152) kt) ?_
     obtain ⟨T1772, h1772, k1772, c1772, X1772, e1772, E1772, A1772, O1772, B1772, R1772, st1772⟩ := gridM X1771 hx hZ (C := "[I") (ad := "[[I") (ty := .int) hown (by decide) (by decide) (own_k hw 250 rfl) (own_k hw 251 rfl) (own_k hw 21 rfl) e1771 (g := (mkF m 153 #[oR a, oR pl, oI ft, oJ k, .unset, .unset, .unset, .unset, .unset, .unset] [(.int 0), vJ np])) rfl (hb hby d5_153) rfl (own_nn (by omega)) (by decide) (N := np) (own_tn (by omega)) (xs := (List.range np).map fun jz => h1161.size + 1 + jz) rfl (cap := 0) (by decide) (by decide) (by omega) rfl rfl (by show _ ≤ (230 : Nat); (try dsimp only [Pt.cells, Pt.slots]); omega) (by show _ ≤ (7600 : Nat); (try dsimp only [Pt.cells, Pt.slots]); omega)
     obtain ⟨b1772, g1772⟩ : ∃ z, z = h1161.size := ⟨_, rfl⟩
     rw [← g1772] at A1772 B1772 R1772 st1772
     have Z1773 := Nat.le_trans Z1161 E1772.1
     have K1773 := (Keep.ext K1161 E1772)
     have K2_1773 := (Keep.ext K2_1184 E1772)
     have ge_b1772 : n0 ≤ b1772 := Nat.le_trans Z1161 (Nat.le_of_eq g1772.symm)
     have F1774 : Arv Z h1772 b1772 k1772 (.array .int) (Int32.ofNat np) (((List.range np).map fun jz => b1772 + 1 + jz).map Value.ref) .null := A1772
     refine own_st st1772 ?_
     have Q1775 : own_B Z h1772 h1141.size h1161.size nw bs := (own_B_keep Q1183 K2_1773 all0)
     have Q1776 : own_R Z h1772 h1161.size h1772.size (fun zz => zz < np) (((List.range np).map fun jz => b1772 + 1 + jz).map Value.ref) := (own_R_grid (Nat.le_of_eq g1772.symm) R1772)
     have F1777 := (Old.ext O1161 E1772)
     have F1778 := (Exa.ext E1772 F1162)
     have F1779 := (Fld.ext E1772 F1163)
     have F1780 := (Fld.ext E1772 F1164)
     have F1781 := (Fld.ext E1772 F1165)
     have F1782 := (Fld.ext E1772 F1166)
     have F1783 := (Fld.ext E1772 F1167)
     have F1784 := (Exa.ext E1772 F1168)
     have F1785 := (Fld.ext E1772 F1169)
     have F1786 := (Fld.ext E1772 F1170)
     have F1787 := (Fld.ext E1772 F1171)
     have F1788 := (F1172.ext E1772)
     have F1789 := (F1173.ext E1772)
     have F1790 := (F1174.ext E1772)
     have F1791 := (Exa.ext E1772 F1175)
     have F1792 := (Fld.ext E1772 F1176)
     have F1793 := (F1177.ext E1772)
     have ne1794 : b1054 ≠ b1772 := (Nat.ne_of_lt (Nat.lt_of_lt_of_le F1173.lt (Nat.le_of_eq g1772.symm)))
     have ne1795 : b1072 ≠ b1772 := (Nat.ne_of_lt (Nat.lt_of_lt_of_le F1174.lt (Nat.le_of_eq g1772.symm)))
     have ne1796 : b_1104 ≠ b1772 := (Nat.ne_of_lt (Nat.lt_of_lt_of_le F1177.lt (Nat.le_of_eq g1772.symm)))
     have ne1797 : pb ≠ b1772 := (Nat.ne_of_lt (Nat.lt_of_lt_of_le F1172.lt (Nat.le_of_eq g1772.symm)))
     exact J1185 _ _ _ ⟨b1772, k1772, (((List.range np).map fun jz => b1772 + 1 + jz).map Value.ref)⟩ ⟨N1161, Z1773, K1773, F1777, K2_1773, F1778, F1779, F1780, F1781, F1782, F1783, F1784, F1785, F1786, F1787, F1788, F1789, F1790, F1791, F1792, F1793, F1774, Q1775, Q1776, ne1794, ne1795, ne1796, ne1797, ⟨by simp, Nat.le_of_eq g1772.symm, K2_1773.1⟩⟩ (X1772.mono (by first | decide | exact Nat.le_add_right_of_le (by decide) | ((try dsimp only [Pt.cells, Pt.slots]); omega)) (by first | decide | exact Nat.le_add_right_of_le (by decide) | ((try dsimp only [Pt.cells, Pt.slots]); omega))) e1772
    ·
     refine own_st (g' := (mkF m 141 #[oR a, oR pl, oI ft, oJ k, .unset, .unset, .unset, .unset, .unset, .unset] [(.ref pl)])) (fun _ kt => XS.ifNo X1181.here hx rfl (hb hby d5_137) rfl (XT.i0_eq_f hc1770) (XS.aloadN X1181.here hx rfl (hb hby d5_140) rfl rfl kt)) ?_
     obtain ⟨cq1799, kq1799, qa1799, qb1799, qc1799⟩ := isOf hZ e1181 F1168
     obtain ⟨_, _, ⟨T1798, L1798, k1798, n1798⟩, -, X1798, ⟨Lc1798, hQ1798, l1798, y1798, z1798⟩, st1798⟩ := X1181.virtualBack hx (y := yN24) (z := yN24) hown (mvT hZ (own_k hw 415 rfl)) (mvT hZ (own_k hw 416 rfl)) (notFace_of_selects (args := #[]) (mvT hZ (own_k hw 418 rfl))) (mvT hZ (own_k hw 418 rfl)) (mvT hZ (own_k hw 417 rfl)) (by decide) (backOf (W := 0) (own_bks l Z a0 hw [] pl pb pk np nw nr us h1161 n0 Z1161 F1168 F1169 F1170 F1172 F1171 hq0 hq1 hq2 hq3 hq4 hq5) hZ (own_k hw 419 rfl) (own_k hw 6 rfl) (by decide) (by decide)) qa1799 qc1799 (g := (mkF m 141 #[oR a, oR pl, oI ft, oJ k, .unset, .unset, .unset, .unset, .unset, .unset] [(.ref pl)])) rfl hml.symm (Steps.refl _) (argsL := []) (rest := []) (lenOf own_pd18 rfl) rfl (own_w0 rfl rfl) (hb hby d5_141) (fun _ _ => ⟨rfl, e1181, (by show _ + 40 ≤ (230 : Nat); (try dsimp only [Pt.cells, Pt.slots]); omega), (by show _ + 200 ≤ (7600 : Nat); (try dsimp only [Pt.cells, Pt.slots]); omega)⟩)
     dsimp only [Pt.U, Pt.locs, Pt.cells, Pt.slots] at X1798 l1798 y1798 z1798 st1798 hQ1798
     subst l1798 y1798 z1798
     obtain ⟨rr_1798, kr_1798, rs_1798, rfl, N1798, K1798_, P1800, P1801, P1802, P1803⟩ := hQ1798
     have N1804 := Fr.app N1161 N1798
     have Z1805 := Nat.le_trans Z1161 K1798_.1
     have K1805 := (Keep.trans K1161 K1798_ all0)
     have K2_1805 := (Keep.trans K2_1184 K1798_ all0)
     have ge1806 : n0 ≤ rr_1798 := Nat.le_trans Z1161 P1803
     refine own_tr st1798 ?_
     refine own_st (g' := (mkF m 157 #[oR a, oR pl, oI ft, oJ k, .unset, .unset, .unset, .unset, .unset, .unset] [(.ref rr_1798)])) (fun _ kt => XS.goto X1798.here hx rfl (pc0 := 144) (pc' := 157) rfl (hb hby d5_144) (by decide) (by decide) kt) ?_
     have Q1807 : own_B Z T1798.heap h1141.size h1161.size nw bs := (own_B_keep Q1183 K2_1805 all0)
     have F1808 := (Old.keep O1161 K1798_ all0)
     have F1809 := (Exa.keep F1162 K1798_)
     have F1810 := (Fld.keep F1163 K1798_ nin0)
     have F1811 := (Fld.keep F1164 K1798_ nin0)
     have F1812 := (Fld.keep F1165 K1798_ nin0)
     have F1813 := (Fld.keep F1166 K1798_ nin0)
     have F1814 := (Fld.keep F1167 K1798_ nin0)
     have F1815 := (Exa.keep F1168 K1798_)
     have F1816 := (Fld.keep F1169 K1798_ nin0)
     have F1817 := (Fld.keep F1170 K1798_ nin0)
     have F1818 := (Fld.keep F1171 K1798_ nin0)
     have F1819 := (Arv.keep F1172 K1798_ nin0)
     have F1820 := (Arv.keep F1173 K1798_ nin0)
     have F1821 := (Arv.keep F1174 K1798_ nin0)
     have F1822 := (Exa.keep F1175 K1798_)
     have F1823 := (Fld.keep F1176 K1798_ nin0)
     have F1824 := (Arv.keep F1177 K1798_ nin0)
     have ne1825 : b1054 ≠ rr_1798 := (Nat.ne_of_lt (Nat.lt_of_lt_of_le F1173.lt P1803))
     have ne1826 : b1072 ≠ rr_1798 := (Nat.ne_of_lt (Nat.lt_of_lt_of_le F1174.lt P1803))
     have ne1827 : b_1104 ≠ rr_1798 := (Nat.ne_of_lt (Nat.lt_of_lt_of_le F1177.lt P1803))
     have ne1828 : pb ≠ rr_1798 := (Nat.ne_of_lt (Nat.lt_of_lt_of_le F1172.lt P1803))
     exact J1185 _ _ _ ⟨rr_1798, kr_1798, rs_1798⟩ ⟨N1804, Z1805, K1805, F1808, K2_1805, F1809, F1810, F1811, F1812, F1813, F1814, F1815, F1816, F1817, F1818, F1819, F1820, F1821, F1822, F1823, F1824, P1800, Q1807, P1801, ne1825, ne1826, ne1827, ne1828, ⟨P1802, P1803, K2_1805.1⟩⟩ (X1798.mono (by first | decide | exact Nat.le_add_right_of_le (by decide) | ((try dsimp only [Pt.cells, Pt.slots]); omega)) (by first | decide | exact Nat.le_add_right_of_le (by decide) | ((try dsimp only [Pt.cells, Pt.slots]); omega))) rfl
  ·
   have hk1 : k ≤ nw := Nat.le_of_not_lt fun g => hc1182 ((own_ige (by omega) (by omega)).mpr g)
   refine own_st (g' := (mkF m 101 #[oR a, oR pl, oI ft, oJ k, .unset, .unset, .unset, .unset, .unset, .unset] [(.ref a)])) (fun _ kt => XS.icmpNo X1181.here hx rfl (hb hby d5_97) rfl (XT.ii_gt_f hc1182) (XS.aloadN X1181.here hx rfl (hb hby d5_100) rfl rfl kt)) ?_
   obtain ⟨T1829, X1829, e1829, st1829⟩ := getF X1181 hx hZ hown (host := "") (Or.inl (own_k hw 76 rfl)) Via.refl e1181 F1164 (g := (mkF m 101 #[oR a, oR pl, oI ft, oJ k, .unset, .unset, .unset, .unset, .unset, .unset] [(.ref a)])) rfl rfl (hb hby d5_101)
   refine own_st st1829 ?_
   refine own_st (g' := (mkF m 107 #[oR a, oR pl, oI ft, oJ k, .unset, .unset, .unset, .unset, .unset, .unset] [(.int ((Int32.ofNat k) - (1 : Int32))), (.ref b1072)])) (fun _ kt => XS.iloadN X1829.here hx rfl (hb hby d5_104) rfl (XS.iconst X1829.here hx rfl (hb hby d5_105) (XS.isub X1829.here hx rfl (hb hby d5_106) rfl kt))) ?_
   rw [own_prd (n := k) (by omega) (by omega)]
   obtain ⟨T1830, h1830, X1830, e1830, E1830, A1830, D1830, -, st1830⟩ := newO X1829 hx hZ hown (own_k hw 74 rfl) (own_k hw 229 rfl) (own_k hw 230 rfl) e1829 (g := (mkF m 107 #[oR a, oR pl, oI ft, oJ k, .unset, .unset, .unset, .unset, .unset, .unset] [vJ (k - 1), (.ref b1072)])) rfl (hb hby d5_107) (by show _ ≤ (230 : Nat); (try dsimp only [Pt.cells, Pt.slots]); omega) (by show _ ≤ (7600 : Nat); (try dsimp only [Pt.cells, Pt.slots]); omega)
   obtain ⟨b1830, g1830⟩ : ∃ z, z = h1161.size := ⟨_, rfl⟩
   rw [← g1830] at A1830 D1830 st1830
   have Z1831 := Nat.le_trans Z1161 E1830.1
   have K1831 := (Keep.ext K1161 E1830)
   have K2_1831 := (Keep.ext K2_1180 E1830)
   have ge_b1830 : n0 ≤ b1830 := Nat.le_trans Z1161 (Nat.le_of_eq g1830.symm)
   have F1832 : Fld Z h1830 b1830 zC0 "wordsInUse" "I" (.int 0) := D1830 (Or.inl (own_k hw 236 rfl)) (ty := .int) (by decide)
   have F1833 : Fld Z h1830 b1830 zC0 "sizeIsSticky" "Z" (.int 0) := D1830 (Or.inl (own_k hw 238 rfl)) (ty := .boolean) (by decide)
   have F1834 : Fld Z h1830 b1830 zC0 "words" "[J" .null := D1830 (Or.inl (own_k hw 248 rfl)) (ty := (.array .long)) (by decide)
   refine own_st st1830 ?_
   refine own_st (g' := (mkF m 111 #[oR a, oR pl, oI ft, oJ k, .unset, .unset, .unset, .unset, .unset, .unset] [(.ref b1830), (.ref b1830), vJ (k - 1), (.ref b1072)])) (fun _ kt => XS.dup X1830.here hx rfl (hb hby d5_110) rfl rfl kt) ?_
   obtain ⟨_, _, ⟨T1835, L1835, k1835, n1835⟩, -, X1835, ⟨Lc1835, hQ1835, l1835, y1835, z1835⟩, st1835⟩ := X1830.specialBack hx (y := yN16) rfl hown (mvT hZ (own_k hw 231 rfl)) (mvT hZ (own_k hw 232 rfl)) (mvT hZ (own_k hw 233 rfl)) (by decide) (backOf (W := 3) (own_bi l Z a0 hw [] b1830 h1830 n0 Z1831 ge_b1830 A1830 F1832 F1834 F1833) hZ (own_k hw 233 rfl) (own_k hw 230 rfl) (by decide) (by decide)) (g := (mkF m 111 #[oR a, oR pl, oI ft, oJ k, .unset, .unset, .unset, .unset, .unset, .unset] [(.ref b1830), (.ref b1830), vJ (k - 1), (.ref b1072)])) rfl hml.symm (Steps.refl _) (a := b1830) (argsL := []) (rest := [(.ref b1830), vJ (k - 1), (.ref b1072)]) (lenOf own_pd1 rfl) rfl (own_w0 rfl rfl) (hb hby d5_111) (fun _ _ => ⟨rfl, e1830, (by show _ + 1 ≤ (230 : Nat); (try dsimp only [Pt.cells, Pt.slots]); omega), (by show _ + 1 ≤ (7600 : Nat); (try dsimp only [Pt.cells, Pt.slots]); omega)⟩)
   dsimp only [Pt.U, Pt.locs, Pt.cells, Pt.slots] at X1835 l1835 y1835 z1835 st1835 hQ1835
   subst l1835 y1835 z1835
   obtain ⟨t_1835, kt_1835, rfl, N1835, K1835_, P1836, P1837, P1838, P1839, P1840, P1841⟩ := hQ1835
   have N1842 := Fr.app N1161 N1835
   have Z1843 := Nat.le_trans Z1831 K1835_.1
   have K1843 := (Keep.trans K1831 K1835_ (allS (Or.inr (Nat.le_trans K1161.1 (Nat.le_of_eq g1830.symm))) all0))
   have K2_1843 := (Keep.trans K2_1831 K1835_ (allS (Or.inr (Nat.le_trans K2_1180.1 (Nat.le_of_eq g1830.symm))) all0))
   have ge1844 : n0 ≤ t_1835 := Nat.le_trans Z1831 P1841
   refine own_tr st1835 ?_
   have ne1845 : b1072 ≠ b1085 := (Nat.ne_of_lt (Nat.lt_of_lt_of_le (Nat.lt_of_lt_of_le F1074.lt (Nat.le_of_eq (Wr.size W1077).symm)) (Nat.le_of_eq g1085.symm)))
   have ne1846 : b1072 ≠ b1830 := (Nat.ne_of_lt (Nat.lt_of_lt_of_le F1174.lt (Nat.le_of_eq g1830.symm)))
   have F1847 := (Arv.keep (F1174.ext E1830) K1835_ (ninS ne1846 nin0))
   obtain ⟨cs1849, As1849, qs1849, -⟩ := id F1847
   obtain ⟨T1848, h1848, X1848, e1848, W1848, V1848, st1848⟩ := own_ast X1835 hx hZ rfl F1847 rfl (own_idx (by omega) (by omega)) (i := (k - 1)) (own_tn (by omega)) (by omega) rfl (Sto.ofV As1849 qs1849 O1072 (Ins.of_exa P1836 (own_k hw 249 rfl))) (g := (mkF m 114 #[oR a, oR pl, oI ft, oJ k, .unset, .unset, .unset, .unset, .unset, .unset] [(.ref b1830), vJ (k - 1), (.ref b1072)])) rfl rfl (hb hby d5_114)
   have N1848 := Fr.snoc X1848 N1842 ge_b1072
   have Z1850 := Nat.le_trans Z1843 (Nat.le_of_eq (Wr.size W1848).symm)
   have K1850 := (Keep.wr K1843 W1848 (Or.inr (Nat.le_trans K1065.1 (Nat.le_of_eq g1072.symm))))
   have K2_1850 := (Keep.wr K2_1843 W1848 (Or.inl (List.mem_of_getElem? (i := 0) rfl)))
   have F1851 : Arv Z h1848 b1072 k1072 (.object zC0) (Int32.ofNat nw) (bs.set (k - 1) (.ref b1830)) .null := V1848
   refine own_st st1848 ?_
   refine own_st (g' := (mkF m 116 #[oR a, oR pl, oI ft, oJ k, .unset, .unset, .unset, .unset, .unset, .unset] [(.ref a)])) (fun _ kt => XS.aloadN X1848.here hx rfl (hb hby d5_115) rfl rfl kt) ?_
   have F1852 := (Fld.keep F1165 K2_1850 (ninS ne1146 (ninS ne1153 nin0)))
   obtain ⟨T1853, X1853, e1853, st1853⟩ := getF X1848 hx hZ hown (host := "") (Or.inl (own_k hw 78 rfl)) Via.refl e1848 F1852 (g := (mkF m 116 #[oR a, oR pl, oI ft, oJ k, .unset, .unset, .unset, .unset, .unset, .unset] [(.ref a)])) rfl rfl (hb hby d5_116)
   refine own_st st1853 ?_
   refine own_st (g' := (mkF m 122 #[oR a, oR pl, oI ft, oJ k, .unset, .unset, .unset, .unset, .unset, .unset] [(.int ((Int32.ofNat k) - (1 : Int32))), (.ref b1085)])) (fun _ kt => XS.iloadN X1853.here hx rfl (hb hby d5_119) rfl (XS.iconst X1853.here hx rfl (hb hby d5_120) (XS.isub X1853.here hx rfl (hb hby d5_121) rfl kt))) ?_
   rw [own_prd (n := k) (by omega) (by omega)]
   obtain ⟨T1854, h1854, X1854, e1854, E1854, A1854, D1854, -, st1854⟩ := newO X1853 hx hZ hown (own_k hw 74 rfl) (own_k hw 229 rfl) (own_k hw 230 rfl) e1853 (g := (mkF m 122 #[oR a, oR pl, oI ft, oJ k, .unset, .unset, .unset, .unset, .unset, .unset] [vJ (k - 1), (.ref b1085)])) rfl (hb hby d5_122) (by show _ ≤ (230 : Nat); (try dsimp only [Pt.cells, Pt.slots]); omega) (by show _ ≤ (7600 : Nat); (try dsimp only [Pt.cells, Pt.slots]); omega)
   obtain ⟨b1854, g1854⟩ : ∃ z, z = h1848.size := ⟨_, rfl⟩
   rw [← g1854] at A1854 D1854 st1854
   have Z1855 := Nat.le_trans Z1850 E1854.1
   have K1855 := (Keep.ext K1850 E1854)
   have K2_1855 := (Keep.ext K2_1850 E1854)
   have ge_b1854 : n0 ≤ b1854 := Nat.le_trans Z1850 (Nat.le_of_eq g1854.symm)
   have F1856 : Fld Z h1854 b1854 zC0 "wordsInUse" "I" (.int 0) := D1854 (Or.inl (own_k hw 236 rfl)) (ty := .int) (by decide)
   have F1857 : Fld Z h1854 b1854 zC0 "sizeIsSticky" "Z" (.int 0) := D1854 (Or.inl (own_k hw 238 rfl)) (ty := .boolean) (by decide)
   have F1858 : Fld Z h1854 b1854 zC0 "words" "[J" .null := D1854 (Or.inl (own_k hw 248 rfl)) (ty := (.array .long)) (by decide)
   refine own_st st1854 ?_
   refine own_st (g' := (mkF m 126 #[oR a, oR pl, oI ft, oJ k, .unset, .unset, .unset, .unset, .unset, .unset] [(.ref b1854), (.ref b1854), vJ (k - 1), (.ref b1085)])) (fun _ kt => XS.dup X1854.here hx rfl (hb hby d5_125) rfl rfl kt) ?_
   obtain ⟨_, _, ⟨T1859, L1859, k1859, n1859⟩, -, X1859, ⟨Lc1859, hQ1859, l1859, y1859, z1859⟩, st1859⟩ := X1854.specialBack hx (y := yN16) rfl hown (mvT hZ (own_k hw 231 rfl)) (mvT hZ (own_k hw 232 rfl)) (mvT hZ (own_k hw 233 rfl)) (by decide) (backOf (W := 3) (own_bi l Z a0 hw [] b1854 h1854 n0 Z1855 ge_b1854 A1854 F1856 F1858 F1857) hZ (own_k hw 233 rfl) (own_k hw 230 rfl) (by decide) (by decide)) (g := (mkF m 126 #[oR a, oR pl, oI ft, oJ k, .unset, .unset, .unset, .unset, .unset, .unset] [(.ref b1854), (.ref b1854), vJ (k - 1), (.ref b1085)])) rfl hml.symm (Steps.refl _) (a := b1854) (argsL := []) (rest := [(.ref b1854), vJ (k - 1), (.ref b1085)]) (lenOf own_pd1 rfl) rfl (own_w0 rfl rfl) (hb hby d5_126) (fun _ _ => ⟨rfl, e1854, (by show _ + 1 ≤ (230 : Nat); (try dsimp only [Pt.cells, Pt.slots]); omega), (by show _ + 1 ≤ (7600 : Nat); (try dsimp only [Pt.cells, Pt.slots]); omega)⟩)
   dsimp only [Pt.U, Pt.locs, Pt.cells, Pt.slots] at X1859 l1859 y1859 z1859 st1859 hQ1859
   subst l1859 y1859 z1859
   obtain ⟨t_1859, kt_1859, rfl, N1859, K1859_, P1860, P1861, P1862, P1863, P1864, P1865⟩ := hQ1859
   have N1866 := Fr.app N1848 N1859
   have Z1867 := Nat.le_trans Z1855 K1859_.1
   have K1867 := (Keep.trans K1855 K1859_ (allS (Or.inr (Nat.le_trans K1850.1 (Nat.le_of_eq g1854.symm))) all0))
   have K2_1867 := (Keep.trans K2_1855 K1859_ (allS (Or.inr (Nat.le_trans K2_1850.1 (Nat.le_of_eq g1854.symm))) all0))
   have ge1868 : n0 ≤ t_1859 := Nat.le_trans Z1855 P1865
   refine own_tr st1859 ?_
   have ne1869 : b1085 ≠ b1830 := (Nat.ne_of_lt (Nat.lt_of_lt_of_le F1178.lt (Nat.le_of_eq g1830.symm)))
   have ne1870 : b1085 ≠ b1854 := (Nat.ne_of_lt (Nat.lt_of_lt_of_le (Nat.lt_of_lt_of_le (Nat.lt_of_lt_of_le (Nat.lt_of_lt_of_le F1178.lt E1830.1) K1835_.1) (Nat.le_of_eq (Wr.size W1848).symm)) (Nat.le_of_eq g1854.symm)))
   have F1871 := (Arv.keep ((Arv.other (Arv.keep (F1178.ext E1830) K1835_ (ninS ne1869 nin0)) W1848 (Ne.symm ne1845)).ext E1854) K1859_ (ninS ne1870 nin0))
   obtain ⟨cs1873, As1873, qs1873, -⟩ := id F1871
   obtain ⟨T1872, h1872, X1872, e1872, W1872, V1872, st1872⟩ := own_ast X1859 hx hZ rfl F1871 rfl (own_idx (by omega) (by omega)) (i := (k - 1)) (own_tn (by omega)) (by omega) rfl (Sto.ofV As1873 qs1873 O1085 (Ins.of_exa P1860 (own_k hw 249 rfl))) (g := (mkF m 129 #[oR a, oR pl, oI ft, oJ k, .unset, .unset, .unset, .unset, .unset, .unset] [(.ref b1854), vJ (k - 1), (.ref b1085)])) rfl rfl (hb hby d5_129)
   have N1872 := Fr.snoc X1872 N1866 ge_b1085
   have Z1874 := Nat.le_trans Z1867 (Nat.le_of_eq (Wr.size W1872).symm)
   have K1874 := (Keep.wr K1867 W1872 (Or.inr (Nat.le_trans K1078.1 (Nat.le_of_eq g1085.symm))))
   have K2_1874 := (Keep.wr K2_1867 W1872 (Or.inl (List.mem_of_getElem? (i := 1) rfl)))
   have F1875 : Arv Z h1872 b1085 k1085 (.object zC0) (Int32.ofNat nw) (ps.set (k - 1) (.ref b1854)) .null := V1872
   refine own_st st1872 ?_
   refine own_st (g' := (mkF m 133 #[oR a, oR pl, oI ft, oI ((Int32.ofNat k) + (1 : Int32)), .unset, .unset, .unset, .unset, .unset, .unset] [])) (fun _ kt => XS.iinc X1872.here hx rfl (hb hby d5_130) rfl (l' := #[oR a, oR pl, oI ft, oI ((Int32.ofNat k) + (1 : Int32)), .unset, .unset, .unset, .unset, .unset, .unset]) rfl kt) ?_
   rw [own_succ (n := k) (by omega)]
   refine own_st (g' := (mkF m 91 #[oR a, oR pl, oI ft, oJ (k + 1), .unset, .unset, .unset, .unset, .unset, .unset] [])) (fun _ kt => XS.goto X1872.here hx rfl (pc0 := 133) (pc' := 91) rfl (hb hby d5_133) (by decide) (by decide) kt) ?_
   have F1876 := (Exa.wr W1872 (Exa.keep (Exa.ext E1854 (Exa.wr W1848 P1836)) K1859_))
   have ne1877 : b1830 ≠ b1854 := (Nat.ne_of_lt (Nat.lt_of_lt_of_le (Nat.lt_of_lt_of_le P1836.lt (Nat.le_of_eq (Wr.size W1848).symm)) (Nat.le_of_eq g1854.symm)))
   have F1878 := (Fld.other W1872 (Fld.keep (Fld.ext E1854 (Fld.other W1848 P1837 (Or.inl (Ne.symm ne1846)))) K1859_ (ninS ne1877 nin0)) (Or.inl (Ne.symm ne1869)))
   have F1879 := (Fld.other W1872 (Fld.keep (Fld.ext E1854 (Fld.other W1848 P1838 (Or.inl (Ne.symm ne1846)))) K1859_ (ninS ne1877 nin0)) (Or.inl (Ne.symm ne1869)))
   have F1880 := (Fld.other W1872 (Fld.keep (Fld.ext E1854 (Fld.other W1848 P1839 (Or.inl (Ne.symm ne1846)))) K1859_ (ninS ne1877 nin0)) (Or.inl (Ne.symm ne1869)))
   have ne1881 : b1072 ≠ t_1835 := (Nat.ne_of_lt (Nat.lt_of_lt_of_le (Nat.lt_of_lt_of_le F1174.lt E1830.1) P1841))
   have ne1882 : t_1835 ≠ b1854 := (Nat.ne_of_lt (Nat.lt_of_lt_of_le (Nat.lt_of_lt_of_le P1840.lt (Nat.le_of_eq (Wr.size W1848).symm)) (Nat.le_of_eq g1854.symm)))
   have ne1883 : b1085 ≠ t_1835 := (Nat.ne_of_lt (Nat.lt_of_lt_of_le (Nat.lt_of_lt_of_le F1178.lt E1830.1) P1841))
   have F1884 := (Arv.other (Arv.keep ((Arv.other P1840 W1848 (Ne.symm ne1881)).ext E1854) K1859_ (ninS ne1882 nin0)) W1872 (Ne.symm ne1883))
   have hbK := K2_1874.1
   have Q1885 : own_B Z h1872 h1141.size h1872.size (k + 1 - 1) (bs.set (k - 1) (.ref b1830)) := (by have e1 : k + 1 - 1 = k - 1 + 1 := (Nat.sub_add_cancel ho.2.2.1).symm; rw [e1]; exact own_B_add (ba := b1830) (bt := t_1835) (kt := kt_1835) (ub := 0) (xb := 0) F1179 K2_1874 (allS hspL (allS hpeL all0)) (by rw [ho.1]; exact Nat.lt_of_lt_of_le (Nat.sub_lt ho.2.2.1 Nat.one_pos) hk1) (Nat.le_trans ho.2.2.2.2.1 (Nat.le_trans K2_1180.1 (Nat.le_of_eq g1830.symm))) (Nat.le_trans ho.2.2.2.2.1 (Nat.le_trans K2_1831.1 P1841)) (Or.inl rfl) ⟨F1876, F1878, F1879, F1880, F1884⟩)
   have F1886 := (Old.keep O1161 K2_1874 (allS ge_b1072 (allS ge_b1085 all0)))
   have F1887 := (Exa.keep F1162 K2_1874)
   have F1888 := (Fld.keep F1163 K2_1874 (ninS ne1146 (ninS ne1153 nin0)))
   have F1889 := (Fld.keep F1164 K2_1874 (ninS ne1146 (ninS ne1153 nin0)))
   have ne1890 : a ≠ b1854 := (Nat.ne_of_lt (Nat.lt_of_lt_of_le F1852.lt (Nat.le_of_eq g1854.symm)))
   have F1891 := (Fld.other W1872 (Fld.keep (Fld.ext E1854 F1852) K1859_ (ninS ne1890 nin0)) (Or.inl ne1153))
   have F1892 := (Fld.keep F1166 K2_1874 (ninS ne1146 (ninS ne1153 nin0)))
   have F1893 := (Fld.keep F1167 K2_1874 (ninS ne1146 (ninS ne1153 nin0)))
   have F1894 := (Exa.keep F1168 K2_1874)
   have ne1895 : pl ≠ b1085 := (Nat.ne_of_lt (Nat.lt_of_lt_of_le F1080.lt (Nat.le_of_eq g1085.symm)))
   have ne1896 : pl ≠ b1072 := (Nat.ne_of_lt (Nat.lt_of_lt_of_le F1067.lt (Nat.le_of_eq g1072.symm)))
   have F1897 := (Fld.keep F1169 K2_1874 (ninS ne1896 (ninS ne1895 nin0)))
   have F1898 := (Fld.keep F1170 K2_1874 (ninS ne1896 (ninS ne1895 nin0)))
   have F1899 := (Fld.keep F1171 K2_1874 (ninS ne1896 (ninS ne1895 nin0)))
   have ne1900 : pb ≠ b1085 := (Nat.ne_of_lt (Nat.lt_of_lt_of_le (Nat.lt_of_lt_of_le (Nat.lt_of_lt_of_le (Nat.lt_of_lt_of_le (Nat.lt_of_lt_of_le (Nat.lt_of_lt_of_le F1050.lt E1054.1) (Nat.le_of_eq (Wr.size W1059).symm)) (Nat.le_of_eq (Wr.size W1064).symm)) E1072.1) (Nat.le_of_eq (Wr.size W1077).symm)) (Nat.le_of_eq g1085.symm)))
   have ne1901 : pb ≠ b1072 := (Nat.ne_of_lt (Nat.lt_of_lt_of_le (Nat.lt_of_lt_of_le (Nat.lt_of_lt_of_le (Nat.lt_of_lt_of_le F1050.lt E1054.1) (Nat.le_of_eq (Wr.size W1059).symm)) (Nat.le_of_eq (Wr.size W1064).symm)) (Nat.le_of_eq g1072.symm)))
   have F1902 := (Arv.keep F1172 K2_1874 (ninS ne1901 (ninS ne1900 nin0)))
   have ne1903 : b1054 ≠ b1085 := (Nat.ne_of_lt (Nat.lt_of_lt_of_le (Nat.lt_of_lt_of_le (Nat.lt_of_lt_of_le (Nat.lt_of_lt_of_le (Nat.lt_of_lt_of_le F1056.lt (Nat.le_of_eq (Wr.size W1059).symm)) (Nat.le_of_eq (Wr.size W1064).symm)) E1072.1) (Nat.le_of_eq (Wr.size W1077).symm)) (Nat.le_of_eq g1085.symm)))
   have ne1904 : b1054 ≠ b1072 := (Nat.ne_of_lt (Nat.lt_of_lt_of_le (Nat.lt_of_lt_of_le (Nat.lt_of_lt_of_le F1056.lt (Nat.le_of_eq (Wr.size W1059).symm)) (Nat.le_of_eq (Wr.size W1064).symm)) (Nat.le_of_eq g1072.symm)))
   have F1905 := (Arv.keep F1173 K2_1874 (ninS ne1904 (ninS ne1903 nin0)))
   have ne1906 : b1072 ≠ b1854 := (Nat.ne_of_lt (Nat.lt_of_lt_of_le F1851.lt (Nat.le_of_eq g1854.symm)))
   have F1907 := (Arv.other (Arv.keep (F1851.ext E1854) K1859_ (ninS ne1906 nin0)) W1872 ne1845)
   have F1908 := (Exa.keep F1175 K2_1874)
   have F1909 := (Fld.keep F1176 K2_1874 (ninS (Ne.symm ne1147) (ninS (Ne.symm ne1154) nin0)))
   have ne1910 : b1085 ≠ b_1104 := (Nat.ne_of_lt (Nat.lt_of_lt_of_le (Nat.lt_of_lt_of_le (Nat.lt_of_lt_of_le F1087.lt (Nat.le_of_eq (Wr.size W1090).symm)) E1093.1) P1109))
   have ne1911 : b1072 ≠ b_1104 := (Nat.ne_of_lt (Nat.lt_of_lt_of_le (Nat.lt_of_lt_of_le (Nat.lt_of_lt_of_le (Nat.lt_of_lt_of_le (Nat.lt_of_lt_of_le F1074.lt (Nat.le_of_eq (Wr.size W1077).symm)) E1085.1) (Nat.le_of_eq (Wr.size W1090).symm)) E1093.1) P1109))
   have F1912 := (Arv.keep F1177 K2_1874 (ninS (Ne.symm ne1911) (ninS (Ne.symm ne1910) nin0)))
   exact ih1161 (nw + 1 - (k + 1)) (by rw [← ho.2.2.2.2.2]; exact Nat.sub_lt_sub_left (Nat.lt_succ_of_le hk1) (Nat.lt_succ_self k)) _ _ _ ⟨(k + 1), (bs.set (k - 1) (.ref b1830)), (ps.set (k - 1) (.ref b1854))⟩ ⟨N1872, Z1874, K1874, F1886, F1887, F1888, F1889, F1891, F1892, F1893, F1894, F1897, F1898, F1899, F1902, F1905, F1907, F1908, F1909, F1912, F1875, Q1885, ⟨by rw [List.length_set]; exact ho.1, by rw [List.length_set]; exact ho.2.1, Nat.le_add_left _ _, Nat.succ_le_succ hk1, Nat.le_trans ho.2.2.2.2.1 hbK, rfl⟩⟩ (X1872.mono (by first | exact own_mc1 ho.2.2.2.2.2 ho.2.2.1 hk1 | ((try dsimp only [Pt.cells, Pt.slots]); omega)) (by first | exact own_mc2 ho.2.2.2.2.2 ho.2.2.1 hk1 | ((try dsimp only [Pt.cells, Pt.slots]); omega))) e1872
 ·
  have Q1913 : own_B Z h1141 h1141.size h1141.size (1 - 1) (List.replicate nw .null) := own_B_nil
  have F1914 := (Old.wr (Old.keep F1133 K1134_ (allS ge_b1119 all0)) W1141 pr5)
  have F1915 := (Exa.wr W1141 F1140)
  have F1916 := (Fld.other W1141 (Fld.keep F1123 K1134_ (ninS ne1138 nin0)) (Or.inr (slot_ne (Or.inr (own_k hw 66 rfl)) (Or.inr (own_k hw 228 rfl)) (by decide) (t := (.array (.object zC5))) (t' := (.object zC14)) (by decide) (by decide))))
  have F1917 := (Fld.other W1141 (Fld.keep (Fld.ext E1119 (Fld.other W1116 (Fld.keep (Fld.ext E1093 (Fld.other W1090 (Fld.ext E1085 F1079) (Or.inr (slot_ne (Or.inr (own_k hw 77 rfl)) (Or.inr (own_k hw 79 rfl)) (by decide) (t := (.array (.object zC0))) (t' := (.array (.object zC0))) (by decide) (by decide))))) K1104_ (ninS ne1113 nin0)) (Or.inr (slot_ne (Or.inr (own_k hw 77 rfl)) (Or.inr (own_k hw 166 rfl)) (by decide) (t := (.array (.object zC0))) (t' := (.object zC6)) (by decide) (by decide))))) K1134_ (ninS ne1138 nin0)) (Or.inr (slot_ne (Or.inr (own_k hw 77 rfl)) (Or.inr (own_k hw 228 rfl)) (by decide) (t := (.array (.object zC0))) (t' := (.object zC14)) (by decide) (by decide))))
  have F1918 := (Fld.other W1141 (Fld.keep (Fld.ext E1119 (Fld.other W1116 (Fld.keep (Fld.ext E1093 F1092) K1104_ (ninS ne1113 nin0)) (Or.inr (slot_ne (Or.inr (own_k hw 79 rfl)) (Or.inr (own_k hw 166 rfl)) (by decide) (t := (.array (.object zC0))) (t' := (.object zC6)) (by decide) (by decide))))) K1134_ (ninS ne1138 nin0)) (Or.inr (slot_ne (Or.inr (own_k hw 79 rfl)) (Or.inr (own_k hw 228 rfl)) (by decide) (t := (.array (.object zC0))) (t' := (.object zC14)) (by decide) (by decide))))
  have F1919 := (Fld.other W1141 (Fld.keep (Fld.ext E1119 F1118) K1134_ (ninS ne1138 nin0)) (Or.inr (slot_ne (Or.inr (own_k hw 166 rfl)) (Or.inr (own_k hw 228 rfl)) (by decide) (t := (.object zC6)) (t' := (.object zC14)) (by decide) (by decide))))
  have F1920 := (Fld.other W1141 (Fld.keep (Fld.ext E1119 (Fld.other W1116 (Fld.keep (Fld.ext E1093 (Fld.other W1090 (Fld.ext E1085 (Fld.other W1077 (Fld.ext E1072 (Fld.other W1064 (Fld.other W1059 (Fld.ext E1054 (Fld.other W1042 (Fld.keep (Fld.ext E1026 pr14) K1032_ (ninS ne1039 nin0)) (Or.inr (slot_ne (Or.inl (own_k hw 321 rfl)) (Or.inr (own_k hw 57 rfl)) (by decide) (t := .int) (t' := (.object zC11)) (by decide) (by decide))))) (Or.inr (slot_ne (Or.inl (own_k hw 321 rfl)) (Or.inr (own_k hw 66 rfl)) (by decide) (t := .int) (t' := (.array (.object zC5))) (by decide) (by decide)))) (Or.inr (slot_ne (Or.inl (own_k hw 321 rfl)) (Or.inr (own_k hw 68 rfl)) (by decide) (t := .int) (t' := (.object zC2)) (by decide) (by decide))))) (Or.inr (slot_ne (Or.inl (own_k hw 321 rfl)) (Or.inr (own_k hw 77 rfl)) (by decide) (t := .int) (t' := (.array (.object zC0))) (by decide) (by decide))))) (Or.inr (slot_ne (Or.inl (own_k hw 321 rfl)) (Or.inr (own_k hw 79 rfl)) (by decide) (t := .int) (t' := (.array (.object zC0))) (by decide) (by decide))))) K1104_ (ninS ne1113 nin0)) (Or.inr (slot_ne (Or.inl (own_k hw 321 rfl)) (Or.inr (own_k hw 166 rfl)) (by decide) (t := .int) (t' := (.object zC6)) (by decide) (by decide))))) K1134_ (ninS ne1138 nin0)) (Or.inr (slot_ne (Or.inl (own_k hw 321 rfl)) (Or.inr (own_k hw 228 rfl)) (by decide) (t := .int) (t' := (.object zC14)) (by decide) (by decide))))
  have F1921 := (Exa.wr W1141 (Exa.keep F1127 K1134_))
  have ne1922 : pl ≠ b1119 := (Nat.ne_of_lt (Nat.lt_of_lt_of_le (Nat.lt_of_lt_of_le (Nat.lt_of_lt_of_le (Nat.lt_of_lt_of_le (Nat.lt_of_lt_of_le (Nat.lt_of_lt_of_le F1080.lt E1085.1) (Nat.le_of_eq (Wr.size W1090).symm)) E1093.1) K1104_.1) (Nat.le_of_eq (Wr.size W1116).symm)) (Nat.le_of_eq g1119.symm)))
  have F1923 := (Fld.other W1141 (Fld.keep F1129 K1134_ (ninS ne1922 nin0)) (Or.inl ne1046))
  have F1924 := (Fld.other W1141 (Fld.keep (Fld.ext E1119 (Fld.other W1116 (Fld.keep (Fld.ext E1093 (Fld.other W1090 (Fld.ext E1085 (Fld.other W1077 (Fld.ext E1072 (Fld.other W1064 (Fld.other W1059 (Fld.ext E1054 F1048) (Or.inl ne1046)) (Or.inl ne1046))) (Or.inl ne1046))) (Or.inl ne1046))) K1104_ (ninS ne1128 nin0)) (Or.inl ne1046))) K1134_ (ninS ne1922 nin0)) (Or.inl ne1046))
  have F1925 := (Fld.keep pr18 K1142 (ninS ne1046 nin0))
  have ne1926 : b1093 ≠ b1119 := (Nat.ne_of_lt (Nat.lt_of_lt_of_le (Nat.lt_of_lt_of_le P1105.lt (Nat.le_of_eq (Wr.size W1116).symm)) (Nat.le_of_eq g1119.symm)))
  have F1927 := (Fld.other W1141 (Fld.keep (Fld.ext E1119 (Fld.other W1116 P1106 (Or.inl (Ne.symm ne1113)))) K1134_ (ninS ne1926 nin0)) (Or.inl (Ne.symm ne1113)))
  exact J1161 nw _ _ _ ⟨1, (List.replicate nw .null), (List.replicate nw .null)⟩ ⟨N1141, Z1142, K1142, F1914, F1915, F1916, F1917, F1918, F1919, F1920, F1921, F1923, F1924, F1925, F1159, F1145, F1149, F1160, F1927, F1152, F1156, Q1913, ⟨List.length_replicate .., List.length_replicate .., Nat.le_refl _, Nat.le_add_left _ _, Nat.le_refl _, rfl⟩⟩ (X1141.mono (by first | decide | exact Nat.le_add_right_of_le (by decide) | ((try dsimp only [Pt.cells, Pt.slots]); omega)) (by first | decide | exact Nat.le_add_right_of_le (by decide) | ((try dsimp only [Pt.cells, Pt.slots]); omega))) e1141
abbrev c40 := jdk_49_method_1_code
theorem d40_0 : dk c40 0 (.aload_n 0) 1 := by decide +kernel
theorem d40_1 : dk c40 1 (.aload_n 1) 1 := by decide +kernel
theorem d40_2 : dk c40 2 (.putfield 1) 3 := by decide +kernel
theorem d40_5 : dk c40 5 (.aload_n 0) 1 := by decide +kernel
theorem d40_6 : dk c40 6 (.invokespecial 7) 3 := by decide +kernel
theorem d40_9 : dk c40 9 (.aload_n 0) 1 := by decide +kernel
theorem d40_10 : dk c40 10 (.iconst (-1)) 1 := by decide +kernel
theorem d40_11 : dk c40 11 (.putfield 13) 3 := by decide +kernel
theorem d40_14 : dk c40 14 (.aload_n 0) 1 := by decide +kernel
theorem d40_15 : dk c40 15 (.aload_n 0) 1 := by decide +kernel
theorem d40_16 : dk c40 16 (.getfield 1) 3 := by decide +kernel
theorem d40_19 : dk c40 19 (.getfield 17) 3 := by decide +kernel
theorem d40_22 : dk c40 22 (.putfield 22) 3 := by decide +kernel
theorem d40_25 : dk c40 25 (.return_) 1 := by decide +kernel
def own_itiQ (Z : State) (it : Addr) (li : Addr) (mc : Int32) (h0 : Heap) (n0 : Nat) (v : Option Value) (h : Heap) (L : List Loc) : Prop := v = none ∧ Fr n0 L ∧ Keep h0 h [it] ∧ (Exa Z h it zC8) ∧ (Fld Z h it zC8 "this$0" zC23 (.ref li)) ∧ (Fld Z h it zC8 "cursor" "I" (.int 0)) ∧ (Fld Z h it zC8 "lastRet" "I" (.int (-1 : Int32))) ∧ (Fld Z h it zC8 "expectedModCount" "I" (.int mc))
theorem own_pn25 : plainName "java/util/ArrayList$Itr" = true := by first | (simp [plainName, overriddenIn]; done) | decide +kernel
abbrev own_itiR : Room := { frames := 1, cells := 0, slots := 0, locals := 12 }
theorem own_iti (l : Launch) (Z : State) (a0 : Array Value) (hw : ∀ d ∈ tables_1, d.before a0 Z = true) (ws : List Jvm.Cond) (it : Addr) (li : Addr) (mc : Int32) (h0 : Heap) (n0 : Nat) (Z0 : n0 ≤ h0.size) (pr1 : n0 ≤ it) (pr2 : Exa Z h0 it zC8) (pr3 : Fld Z h0 it zC8 "this$0" zC23 .null) (pr4 : Fld Z h0 it zC8 "cursor" "I" (.int 0)) (pr5 : Fld Z h0 it zC8 "lastRet" "I" (.int 0)) (pr6 : Fld Z h0 it zC8 "expectedModCount" "I" (.int 0)) (pr7 : Fld Z h0 li zC10 "modCount" "I" (.int mc)) (pr8 : Exa Z h0 li zC1) :
    own_M l yN57 jdk_49_method_1_code 2 none ws own_itiR #[(.ref it), (.ref li)] Z h0 (own_itiQ Z it li mc h0 n0) := by
 refine own_go (plainFor_of_name own_pn25) (fun m => own_ef13 m it li ) ?_
 intro p e s m below meth c s₁ Bd hx hby hml hZ hh hown hnm X0 e0
 have N0 := Fr.nil n0
 have K0 : Keep h0 h0 [it] := Keep.refl h0 _
 refine own_st (g' := (mkF m 2 #[oR it, oR li] [(.ref li), (.ref it)])) (fun _ kt => XS.aloadN X0.here hx rfl (hb hby d40_0) rfl rfl (XS.aloadN X0.here hx rfl (hb hby d40_1) rfl rfl kt)) ?_
 obtain ⟨T1928, h1928, X1928, e1928, W1928, st1928⟩ := putF X0 hx hZ hown (host := "") (Or.inl (own_k hw 340 rfl)) Via.refl e0 pr3 pr2 (Or.inr ⟨(own_k hw 341 rfl), rfl, hnm⟩) (own_k hw 334 rfl) (ty := (.object zC1)) (by decide) rfl rfl (g := (mkF m 2 #[oR it, oR li] [(.ref li), (.ref it)])) rfl rfl (hb hby d40_2)
 have N1928 := Fr.snoc X1928 N0 pr1
 have Z1929 := Nat.le_trans Z0 (Nat.le_of_eq (Wr.size W1928).symm)
 have K1929 := (Keep.wr K0 W1928 (Or.inl (List.mem_of_getElem? (i := 0) rfl)))
 have F1930 : Fld Z h1928 it zC8 "this$0" zC23 (.ref li) := Fld.same W1928 pr3
 refine own_st st1928 ?_
 refine own_st (g' := (mkF m 6 #[oR it, oR li] [(.ref it)])) (fun _ kt => XS.aloadN X1928.here hx rfl (hb hby d40_5) rfl rfl kt) ?_
 obtain ⟨T1931, X1931, e1931, st1931⟩ := initO X1928 hx hZ hown (own_k hw 342 rfl) (own_k hw 11 rfl) (own_k hw 12 rfl) e1928 (g := (mkF m 6 #[oR it, oR li] [(.ref it)])) rfl hml.symm rfl (hb hby d40_6) (by decide) (W := 0) (own_w0 rfl rfl) (by decide)
 refine own_st st1931 ?_
 refine own_st (g' := (mkF m 11 #[oR it, oR li] [(.int (-1 : Int32)), (.ref it)])) (fun _ kt => XS.aloadN X1931.here hx rfl (hb hby d40_9) rfl rfl (XS.iconst X1931.here hx rfl (hb hby d40_10) kt)) ?_
 have F1932 := (Fld.other W1928 pr5 (Or.inr (slot_ne (Or.inl (own_k hw 344 rfl)) (Or.inr (own_k hw 341 rfl)) (by decide) (t := .int) (t' := (.object zC1)) (by decide) (by decide))))
 have F1933 := (Exa.wr W1928 pr2)
 obtain ⟨T1934, h1934, X1934, e1934, W1934, st1934⟩ := putF X1931 hx hZ hown (host := "") (Or.inl (own_k hw 343 rfl)) Via.refl e1931 F1932 F1933 (Or.inl (own_k hw 344 rfl)) (own_k hw 334 rfl) (ty := .int) (by decide) rfl rfl (g := (mkF m 11 #[oR it, oR li] [(.int (-1 : Int32)), (.ref it)])) rfl rfl (hb hby d40_11)
 have N1934 := Fr.snoc X1934 N1928 pr1
 have Z1935 := Nat.le_trans Z1929 (Nat.le_of_eq (Wr.size W1934).symm)
 have K1935 := (Keep.wr K1929 W1934 (Or.inl (List.mem_of_getElem? (i := 0) rfl)))
 have F1936 : Fld Z h1934 it zC8 "lastRet" "I" (.int (-1 : Int32)) := Fld.same W1934 F1932
 refine own_st st1934 ?_
 refine own_st (g' := (mkF m 16 #[oR it, oR li] [(.ref it), (.ref it)])) (fun _ kt => XS.aloadN X1934.here hx rfl (hb hby d40_14) rfl rfl (XS.aloadN X1934.here hx rfl (hb hby d40_15) rfl rfl kt)) ?_
 have F1937 := (Fld.other W1934 F1930 (Or.inr (slot_ne (Or.inr (own_k hw 341 rfl)) (Or.inl (own_k hw 344 rfl)) (by decide) (t := (.object zC1)) (t' := .int) (by decide) (by decide))))
 obtain ⟨T1938, X1938, e1938, st1938⟩ := getF X1934 hx hZ hown (host := "") (Or.inl (own_k hw 340 rfl)) Via.refl e1934 F1937 (g := (mkF m 16 #[oR it, oR li] [(.ref it), (.ref it)])) rfl rfl (hb hby d40_16)
 refine own_st st1938 ?_
 have ne1939 : li ≠ it := (ne_exa pr8 pr2 (by decide))
 have F1940 := (Fld.keep pr7 K1935 (ninS ne1939 nin0))
 obtain ⟨T1941, X1941, e1941, st1941⟩ := getF X1938 hx hZ hown (host := "") (Or.inl (own_k hw 345 rfl)) (Via.of (own_k hw 124 rfl)) e1938 F1940 (g := (mkF m 19 #[oR it, oR li] [(.ref li), (.ref it)])) rfl rfl (hb hby d40_19)
 refine own_st st1941 ?_
 have F1942 := (Fld.other W1934 (Fld.other W1928 pr6 (Or.inr (slot_ne (Or.inl (own_k hw 347 rfl)) (Or.inr (own_k hw 341 rfl)) (by decide) (t := .int) (t' := (.object zC1)) (by decide) (by decide)))) (Or.inr (slot_ne (Or.inl (own_k hw 347 rfl)) (Or.inl (own_k hw 344 rfl)) (by decide) (t := .int) (t' := .int) (by decide) (by decide))))
 have F1943 := (Exa.wr W1934 F1933)
 obtain ⟨T1944, h1944, X1944, e1944, W1944, st1944⟩ := putF X1941 hx hZ hown (host := "") (Or.inl (own_k hw 346 rfl)) Via.refl e1941 F1942 F1943 (Or.inl (own_k hw 347 rfl)) (own_k hw 334 rfl) (ty := .int) (by decide) rfl rfl (g := (mkF m 22 #[oR it, oR li] [(.int mc), (.ref it)])) rfl rfl (hb hby d40_22)
 have N1944 := Fr.snoc X1944 N1934 pr1
 have Z1945 := Nat.le_trans Z1935 (Nat.le_of_eq (Wr.size W1944).symm)
 have K1945 := (Keep.wr K1935 W1944 (Or.inl (List.mem_of_getElem? (i := 0) rfl)))
 have F1946 : Fld Z h1944 it zC8 "expectedModCount" "I" (.int mc) := Fld.same W1944 F1942
 refine own_st st1944 ?_
 obtain ⟨fs, hr, hrun, hended, hW, hsame⟩ := X1944.leave (v := none) (fun _ => rfl)
 refine own_end (X1944.returnOut hx Bd.returns (hb hby d40_25) hr) ⟨_, hrun, hended, _, _, rfl, ?_, ⟨_, rfl⟩, hW, hsame.mono (by decide) (by decide)⟩
 have F1947 := (Exa.wr W1944 F1943)
 have F1948 := (Fld.other W1944 F1937 (Or.inr (slot_ne (Or.inr (own_k hw 341 rfl)) (Or.inl (own_k hw 347 rfl)) (by decide) (t := (.object zC1)) (t' := .int) (by decide) (by decide))))
 have F1949 := (Fld.other W1944 (Fld.other W1934 (Fld.other W1928 pr4 (Or.inr (slot_ne (Or.inl (own_k hw 358 rfl)) (Or.inr (own_k hw 341 rfl)) (by decide) (t := .int) (t' := (.object zC1)) (by decide) (by decide)))) (Or.inr (slot_ne (Or.inl (own_k hw 358 rfl)) (Or.inl (own_k hw 344 rfl)) (by decide) (t := .int) (t' := .int) (by decide) (by decide)))) (Or.inr (slot_ne (Or.inl (own_k hw 358 rfl)) (Or.inl (own_k hw 347 rfl)) (by decide) (t := .int) (t' := .int) (by decide) (by decide))))
 have F1950 := (Fld.other W1944 F1936 (Or.inr (slot_ne (Or.inl (own_k hw 344 rfl)) (Or.inl (own_k hw 347 rfl)) (by decide) (t := .int) (t' := .int) (by decide) (by decide))))
 show own_itiQ Z _ _ _ h0 n0 _ T1944.heap _
 rw [e1944]
 exact ⟨rfl, N1944, K1945, F1947, F1948, F1949, F1950, F1946⟩
abbrev c39 := jdk_38_method_55_code
theorem d39_0 : dk c39 0 (.new 267) 3 := by decide +kernel
theorem d39_3 : dk c39 3 (.dup) 1 := by decide +kernel
theorem d39_4 : dk c39 4 (.aload_n 0) 1 := by decide +kernel
theorem d39_5 : dk c39 5 (.invokespecial 269) 3 := by decide +kernel
theorem own_pd19 : parseMethodDescriptor "(Ljava/util/ArrayList;)V" = some ⟨[(.object "java/util/ArrayList")], none⟩ := by decide +kernel
theorem d39_8 : dk c39 8 (.areturn) 1 := by decide +kernel
def own_itrQ (Z : State) (li : Addr) (mc : Int32) (h0 : Heap) (n0 : Nat) (v : Option Value) (h : Heap) (L : List Loc) : Prop := ∃ (it : Addr), v = some (.ref it) ∧ Fr n0 L ∧ Keep h0 h [] ∧ (Exa Z h it zC8) ∧ (Fld Z h it zC8 "this$0" zC23 (.ref li)) ∧ (Fld Z h it zC8 "cursor" "I" (.int 0)) ∧ (Fld Z h it zC8 "lastRet" "I" (.int (-1 : Int32))) ∧ (Fld Z h it zC8 "expectedModCount" "I" (.int mc)) ∧ (h0.size ≤ it)
abbrev own_itrR : Room := { frames := 2, cells := 1, slots := 4, locals := 26 }
theorem own_itr (l : Launch) (Z : State) (a0 : Array Value) (hw : ∀ d ∈ tables_1, d.before a0 Z = true) (ws : List Jvm.Cond) (li : Addr) (mc : Int32) (h0 : Heap) (n0 : Nat) (Z0 : n0 ≤ h0.size) (pr1 : Fld Z h0 li zC10 "modCount" "I" (.int mc)) (pr2 : Exa Z h0 li zC1) :
    own_M l yN58 jdk_38_method_55_code 1 (some (.object zC38)) ws own_itrR #[(.ref li)] Z h0 (own_itrQ Z li mc h0 n0) := by
 refine own_go (plainFor_of_name own_pn7) (fun m => own_ef1 m li ) ?_
 intro p e s m below meth c s₁ Bd hx hby hml hZ hh hown hnm X0 e0
 have N0 := Fr.nil n0
 have K0 : Keep h0 h0 [] := Keep.refl h0 _
 obtain ⟨T1951, h1951, X1951, e1951, E1951, A1951, D1951, -, st1951⟩ := newO X0 hx hZ hown (own_k hw 333 rfl) (own_k hw 334 rfl) (own_k hw 335 rfl) e0 (g := (mkF m 0 #[oR li] [])) rfl (hb hby d39_0) (by decide) (by decide)
 obtain ⟨b1951, g1951⟩ : ∃ z, z = h0.size := ⟨_, rfl⟩
 rw [← g1951] at A1951 D1951 st1951
 have Z1952 := Nat.le_trans Z0 E1951.1
 have K1952 := (Keep.ext K0 E1951)
 have ge_b1951 : n0 ≤ b1951 := Nat.le_trans Z0 (Nat.le_of_eq g1951.symm)
 have F1953 : Fld Z h1951 b1951 zC8 "this$0" zC23 .null := D1951 (Or.inr (own_k hw 341 rfl)) (ty := (.object zC1)) (by decide)
 have F1954 : Fld Z h1951 b1951 zC8 "lastRet" "I" (.int 0) := D1951 (Or.inl (own_k hw 344 rfl)) (ty := .int) (by decide)
 have F1955 : Fld Z h1951 b1951 zC8 "expectedModCount" "I" (.int 0) := D1951 (Or.inl (own_k hw 347 rfl)) (ty := .int) (by decide)
 have F1956 : Fld Z h1951 b1951 zC8 "cursor" "I" (.int 0) := D1951 (Or.inl (own_k hw 358 rfl)) (ty := .int) (by decide)
 refine own_st st1951 ?_
 refine own_st (g' := (mkF m 5 #[oR li] [(.ref li), (.ref b1951), (.ref b1951)])) (fun _ kt => XS.dup X1951.here hx rfl (hb hby d39_3) rfl rfl (XS.aloadN X1951.here hx rfl (hb hby d39_4) rfl rfl kt)) ?_
 have F1957 := (Fld.ext E1951 pr1)
 have F1958 := (Exa.ext E1951 pr2)
 obtain ⟨_, _, ⟨T1959, L1959, k1959, n1959⟩, -, X1959, ⟨Lc1959, hQ1959, l1959, y1959, z1959⟩, st1959⟩ := X1951.specialBack hx (y := yN57) rfl hown (mvT hZ (own_k hw 336 rfl)) (mvT hZ (own_k hw 337 rfl)) (mvT hZ (own_k hw 339 rfl)) (by decide) (backOf (W := 1) (own_iti l Z a0 hw [] b1951 li mc h1951 n0 Z1952 ge_b1951 A1951 F1953 F1956 F1954 F1955 F1957 F1958) hZ (own_k hw 339 rfl) (own_k hw 335 rfl) (by decide) (by decide)) (g := (mkF m 5 #[oR li] [(.ref li), (.ref b1951), (.ref b1951)])) rfl hml.symm (Steps.refl _) (a := b1951) (argsL := [(.ref li)]) (rest := [(.ref b1951)]) (lenOf own_pd19 rfl) rfl (own_w0 rfl rfl) (hb hby d39_5) (fun _ _ => ⟨rfl, e1951, (by decide : 1 + 0 ≤ 1), (by decide : 4 + 0 ≤ 4)⟩)
 dsimp only [Pt.U, Pt.locs, Pt.cells, Pt.slots] at X1959 l1959 y1959 z1959 st1959 hQ1959
 subst l1959 y1959 z1959
 obtain ⟨rfl, N1959, K1959_, P1960, P1961, P1962, P1963, P1964⟩ := hQ1959
 have N1965 := Fr.app N0 N1959
 have Z1966 := Nat.le_trans Z1952 K1959_.1
 have K1966 := (Keep.trans K1952 K1959_ (allS (Or.inr (Nat.le_trans K0.1 (Nat.le_of_eq g1951.symm))) all0))
 refine own_tr st1959 ?_
 obtain ⟨fs, hr, hrun, hended, hW, hsame⟩ := X1959.leave (v := some (.ref b1951)) (fun h => by rw [Bd.returns] at h; cases h)
 refine own_end (own_retA X1959 hx Bd.returns rfl rfl rfl (hb hby d39_8) hr) ⟨_, hrun, hended, _, _, rfl, ?_, ⟨_, rfl⟩, hW, hsame.mono (by decide) (by decide)⟩
 show own_itrQ Z _ _ h0 n0 _ T1959.heap _
 show own_itrQ Z _ _ h0 n0 _ T1959.heap _
 exact ⟨b1951, rfl, N1965, K1966, P1960, P1961, P1962, P1963, P1964, (Nat.le_trans K0.1 (Nat.le_of_eq g1951.symm))⟩
abbrev c41 := jdk_49_method_2_code
theorem d41_0 : dk c41 0 (.aload_n 0) 1 := by decide +kernel
theorem d41_1 : dk c41 1 (.getfield 25) 3 := by decide +kernel
theorem d41_4 : dk c41 4 (.aload_n 0) 1 := by decide +kernel
theorem d41_5 : dk c41 5 (.getfield 1) 3 := by decide +kernel
theorem d41_8 : dk c41 8 (.getfield 28) 3 := by decide +kernel
theorem d41_11 : dk c41 11 (.if_icmp .eq 7) 3 := by decide +kernel
theorem d41_14 : dk c41 14 (.iconst 1) 1 := by decide +kernel
theorem d41_15 : dk c41 15 (.goto 4) 3 := by decide +kernel
theorem d41_19 : dk c41 19 (.ireturn) 1 := by decide +kernel
def own_hnTQ (Z : State) (it : Addr) (li : Addr) (cu : Nat) (nn : Nat) (h0 : Heap) (n0 : Nat) (v : Option Value) (h : Heap) (L : List Loc) : Prop := v = some (.int 1) ∧ Fr n0 L ∧ h = h0
abbrev own_hnTR : Room := { frames := 0, cells := 0, slots := 0, locals := 0 }
theorem own_hnT (l : Launch) (Z : State) (a0 : Array Value) (hw : ∀ d ∈ tables_1, d.before a0 Z = true) (ws : List Jvm.Cond) (it : Addr) (li : Addr) (cu : Nat) (nn : Nat) (h0 : Heap) (n0 : Nat) (Z0 : n0 ≤ h0.size) (pr1 : Fld Z h0 it zC8 "this$0" zC23 (.ref li)) (pr2 : Fld Z h0 it zC8 "cursor" "I" (.int (Int32.ofNat cu))) (pr3 : Fld Z h0 li zC1 "size" "I" (.int (Int32.ofNat nn))) (pr4 : cu < nn) (pr5 : nn ≤ 3) :
    own_M l yN13 jdk_49_method_2_code 1 (some .boolean) ws own_hnTR #[(.ref it)] Z h0 (own_hnTQ Z it li cu nn h0 n0) := by
 refine own_go (plainFor_of_name own_pn25) (fun m => own_ef1 m it ) ?_
 intro p e s m below meth c s₁ Bd hx hby hml hZ hh hown hnm X0 e0
 have N0 := Fr.nil n0
 refine own_st (g' := (mkF m 1 #[oR it] [(.ref it)])) (fun _ kt => XS.aloadN X0.here hx rfl (hb hby d41_0) rfl rfl kt) ?_
 obtain ⟨T1967, X1967, e1967, st1967⟩ := getF X0 hx hZ hown (host := "") (Or.inl (own_k hw 357 rfl)) Via.refl e0 pr2 (g := (mkF m 1 #[oR it] [(.ref it)])) rfl rfl (hb hby d41_1)
 refine own_st st1967 ?_
 refine own_st (g' := (mkF m 5 #[oR it] [(.ref it), vJ cu])) (fun _ kt => XS.aloadN X1967.here hx rfl (hb hby d41_4) rfl rfl kt) ?_
 obtain ⟨T1968, X1968, e1968, st1968⟩ := getF X1967 hx hZ hown (host := "") (Or.inl (own_k hw 340 rfl)) Via.refl e1967 pr1 (g := (mkF m 5 #[oR it] [(.ref it), vJ cu])) rfl rfl (hb hby d41_5)
 refine own_st st1968 ?_
 obtain ⟨T1969, X1969, e1969, st1969⟩ := getF X1968 hx hZ hown (host := zC1) (Or.inr (own_k hw 359 rfl)) Via.refl e1968 pr3 (g := (mkF m 8 #[oR it] [(.ref li), vJ cu])) rfl rfl (hb hby d41_8)
 refine own_st st1969 ?_
 refine own_st (g' := (mkF m 19 #[oR it] [(.int 1)])) (fun _ kt => XS.icmpNo X1969.here hx rfl (hb hby d41_11) rfl (XT.ii_eq_f (own_ne pr4 (by have := pr5; omega))) (XS.iconst X1969.here hx rfl (hb hby d41_14) (XS.goto X1969.here hx rfl (pc0 := 15) (pc' := 19) rfl (hb hby d41_15) (by decide) (by decide) kt))) ?_
 obtain ⟨fs, hr, hrun, hended, hW, hsame⟩ := X1969.leave (v := some (.int 1)) (fun h => by rw [Bd.returns] at h; cases h)
 refine own_end (retN X1969 hx (t := .boolean) Bd.returns (by simp) (hb hby d41_19) hr) ⟨_, hrun, hended, _, _, rfl, ?_, ⟨_, rfl⟩, hW, hsame.mono (by decide) (by decide)⟩
 show own_hnTQ Z _ _ _ _ h0 n0 _ T1969.heap _
 rw [e1969]
 exact ⟨rfl, N0, rfl⟩
theorem d41_18 : dk c41 18 (.iconst 0) 1 := by decide +kernel
def own_hnFQ (Z : State) (it : Addr) (li : Addr) (cu : Nat) (nn : Nat) (h0 : Heap) (n0 : Nat) (v : Option Value) (h : Heap) (L : List Loc) : Prop := v = some (.int 0) ∧ Fr n0 L ∧ h = h0
abbrev own_hnFR : Room := { frames := 0, cells := 0, slots := 0, locals := 0 }
theorem own_hnF (l : Launch) (Z : State) (a0 : Array Value) (hw : ∀ d ∈ tables_1, d.before a0 Z = true) (ws : List Jvm.Cond) (it : Addr) (li : Addr) (cu : Nat) (nn : Nat) (h0 : Heap) (n0 : Nat) (Z0 : n0 ≤ h0.size) (pr1 : Fld Z h0 it zC8 "this$0" zC23 (.ref li)) (pr2 : Fld Z h0 it zC8 "cursor" "I" (.int (Int32.ofNat cu))) (pr3 : Fld Z h0 li zC1 "size" "I" (.int (Int32.ofNat nn))) (pr4 : cu = nn) :
    own_M l yN13 jdk_49_method_2_code 1 (some .boolean) ws own_hnFR #[(.ref it)] Z h0 (own_hnFQ Z it li cu nn h0 n0) := by
 refine own_go (plainFor_of_name own_pn25) (fun m => own_ef1 m it ) ?_
 intro p e s m below meth c s₁ Bd hx hby hml hZ hh hown hnm X0 e0
 have N0 := Fr.nil n0
 refine own_st (g' := (mkF m 1 #[oR it] [(.ref it)])) (fun _ kt => XS.aloadN X0.here hx rfl (hb hby d41_0) rfl rfl kt) ?_
 obtain ⟨T1970, X1970, e1970, st1970⟩ := getF X0 hx hZ hown (host := "") (Or.inl (own_k hw 357 rfl)) Via.refl e0 pr2 (g := (mkF m 1 #[oR it] [(.ref it)])) rfl rfl (hb hby d41_1)
 refine own_st st1970 ?_
 refine own_st (g' := (mkF m 5 #[oR it] [(.ref it), vJ cu])) (fun _ kt => XS.aloadN X1970.here hx rfl (hb hby d41_4) rfl rfl kt) ?_
 obtain ⟨T1971, X1971, e1971, st1971⟩ := getF X1970 hx hZ hown (host := "") (Or.inl (own_k hw 340 rfl)) Via.refl e1970 pr1 (g := (mkF m 5 #[oR it] [(.ref it), vJ cu])) rfl rfl (hb hby d41_5)
 refine own_st st1971 ?_
 obtain ⟨T1972, X1972, e1972, st1972⟩ := getF X1971 hx hZ hown (host := zC1) (Or.inr (own_k hw 359 rfl)) Via.refl e1971 pr3 (g := (mkF m 8 #[oR it] [(.ref li), vJ cu])) rfl rfl (hb hby d41_8)
 refine own_st st1972 ?_
 refine own_st (g' := (mkF m 19 #[oR it] [(.int 0)])) (fun _ kt => XS.icmpYes X1972.here hx rfl (pc0 := 11) (pc' := 18) rfl (hb hby d41_11) rfl (XT.ii_eq_t (congrArg Int32.ofNat pr4)) (by decide) (by decide) (XS.iconst X1972.here hx rfl (hb hby d41_18) kt)) ?_
 obtain ⟨fs, hr, hrun, hended, hW, hsame⟩ := X1972.leave (v := some (.int 0)) (fun h => by rw [Bd.returns] at h; cases h)
 refine own_end (retN X1972 hx (t := .boolean) Bd.returns (by simp) (hb hby d41_19) hr) ⟨_, hrun, hended, _, _, rfl, ?_, ⟨_, rfl⟩, hW, hsame.mono (by decide) (by decide)⟩
 show own_hnFQ Z _ _ _ _ h0 n0 _ T1972.heap _
 rw [e1972]
 exact ⟨rfl, N0, rfl⟩
abbrev c58 := jdk_49_method_6_code
theorem d58_0 : dk c58 0 (.aload_n 0) 1 := by decide +kernel
theorem d58_1 : dk c58 1 (.getfield 1) 3 := by decide +kernel
theorem d58_4 : dk c58 4 (.getfield 17) 3 := by decide +kernel
theorem d58_7 : dk c58 7 (.aload_n 0) 1 := by decide +kernel
theorem d58_8 : dk c58 8 (.getfield 22) 3 := by decide +kernel
theorem d58_11 : dk c58 11 (.if_icmp .eq 11) 3 := by decide +kernel
theorem d58_22 : dk c58 22 (.return_) 1 := by decide +kernel
def own_cfcQ (Z : State) (it : Addr) (li : Addr) (mc : Int32) (h0 : Heap) (n0 : Nat) (v : Option Value) (h : Heap) (L : List Loc) : Prop := v = none ∧ Fr n0 L ∧ h = h0
abbrev own_cfcR : Room := { frames := 0, cells := 0, slots := 0, locals := 0 }
theorem own_cfc (l : Launch) (Z : State) (a0 : Array Value) (hw : ∀ d ∈ tables_1, d.before a0 Z = true) (ws : List Jvm.Cond) (it : Addr) (li : Addr) (mc : Int32) (h0 : Heap) (n0 : Nat) (Z0 : n0 ≤ h0.size) (pr1 : Fld Z h0 it zC8 "this$0" zC23 (.ref li)) (pr2 : Fld Z h0 li zC10 "modCount" "I" (.int mc)) (pr3 : Fld Z h0 it zC8 "expectedModCount" "I" (.int mc)) :
    own_M l yN25 jdk_49_method_6_code 1 none ws own_cfcR #[(.ref it)] Z h0 (own_cfcQ Z it li mc h0 n0) := by
 refine own_go (plainFor_of_name own_pn25) (fun m => own_ef1 m it ) ?_
 intro p e s m below meth c s₁ Bd hx hby hml hZ hh hown hnm X0 e0
 have N0 := Fr.nil n0
 refine own_st (g' := (mkF m 1 #[oR it] [(.ref it)])) (fun _ kt => XS.aloadN X0.here hx rfl (hb hby d58_0) rfl rfl kt) ?_
 obtain ⟨T1973, X1973, e1973, st1973⟩ := getF X0 hx hZ hown (host := "") (Or.inl (own_k hw 340 rfl)) Via.refl e0 pr1 (g := (mkF m 1 #[oR it] [(.ref it)])) rfl rfl (hb hby d58_1)
 refine own_st st1973 ?_
 obtain ⟨T1974, X1974, e1974, st1974⟩ := getF X1973 hx hZ hown (host := "") (Or.inl (own_k hw 345 rfl)) (Via.of (own_k hw 124 rfl)) e1973 pr2 (g := (mkF m 4 #[oR it] [(.ref li)])) rfl rfl (hb hby d58_4)
 refine own_st st1974 ?_
 refine own_st (g' := (mkF m 8 #[oR it] [(.ref it), (.int mc)])) (fun _ kt => XS.aloadN X1974.here hx rfl (hb hby d58_7) rfl rfl kt) ?_
 obtain ⟨T1975, X1975, e1975, st1975⟩ := getF X1974 hx hZ hown (host := "") (Or.inl (own_k hw 346 rfl)) Via.refl e1974 pr3 (g := (mkF m 8 #[oR it] [(.ref it), (.int mc)])) rfl rfl (hb hby d58_8)
 refine own_st st1975 ?_
 refine own_st (g' := (mkF m 22 #[oR it] [])) (fun _ kt => XS.icmpYes X1975.here hx rfl (pc0 := 11) (pc' := 22) rfl (hb hby d58_11) rfl (XT.ii_eq_t rfl) (by decide) (by decide) kt) ?_
 obtain ⟨fs, hr, hrun, hended, hW, hsame⟩ := X1975.leave (v := none) (fun _ => rfl)
 refine own_end (X1975.returnOut hx Bd.returns (hb hby d58_22) hr) ⟨_, hrun, hended, _, _, rfl, ?_, ⟨_, rfl⟩, hW, hsame.mono (by decide) (by decide)⟩
 show own_cfcQ Z _ _ _ h0 n0 _ T1975.heap _
 rw [e1975]
 exact ⟨rfl, N0, rfl⟩
abbrev c57 := jdk_49_method_3_code
theorem d57_0 : dk c57 0 (.aload_n 0) 1 := by decide +kernel
theorem d57_1 : dk c57 1 (.invokevirtual 31) 3 := by decide +kernel
theorem d57_4 : dk c57 4 (.aload_n 0) 1 := by decide +kernel
theorem d57_5 : dk c57 5 (.getfield 25) 3 := by decide +kernel
theorem d57_8 : dk c57 8 (.istore_n 1) 1 := by decide +kernel
theorem d57_9 : dk c57 9 (.iload_n 1) 1 := by decide +kernel
theorem d57_10 : dk c57 10 (.aload_n 0) 1 := by decide +kernel
theorem d57_11 : dk c57 11 (.getfield 1) 3 := by decide +kernel
theorem d57_14 : dk c57 14 (.getfield 28) 3 := by decide +kernel
theorem d57_17 : dk c57 17 (.if_icmp .lt 11) 3 := by decide +kernel
theorem d57_28 : dk c57 28 (.aload_n 0) 1 := by decide +kernel
theorem d57_29 : dk c57 29 (.getfield 1) 3 := by decide +kernel
theorem d57_32 : dk c57 32 (.getfield 37) 3 := by decide +kernel
theorem d57_35 : dk c57 35 (.astore_n 2) 1 := by decide +kernel
theorem d57_36 : dk c57 36 (.iload_n 1) 1 := by decide +kernel
theorem d57_37 : dk c57 37 (.aload_n 2) 1 := by decide +kernel
theorem d57_38 : dk c57 38 (.arraylength) 1 := by decide +kernel
theorem d57_39 : dk c57 39 (.if_icmp .lt 11) 3 := by decide +kernel
theorem d57_50 : dk c57 50 (.aload_n 0) 1 := by decide +kernel
theorem d57_51 : dk c57 51 (.iload_n 1) 1 := by decide +kernel
theorem d57_52 : dk c57 52 (.iconst 1) 1 := by decide +kernel
theorem d57_53 : dk c57 53 (.iadd) 1 := by decide +kernel
theorem d57_54 : dk c57 54 (.putfield 25) 3 := by decide +kernel
theorem d57_57 : dk c57 57 (.aload_n 2) 1 := by decide +kernel
theorem d57_58 : dk c57 58 (.aload_n 0) 1 := by decide +kernel
theorem d57_59 : dk c57 59 (.iload_n 1) 1 := by decide +kernel
theorem d57_60 : dk c57 60 (.dup_x1) 1 := by decide +kernel
theorem d57_61 : dk c57 61 (.putfield 13) 3 := by decide +kernel
theorem d57_64 : dk c57 64 (.aaload) 1 := by decide +kernel
theorem d57_65 : dk c57 65 (.areturn) 1 := by decide +kernel
theorem own_ef22 (m : MethodId) (x0 : Addr) : entryFrame m #[(.ref x0)] 3 = mkF m 0 #[.val (.ref x0), .unset, .unset] [] := by first | (simp [entryFrame, mkF, argsToLocals, Value.category]; done) | rfl
def own_nxQ (Z : State) (it : Addr) (li : Addr) (cu : Nat) (nn : Nat) (mc : Int32) (lr : Int32) (ee : Addr) (ke : ClassId) (vs : List Value) (bo : Addr) (h0 : Heap) (n0 : Nat) (v : Option Value) (h : Heap) (L : List Loc) : Prop := v = some (.ref bo) ∧ Fr n0 L ∧ Keep h0 h [it] ∧ (Exa Z h it zC8) ∧ (Fld Z h it zC8 "this$0" zC23 (.ref li)) ∧ (Fld Z h it zC8 "cursor" "I" (.int (Int32.ofNat (cu + 1)))) ∧ (Fld Z h it zC8 "lastRet" "I" (.int (Int32.ofNat cu))) ∧ (Fld Z h it zC8 "expectedModCount" "I" (.int mc))
abbrev own_nxR : Room := { frames := 1, cells := 0, slots := 0, locals := 12 }
theorem own_nx (l : Launch) (Z : State) (a0 : Array Value) (hw : ∀ d ∈ tables_1, d.before a0 Z = true) (ws : List Jvm.Cond) (it : Addr) (li : Addr) (cu : Nat) (nn : Nat) (mc : Int32) (lr : Int32) (ee : Addr) (ke : ClassId) (vs : List Value) (bo : Addr) (h0 : Heap) (n0 : Nat) (Z0 : n0 ≤ h0.size) (pr1 : n0 ≤ it) (pr2 : Exa Z h0 li zC1) (pr3 : Exa Z h0 it zC8) (pr4 : Fld Z h0 it zC8 "this$0" zC23 (.ref li)) (pr5 : Fld Z h0 it zC8 "cursor" "I" (.int (Int32.ofNat cu))) (pr6 : Fld Z h0 it zC8 "lastRet" "I" (.int lr)) (pr7 : Fld Z h0 it zC8 "expectedModCount" "I" (.int mc)) (pr8 : Fld Z h0 li zC10 "modCount" "I" (.int mc)) (pr9 : Fld Z h0 li zC1 "size" "I" (.int (Int32.ofNat nn))) (pr10 : Fld Z h0 li zC1 "elementData" zC7 (.ref ee)) (pr11 : Arv Z h0 ee ke (.object zC3) (10 : Int32) vs .null) (pr12 : cu < nn) (pr13 : nn ≤ 3) (pr14 : vs.getD cu .null = .ref bo) :
    own_M l yN59 jdk_49_method_3_code 3 (some (.object zC3)) ws own_nxR #[(.ref it)] Z h0 (own_nxQ Z it li cu nn mc lr ee ke vs bo h0 n0) := by
 refine own_go (plainFor_of_name own_pn25) (fun m => own_ef22 m it ) ?_
 intro p e s m below meth c s₁ Bd hx hby hml hZ hh hown hnm X0 e0
 have N0 := Fr.nil n0
 have K0 : Keep h0 h0 [it] := Keep.refl h0 _
 have hcn := pr12
 have hn3 := pr13
 refine own_st (g' := (mkF m 1 #[oR it, .unset, .unset] [(.ref it)])) (fun _ kt => XS.aloadN X0.here hx rfl (hb hby d57_0) rfl rfl kt) ?_
 obtain ⟨cq1977, kq1977, qa1977, qb1977, qc1977⟩ := isOf hZ e0 pr3
 obtain ⟨_, _, ⟨T1976, L1976, k1976, n1976⟩, -, X1976, ⟨Lc1976, hQ1976, l1976, y1976, z1976⟩, st1976⟩ := X0.virtualBack hx (y := yN25) (z := yN25) hown (mvT hZ (own_k hw 480 rfl)) (mvT hZ (own_k hw 481 rfl)) (notFace_of_selects (args := #[]) (mvT hZ (own_k hw 483 rfl))) (mvT hZ (own_k hw 483 rfl)) (mvT hZ (own_k hw 482 rfl)) (by decide) (backOf (W := 0) (own_cfc l Z a0 hw [] it li mc h0 n0 Z0 pr4 pr8 pr7) hZ (own_k hw 484 rfl) (own_k hw 335 rfl) (by decide) (by decide)) qa1977 qc1977 (g := (mkF m 1 #[oR it, .unset, .unset] [(.ref it)])) rfl hml.symm (Steps.refl _) (argsL := []) (rest := []) (lenOf own_pd1 rfl) rfl (own_w0 rfl rfl) (hb hby d57_1) (fun _ _ => ⟨rfl, e0, (by decide : 0 + 0 ≤ 0), (by decide : 0 + 0 ≤ 0)⟩)
 dsimp only [Pt.U, Pt.locs, Pt.cells, Pt.slots] at X1976 l1976 y1976 z1976 st1976 hQ1976
 subst l1976 y1976 z1976
 obtain ⟨rfl, N1976, e1976⟩ := hQ1976
 have N1978 := Fr.app N0 N1976
 refine own_tr st1976 ?_
 refine own_st (g' := (mkF m 5 #[oR it, .unset, .unset] [(.ref it)])) (fun _ kt => XS.aloadN X1976.here hx rfl (hb hby d57_4) rfl rfl kt) ?_
 obtain ⟨T1979, X1979, e1979, st1979⟩ := getF X1976 hx hZ hown (host := "") (Or.inl (own_k hw 357 rfl)) Via.refl e1976 pr5 (g := (mkF m 5 #[oR it, .unset, .unset] [(.ref it)])) rfl rfl (hb hby d57_5)
 refine own_st st1979 ?_
 refine own_st (g' := (mkF m 11 #[oR it, oJ cu, .unset] [(.ref it), vJ cu])) (fun _ kt => XS.istoreN X1979.here hx rfl (hb hby d57_8) rfl (l' := #[oR it, oJ cu, .unset]) rfl (XS.iloadN X1979.here hx rfl (hb hby d57_9) rfl (XS.aloadN X1979.here hx rfl (hb hby d57_10) rfl rfl kt))) ?_
 obtain ⟨T1980, X1980, e1980, st1980⟩ := getF X1979 hx hZ hown (host := "") (Or.inl (own_k hw 340 rfl)) Via.refl e1979 pr4 (g := (mkF m 11 #[oR it, oJ cu, .unset] [(.ref it), vJ cu])) rfl rfl (hb hby d57_11)
 refine own_st st1980 ?_
 obtain ⟨T1981, X1981, e1981, st1981⟩ := getF X1980 hx hZ hown (host := zC1) (Or.inr (own_k hw 359 rfl)) Via.refl e1980 pr9 (g := (mkF m 14 #[oR it, oJ cu, .unset] [(.ref li), vJ cu])) rfl rfl (hb hby d57_14)
 refine own_st st1981 ?_
 refine own_st (g' := (mkF m 29 #[oR it, oJ cu, .unset] [(.ref it)])) (fun _ kt => XS.icmpYes X1981.here hx rfl (pc0 := 17) (pc' := 28) rfl (hb hby d57_17) rfl (XT.ii_lt_t ((own_ige (by omega) (by omega)).mpr hcn)) (by decide) (by decide) (XS.aloadN X1981.here hx rfl (hb hby d57_28) rfl rfl kt)) ?_
 obtain ⟨T1982, X1982, e1982, st1982⟩ := getF X1981 hx hZ hown (host := "") (Or.inl (own_k hw 340 rfl)) Via.refl e1981 pr4 (g := (mkF m 29 #[oR it, oJ cu, .unset] [(.ref it)])) rfl rfl (hb hby d57_29)
 refine own_st st1982 ?_
 obtain ⟨T1983, X1983, e1983, st1983⟩ := getF X1982 hx hZ hown (host := "") (Or.inl (own_k hw 485 rfl)) Via.refl e1982 pr10 (g := (mkF m 32 #[oR it, oJ cu, .unset] [(.ref li)])) rfl rfl (hb hby d57_32)
 refine own_st st1983 ?_
 refine own_st (g' := (mkF m 38 #[oR it, oJ cu, oR ee] [(.ref ee), vJ cu])) (fun _ kt => XS.astoreN X1983.here hx rfl (hb hby d57_35) rfl rfl (l' := #[oR it, oJ cu, oR ee]) rfl (XS.iloadN X1983.here hx rfl (hb hby d57_36) rfl (XS.aloadN X1983.here hx rfl (hb hby d57_37) rfl rfl kt))) ?_
 refine own_st (g' := (mkF m 39 #[oR it, oJ cu, oR ee] [(.int 10), vJ cu])) (own_alen X1983 hx hZ e1983 pr11 (g := (mkF m 38 #[oR it, oJ cu, oR ee] [(.ref ee), vJ cu])) rfl rfl (hb hby d57_38)) ?_
 refine own_st (g' := (mkF m 54 #[oR it, oJ cu, oR ee] [(.int ((Int32.ofNat cu) + (1 : Int32))), (.ref it)])) (fun _ kt => XS.icmpYes X1983.here hx rfl (pc0 := 39) (pc' := 50) rfl (hb hby d57_39) rfl (XT.ii_lt_t ((own_ige (i := cu) (n := 10) (by omega) (by omega)).mpr (by omega))) (by decide) (by decide) (XS.aloadN X1983.here hx rfl (hb hby d57_50) rfl rfl (XS.iloadN X1983.here hx rfl (hb hby d57_51) rfl (XS.iconst X1983.here hx rfl (hb hby d57_52) (XS.iadd X1983.here hx rfl (hb hby d57_53) rfl kt))))) ?_
 rw [own_succ (n := cu) (by omega)]
 obtain ⟨T1984, h1984, X1984, e1984, W1984, st1984⟩ := putF X1983 hx hZ hown (host := "") (Or.inl (own_k hw 357 rfl)) Via.refl e1983 pr5 pr3 (Or.inl (own_k hw 358 rfl)) (own_k hw 334 rfl) (ty := .int) (by decide) rfl rfl (g := (mkF m 54 #[oR it, oJ cu, oR ee] [vJ (cu + 1), (.ref it)])) rfl rfl (hb hby d57_54)
 have N1984 := Fr.snoc X1984 N1978 pr1
 have Z1985 := Nat.le_trans Z0 (Nat.le_of_eq (Wr.size W1984).symm)
 have K1985 := (Keep.wr K0 W1984 (Or.inl (List.mem_of_getElem? (i := 0) rfl)))
 have F1986 : Fld Z h1984 it zC8 "cursor" "I" (.int (Int32.ofNat (cu + 1))) := Fld.same W1984 pr5
 refine own_st st1984 ?_
 refine own_st (g' := (mkF m 61 #[oR it, oJ cu, oR ee] [vJ cu, (.ref it), vJ cu, (.ref ee)])) (fun _ kt => XS.aloadN X1984.here hx rfl (hb hby d57_57) rfl rfl (XS.aloadN X1984.here hx rfl (hb hby d57_58) rfl rfl (XS.iloadN X1984.here hx rfl (hb hby d57_59) rfl (XT.dupX1 X1984.here hx rfl (hb hby d57_60) rfl rfl rfl kt)))) ?_
 have F1987 := (Fld.other W1984 pr6 (Or.inr (slot_ne (Or.inl (own_k hw 344 rfl)) (Or.inl (own_k hw 358 rfl)) (by decide) (t := .int) (t' := .int) (by decide) (by decide))))
 have F1988 := (Exa.wr W1984 pr3)
 obtain ⟨T1989, h1989, X1989, e1989, W1989, st1989⟩ := putF X1984 hx hZ hown (host := "") (Or.inl (own_k hw 343 rfl)) Via.refl e1984 F1987 F1988 (Or.inl (own_k hw 344 rfl)) (own_k hw 334 rfl) (ty := .int) (by decide) rfl rfl (g := (mkF m 61 #[oR it, oJ cu, oR ee] [vJ cu, (.ref it), vJ cu, (.ref ee)])) rfl rfl (hb hby d57_61)
 have N1989 := Fr.snoc X1989 N1984 pr1
 have Z1990 := Nat.le_trans Z1985 (Nat.le_of_eq (Wr.size W1989).symm)
 have K1990 := (Keep.wr K1985 W1989 (Or.inl (List.mem_of_getElem? (i := 0) rfl)))
 have F1991 : Fld Z h1989 it zC8 "lastRet" "I" (.int (Int32.ofNat cu)) := Fld.same W1989 F1987
 refine own_st st1989 ?_
 have ne1992 : it ≠ ee := (Exa.neArv pr3 pr11 (own_k hw 334 rfl))
 have F1993 := (Arv.keep pr11 K1990 (ninS (Ne.symm ne1992) nin0))
 refine own_st (g' := (mkF m 65 #[oR it, oJ cu, oR ee] [(.ref bo)])) (own_aal X1989 hx hZ e1989 F1993 rfl (own_idx (i := cu) (k := 10) (by omega) (by omega)) (by rw [own_tn (by omega)]; exact pr14) (g := (mkF m 64 #[oR it, oJ cu, oR ee] [vJ cu, (.ref ee)])) rfl rfl (hb hby d57_64)) ?_
 obtain ⟨fs, hr, hrun, hended, hW, hsame⟩ := X1989.leave (v := some (.ref bo)) (fun h => by rw [Bd.returns] at h; cases h)
 refine own_end (own_retA X1989 hx Bd.returns rfl rfl rfl (hb hby d57_65) hr) ⟨_, hrun, hended, _, _, rfl, ?_, ⟨_, rfl⟩, hW, hsame.mono (by decide) (by decide)⟩
 have F1994 := (Exa.wr W1989 F1988)
 have F1995 := (Fld.other W1989 (Fld.other W1984 pr4 (Or.inr (slot_ne (Or.inr (own_k hw 341 rfl)) (Or.inl (own_k hw 358 rfl)) (by decide) (t := (.object zC1)) (t' := .int) (by decide) (by decide)))) (Or.inr (slot_ne (Or.inr (own_k hw 341 rfl)) (Or.inl (own_k hw 344 rfl)) (by decide) (t := (.object zC1)) (t' := .int) (by decide) (by decide))))
 have F1996 := (Fld.other W1989 F1986 (Or.inr (slot_ne (Or.inl (own_k hw 358 rfl)) (Or.inl (own_k hw 344 rfl)) (by decide) (t := .int) (t' := .int) (by decide) (by decide))))
 have F1997 := (Fld.other W1989 (Fld.other W1984 pr7 (Or.inr (slot_ne (Or.inl (own_k hw 347 rfl)) (Or.inl (own_k hw 358 rfl)) (by decide) (t := .int) (t' := .int) (by decide) (by decide)))) (Or.inr (slot_ne (Or.inl (own_k hw 347 rfl)) (Or.inl (own_k hw 344 rfl)) (by decide) (t := .int) (t' := .int) (by decide) (by decide))))
 show own_nxQ Z _ _ _ _ _ _ _ _ _ _ h0 n0 _ T1989.heap _
 rw [e1989]
 exact ⟨rfl, N1989, K1990, F1994, F1995, F1996, F1991, F1997⟩
abbrev c42 := prog_109_method_10_code
theorem d42_0 : dk c42 0 (.aload_n 0) 1 := by decide +kernel
theorem d42_1 : dk c42 1 (.getfield 46) 3 := by decide +kernel
theorem d42_4 : dk c42 4 (.iload_n 1) 1 := by decide +kernel
theorem d42_5 : dk c42 5 (.aaload) 1 := by decide +kernel
theorem d42_6 : dk c42 6 (.ifnonnull 15) 3 := by decide +kernel
theorem d42_9 : dk c42 9 (.aload_n 0) 1 := by decide +kernel
theorem d42_10 : dk c42 10 (.getfield 46) 3 := by decide +kernel
theorem d42_13 : dk c42 13 (.iload_n 1) 1 := by decide +kernel
theorem d42_14 : dk c42 14 (.ldc2_w 162) 3 := by decide +kernel
theorem d42_17 : dk c42 17 (.invokestatic 56) 3 := by decide +kernel
theorem own_pd20 : parseMethodDescriptor "(J)Ljava/lang/Long;" = some ⟨[.long], some (.object "java/lang/Long")⟩ := by decide +kernel
theorem d42_20 : dk c42 20 (.aastore) 1 := by decide +kernel
theorem d42_21 : dk c42 21 (.return_) 1 := by decide +kernel
def own_kfrQ (Z : State) (re : Addr) (db : Addr) (kdb : ClassId) (np : Nat) (qn : Nat) (h0 : Heap) (n0 : Nat) (v : Option Value) (h : Heap) (L : List Loc) : Prop := v = none ∧ Fr n0 L ∧ Keep h0 h [db]
abbrev own_kfrR : Room := { frames := 4, cells := 1, slots := 1, locals := 55 }
theorem own_kfr (l : Launch) (Z : State) (a0 : Array Value) (hw : ∀ d ∈ tables_1, d.before a0 Z = true) (ws : List Jvm.Cond) (re : Addr) (db : Addr) (kdb : ClassId) (np : Nat) (qn : Nat) (h0 : Heap) (n0 : Nat) (Z0 : n0 ≤ h0.size) (pr1 : Exa Z h0 re zC6) (pr2 : Fld Z h0 re zC6 "dropping" zC20 (.ref db)) (pr3 : Arv Z h0 db kdb (.object zC12) (Int32.ofNat np) (List.replicate np .null) .null) (pr4 : Ovr Z kdb zC12) (pr5 : n0 ≤ db) (pr6 : qn < np) (pr7 : np ≤ 7) :
    own_M l yN26 prog_109_method_10_code 2 none ws own_kfrR #[(.ref re), (.int (Int32.ofNat qn))] Z h0 (own_kfrQ Z re db kdb np qn h0 n0) := by
 refine own_go (plainFor_of_name own_pn19) (fun m => own_ef6 m re (Int32.ofNat qn) ) ?_
 intro p e s m below meth c s₁ Bd hx hby hml hZ hh hown hnm X0 e0
 have N0 := Fr.nil n0
 have K0 : Keep h0 h0 [db] := Keep.refl h0 _
 have hqn := pr6
 have hq0 := pr7
 refine own_st (g' := (mkF m 1 #[oR re, oJ qn] [(.ref re)])) (fun _ kt => XS.aloadN X0.here hx rfl (hb hby d42_0) rfl rfl kt) ?_
 obtain ⟨T1998, X1998, e1998, st1998⟩ := getF X0 hx hZ hown (host := "") (Or.inl (own_k hw 163 rfl)) Via.refl e0 pr2 (g := (mkF m 1 #[oR re, oJ qn] [(.ref re)])) rfl rfl (hb hby d42_1)
 refine own_st st1998 ?_
 refine own_st (g' := (mkF m 5 #[oR re, oJ qn] [vJ qn, (.ref db)])) (fun _ kt => XS.iloadN X1998.here hx rfl (hb hby d42_4) rfl kt) ?_
 refine own_st (g' := (mkF m 6 #[oR re, oJ qn] [.null])) (own_aal X1998 hx hZ e1998 pr3 rfl (own_idx hqn (by omega)) own_rn (g := (mkF m 5 #[oR re, oJ qn] [vJ qn, (.ref db)])) rfl rfl (hb hby d42_5)) ?_
 refine own_st (g' := (mkF m 10 #[oR re, oJ qn] [(.ref re)])) (fun _ kt => XT.ifnonnullNo X1998.here hx rfl (hb hby d42_6) rfl (XS.aloadN X1998.here hx rfl (hb hby d42_9) rfl rfl kt)) ?_
 obtain ⟨T1999, X1999, e1999, st1999⟩ := getF X1998 hx hZ hown (host := "") (Or.inl (own_k hw 163 rfl)) Via.refl e1998 pr2 (g := (mkF m 10 #[oR re, oJ qn] [(.ref re)])) rfl rfl (hb hby d42_10)
 refine own_st st1999 ?_
 refine own_st (g' := (mkF m 14 #[oR re, oJ qn] [vJ qn, (.ref db)])) (fun _ kt => XS.iloadN X1999.here hx rfl (hb hby d42_13) rfl kt) ?_
 refine own_st (g' := (mkF m 17 #[oR re, oJ qn] [(.long (-9223372036854775808 : Int64)), vJ qn, (.ref db)])) (Stand.ldc2Long X1999 hx hown (mvT hZ (own_k hw 365 rfl)) (g := (mkF m 14 #[oR re, oJ qn] [vJ qn, (.ref db)])) rfl (hb hby d42_14)) ?_
 obtain ⟨_, _, ⟨T2000, L2000, k2000, n2000⟩, -, X2000, ⟨Lc2000, hQ2000, l2000, y2000, z2000⟩, st2000⟩ := Jvm.LawKit.callS X1999 hx (y := yN36) hown (mvT hZ (own_k hw 366 rfl)) (mvT hZ (own_k hw 367 rfl)) (mvT hZ (own_k hw 368 rfl)) (mvT hZ (own_k hw 369 rfl)) (by decide) (backOf (W := 2) (own_lvo l Z a0 hw []  h0 n0 Z0 ) hZ (own_k hw 369 rfl) (own_k hw 368 rfl) (by decide) (by decide)) (g := (mkF m 17 #[oR re, oJ qn] [(.long (-9223372036854775808 : Int64)), vJ qn, (.ref db)])) rfl hml.symm  (argsL := [(.long (-9223372036854775808 : Int64))]) (rest := [vJ qn, (.ref db)]) (lenOf own_pd20 rfl) rfl (own_w0 rfl rfl) (hb hby d42_17) (fun _ _ => ⟨rfl, e1999, (by decide : 0 + 1 ≤ 1), (by decide : 0 + 1 ≤ 1)⟩)
 dsimp only [Pt.U, Pt.locs, Pt.cells, Pt.slots] at X2000 l2000 y2000 z2000 st2000 hQ2000
 subst l2000 y2000 z2000
 obtain ⟨b_2000, rfl, N2000, K2000_, P2001, P2002⟩ := hQ2000
 have N2003 := Fr.app N0 N2000
 have Z2004 := Nat.le_trans Z0 K2000_.1
 have K2004 := (Keep.trans K0 K2000_ all0)
 have ge2005 : n0 ≤ b_2000 := Nat.le_trans Z0 P2002
 refine own_st st2000 ?_
 have F2006 := (Arv.keep pr3 K2000_ nin0)
 obtain ⟨cs2008, As2008, qs2008, -⟩ := id F2006
 obtain ⟨T2007, h2007, X2007, e2007, W2007, V2007, st2007⟩ := own_ast X2000 hx hZ rfl F2006 rfl (own_idx hqn (by omega)) (i := qn) (own_tn (by omega)) (by rw [List.length_replicate]; exact hqn) rfl (Sto.ofV As2008 qs2008 pr4 (Ins.of_exa P2001 (own_k hw 375 rfl))) (g := (mkF m 20 #[oR re, oJ qn] [(.ref b_2000), vJ qn, (.ref db)])) rfl rfl (hb hby d42_20)
 have N2007 := Fr.snoc X2007 N2003 pr5
 have Z2009 := Nat.le_trans Z2004 (Nat.le_of_eq (Wr.size W2007).symm)
 have K2009 := (Keep.wr K2004 W2007 (Or.inl (List.mem_of_getElem? (i := 0) rfl)))
 have F2010 : Arv Z h2007 db kdb (.object zC12) (Int32.ofNat np) ((List.replicate np Value.null).set qn (.ref b_2000)) .null := V2007
 refine own_st st2007 ?_
 obtain ⟨fs, hr, hrun, hended, hW, hsame⟩ := X2007.leave (v := none) (fun _ => rfl)
 refine own_end (X2007.returnOut hx Bd.returns (hb hby d42_21) hr) ⟨_, hrun, hended, _, _, rfl, ?_, ⟨_, rfl⟩, hW, hsame.mono (by decide) (by decide)⟩
 show own_kfrQ Z _ _ _ _ _ h0 n0 _ T2007.heap _
 rw [e2007]
 exact ⟨rfl, N2007, K2009⟩
abbrev c36 := prog_112_method_40_code
theorem d36_0 : dk c36 0 (.aload_n 0) 1 := by decide +kernel
theorem d36_1 : dk c36 1 (.getfield 24) 3 := by decide +kernel
theorem d36_4 : dk c36 4 (.iload_n 1) 1 := by decide +kernel
theorem d36_5 : dk c36 5 (.aaload) 1 := by decide +kernel
theorem d36_6 : dk c36 6 (.astore 5) 2 := by decide +kernel
theorem d36_8 : dk c36 8 (.aload_n 0) 1 := by decide +kernel
theorem d36_9 : dk c36 9 (.getfield 37) 3 := by decide +kernel
theorem d36_12 : dk c36 12 (.aload 5) 2 := by decide +kernel
theorem d36_14 : dk c36 14 (.getfield 92) 3 := by decide +kernel
theorem d36_17 : dk c36 17 (.iconst 1) 1 := by decide +kernel
theorem d36_18 : dk c36 18 (.isub) 1 := by decide +kernel
theorem d36_19 : dk c36 19 (.aaload) 1 := by decide +kernel
theorem d36_20 : dk c36 20 (.iload_n 1) 1 := by decide +kernel
theorem d36_21 : dk c36 21 (.invokevirtual 196) 3 := by decide +kernel
theorem d36_24 : dk c36 24 (.aload 5) 2 := by decide +kernel
theorem d36_26 : dk c36 26 (.iload_n 2) 1 := by decide +kernel
theorem d36_27 : dk c36 27 (.putfield 92) 3 := by decide +kernel
theorem d36_30 : dk c36 30 (.aload 5) 2 := by decide +kernel
theorem d36_32 : dk c36 32 (.aload_n 0) 1 := by decide +kernel
theorem d36_33 : dk c36 33 (.getfield 88) 3 := by decide +kernel
theorem d36_36 : dk c36 36 (.iconst 1) 1 := by decide +kernel
theorem d36_37 : dk c36 37 (.iadd) 1 := by decide +kernel
theorem d36_38 : dk c36 38 (.putfield 210) 3 := by decide +kernel
theorem d36_41 : dk c36 41 (.aload 5) 2 := by decide +kernel
theorem d36_43 : dk c36 43 (.getfield 74) 3 := by decide +kernel
theorem d36_46 : dk c36 46 (.invokeinterface 94 1) 5 := by decide +kernel
theorem own_pd21 : parseMethodDescriptor "()Ljava/util/Iterator;" = some ⟨[], some (.object "java/util/Iterator")⟩ := by decide +kernel
theorem d36_51 : dk c36 51 (.astore 6) 2 := by decide +kernel
theorem d36_53 : dk c36 53 (.aload 6) 2 := by decide +kernel
theorem d36_55 : dk c36 55 (.invokeinterface 98 1) 5 := by decide +kernel
theorem own_pd22 : parseMethodDescriptor "()Z" = some ⟨[], some .boolean⟩ := by decide +kernel
theorem d36_60 : dk c36 60 (.ifCond .eq 26) 3 := by decide +kernel
theorem d36_63 : dk c36 63 (.aload 6) 2 := by decide +kernel
theorem d36_65 : dk c36 65 (.invokeinterface 104 1) 5 := by decide +kernel
theorem own_pd23 : parseMethodDescriptor "()Ljava/lang/Object;" = some ⟨[], some (.object "java/lang/Object")⟩ := by decide +kernel
theorem d36_70 : dk c36 70 (.checkcast 76) 3 := by decide +kernel
theorem d36_73 : dk c36 73 (.astore 7) 2 := by decide +kernel
theorem d36_75 : dk c36 75 (.aload 7) 2 := by decide +kernel
theorem d36_77 : dk c36 77 (.getfield 185) 3 := by decide +kernel
theorem d36_80 : dk c36 80 (.invokevirtual 335) 3 := by decide +kernel
theorem d36_83 : dk c36 83 (.goto (-30)) 3 := by decide +kernel
theorem d36_86 : dk c36 86 (.aload_n 0) 1 := by decide +kernel
theorem d36_87 : dk c36 87 (.getfield 49) 3 := by decide +kernel
theorem d36_90 : dk c36 90 (.iload_n 1) 1 := by decide +kernel
theorem d36_91 : dk c36 91 (.invokevirtual 423) 3 := by decide +kernel
theorem d36_94 : dk c36 94 (.new 426) 3 := by decide +kernel
theorem d36_97 : dk c36 97 (.dup) 1 := by decide +kernel
theorem d36_98 : dk c36 98 (.iload_n 1) 1 := by decide +kernel
theorem d36_99 : dk c36 99 (.aload 5) 2 := by decide +kernel
theorem d36_101 : dk c36 101 (.getfield 165) 3 := by decide +kernel
theorem d36_104 : dk c36 104 (.aload 5) 2 := by decide +kernel
theorem d36_106 : dk c36 106 (.getfield 168) 3 := by decide +kernel
theorem d36_109 : dk c36 109 (.aload_n 3) 1 := by decide +kernel
theorem d36_110 : dk c36 110 (.ifnonnull 7) 3 := by decide +kernel
theorem d36_113 : dk c36 113 (.iconst 0) 1 := by decide +kernel
theorem d36_114 : dk c36 114 (.goto 7) 3 := by decide +kernel
theorem d36_121 : dk c36 121 (.aload 4) 2 := by decide +kernel
theorem d36_123 : dk c36 123 (.ifnonnull 7) 3 := by decide +kernel
theorem d36_126 : dk c36 126 (.iconst 0) 1 := by decide +kernel
theorem d36_127 : dk c36 127 (.goto 8) 3 := by decide +kernel
theorem d36_135 : dk c36 135 (.aload_n 3) 1 := by decide +kernel
theorem d36_136 : dk c36 136 (.ifnonnull 9) 3 := by decide +kernel
theorem d36_139 : dk c36 139 (.ldc2_w 428) 3 := by decide +kernel
theorem d36_142 : dk c36 142 (.goto 7) 3 := by decide +kernel
theorem d36_149 : dk c36 149 (.invokespecial 430) 3 := by decide +kernel
theorem own_pd24 : parseMethodDescriptor "(IZJIIJ)V" = some ⟨[.int, .boolean, .long, .int, .int, .long], none⟩ := by decide +kernel
theorem d36_152 : dk c36 152 (.areturn) 1 := by decide +kernel
theorem own_ef23 (m : MethodId) (x0 : Addr) (x1 : Int32) (x2 : Int32) : entryFrame m #[(.ref x0), (.int x1), (.int x2), .null, .null] 8 = mkF m 0 #[.val (.ref x0), .val (.int x1), .val (.int x2), .val .null, .val .null, .unset, .unset, .unset] [] := by first | (simp [entryFrame, mkF, argsToLocals, Value.category]; done) | rfl
def own_gvQ (Z : State) (a : Addr) (sa : Addr) (ks : ClassId) (vs : List Value) (sp : Addr) (kp : ClassId) (bs : List Value) (re : Addr) (db : Addr) (kdb : ClassId) (lo : Nat) (mi : Nat) (n1 : Nat) (np : Nat) (nw : Nat) (qn : Nat) (wn : Nat) (gg : Int32) (h0 : Heap) (n0 : Nat) (v : Option Value) (h : Heap) (L : List Loc) : Prop := ∃ (zz : Addr), v = some (.ref zz) ∧ Fr n0 L ∧ (Old Z n0 h) ∧ (Exa Z h a zC4) ∧ (Fld Z h a zC4 "shares" zC19 (.ref sa)) ∧ (Arv Z h sa ks (.object zC5) (Int32.ofNat np) vs .null) ∧ (own_OW Z h np vs (fun zy => Int32.ofNat (own_gf np nw gg qn wn zy))) ∧ (n0 ≤ h.size)
abbrev own_gvR : Room := { frames := 5, cells := 10, slots := 60, locals := 68 }
theorem own_gv (l : Launch) (Z : State) (a0 : Array Value) (hw : ∀ d ∈ tables_1, d.before a0 Z = true) (ws : List Jvm.Cond) (a : Addr) (sa : Addr) (ks : ClassId) (vs : List Value) (sp : Addr) (kp : ClassId) (bs : List Value) (re : Addr) (db : Addr) (kdb : ClassId) (lo : Nat) (mi : Nat) (n1 : Nat) (np : Nat) (nw : Nat) (qn : Nat) (wn : Nat) (gg : Int32) (h0 : Heap) (n0 : Nat) (Z0 : n0 ≤ h0.size) (pr1 : Old Z n0 h0) (pr2 : Sta Z Z.heap zC0 "$assertionsDisabled" "Z" (.int 1)) (pr3 : n0 ≤ db) (pr4 : sa ≠ db) (pr5 : Exa Z h0 a zC4) (pr6 : Fld Z h0 a zC4 "shares" zC19 (.ref sa)) (pr7 : Fld Z h0 a zC4 "spoken" zC18 (.ref sp)) (pr8 : Fld Z h0 a zC4 "retained" zC24 (.ref re)) (pr9 : Fld Z h0 a zC4 "generation" "I" (.int 0)) (pr10 : Arv Z h0 sa ks (.object zC5) (Int32.ofNat np) vs .null) (pr11 : Arv Z h0 sp kp (.object zC0) (Int32.ofNat nw) bs .null) (pr12 : Exa Z h0 re zC6) (pr13 : Fld Z h0 re zC6 "dropping" zC20 (.ref db)) (pr14 : Arv Z h0 db kdb (.object zC12) (Int32.ofNat np) (List.replicate np .null) .null) (pr15 : Ovr Z kdb zC12) (pr16 : own_B Z h0 lo mi nw bs) (pr17 : own_S Z h0 n1 np vs (fun zz => Int32.ofNat (own_on np nw zz))) (pr18 : lo > sa) (pr19 : lo > sp) (pr20 : lo > db) (pr21 : lo ≤ mi) (pr22 : mi ≤ n1) (pr23 : n0 ≤ lo) (pr24 : np ≤ 7) (pr25 : 1 ≤ nw) (pr26 : nw ≤ 4) (pr27 : qn < np) (pr28 : ¬ gg = 0) :
    own_M l yN27 prog_112_method_40_code 8 (some (.object zC15)) ws own_gvR #[(.ref a), (.int (Int32.ofNat qn)), (.int (Int32.ofNat wn)), .null, .null] Z h0 (own_gvQ Z a sa ks vs sp kp bs re db kdb lo mi n1 np nw qn wn gg h0 n0) := by
 refine own_go (plainFor_of_name own_pn24) (fun m => own_ef23 m a (Int32.ofNat qn) (Int32.ofNat wn) ) ?_
 intro p e s m below meth c s₁ Bd hx hby hml hZ hh hown hnm X0 e0
 have N0 := Fr.nil n0
 have hv0 := pr18
 have hv1 := pr19
 have hv2 := pr20
 have hv3 := pr21
 have hv4 := pr22
 have hv5 := pr23
 have hv6 := pr24
 have hv7 := pr25
 have hv8 := pr26
 have hv9 := pr27
 have hv10 := pr28
 have hon := own_on_le hv7 hv8 hv6 hv9
 obtain ⟨sh, hsh, hS0⟩ := pr17.1 qn hv9
 obtain ⟨li, mc, ee, ke, bl, h_sh, h_li, hl3, hA, hB, s0, s1, s2, s3, s4, s5, r0, r1, r2, r3⟩ := (show own_sh Z h0 n1 sh (Int32.ofNat (own_on np nw qn)) from hS0)
 obtain ⟨ba, bt, kbt, ub, xb, hB0, hB1, hB2, hB3, hB4, hB5, hB6, hB7, hB8, hB9, hB10⟩ := pr16 ((own_on np nw qn) - 1) (by omega)
 have ge_ba : n0 ≤ ba := by omega
 have ge_bt : n0 ≤ bt := by omega
 have ge_sh : n0 ≤ sh := by omega
 have ne2011 : sa ≠ bt := Nat.ne_of_lt (Nat.lt_of_lt_of_le hv0 hB3)
 have ne2012 : sp ≠ bt := Nat.ne_of_lt (Nat.lt_of_lt_of_le hv1 hB3)
 have ne2013 : db ≠ bt := Nat.ne_of_lt (Nat.lt_of_lt_of_le hv2 hB3)
 have K2_2014 : Keep h0 h0 [ba, bt, sh] := Keep.refl _ _
 refine own_st (g' := (mkF m 1 #[oR a, oJ qn, oJ wn, .val .null, .val .null, .unset, .unset, .unset] [(.ref a)])) (fun _ kt => XS.aloadN X0.here hx rfl (hb hby d36_0) rfl rfl kt) ?_
 obtain ⟨T2015, X2015, e2015, st2015⟩ := getF X0 hx hZ hown (host := "") (Or.inl (own_k hw 65 rfl)) Via.refl e0 pr6 (g := (mkF m 1 #[oR a, oJ qn, oJ wn, .val .null, .val .null, .unset, .unset, .unset] [(.ref a)])) rfl rfl (hb hby d36_1)
 refine own_st st2015 ?_
 refine own_st (g' := (mkF m 5 #[oR a, oJ qn, oJ wn, .val .null, .val .null, .unset, .unset, .unset] [vJ qn, (.ref sa)])) (fun _ kt => XS.iloadN X2015.here hx rfl (hb hby d36_4) rfl kt) ?_
 refine own_st (g' := (mkF m 6 #[oR a, oJ qn, oJ wn, .val .null, .val .null, .unset, .unset, .unset] [(.ref sh)])) (own_aal X2015 hx hZ e2015 pr10 rfl (own_idx hv9 (by omega)) (by rw [own_tn (by omega)]; exact hsh) (g := (mkF m 5 #[oR a, oJ qn, oJ wn, .val .null, .val .null, .unset, .unset, .unset] [vJ qn, (.ref sa)])) rfl rfl (hb hby d36_5)) ?_
 refine own_st (g' := (mkF m 9 #[oR a, oJ qn, oJ wn, .val .null, .val .null, oR sh, .unset, .unset] [(.ref a)])) (fun _ kt => XS.astore X2015.here hx rfl (hb hby d36_6) rfl rfl (l' := #[oR a, oJ qn, oJ wn, .val .null, .val .null, oR sh, .unset, .unset]) rfl (XS.aloadN X2015.here hx rfl (hb hby d36_8) rfl rfl kt)) ?_
 obtain ⟨T2016, X2016, e2016, st2016⟩ := getF X2015 hx hZ hown (host := "") (Or.inl (own_k hw 76 rfl)) Via.refl e2015 pr7 (g := (mkF m 9 #[oR a, oJ qn, oJ wn, .val .null, .val .null, oR sh, .unset, .unset] [(.ref a)])) rfl rfl (hb hby d36_9)
 refine own_st st2016 ?_
 refine own_st (g' := (mkF m 14 #[oR a, oJ qn, oJ wn, .val .null, .val .null, oR sh, .unset, .unset] [(.ref sh), (.ref sp)])) (fun _ kt => XS.aload X2016.here hx rfl (hb hby d36_12) rfl rfl kt) ?_
 obtain ⟨T2017, X2017, e2017, st2017⟩ := getF X2016 hx hZ hown (host := "") (Or.inl (own_k hw 296 rfl)) Via.refl e2016 s1 (g := (mkF m 14 #[oR a, oJ qn, oJ wn, .val .null, .val .null, oR sh, .unset, .unset] [(.ref sh), (.ref sp)])) rfl rfl (hb hby d36_14)
 refine own_st st2017 ?_
 refine own_st (g' := (mkF m 19 #[oR a, oJ qn, oJ wn, .val .null, .val .null, oR sh, .unset, .unset] [(.int ((Int32.ofNat (own_on np nw qn)) - (1 : Int32))), (.ref sp)])) (fun _ kt => XS.iconst X2017.here hx rfl (hb hby d36_17) (XS.isub X2017.here hx rfl (hb hby d36_18) rfl kt)) ?_
 rw [own_prd (n := (own_on np nw qn)) (by omega) (by omega)]
 refine own_st (g' := (mkF m 20 #[oR a, oJ qn, oJ wn, .val .null, .val .null, oR sh, .unset, .unset] [(.ref ba)])) (own_aal X2017 hx hZ e2017 pr11 rfl (own_idx (by omega) (by omega)) (by rw [own_tn (by omega)]; exact hB0) (g := (mkF m 19 #[oR a, oJ qn, oJ wn, .val .null, .val .null, oR sh, .unset, .unset] [vJ ((own_on np nw qn) - 1), (.ref sp)])) rfl rfl (hb hby d36_19)) ?_
 refine own_st (g' := (mkF m 21 #[oR a, oJ qn, oJ wn, .val .null, .val .null, oR sh, .unset, .unset] [vJ qn, (.ref ba)])) (fun _ kt => XS.iloadN X2017.here hx rfl (hb hby d36_20) rfl kt) ?_
 obtain ⟨cq2019, kq2019, qa2019, qb2019, qc2019⟩ := isOf hZ e2017 hB6
 obtain ⟨_, _, ⟨T2018, L2018, k2018, n2018⟩, -, X2018, ⟨Lc2018, hQ2018, l2018, y2018, z2018⟩, st2018⟩ := X2017.virtualBack hx (y := yN19) (z := yN19) hown (mvT hZ (own_k hw 309 rfl)) (mvT hZ (own_k hw 310 rfl)) (notFace_of_selects (args := #[]) (mvT hZ (own_k hw 312 rfl))) (mvT hZ (own_k hw 312 rfl)) (mvT hZ (own_k hw 311 rfl)) (by decide) (backOf (W := 0) (own_bclr l Z a0 hw [] ba bt kbt ub xb (Int32.ofNat qn) h0 n0 Z0 pr1 pr2 ge_ba ge_bt hB5 (show ¬ (Int32.ofNat qn) < 0 from (own_nn (by omega))) (show (Int32.ofNat qn) >>> ((6 : Int32) &&& 31) = 0 from (own_w6 (by omega))) hB6 hB7 hB8 hB9 hB10) hZ (own_k hw 313 rfl) (own_k hw 230 rfl) (by decide) (by decide)) qa2019 qc2019 (g := (mkF m 21 #[oR a, oJ qn, oJ wn, .val .null, .val .null, oR sh, .unset, .unset] [vJ qn, (.ref ba)])) rfl hml.symm (Steps.refl _) (argsL := [vJ qn]) (rest := []) (lenOf own_pd4 rfl) rfl (own_w0 rfl rfl) (hb hby d36_21) (fun _ _ => ⟨rfl, e2017, (by decide : 0 + 0 ≤ 10), (by decide : 0 + 0 ≤ 60)⟩)
 dsimp only [Pt.U, Pt.locs, Pt.cells, Pt.slots] at X2018 l2018 y2018 z2018 st2018 hQ2018
 subst l2018 y2018 z2018
 obtain ⟨z_2018, y_2018, rfl, N2018, K2018_, P2020, P2021, P2022, P2023, P2024, q2025⟩ := hQ2018
 have N2026 := Fr.app N0 N2018
 have Z2027 := Nat.le_trans Z0 K2018_.1
 have K2_2027 := (Keep.trans K2_2014 K2018_ (allS (Or.inl (List.mem_of_getElem? (i := 0) rfl)) (allS (Or.inl (List.mem_of_getElem? (i := 1) rfl)) all0)))
 refine own_tr st2018 ?_
 refine own_st (g' := (mkF m 27 #[oR a, oJ qn, oJ wn, .val .null, .val .null, oR sh, .unset, .unset] [vJ wn, (.ref sh)])) (fun _ kt => XS.aload X2018.here hx rfl (hb hby d36_24) rfl rfl (XS.iloadN X2018.here hx rfl (hb hby d36_26) rfl kt)) ?_
 have ne2028 : sh ≠ bt := (Exa.neArv s0 hB10 (own_k hw 257 rfl))
 have ne2029 : sh ≠ ba := (ne_exa s0 hB6 (by decide))
 have F2030 := (Fld.keep s1 K2018_ (ninS ne2029 (ninS ne2028 nin0)))
 have F2031 := (Exa.keep s0 K2018_)
 obtain ⟨T2032, h2032, X2032, e2032, W2032, st2032⟩ := putF X2018 hx hZ hown (host := "") (Or.inl (own_k hw 296 rfl)) Via.refl rfl F2030 F2031 (Or.inl (own_k hw 268 rfl)) (own_k hw 257 rfl) (ty := .int) (by decide) rfl rfl (g := (mkF m 27 #[oR a, oJ qn, oJ wn, .val .null, .val .null, oR sh, .unset, .unset] [vJ wn, (.ref sh)])) rfl rfl (hb hby d36_27)
 have N2032 := Fr.snoc X2032 N2026 ge_sh
 have Z2033 := Nat.le_trans Z2027 (Nat.le_of_eq (Wr.size W2032).symm)
 have K2_2033 := (Keep.wr K2_2027 W2032 (Or.inl (List.mem_of_getElem? (i := 2) rfl)))
 have F2034 : Fld Z h2032 sh zC5 "owner" "I" (.int (Int32.ofNat wn)) := Fld.same W2032 F2030
 refine own_st st2032 ?_
 refine own_st (g' := (mkF m 33 #[oR a, oJ qn, oJ wn, .val .null, .val .null, oR sh, .unset, .unset] [(.ref a), (.ref sh)])) (fun _ kt => XS.aload X2032.here hx rfl (hb hby d36_30) rfl rfl (XS.aloadN X2032.here hx rfl (hb hby d36_32) rfl rfl kt)) ?_
 have ne2035 : a ≠ sh := (ne_exa pr5 s0 (by decide))
 have ne2036 : a ≠ bt := (Exa.neArv pr5 hB10 (own_k hw 2 rfl))
 have ne2037 : a ≠ ba := (ne_exa pr5 hB6 (by decide))
 have F2038 := (Fld.keep pr9 K2_2033 (ninS ne2037 (ninS ne2036 (ninS ne2035 nin0))))
 obtain ⟨T2039, X2039, e2039, st2039⟩ := getF X2032 hx hZ hown (host := "") (Or.inl (own_k hw 320 rfl)) Via.refl e2032 F2038 (g := (mkF m 33 #[oR a, oJ qn, oJ wn, .val .null, .val .null, oR sh, .unset, .unset] [(.ref a), (.ref sh)])) rfl rfl (hb hby d36_33)
 refine own_st st2039 ?_
 refine own_st (g' := (mkF m 38 #[oR a, oJ qn, oJ wn, .val .null, .val .null, oR sh, .unset, .unset] [(.int ((0 : Int32) + (1 : Int32))), (.ref sh)])) (fun _ kt => XS.iconst X2039.here hx rfl (hb hby d36_36) (XS.iadd X2039.here hx rfl (hb hby d36_37) rfl kt)) ?_
 have F2040 := (Fld.other W2032 (Fld.keep s3 K2018_ (ninS ne2029 (ninS ne2028 nin0))) (Or.inr (slot_ne (Or.inl (own_k hw 323 rfl)) (Or.inl (own_k hw 268 rfl)) (by decide) (t := .int) (t' := .int) (by decide) (by decide))))
 have F2041 := (Exa.wr W2032 F2031)
 obtain ⟨T2042, h2042, X2042, e2042, W2042, st2042⟩ := putF X2039 hx hZ hown (host := "") (Or.inl (own_k hw 322 rfl)) Via.refl e2039 F2040 F2041 (Or.inl (own_k hw 323 rfl)) (own_k hw 257 rfl) (ty := .int) (by decide) rfl rfl (g := (mkF m 38 #[oR a, oJ qn, oJ wn, .val .null, .val .null, oR sh, .unset, .unset] [(.int ((0 : Int32) + (1 : Int32))), (.ref sh)])) rfl rfl (hb hby d36_38)
 have N2042 := Fr.snoc X2042 N2032 ge_sh
 have Z2043 := Nat.le_trans Z2033 (Nat.le_of_eq (Wr.size W2042).symm)
 have K2_2043 := (Keep.wr K2_2033 W2042 (Or.inl (List.mem_of_getElem? (i := 2) rfl)))
 have F2044 : Fld Z h2042 sh zC5 "ownedFrom" "I" (.int ((0 : Int32) + (1 : Int32))) := Fld.same W2042 F2040
 refine own_st st2042 ?_
 refine own_st (g' := (mkF m 43 #[oR a, oJ qn, oJ wn, .val .null, .val .null, oR sh, .unset, .unset] [(.ref sh)])) (fun _ kt => XS.aload X2042.here hx rfl (hb hby d36_41) rfl rfl kt) ?_
 have F2045 := (Fld.other W2042 (Fld.other W2032 (Fld.keep s2 K2018_ (ninS ne2029 (ninS ne2028 nin0))) (Or.inr (slot_ne (Or.inr (own_k hw 266 rfl)) (Or.inl (own_k hw 268 rfl)) (by decide) (t := (.object zC11)) (t' := .int) (by decide) (by decide)))) (Or.inr (slot_ne (Or.inr (own_k hw 266 rfl)) (Or.inl (own_k hw 323 rfl)) (by decide) (t := (.object zC11)) (t' := .int) (by decide) (by decide))))
 obtain ⟨T2046, X2046, e2046, st2046⟩ := getF X2042 hx hZ hown (host := "") (Or.inl (own_k hw 324 rfl)) Via.refl e2042 F2045 (g := (mkF m 43 #[oR a, oJ qn, oJ wn, .val .null, .val .null, oR sh, .unset, .unset] [(.ref sh)])) rfl rfl (hb hby d36_43)
 refine own_st st2046 ?_
 have F2047 := (Exa.keep r0 K2_2043)
 have ne2048 : li ≠ sh := (ne_exa r0 s0 (by decide))
 have ne2049 : li ≠ bt := (Exa.neArv r0 hB10 (own_k hw 33 rfl))
 have ne2050 : li ≠ ba := (ne_exa r0 hB6 (by decide))
 have F2051 := (Fld.keep r1 K2_2043 (ninS ne2050 (ninS ne2049 (ninS ne2048 nin0))))
 obtain ⟨cq2053, kq2053, qa2053, qb2053, qc2053⟩ := isOf hZ e2046 F2047
 obtain ⟨_, _, ⟨T2052, L2052, k2052, n2052⟩, -, X2052, ⟨Lc2052, hQ2052, l2052, y2052, z2052⟩, st2052⟩ := X2046.interfaceBack hx (xi := (⟨zC11, "iterator", "()Ljava/util/Iterator;"⟩ : MethodName)) (y := yN58) hown (mvT hZ (own_k hw 325 rfl)) (mvT hZ (own_k hw 326 rfl)) (mvT hZ (own_k hw 327 rfl)) (mvT hZ (own_k hw 328 rfl)) (mvT hZ (own_k hw 329 rfl)) (mvT hZ (own_k hw 330 rfl)) (mvT hZ (own_k hw 331 rfl)) (mvT hZ (own_k hw 121 rfl)) (by decide) (backOf (W := 0) (own_itr l Z a0 hw [] li mc h2042 n0 Z2043 F2051 F2047) hZ (own_k hw 332 rfl) (own_k hw 34 rfl) (by decide) (by decide)) qa2053 qb2053 qc2053 (g := (mkF m 46 #[oR a, oJ qn, oJ wn, .val .null, .val .null, oR sh, .unset, .unset] [(.ref li)])) rfl hml.symm (Steps.refl _) (argsL := []) (rest := []) (lenOf own_pd21 rfl) rfl (own_w0 rfl rfl) (hb hby d36_46) (fun _ _ => ⟨rfl, e2046, (by decide : 0 + 1 ≤ 10), (by decide : 0 + 4 ≤ 60)⟩)
 dsimp only [Pt.U, Pt.locs, Pt.cells, Pt.slots] at X2052 l2052 y2052 z2052 st2052 hQ2052
 subst l2052 y2052 z2052
 obtain ⟨it_2052, rfl, N2052, K2052_, P2054, P2055, P2056, P2057, P2058, P2059⟩ := hQ2052
 have N2060 := Fr.app N2042 N2052
 have Z2061 := Nat.le_trans Z2043 K2052_.1
 have K2_2061 := (Keep.trans K2_2043 K2052_ all0)
 have ge2062 : n0 ≤ it_2052 := Nat.le_trans Z2043 P2059
 refine own_tr st2052 ?_
 refine own_st (g' := (mkF m 53 #[oR a, oJ qn, oJ wn, .val .null, .val .null, oR sh, oR it_2052, .unset] [])) (fun _ kt => XS.astore X2052.here hx rfl (hb hby d36_51) rfl rfl (l' := #[oR a, oJ qn, oJ wn, .val .null, .val .null, oR sh, oR it_2052, .unset]) rfl kt) ?_
 refine own_loopH (α := Nat × Int32 × Slot) X2052 (cs := fun kk => 1) (sl := fun kk => 4) (gj := fun q => (mkF m 53 #[oR a, oJ qn, oJ wn, .val .null, .val .null, oR sh, oR it_2052, q.2.2] [])) (P := fun kk L_ h_ q => (Fr n0 L_) ∧ (n0 ≤ h_.size) ∧ (Old Z n0 h_) ∧ (q.2.2 = Slot.unset ∨ ∃ x, q.2.2 = Slot.val (.ref x)) ∧ (Exa Z h_ a zC4) ∧ (Fld Z h_ a zC4 "shares" zC19 (.ref sa)) ∧ (Fld Z h_ a zC4 "retained" zC24 (.ref re)) ∧ (Arv Z h_ sa ks (.object zC5) (Int32.ofNat np) vs .null) ∧ (Exa Z h_ re zC6) ∧ (Fld Z h_ re zC6 "dropping" zC20 (.ref db)) ∧ (Arv Z h_ db kdb (.object zC12) (Int32.ofNat np) (List.replicate np .null) .null) ∧ (Exa Z h_ sh zC5) ∧ (Fld Z h_ sh zC5 "written" "Z" (.int 0)) ∧ (Fld Z h_ sh zC5 "writtenTo" "J" (.long (0 : Int64))) ∧ (Exa Z h_ li zC1) ∧ (Fld Z h_ li zC10 "modCount" "I" (.int mc)) ∧ (Fld Z h_ li zC1 "elementData" zC7 (.ref ee)) ∧ (Fld Z h_ li zC1 "size" "I" (.int (Int32.ofNat bl.length))) ∧ (Exa Z h_ it_2052 zC8) ∧ (Fld Z h_ it_2052 zC8 "this$0" zC23 (.ref li)) ∧ (Fld Z h_ it_2052 zC8 "cursor" "I" (.int (Int32.ofNat q.1))) ∧ (Fld Z h_ it_2052 zC8 "lastRet" "I" (.int q.2.1)) ∧ (Fld Z h_ it_2052 zC8 "expectedModCount" "I" (.int mc)) ∧ (own_ea Z h_ n1 ee ke bl) ∧ (own_bks_ Z h_ n1 bl) ∧ (own_OW Z h_ np vs (fun zy => Int32.ofNat (own_gf np nw gg qn wn zy))) ∧ (q.1 ≤ bl.length ∧ bl.length - q.1 = kk)) ?_ (fun J2063 => ?_)
 ·
  rintro kk ih2063 T2063 L2063 h2063 ⟨cu, lr, sv2063_7⟩ ⟨N2063, Z2063, O2063, hsv2063_7, F2064, F2065, F2066, F2067, F2068, F2069, F2070, F2071, F2072, F2073, F2074, F2075, F2076, F2077, F2078, F2079, F2080, F2081, F2082, F2083, F2084, F2085, hj2063⟩ X2063 e2063
  try dsimp only at hsv2063_7 F2064 F2065 F2066 F2067 F2068 F2069 F2070 F2071 F2072 F2073 F2074 F2075 F2076 F2077 F2078 F2079 F2080 F2081 F2082 F2083 F2084 F2085 hj2063 X2063 ⊢
  have hc := hj2063
  refine own_st (g' := (mkF m 55 #[oR a, oJ qn, oJ wn, .val .null, .val .null, oR sh, oR it_2052, sv2063_7] [(.ref it_2052)])) (fun _ kt => XS.aload X2063.here hx rfl (hb hby d36_53) rfl rfl kt) ?_
  by_cases hcb : cu < bl.length
  ·
   obtain ⟨hee, hAe⟩ := F2083 (fun q => by rw [q] at hcb; exact absurd hcb (Nat.not_lt_zero _))
   obtain ⟨bo, hbo⟩ : ∃ z, z = bl.getD cu 0 := ⟨_, rfl⟩
   have hbg := own_blg (xs := List.replicate (10 - bl.length) Value.null) hcb
   rw [← hbo] at hbg
   obtain ⟨dq, el, h_bo, h_dq, g0, g1, g2, g3, g4, g5⟩ := F2084 bo hbg.2
   have ge_dq : n0 ≤ dq := by omega
   have K2_2086 : Keep h2063 h2063 [it_2052, dq] := Keep.refl _ _
   obtain ⟨cq2088, kq2088, qa2088, qb2088, qc2088⟩ := isOf hZ e2063 F2078
   obtain ⟨_, _, ⟨T2087, L2087, k2087, n2087⟩, -, X2087, ⟨Lc2087, hQ2087, l2087, y2087, z2087⟩, st2087⟩ := X2063.interfaceBack hx (xi := yN60) (y := yN13) hown (mvT hZ (own_k hw 348 rfl)) (mvT hZ (own_k hw 349 rfl)) (mvT hZ (own_k hw 350 rfl)) (mvT hZ (own_k hw 351 rfl)) (mvT hZ (own_k hw 352 rfl)) (mvT hZ (own_k hw 353 rfl)) (mvT hZ (own_k hw 354 rfl)) (mvT hZ (own_k hw 355 rfl)) (by decide) (backOf (W := 0) (own_hnT l Z a0 hw [] it_2052 li cu bl.length h2063 n0 Z2063 F2079 F2080 F2077 hcb hl3) hZ (own_k hw 356 rfl) (own_k hw 335 rfl) (by decide) (by decide)) qa2088 qb2088 qc2088 (g := (mkF m 55 #[oR a, oJ qn, oJ wn, .val .null, .val .null, oR sh, oR it_2052, sv2063_7] [(.ref it_2052)])) rfl hml.symm (Steps.refl _) (argsL := []) (rest := []) (lenOf own_pd22 rfl) rfl (own_w0 rfl rfl) (hb hby d36_55) (fun _ _ => ⟨rfl, e2063, (by show _ + 0 ≤ (10 : Nat); (try dsimp only [Pt.cells, Pt.slots]); omega), (by show _ + 0 ≤ (60 : Nat); (try dsimp only [Pt.cells, Pt.slots]); omega)⟩)
   dsimp only [Pt.U, Pt.locs, Pt.cells, Pt.slots] at X2087 l2087 y2087 z2087 st2087 hQ2087
   subst l2087 y2087 z2087
   obtain ⟨rfl, N2087, e2087⟩ := hQ2087
   have N2089 := Fr.app N2063 N2087
   refine own_tr st2087 ?_
   refine own_st (g' := (mkF m 65 #[oR a, oJ qn, oJ wn, .val .null, .val .null, oR sh, oR it_2052, sv2063_7] [(.ref it_2052)])) (fun _ kt => XS.ifNo X2087.here hx rfl (hb hby d36_60) rfl (XT.i0_eq_f (by decide)) (XS.aload X2087.here hx rfl (hb hby d36_63) rfl rfl kt)) ?_
   obtain ⟨cq2091, kq2091, qa2091, qb2091, qc2091⟩ := isOf hZ e2087 F2078
   obtain ⟨_, _, ⟨T2090, L2090, k2090, n2090⟩, -, X2090, ⟨Lc2090, hQ2090, l2090, y2090, z2090⟩, st2090⟩ := X2087.interfaceBack hx (xi := (⟨zC38, "next", "()Ljava/lang/Object;"⟩ : MethodName)) (y := yN59) hown (mvT hZ (own_k hw 472 rfl)) (mvT hZ (own_k hw 473 rfl)) (mvT hZ (own_k hw 474 rfl)) (mvT hZ (own_k hw 475 rfl)) (mvT hZ (own_k hw 476 rfl)) (mvT hZ (own_k hw 477 rfl)) (mvT hZ (own_k hw 478 rfl)) (mvT hZ (own_k hw 355 rfl)) (by decide) (backOf (W := 0) (own_nx l Z a0 hw [] it_2052 li cu bl.length mc lr ee ke (bl.map Value.ref ++ List.replicate (10 - bl.length) Value.null) bo h2063 n0 Z2063 ge2062 F2074 F2078 F2079 F2080 F2081 F2082 F2075 F2077 F2076 hAe hcb hl3 (show (bl.map Value.ref ++ List.replicate (10 - bl.length) Value.null).getD cu .null = .ref bo from hbg.1)) hZ (own_k hw 479 rfl) (own_k hw 335 rfl) (by decide) (by decide)) qa2091 qb2091 qc2091 (g := (mkF m 65 #[oR a, oJ qn, oJ wn, .val .null, .val .null, oR sh, oR it_2052, sv2063_7] [(.ref it_2052)])) rfl hml.symm (Steps.refl _) (argsL := []) (rest := []) (lenOf own_pd23 rfl) rfl (own_w0 rfl rfl) (hb hby d36_65) (fun _ _ => ⟨rfl, e2087, (by show _ + 0 ≤ (10 : Nat); (try dsimp only [Pt.cells, Pt.slots]); omega), (by show _ + 0 ≤ (60 : Nat); (try dsimp only [Pt.cells, Pt.slots]); omega)⟩)
   dsimp only [Pt.U, Pt.locs, Pt.cells, Pt.slots] at X2090 l2090 y2090 z2090 st2090 hQ2090
   subst l2090 y2090 z2090
   obtain ⟨rfl, N2090, K2090_, P2092, P2093, P2094, P2095, P2096⟩ := hQ2090
   have N2097 := Fr.app N2089 N2090
   have Z2098 := Nat.le_trans Z2063 K2090_.1
   have K2_2098 := (Keep.trans K2_2086 K2090_ (allS (Or.inl (List.mem_of_getElem? (i := 0) rfl)) all0))
   refine own_tr st2090 ?_
   have F2099 := (Exa.keep g0 K2090_)
   obtain ⟨T2100, X2100, e2100, st2100⟩ := castY X2090 hx hZ hown (own_k hw 435 rfl) rfl (Ins.of_exa F2099 (own_k hw 486 rfl)) (g := (mkF m 70 #[oR a, oJ qn, oJ wn, .val .null, .val .null, oR sh, oR it_2052, sv2063_7] [(.ref bo)])) rfl rfl (hb hby d36_70)
   refine own_st st2100 ?_
   refine own_st (g' := (mkF m 77 #[oR a, oJ qn, oJ wn, .val .null, .val .null, oR sh, oR it_2052, oR bo] [(.ref bo)])) (fun _ kt => XS.astore X2100.here hx rfl (hb hby d36_73) rfl rfl (l' := #[oR a, oJ qn, oJ wn, .val .null, .val .null, oR sh, oR it_2052, oR bo]) (by rcases hsv2063_7 with rfl | ⟨_, rfl⟩ <;> rfl) (XS.aload X2100.here hx rfl (hb hby d36_75) rfl rfl kt)) ?_
   have ne2101 : bo ≠ it_2052 := (ne_exa g0 F2078 (by decide))
   have F2102 := (Fld.keep g1 K2090_ (ninS ne2101 nin0))
   obtain ⟨T2103, X2103, e2103, st2103⟩ := getF X2100 hx hZ hown (host := "") (Or.inl (own_k hw 487 rfl)) Via.refl e2100 F2102 (g := (mkF m 77 #[oR a, oJ qn, oJ wn, .val .null, .val .null, oR sh, oR it_2052, oR bo] [(.ref bo)])) rfl rfl (hb hby d36_77)
   refine own_st st2103 ?_
   have F2104 := (Exa.keep g2 K2090_)
   have ne2105 : dq ≠ it_2052 := (ne_exa g2 F2078 (by decide))
   have F2106 := (Fld.keep g3 K2090_ (ninS ne2105 nin0))
   have F2107 := (Fld.keep g4 K2090_ (ninS ne2105 nin0))
   have F2108 := (Fld.keep g5 K2090_ (ninS ne2105 nin0))
   obtain ⟨cq2110, kq2110, qa2110, qb2110, qc2110⟩ := isOf hZ e2103 F2104
   obtain ⟨_, _, ⟨T2109, L2109, k2109, n2109⟩, -, X2109, ⟨Lc2109, hQ2109, l2109, y2109, z2109⟩, st2109⟩ := X2103.virtualBack hx (y := yN20) (z := yN20) hown (mvT hZ (own_k hw 488 rfl)) (mvT hZ (own_k hw 489 rfl)) (notFace_of_selects (args := #[]) (mvT hZ (own_k hw 491 rfl))) (mvT hZ (own_k hw 491 rfl)) (mvT hZ (own_k hw 490 rfl)) (by decide) (backOf (W := 0) (own_qc l Z a0 hw [] dq el T2090.heap n0 Z2098 F2104 ge_dq F2106 F2107 F2108) hZ (own_k hw 492 rfl) (own_k hw 444 rfl) (by decide) (by decide)) qa2110 qc2110 (g := (mkF m 80 #[oR a, oJ qn, oJ wn, .val .null, .val .null, oR sh, oR it_2052, oR bo] [(.ref dq)])) rfl hml.symm (Steps.refl _) (argsL := []) (rest := []) (lenOf own_pd1 rfl) rfl (own_w0 rfl rfl) (hb hby d36_80) (fun _ _ => ⟨rfl, e2103, (by show _ + 0 ≤ (10 : Nat); (try dsimp only [Pt.cells, Pt.slots]); omega), (by show _ + 0 ≤ (60 : Nat); (try dsimp only [Pt.cells, Pt.slots]); omega)⟩)
   dsimp only [Pt.U, Pt.locs, Pt.cells, Pt.slots] at X2109 l2109 y2109 z2109 st2109 hQ2109
   subst l2109 y2109 z2109
   obtain ⟨rfl, N2109, K2109_, P2111, P2112, P2113, P2114⟩ := hQ2109
   have N2115 := Fr.app N2097 N2109
   have Z2116 := Nat.le_trans Z2098 K2109_.1
   have K2_2116 := (Keep.trans K2_2098 K2109_ (allS (Or.inl (List.mem_of_getElem? (i := 1) rfl)) all0))
   refine own_tr st2109 ?_
   refine own_st (g' := (mkF m 53 #[oR a, oJ qn, oJ wn, .val .null, .val .null, oR sh, oR it_2052, oR bo] [])) (fun _ kt => XS.goto X2109.here hx rfl (pc0 := 83) (pc' := 53) rfl (hb hby d36_83) (by decide) (by decide) kt) ?_
   have Q2117 : own_OW Z T2109.heap np vs (fun zy => Int32.ofNat (own_gf np nw gg qn wn zy)) := (own_OW_keep F2085 K2_2116 (allS (fun s E => ne_exa E F2078 (by decide)) (allS (fun s E => ne_exa E g2 (by decide)) all0)))
   have Q2118 : own_ea Z T2109.heap n1 ee ke bl := (own_ea_keep F2083 K2_2116 (allS (Or.inr ⟨_, _, ⟨_, (own_k hw 334 rfl)⟩, F2078⟩) (allS (Or.inr ⟨_, _, ⟨_, (own_k hw 443 rfl)⟩, g2⟩) all0)))
   have Q2119 : own_bks_ Z T2109.heap n1 bl := (own_bks_upd F2084 K2_2116 F2078 (by decide) (by decide) g2 P2112 P2113 P2114)
   have F2120 := (Old.keep O2063 K2_2116 (allS ge2062 (allS ge_dq all0)))
   have F2121 := (Exa.keep F2064 K2_2116)
   have ne2122 : a ≠ dq := (ne_exa F2064 g2 (by decide))
   have ne2123 : a ≠ it_2052 := (Nat.ne_of_lt (Nat.lt_of_lt_of_le (Nat.lt_of_lt_of_le F2038.lt (Nat.le_of_eq (Wr.size W2042).symm)) P2059))
   have F2124 := (Fld.keep F2065 K2_2116 (ninS ne2123 (ninS ne2122 nin0)))
   have F2125 := (Fld.keep F2066 K2_2116 (ninS ne2123 (ninS ne2122 nin0)))
   have ne2126 : dq ≠ sa := (Exa.neArv g2 F2067 (own_k hw 443 rfl))
   have ne2127 : sa ≠ it_2052 := (Nat.ne_of_lt (Nat.lt_of_lt_of_le (Nat.lt_of_lt_of_le (Nat.lt_of_lt_of_le (Nat.lt_of_lt_of_le pr10.lt K2018_.1) (Nat.le_of_eq (Wr.size W2032).symm)) (Nat.le_of_eq (Wr.size W2042).symm)) P2059))
   have F2128 := (Arv.keep F2067 K2_2116 (ninS ne2127 (ninS (Ne.symm ne2126) nin0)))
   have F2129 := (Exa.keep F2068 K2_2116)
   have ne2130 : re ≠ dq := (ne_exa F2068 g2 (by decide))
   have ne2131 : re ≠ it_2052 := (Nat.ne_of_lt (Nat.lt_of_lt_of_le (Nat.lt_of_lt_of_le (Nat.lt_of_lt_of_le (Nat.lt_of_lt_of_le pr12.lt K2018_.1) (Nat.le_of_eq (Wr.size W2032).symm)) (Nat.le_of_eq (Wr.size W2042).symm)) P2059))
   have F2132 := (Fld.keep F2069 K2_2116 (ninS ne2131 (ninS ne2130 nin0)))
   have ne2133 : dq ≠ db := (Exa.neArv g2 F2070 (own_k hw 443 rfl))
   have ne2134 : db ≠ it_2052 := (Nat.ne_of_lt (Nat.lt_of_lt_of_le (Nat.lt_of_lt_of_le (Nat.lt_of_lt_of_le (Nat.lt_of_lt_of_le pr14.lt K2018_.1) (Nat.le_of_eq (Wr.size W2032).symm)) (Nat.le_of_eq (Wr.size W2042).symm)) P2059))
   have F2135 := (Arv.keep F2070 K2_2116 (ninS ne2134 (ninS (Ne.symm ne2133) nin0)))
   have F2136 := (Exa.keep F2071 K2_2116)
   have ne2137 : sh ≠ dq := (ne_exa F2071 g2 (by decide))
   have ne2138 : sh ≠ it_2052 := (Nat.ne_of_lt (Nat.lt_of_lt_of_le F2045.lt P2059))
   have F2139 := (Fld.keep F2072 K2_2116 (ninS ne2138 (ninS ne2137 nin0)))
   have F2140 := (Fld.keep F2073 K2_2116 (ninS ne2138 (ninS ne2137 nin0)))
   have F2141 := (Exa.keep F2074 K2_2116)
   have ne2142 : li ≠ dq := (ne_exa F2074 g2 (by decide))
   have ne2143 : li ≠ it_2052 := (Nat.ne_of_lt (Nat.lt_of_lt_of_le F2047.lt P2059))
   have F2144 := (Fld.keep F2075 K2_2116 (ninS ne2143 (ninS ne2142 nin0)))
   have F2145 := (Fld.keep F2076 K2_2116 (ninS ne2143 (ninS ne2142 nin0)))
   have F2146 := (Fld.keep F2077 K2_2116 (ninS ne2143 (ninS ne2142 nin0)))
   have F2147 := (Exa.keep P2092 K2109_)
   have F2148 := (Fld.keep P2093 K2109_ (ninS (Ne.symm ne2105) nin0))
   have F2149 := (Fld.keep P2094 K2109_ (ninS (Ne.symm ne2105) nin0))
   have F2150 := (Fld.keep P2095 K2109_ (ninS (Ne.symm ne2105) nin0))
   have F2151 := (Fld.keep P2096 K2109_ (ninS (Ne.symm ne2105) nin0))
   exact ih2063 (bl.length - (cu + 1)) (by omega) _ _ _ ⟨(cu + 1), (Int32.ofNat cu), (Slot.val (.ref bo))⟩ ⟨N2115, Z2116, F2120, (Or.inr ⟨_, rfl⟩), F2121, F2124, F2125, F2128, F2129, F2132, F2135, F2136, F2139, F2140, F2141, F2144, F2145, F2146, F2147, F2148, F2149, F2150, F2151, Q2118, Q2119, Q2117, ⟨by omega, rfl⟩⟩ (X2109.mono (by first | decide | exact Nat.le_add_right_of_le (by decide) | ((try dsimp only [Pt.cells, Pt.slots]); omega)) (by first | decide | exact Nat.le_add_right_of_le (by decide) | ((try dsimp only [Pt.cells, Pt.slots]); omega))) rfl
  ·
   have hce : cu = bl.length := by omega
   have K2_2152 : Keep h2063 h2063 [db] := Keep.refl _ _
   obtain ⟨cq2154, kq2154, qa2154, qb2154, qc2154⟩ := isOf hZ e2063 F2078
   obtain ⟨_, _, ⟨T2153, L2153, k2153, n2153⟩, -, X2153, ⟨Lc2153, hQ2153, l2153, y2153, z2153⟩, st2153⟩ := X2063.interfaceBack hx (xi := yN60) (y := yN13) hown (mvT hZ (own_k hw 348 rfl)) (mvT hZ (own_k hw 349 rfl)) (mvT hZ (own_k hw 350 rfl)) (mvT hZ (own_k hw 351 rfl)) (mvT hZ (own_k hw 352 rfl)) (mvT hZ (own_k hw 353 rfl)) (mvT hZ (own_k hw 354 rfl)) (mvT hZ (own_k hw 355 rfl)) (by decide) (backOf (W := 0) (own_hnF l Z a0 hw [] it_2052 li cu bl.length h2063 n0 Z2063 F2079 F2080 F2077 hce) hZ (own_k hw 356 rfl) (own_k hw 335 rfl) (by decide) (by decide)) qa2154 qb2154 qc2154 (g := (mkF m 55 #[oR a, oJ qn, oJ wn, .val .null, .val .null, oR sh, oR it_2052, sv2063_7] [(.ref it_2052)])) rfl hml.symm (Steps.refl _) (argsL := []) (rest := []) (lenOf own_pd22 rfl) rfl (own_w0 rfl rfl) (hb hby d36_55) (fun _ _ => ⟨rfl, e2063, (by show _ + 0 ≤ (10 : Nat); (try dsimp only [Pt.cells, Pt.slots]); omega), (by show _ + 0 ≤ (60 : Nat); (try dsimp only [Pt.cells, Pt.slots]); omega)⟩)
   dsimp only [Pt.U, Pt.locs, Pt.cells, Pt.slots] at X2153 l2153 y2153 z2153 st2153 hQ2153
   subst l2153 y2153 z2153
   obtain ⟨rfl, N2153, e2153⟩ := hQ2153
   have N2155 := Fr.app N2063 N2153
   refine own_tr st2153 ?_
   refine own_st (g' := (mkF m 87 #[oR a, oJ qn, oJ wn, .val .null, .val .null, oR sh, oR it_2052, sv2063_7] [(.ref a)])) (fun _ kt => XS.ifYes X2153.here hx rfl (pc0 := 60) (pc' := 86) rfl (hb hby d36_60) rfl (XT.i0_eq_t (by decide)) (by decide) (by decide) (XS.aloadN X2153.here hx rfl (hb hby d36_86) rfl rfl kt)) ?_
   obtain ⟨T2156, X2156, e2156, st2156⟩ := getF X2153 hx hZ hown (host := "") (Or.inl (own_k hw 165 rfl)) Via.refl e2153 F2066 (g := (mkF m 87 #[oR a, oJ qn, oJ wn, .val .null, .val .null, oR sh, oR it_2052, sv2063_7] [(.ref a)])) rfl rfl (hb hby d36_87)
   refine own_st st2156 ?_
   refine own_st (g' := (mkF m 91 #[oR a, oJ qn, oJ wn, .val .null, .val .null, oR sh, oR it_2052, sv2063_7] [vJ qn, (.ref re)])) (fun _ kt => XS.iloadN X2156.here hx rfl (hb hby d36_90) rfl kt) ?_
   obtain ⟨cq2158, kq2158, qa2158, qb2158, qc2158⟩ := isOf hZ e2156 F2068
   obtain ⟨_, _, ⟨T2157, L2157, k2157, n2157⟩, -, X2157, ⟨Lc2157, hQ2157, l2157, y2157, z2157⟩, st2157⟩ := X2156.virtualBack hx (y := yN26) (z := yN26) hown (mvT hZ (own_k hw 360 rfl)) (mvT hZ (own_k hw 361 rfl)) (notFace_of_selects (args := #[]) (mvT hZ (own_k hw 363 rfl))) (mvT hZ (own_k hw 363 rfl)) (mvT hZ (own_k hw 362 rfl)) (by decide) (backOf (W := 0) (own_kfr l Z a0 hw [] re db kdb np qn h2063 n0 Z2063 F2068 F2069 F2070 pr15 pr3 hv9 hv6) hZ (own_k hw 364 rfl) (own_k hw 82 rfl) (by decide) (by decide)) qa2158 qc2158 (g := (mkF m 91 #[oR a, oJ qn, oJ wn, .val .null, .val .null, oR sh, oR it_2052, sv2063_7] [vJ qn, (.ref re)])) rfl hml.symm (Steps.refl _) (argsL := [vJ qn]) (rest := []) (lenOf own_pd4 rfl) rfl (own_w0 rfl rfl) (hb hby d36_91) (fun _ _ => ⟨rfl, e2156, (by show _ + 1 ≤ (10 : Nat); (try dsimp only [Pt.cells, Pt.slots]); omega), (by show _ + 1 ≤ (60 : Nat); (try dsimp only [Pt.cells, Pt.slots]); omega)⟩)
   dsimp only [Pt.U, Pt.locs, Pt.cells, Pt.slots] at X2157 l2157 y2157 z2157 st2157 hQ2157
   subst l2157 y2157 z2157
   obtain ⟨rfl, N2157, K2157_⟩ := hQ2157
   have N2159 := Fr.app N2155 N2157
   have Z2160 := Nat.le_trans Z2063 K2157_.1
   have K2_2160 := (Keep.trans K2_2152 K2157_ (allS (Or.inl (List.mem_of_getElem? (i := 0) rfl)) all0))
   refine own_tr st2157 ?_
   obtain ⟨T2161, h2161, X2161, e2161, E2161, A2161, D2161, -, st2161⟩ := newO X2157 hx hZ hown (own_k hw 386 rfl) (own_k hw 387 rfl) (own_k hw 388 rfl) rfl (g := (mkF m 94 #[oR a, oJ qn, oJ wn, .val .null, .val .null, oR sh, oR it_2052, sv2063_7] [])) rfl (hb hby d36_94) (by show _ ≤ (10 : Nat); (try dsimp only [Pt.cells, Pt.slots]); omega) (by show _ ≤ (60 : Nat); (try dsimp only [Pt.cells, Pt.slots]); omega)
   obtain ⟨b2161, g2161⟩ : ∃ z, z = T2157.heap.size := ⟨_, rfl⟩
   rw [← g2161] at A2161 D2161 st2161
   have Z2162 := Nat.le_trans Z2160 E2161.1
   have K2_2162 := (Keep.ext K2_2160 E2161)
   have ge_b2161 : n0 ≤ b2161 := Nat.le_trans Z2160 (Nat.le_of_eq g2161.symm)
   have F2163 : Fld Z h2161 b2161 zC15 "partition" "I" (.int 0) := D2161 (Or.inr (own_k hw 404 rfl)) (ty := .int) (by decide)
   have F2164 : Fld Z h2161 b2161 zC15 "written" "Z" (.int 0) := D2161 (Or.inr (own_k hw 406 rfl)) (ty := .boolean) (by decide)
   have F2165 : Fld Z h2161 b2161 zC15 "writtenTo" "J" (.long (0 : Int64)) := D2161 (Or.inr (own_k hw 408 rfl)) (ty := .long) (by decide)
   have F2166 : Fld Z h2161 b2161 zC15 "first" "I" (.int 0) := D2161 (Or.inr (own_k hw 410 rfl)) (ty := .int) (by decide)
   have F2167 : Fld Z h2161 b2161 zC15 "second" "I" (.int 0) := D2161 (Or.inr (own_k hw 412 rfl)) (ty := .int) (by decide)
   have F2168 : Fld Z h2161 b2161 zC15 "from" "J" (.long (0 : Int64)) := D2161 (Or.inr (own_k hw 414 rfl)) (ty := .long) (by decide)
   refine own_st st2161 ?_
   refine own_st (g' := (mkF m 101 #[oR a, oJ qn, oJ wn, .val .null, .val .null, oR sh, oR it_2052, sv2063_7] [(.ref sh), vJ qn, (.ref b2161), (.ref b2161)])) (fun _ kt => XS.dup X2161.here hx rfl (hb hby d36_97) rfl rfl (XS.iloadN X2161.here hx rfl (hb hby d36_98) rfl (XS.aload X2161.here hx rfl (hb hby d36_99) rfl rfl kt))) ?_
   have ne2169 : sh ≠ db := (Exa.neArv s0 pr14 (own_k hw 257 rfl))
   have F2170 := (Fld.keep F2072 K2_2162 (ninS ne2169 nin0))
   obtain ⟨T2171, X2171, e2171, st2171⟩ := getF X2161 hx hZ hown (host := "") (Or.inl (own_k hw 389 rfl)) Via.refl e2161 F2170 (g := (mkF m 101 #[oR a, oJ qn, oJ wn, .val .null, .val .null, oR sh, oR it_2052, sv2063_7] [(.ref sh), vJ qn, (.ref b2161), (.ref b2161)])) rfl rfl (hb hby d36_101)
   refine own_st st2171 ?_
   refine own_st (g' := (mkF m 106 #[oR a, oJ qn, oJ wn, .val .null, .val .null, oR sh, oR it_2052, sv2063_7] [(.ref sh), (.int 0), vJ qn, (.ref b2161), (.ref b2161)])) (fun _ kt => XS.aload X2171.here hx rfl (hb hby d36_104) rfl rfl kt) ?_
   have F2172 := (Fld.keep F2073 K2_2162 (ninS ne2169 nin0))
   obtain ⟨T2173, X2173, e2173, st2173⟩ := getF X2171 hx hZ hown (host := "") (Or.inl (own_k hw 391 rfl)) Via.refl e2171 F2172 (g := (mkF m 106 #[oR a, oJ qn, oJ wn, .val .null, .val .null, oR sh, oR it_2052, sv2063_7] [(.ref sh), (.int 0), vJ qn, (.ref b2161), (.ref b2161)])) rfl rfl (hb hby d36_106)
   refine own_st st2173 ?_
   refine own_st (g' := (mkF m 139 #[oR a, oJ qn, oJ wn, .val .null, .val .null, oR sh, oR it_2052, sv2063_7] [(.int 0), (.int 0), (.long (0 : Int64)), (.int 0), vJ qn, (.ref b2161), (.ref b2161)])) (fun _ kt => XS.aloadN X2173.here hx rfl (hb hby d36_109) rfl rfl (XT.ifnonnullNo X2173.here hx rfl (hb hby d36_110) rfl (XS.iconst X2173.here hx rfl (hb hby d36_113) (XS.goto X2173.here hx rfl (pc0 := 114) (pc' := 121) rfl (hb hby d36_114) (by decide) (by decide) (XS.aload X2173.here hx rfl (hb hby d36_121) rfl rfl (XT.ifnonnullNo X2173.here hx rfl (hb hby d36_123) rfl (XS.iconst X2173.here hx rfl (hb hby d36_126) (XS.goto X2173.here hx rfl (pc0 := 127) (pc' := 135) rfl (hb hby d36_127) (by decide) (by decide) (XS.aloadN X2173.here hx rfl (hb hby d36_135) rfl rfl (XT.ifnonnullNo X2173.here hx rfl (hb hby d36_136) rfl kt)))))))))) ?_
   refine own_st (g' := (mkF m 142 #[oR a, oJ qn, oJ wn, .val .null, .val .null, oR sh, oR it_2052, sv2063_7] [(.long (-9223372036854775808 : Int64)), (.int 0), (.int 0), (.long (0 : Int64)), (.int 0), vJ qn, (.ref b2161), (.ref b2161)])) (Stand.ldc2Long X2173 hx hown (mvT hZ (own_k hw 393 rfl)) (g := (mkF m 139 #[oR a, oJ qn, oJ wn, .val .null, .val .null, oR sh, oR it_2052, sv2063_7] [(.int 0), (.int 0), (.long (0 : Int64)), (.int 0), vJ qn, (.ref b2161), (.ref b2161)])) rfl (hb hby d36_139)) ?_
   refine own_st (g' := (mkF m 149 #[oR a, oJ qn, oJ wn, .val .null, .val .null, oR sh, oR it_2052, sv2063_7] [(.long (-9223372036854775808 : Int64)), (.int 0), (.int 0), (.long (0 : Int64)), (.int 0), vJ qn, (.ref b2161), (.ref b2161)])) (fun _ kt => XS.goto X2173.here hx rfl (pc0 := 142) (pc' := 149) rfl (hb hby d36_142) (by decide) (by decide) kt) ?_
   obtain ⟨_, _, ⟨T2174, L2174, k2174, n2174⟩, -, X2174, ⟨Lc2174, hQ2174, l2174, y2174, z2174⟩, st2174⟩ := X2173.specialBack hx (y := yN37) rfl hown (mvT hZ (own_k hw 394 rfl)) (mvT hZ (own_k hw 395 rfl)) (mvT hZ (own_k hw 396 rfl)) (by decide) (backOf (W := 1) (own_ado l Z a0 hw [] b2161 (Int32.ofNat qn) (0 : Int64) (0 : Int32) (0 : Int32) (-9223372036854775808 : Int64) h2161 n0 Z2162 A2161 ge_b2161 F2163 F2164 F2165 F2166 F2167 F2168) hZ (own_k hw 396 rfl) (own_k hw 388 rfl) (by decide) (by decide)) (g := (mkF m 149 #[oR a, oJ qn, oJ wn, .val .null, .val .null, oR sh, oR it_2052, sv2063_7] [(.long (-9223372036854775808 : Int64)), (.int 0), (.int 0), (.long (0 : Int64)), (.int 0), vJ qn, (.ref b2161), (.ref b2161)])) rfl hml.symm (Steps.refl _) (a := b2161) (argsL := [vJ qn, (.int 0), (.long (0 : Int64)), (.int 0), (.int 0), (.long (-9223372036854775808 : Int64))]) (rest := [(.ref b2161)]) (lenOf own_pd24 rfl) rfl (own_w0 rfl rfl) (hb hby d36_149) (fun _ _ => ⟨rfl, e2173, (by show _ + 0 ≤ (10 : Nat); (try dsimp only [Pt.cells, Pt.slots]); omega), (by show _ + 0 ≤ (60 : Nat); (try dsimp only [Pt.cells, Pt.slots]); omega)⟩)
   dsimp only [Pt.U, Pt.locs, Pt.cells, Pt.slots] at X2174 l2174 y2174 z2174 st2174 hQ2174
   subst l2174 y2174 z2174
   obtain ⟨rfl, N2174, K2174_, P2175⟩ := hQ2174
   have N2176 := Fr.app N2159 N2174
   have Z2177 := Nat.le_trans Z2162 K2174_.1
   have K2_2177 := (Keep.trans K2_2162 K2174_ (allS (Or.inr (Nat.le_trans K2_2160.1 (Nat.le_of_eq g2161.symm))) all0))
   refine own_tr st2174 ?_
   have Q2178 : own_OW Z T2174.heap np vs (fun zy => Int32.ofNat (own_gf np nw gg qn wn zy)) := (own_OW_keep F2085 K2_2177 (allS (fun s E => Exa.neArv E F2070 (own_k hw 257 rfl)) all0))
   obtain ⟨fs, hr, hrun, hended, hW, hsame⟩ := X2174.leave (v := some (.ref b2161)) (fun h => by rw [Bd.returns] at h; cases h)
   refine own_end (own_retA X2174 hx Bd.returns rfl rfl rfl (hb hby d36_152) hr) ⟨_, hrun, hended, _, _, rfl, ?_, ⟨_, rfl⟩, hW, hsame.mono (by show _ ≤ (10 : Nat); (try dsimp only [Pt.cells, Pt.slots]); omega) (by show _ ≤ (60 : Nat); (try dsimp only [Pt.cells, Pt.slots]); omega)⟩
   have F2179 := (Old.keep O2063 K2_2177 (allS pr3 all0))
   have F2180 := (Exa.keep F2064 K2_2177)
   have ne2181 : a ≠ db := (Exa.neArv pr5 pr14 (own_k hw 2 rfl))
   have F2182 := (Fld.keep F2065 K2_2177 (ninS ne2181 nin0))
   have F2183 := (Arv.keep F2067 K2_2177 (ninS pr4 nin0))
   show own_gvQ Z _ _ _ _ _ _ _ _ _ _ _ _ _ _ _ _ _ _ h0 n0 _ T2174.heap _
   show own_gvQ Z _ _ _ _ _ _ _ _ _ _ _ _ _ _ _ _ _ _ h0 n0 _ T2174.heap _
   exact ⟨b2161, rfl, N2176, F2179, F2180, F2182, F2183, Q2178, Z2177⟩
 ·
  have F2184 := (Exa.keep (Exa.wr W2042 F2041) K2052_)
  have F2185 := (Fld.keep (Fld.other W2042 F2034 (Or.inr (slot_ne (Or.inl (own_k hw 268 rfl)) (Or.inl (own_k hw 323 rfl)) (by decide) (t := .int) (t' := .int) (by decide) (by decide)))) K2052_ nin0)
  have Q2186 : own_OW Z T2052.heap np vs (fun zy => Int32.ofNat (own_gf np nw gg qn wn zy)) := (own_S_gv pr17 K2_2061 hv10 hv9 hsh (allS (Or.inr fun s E => ne_exa E hB6 (by decide)) (allS (Or.inr fun s E => Exa.neArv E hB10 (own_k hw 257 rfl)) (allS (Or.inl rfl) all0))) F2184 F2185)
  have Q2187 : own_ea Z T2052.heap n1 ee ke bl := (own_ea_keep hA K2_2061 (allS (Or.inl (by omega)) (allS (Or.inl (by omega)) (allS (Or.inr ⟨_, _, ⟨_, (own_k hw 257 rfl)⟩, s0⟩) all0))))
  have Q2188 : own_bks_ Z T2052.heap n1 bl := (own_bks_keep hB K2_2061 (allS (Or.inl (by omega)) (allS (Or.inl (by omega)) (allS (Or.inr ⟨_, by decide, by decide, s0⟩) all0))))
  have F2189 := (Old.keep pr1 K2_2061 (allS ge_ba (allS ge_bt (allS ge_sh all0))))
  have F2190 := (Exa.keep pr5 K2_2061)
  have F2191 := (Fld.keep pr6 K2_2061 (ninS ne2037 (ninS ne2036 (ninS ne2035 nin0))))
  have F2192 := (Fld.keep pr8 K2_2061 (ninS ne2037 (ninS ne2036 (ninS ne2035 nin0))))
  have ne2193 : sh ≠ sa := (Exa.neArv s0 pr10 (own_k hw 257 rfl))
  have ne2194 : ba ≠ sa := (Exa.neArv hB6 pr10 (own_k hw 229 rfl))
  have F2195 := (Arv.keep pr10 K2_2061 (ninS (Ne.symm ne2194) (ninS ne2011 (ninS (Ne.symm ne2193) nin0))))
  have F2196 := (Exa.keep pr12 K2_2061)
  have ne2197 : re ≠ sh := (ne_exa pr12 s0 (by decide))
  have ne2198 : re ≠ bt := (Exa.neArv pr12 hB10 (own_k hw 81 rfl))
  have ne2199 : re ≠ ba := (ne_exa pr12 hB6 (by decide))
  have F2200 := (Fld.keep pr13 K2_2061 (ninS ne2199 (ninS ne2198 (ninS ne2197 nin0))))
  have ne2201 : sh ≠ db := (Exa.neArv s0 pr14 (own_k hw 257 rfl))
  have ne2202 : ba ≠ db := (Exa.neArv hB6 pr14 (own_k hw 229 rfl))
  have F2203 := (Arv.keep pr14 K2_2061 (ninS (Ne.symm ne2202) (ninS ne2013 (ninS (Ne.symm ne2201) nin0))))
  have F2204 := (Fld.keep (Fld.other W2042 (Fld.other W2032 (Fld.keep s4 K2018_ (ninS ne2029 (ninS ne2028 nin0))) (Or.inr (slot_ne (Or.inl (own_k hw 390 rfl)) (Or.inl (own_k hw 268 rfl)) (by decide) (t := .boolean) (t' := .int) (by decide) (by decide)))) (Or.inr (slot_ne (Or.inl (own_k hw 390 rfl)) (Or.inl (own_k hw 323 rfl)) (by decide) (t := .boolean) (t' := .int) (by decide) (by decide)))) K2052_ nin0)
  have F2205 := (Fld.keep (Fld.other W2042 (Fld.other W2032 (Fld.keep s5 K2018_ (ninS ne2029 (ninS ne2028 nin0))) (Or.inr (slot_ne (Or.inl (own_k hw 392 rfl)) (Or.inl (own_k hw 268 rfl)) (by decide) (t := .long) (t' := .int) (by decide) (by decide)))) (Or.inr (slot_ne (Or.inl (own_k hw 392 rfl)) (Or.inl (own_k hw 323 rfl)) (by decide) (t := .long) (t' := .int) (by decide) (by decide)))) K2052_ nin0)
  have F2206 := (Exa.keep F2047 K2052_)
  have F2207 := (Fld.keep F2051 K2052_ nin0)
  have F2208 := (Fld.keep r2 K2_2061 (ninS ne2050 (ninS ne2049 (ninS ne2048 nin0))))
  have F2209 := (Fld.keep r3 K2_2061 (ninS ne2050 (ninS ne2049 (ninS ne2048 nin0))))
  exact J2063 bl.length _ _ _ ⟨0, (-1 : Int32), Slot.unset⟩ ⟨N2060, Z2061, F2189, (Or.inl rfl), F2190, F2191, F2192, F2195, F2196, F2200, F2203, F2184, F2204, F2205, F2206, F2207, F2208, F2209, P2054, P2055, P2056, P2057, P2058, Q2187, Q2188, Q2186, ⟨Nat.zero_le _, rfl⟩⟩ (X2052.mono (by first | decide | exact Nat.le_add_right_of_le (by decide) | ((try dsimp only [Pt.cells, Pt.slots]); omega)) (by first | decide | exact Nat.le_add_right_of_le (by decide) | ((try dsimp only [Pt.cells, Pt.slots]); omega))) rfl
theorem own_nat {x : Int32} {k : Nat} (h0 : 0 ≤ x.toInt) (h1 : x.toInt < k) (hk : k ≤ 1000) : ∃ n, n < k ∧ x = Int32.ofNat n := ⟨x.toInt.toNat, by omega, by rw [← Int32.toInt_inj, own_ti (by omega)]; omega⟩
theorem own_addn {a b : Nat} (h : a + b ≤ 1000) : Int32.ofNat a + Int32.ofNat b = Int32.ofNat (a + b) := by
  rw [← Int32.toInt_inj, Int32.toInt_add, own_ti (by omega), own_ti (by omega), own_ti h, Int.bmod_eq_of_le (by omega) (by omega)]; omega
theorem own_rem {x : Int32} {k : Nat} (h0 : 0 ≤ x.toInt) (h1 : 1 ≤ k) (hk : k ≤ 1000) : ∃ n, n < k ∧ x - (x / Int32.ofNat k) * Int32.ofNat k = Int32.ofNat n := by
  have hy : (Int32.ofNat k).toInt = (k : Int) := own_ti hk
  have hm : Int32.ofNat k ≠ -1 := fun e => by
    have := congrArg Int32.toInt e
    rw [hy, show (-1 : Int32).toInt = -1 from rfl] at this; omega
  have hd := (c_idiv x (Int32.ofNat k) k hy hm).1 h0
  have hb : x.toInt < 2147483648 := by have := Int32.toInt_lt x; omega
  have h2 : x.toInt / (k : Int) * (k : Int) ≤ x.toInt := Int.ediv_mul_le _ (by omega)
  have h3 : 0 ≤ x.toInt / (k : Int) * (k : Int) := Int.mul_nonneg (Int.ediv_nonneg h0 (by omega)) (by omega)
  have hq : (x / Int32.ofNat k * Int32.ofNat k).toInt = x.toInt / (k : Int) * (k : Int) := by rw [Int32.toInt_mul, hd, hy, Int.bmod_eq_of_le (by omega) (by omega)]
  have e : (x - x / Int32.ofNat k * Int32.ofNat k).toInt = x.toInt % (k : Int) := by
    rw [Int32.toInt_sub, hq, Int.bmod_eq_of_le (by omega) (by omega), Int.emod_def, Int.mul_comm]
  exact own_nat (by rw [e]; exact Int.emod_nonneg _ (by omega)) (by rw [e]; exact Int.emod_lt_of_pos _ (by omega)) hk
theorem own_and (x : Int32) : 0 ≤ (x &&& (3 : Int32)).toInt ∧ (x &&& (3 : Int32)).toInt ≤ 3 := c_and x 3 (by decide)
theorem own_andM (x : Int32) : 0 ≤ (x &&& (2147483647 : Int32)).toInt := (c_and x 2147483647 (by decide)).1
theorem own_us (x : Int32) : 0 ≤ (XT.ushr x (1 : Int32)).toInt := by
  have := c_iushr x 1 1 (by decide) (by decide)
  show 0 ≤ ((x.toUInt32 >>> ((1 : Int32) &&& 31).toUInt32).toInt32).toInt
  rw [this]; omega
theorem own_wn (x : Int32) : ∃ n, 1 ≤ n ∧ n ≤ 4 ∧ (x &&& (3 : Int32)) + (1 : Int32) = Int32.ofNat n := by
  have b := own_and x
  obtain ⟨n, hn, e⟩ := own_nat (k := 4) b.1 (by omega) (by omega)
  exact ⟨n + 1, by omega, by omega, by rw [e, own_succ (by omega)]⟩
theorem own_pn (nw : Nat) (h : nw ≤ 4) (x : Int32) : ∃ n, nw ≤ n ∧ n ≤ 7 ∧ Int32.ofNat nw + (x &&& (3 : Int32)) = Int32.ofNat n := by
  have b := own_and x
  obtain ⟨n, hn, e⟩ := own_nat (k := 4) b.1 (by omega) (by omega)
  exact ⟨nw + n, by omega, by omega, by rw [e, own_addn (by omega)]⟩
theorem own_atk {np nw j : Nat} (h1 : 1 ≤ nw) (h2 : nw ≤ 4) (h3 : np ≤ 7) (h4 : j < np) : ¬ Int32.ofNat (own_on np nw j) < (1 : Int32) ∧ ¬ Int32.ofNat nw < Int32.ofNat (own_on np nw j) ∧ ¬ Int32.ofNat j < (Int32.ofNat (own_on np nw j) - (1 : Int32)) * Int32.ofNat np / Int32.ofNat nw ∧ Int32.ofNat j < Int32.ofNat (own_on np nw j) * Int32.ofNat np / Int32.ofNat nw := by
  have key : ∀ np : Fin 8, ∀ nw : Fin 5, ∀ j : Fin 8, 1 ≤ nw.val → j.val < np.val → ¬ Int32.ofNat (own_on np.val nw.val j.val) < (1 : Int32) ∧ ¬ Int32.ofNat nw.val < Int32.ofNat (own_on np.val nw.val j.val) ∧ ¬ Int32.ofNat j.val < (Int32.ofNat (own_on np.val nw.val j.val) - (1 : Int32)) * Int32.ofNat np.val / Int32.ofNat nw.val ∧ Int32.ofNat j.val < Int32.ofNat (own_on np.val nw.val j.val) * Int32.ofNat np.val / Int32.ofNat nw.val := by decide +kernel
  exact key ⟨np, by omega⟩ ⟨nw, by omega⟩ ⟨j, by omega⟩ h1 h4
theorem own_onat {j q : Nat} (h1 : j ≤ 1000) (h2 : q ≤ 1000) (h : Int32.ofNat j = Int32.ofNat q) : j = q := by
  have := congrArg Int32.toInt h
  rw [own_ti h1, own_ti h2] at this; omega
abbrev c33 := prog_112_method_12_code
theorem d33_0 : dk c33 0 (.aload_n 0) 1 := by decide +kernel
theorem d33_1 : dk c33 1 (.getfield 24) 3 := by decide +kernel
theorem d33_4 : dk c33 4 (.arraylength) 1 := by decide +kernel
theorem d33_5 : dk c33 5 (.newarray .int) 2 := by decide +kernel
theorem d33_7 : dk c33 7 (.astore_n 1) 1 := by decide +kernel
theorem d33_8 : dk c33 8 (.iconst 0) 1 := by decide +kernel
theorem d33_9 : dk c33 9 (.istore_n 2) 1 := by decide +kernel
theorem d33_10 : dk c33 10 (.iload_n 2) 1 := by decide +kernel
theorem d33_11 : dk c33 11 (.aload_n 0) 1 := by decide +kernel
theorem d33_12 : dk c33 12 (.getfield 24) 3 := by decide +kernel
theorem d33_15 : dk c33 15 (.arraylength) 1 := by decide +kernel
theorem d33_16 : dk c33 16 (.if_icmp .ge 21) 3 := by decide +kernel
theorem d33_19 : dk c33 19 (.aload_n 1) 1 := by decide +kernel
theorem d33_20 : dk c33 20 (.iload_n 2) 1 := by decide +kernel
theorem d33_21 : dk c33 21 (.aload_n 0) 1 := by decide +kernel
theorem d33_22 : dk c33 22 (.getfield 24) 3 := by decide +kernel
theorem d33_25 : dk c33 25 (.iload_n 2) 1 := by decide +kernel
theorem d33_26 : dk c33 26 (.aaload) 1 := by decide +kernel
theorem d33_27 : dk c33 27 (.getfield 92) 3 := by decide +kernel
theorem d33_30 : dk c33 30 (.iastore) 1 := by decide +kernel
theorem d33_31 : dk c33 31 (.iinc 2 1) 3 := by decide +kernel
theorem d33_34 : dk c33 34 (.goto (-24)) 3 := by decide +kernel
theorem d33_37 : dk c33 37 (.aload_n 1) 1 := by decide +kernel
theorem d33_38 : dk c33 38 (.areturn) 1 := by decide +kernel
def own_ownQ (Z : State) (a : Addr) (sa : Addr) (ks : ClassId) (vs : List Value) (np : Nat) (G : Nat → Int32) (h0 : Heap) (n0 : Nat) (v : Option Value) (h : Heap) (L : List Loc) : Prop := ∃ (ob : Addr), ∃ (ko : ClassId), ∃ (os : List Value), v = some (.ref ob) ∧ Fr n0 L ∧ Keep h0 h [] ∧ (Arv Z h ob ko .int (Int32.ofNat np) os (Value.int 0)) ∧ (os.length = np) ∧ (∀ zz, zz < np → os.getD zz (Value.int 0) = .int (G zz)) ∧ (h0.size ≤ ob)
abbrev own_ownR : Room := { frames := 0, cells := 1, slots := 7, locals := 0 }
theorem own_own (l : Launch) (Z : State) (a0 : Array Value) (hw : ∀ d ∈ tables_1, d.before a0 Z = true) (ws : List Jvm.Cond) (a : Addr) (sa : Addr) (ks : ClassId) (vs : List Value) (np : Nat) (G : Nat → Int32) (h0 : Heap) (n0 : Nat) (Z0 : n0 ≤ h0.size) (pr1 : Exa Z h0 a zC4) (pr2 : Fld Z h0 a zC4 "shares" zC19 (.ref sa)) (pr3 : Arv Z h0 sa ks (.object zC5) (Int32.ofNat np) vs .null) (pr4 : own_OW Z h0 np vs G) (pr5 : 1 ≤ np) (pr6 : np ≤ 7) :
    own_M l yN6 prog_112_method_12_code 3 (some (.array .int)) ws own_ownR #[(.ref a)] Z h0 (own_ownQ Z a sa ks vs np G h0 n0) := by
 refine own_go (plainFor_of_name own_pn24) (fun m => own_ef22 m a ) ?_
 intro p e s m below meth c s₁ Bd hx hby hml hZ hh hown hnm X0 e0
 have N0 := Fr.nil n0
 have K0 : Keep h0 h0 [] := Keep.refl h0 _
 have hp1 := pr5
 have hn7 := pr6
 have K2_2210 : Keep h0 h0 [] := Keep.refl _ _
 refine own_st (g' := (mkF m 1 #[oR a, .unset, .unset] [(.ref a)])) (fun _ kt => XS.aloadN X0.here hx rfl (hb hby d33_0) rfl rfl kt) ?_
 obtain ⟨T2211, X2211, e2211, st2211⟩ := getF X0 hx hZ hown (host := "") (Or.inl (own_k hw 65 rfl)) Via.refl e0 pr2 (g := (mkF m 1 #[oR a, .unset, .unset] [(.ref a)])) rfl rfl (hb hby d33_1)
 refine own_st st2211 ?_
 refine own_st (g' := (mkF m 5 #[oR a, .unset, .unset] [vJ np])) (own_alen X2211 hx hZ e2211 pr3 (g := (mkF m 4 #[oR a, .unset, .unset] [(.ref sa)])) rfl rfl (hb hby d33_4)) ?_
 obtain ⟨T2212, h2212, k2212, X2212, e2212, E2212, A2212, st2212⟩ := newP X2211 hx hZ (aty := .int) (own_k hw 21 rfl) e2211 (g := (mkF m 5 #[oR a, .unset, .unset] [vJ np])) rfl (hb hby d33_5) rfl (own_nn (by omega)) (cap := 7) (by rw [own_tn (by omega)]; omega) (by decide) (by decide) (by decide)
 obtain ⟨b2212, g2212⟩ : ∃ z, z = h0.size := ⟨_, rfl⟩
 rw [← g2212] at A2212 st2212
 have Z2213 := Nat.le_trans Z0 E2212.1
 have K2213 := (Keep.ext K0 E2212)
 have K2_2213 := (Keep.ext K2_2210 E2212)
 have ge_b2212 : n0 ≤ b2212 := Nat.le_trans Z0 (Nat.le_of_eq g2212.symm)
 have F2214 : Arv Z h2212 b2212 k2212 .int (Int32.ofNat np) (List.replicate np (Value.int 0)) (.int 0) := (Arv.new A2212 (own_nn (by omega))).pad (pad_rep [] (Value.int 0) np)
 refine own_st st2212 ?_
 refine own_st (g' := (mkF m 10 #[oR a, oR b2212, oI 0] [])) (fun _ kt => XS.astoreN X2212.here hx rfl (hb hby d33_7) rfl rfl (l' := #[oR a, oR b2212, .unset]) rfl (XS.iconst X2212.here hx rfl (hb hby d33_8) (XS.istoreN X2212.here hx rfl (hb hby d33_9) rfl (l' := #[oR a, oR b2212, oI 0]) rfl kt))) ?_
 refine own_loopH (α := Nat × List Value) X2212 (cs := fun kk => 1) (sl := fun kk => 7) (gj := fun q => (mkF m 10 #[oR a, oR b2212, oJ q.1] [])) (P := fun kk L_ h_ q => (Fr n0 L_) ∧ (n0 ≤ h_.size) ∧ (Keep h0 h_ []) ∧ (Exa Z h_ a zC4) ∧ (Fld Z h_ a zC4 "shares" zC19 (.ref sa)) ∧ (Arv Z h_ sa ks (.object zC5) (Int32.ofNat np) vs .null) ∧ (Arv Z h_ b2212 k2212 .int (Int32.ofNat np) q.2 (Value.int 0)) ∧ (own_OW Z h_ np vs G) ∧ (q.2.length = np ∧ q.1 ≤ np ∧ (∀ j, j < q.1 → q.2.getD j (Value.int 0) = .int (G j)) ∧ np - q.1 = kk)) ?_ (fun J2215 => ?_)
 ·
  rintro kk ih2215 T2215 L2215 h2215 ⟨i, os⟩ ⟨N2215, Z2215, K2215, F2216, F2217, F2218, F2219, F2220, hj2215⟩ X2215 e2215
  try dsimp only at F2216 F2217 F2218 F2219 F2220 hj2215 X2215 ⊢
  have hj := hj2215
  have K2_2221 : Keep h2215 h2215 [b2212] := Keep.refl _ _
  refine own_st (g' := (mkF m 12 #[oR a, oR b2212, oJ i] [(.ref a), vJ i])) (fun _ kt => XS.iloadN X2215.here hx rfl (hb hby d33_10) rfl (XS.aloadN X2215.here hx rfl (hb hby d33_11) rfl rfl kt)) ?_
  obtain ⟨T2222, X2222, e2222, st2222⟩ := getF X2215 hx hZ hown (host := "") (Or.inl (own_k hw 65 rfl)) Via.refl e2215 F2217 (g := (mkF m 12 #[oR a, oR b2212, oJ i] [(.ref a), vJ i])) rfl rfl (hb hby d33_12)
  refine own_st st2222 ?_
  refine own_st (g' := (mkF m 16 #[oR a, oR b2212, oJ i] [vJ np, vJ i])) (own_alen X2222 hx hZ e2222 F2218 (g := (mkF m 15 #[oR a, oR b2212, oJ i] [(.ref sa), vJ i])) rfl rfl (hb hby d33_15)) ?_
  by_cases hc2223 : (Int32.ofNat i) < (Int32.ofNat np)
  ·
   refine own_st (g' := (mkF m 19 #[oR a, oR b2212, oJ i] [])) (fun _ kt => XS.icmpNo X2222.here hx rfl (hb hby d33_16) rfl (XT.ii_ge_f hc2223) kt) ?_
   have hi1 : i < np := (own_ige (by omega) (by omega)).mp hc2223
   obtain ⟨sh, hs1, hs2, hs3⟩ := F2220 i hi1
   refine own_st (g' := (mkF m 22 #[oR a, oR b2212, oJ i] [(.ref a), vJ i, (.ref b2212)])) (fun _ kt => XS.aloadN X2222.here hx rfl (hb hby d33_19) rfl rfl (XS.iloadN X2222.here hx rfl (hb hby d33_20) rfl (XS.aloadN X2222.here hx rfl (hb hby d33_21) rfl rfl kt))) ?_
   obtain ⟨T2224, X2224, e2224, st2224⟩ := getF X2222 hx hZ hown (host := "") (Or.inl (own_k hw 65 rfl)) Via.refl e2222 F2217 (g := (mkF m 22 #[oR a, oR b2212, oJ i] [(.ref a), vJ i, (.ref b2212)])) rfl rfl (hb hby d33_22)
   refine own_st st2224 ?_
   refine own_st (g' := (mkF m 26 #[oR a, oR b2212, oJ i] [vJ i, (.ref sa), vJ i, (.ref b2212)])) (fun _ kt => XS.iloadN X2224.here hx rfl (hb hby d33_25) rfl kt) ?_
   refine own_st (g' := (mkF m 27 #[oR a, oR b2212, oJ i] [(.ref sh), vJ i, (.ref b2212)])) (own_aal X2224 hx hZ e2224 F2218 rfl (own_idx hi1 (by omega)) (by rw [own_tn (by omega)]; exact hs1) (g := (mkF m 26 #[oR a, oR b2212, oJ i] [vJ i, (.ref sa), vJ i, (.ref b2212)])) rfl rfl (hb hby d33_26)) ?_
   obtain ⟨T2225, X2225, e2225, st2225⟩ := getF X2224 hx hZ hown (host := "") (Or.inl (own_k hw 296 rfl)) Via.refl e2224 hs3 (g := (mkF m 27 #[oR a, oR b2212, oJ i] [(.ref sh), vJ i, (.ref b2212)])) rfl rfl (hb hby d33_27)
   refine own_st st2225 ?_
   obtain ⟨T2226, h2226, X2226, e2226, W2226, V2226, st2226⟩ := own_ist X2225 hx hZ e2225 F2219 (own_idx hi1 (by omega)) (i := i) (own_tn (by omega)) (by omega) (g := (mkF m 30 #[oR a, oR b2212, oJ i] [(.int (G i)), vJ i, (.ref b2212)])) rfl rfl (hb hby d33_30)
   have N2226 := Fr.snoc X2226 N2215 ge_b2212
   have Z2227 := Nat.le_trans Z2215 (Nat.le_of_eq (Wr.size W2226).symm)
   have K2227 := (Keep.wr K2215 W2226 (Or.inr (Nat.le_trans K0.1 (Nat.le_of_eq g2212.symm))))
   have K2_2227 := (Keep.wr K2_2221 W2226 (Or.inl (List.mem_of_getElem? (i := 0) rfl)))
   have F2228 : Arv Z h2226 b2212 k2212 .int (Int32.ofNat np) (os.set i (.int (G i))) (Value.int 0) := V2226
   refine own_st st2226 ?_
   refine own_st (g' := (mkF m 34 #[oR a, oR b2212, oI ((Int32.ofNat i) + (1 : Int32))] [])) (fun _ kt => XS.iinc X2226.here hx rfl (hb hby d33_31) rfl (l' := #[oR a, oR b2212, oI ((Int32.ofNat i) + (1 : Int32))]) rfl kt) ?_
   rw [own_succ (n := i) (by omega)]
   refine own_st (g' := (mkF m 10 #[oR a, oR b2212, oJ (i + 1)] [])) (fun _ kt => XS.goto X2226.here hx rfl (pc0 := 34) (pc' := 10) rfl (hb hby d33_34) (by decide) (by decide) kt) ?_
   have Q2229 : own_OW Z h2226 np vs G := (own_OW_keep F2220 K2_2227 (allS (fun s E => Exa.neArv E F2219 (own_k hw 257 rfl)) all0))
   have F2230 := (Exa.wr W2226 F2216)
   have ne2231 : a ≠ b2212 := (Nat.ne_of_lt (Nat.lt_of_lt_of_le pr1.lt (Nat.le_of_eq g2212.symm)))
   have F2232 := (Fld.other W2226 F2217 (Or.inl ne2231))
   have ne2233 : sa ≠ b2212 := (Nat.ne_of_lt (Nat.lt_of_lt_of_le pr3.lt (Nat.le_of_eq g2212.symm)))
   have F2234 := (Arv.other F2218 W2226 ne2233)
   exact ih2215 (np - (i + 1)) (by omega) _ _ _ ⟨(i + 1), (os.set i (.int (G i)))⟩ ⟨N2226, Z2227, K2227, F2230, F2232, F2234, F2228, Q2229, ⟨by rw [List.length_set]; exact hj.1, by omega, fun j hjj => if q : j = i then (by subst q; exact own_gs (by omega)) else (by rw [own_gn q]; exact hj.2.2.1 j (by omega)), rfl⟩⟩ (X2226.mono (by first | decide | exact Nat.le_add_right_of_le (by decide) | ((try dsimp only [Pt.cells, Pt.slots]); omega)) (by first | decide | exact Nat.le_add_right_of_le (by decide) | ((try dsimp only [Pt.cells, Pt.slots]); omega))) e2226
  ·
   refine own_st (g' := (mkF m 38 #[oR a, oR b2212, oJ i] [(.ref b2212)])) (fun _ kt => XS.icmpYes X2222.here hx rfl (pc0 := 16) (pc' := 37) rfl (hb hby d33_16) rfl (XT.ii_ge_t hc2223) (by decide) (by decide) (XS.aloadN X2222.here hx rfl (hb hby d33_37) rfl rfl kt)) ?_
   obtain ⟨fs, hr, hrun, hended, hW, hsame⟩ := X2222.leave (v := some (.ref b2212)) (fun h => by rw [Bd.returns] at h; cases h)
   refine own_end (own_retA X2222 hx Bd.returns rfl rfl rfl (hb hby d33_38) hr) ⟨_, hrun, hended, _, _, rfl, ?_, ⟨_, rfl⟩, hW, hsame.mono (by show _ ≤ (1 : Nat); (try dsimp only [Pt.cells, Pt.slots]); omega) (by show _ ≤ (7 : Nat); (try dsimp only [Pt.cells, Pt.slots]); omega)⟩
   show own_ownQ Z _ _ _ _ _ _ h0 n0 _ T2222.heap _
   rw [e2222]
   exact ⟨b2212, k2212, os, rfl, N2215, K2215, F2219, hj.1, (fun j hjj => hj.2.2.1 j (by have hi3 : ¬ i < np := fun g => hc2223 ((own_ige (by omega) (by omega)).mpr g); omega)), (Nat.le_trans K0.1 (Nat.le_of_eq g2212.symm))⟩
 ·
  have Q2235 : own_OW Z h2212 np vs G := (own_OW_keep pr4 K2_2213 all0)
  have F2236 := (Exa.ext E2212 pr1)
  have F2237 := (Fld.ext E2212 pr2)
  have F2238 := (pr3.ext E2212)
  exact J2215 np _ _ _ ⟨0, (List.replicate np (Value.int 0))⟩ ⟨N0, Z2213, K2213, F2236, F2237, F2238, F2214, Q2235, ⟨List.length_replicate .., Nat.zero_le _, fun j hj => absurd hj (Nat.not_lt_zero _), rfl⟩⟩ (X2212.mono (by first | decide | exact Nat.le_add_right_of_le (by decide) | ((try dsimp only [Pt.cells, Pt.slots]); omega)) (by first | decide | exact Nat.le_add_right_of_le (by decide) | ((try dsimp only [Pt.cells, Pt.slots]); omega))) e2212
abbrev c35 := method_4_code
theorem d35_0 : dk c35 0 (.iload_n 1) 1 := by decide +kernel
theorem d35_1 : dk c35 1 (.iload_n 2) 1 := by decide +kernel
theorem d35_2 : dk c35 2 (.if_icmp .lt 5) 3 := by decide +kernel
theorem d35_7 : dk c35 7 (.aload_n 0) 1 := by decide +kernel
theorem d35_8 : dk c35 8 (.iload_n 1) 1 := by decide +kernel
theorem d35_9 : dk c35 9 (.iaload) 1 := by decide +kernel
theorem d35_10 : dk c35 10 (.istore 7) 2 := by decide +kernel
theorem d35_36 : dk c35 36 (.iload 7) 2 := by decide +kernel
theorem d35_38 : dk c35 38 (.iconst 1) 1 := by decide +kernel
theorem d35_39 : dk c35 39 (.if_icmp .lt 35) 3 := by decide +kernel
theorem d35_42 : dk c35 42 (.iload 7) 2 := by decide +kernel
theorem d35_44 : dk c35 44 (.iload_n 3) 1 := by decide +kernel
theorem d35_45 : dk c35 45 (.if_icmp .gt 29) 3 := by decide +kernel
theorem d35_48 : dk c35 48 (.iload 7) 2 := by decide +kernel
theorem d35_50 : dk c35 50 (.iconst 1) 1 := by decide +kernel
theorem d35_51 : dk c35 51 (.isub) 1 := by decide +kernel
theorem d35_52 : dk c35 52 (.iload_n 2) 1 := by decide +kernel
theorem d35_53 : dk c35 53 (.imul) 1 := by decide +kernel
theorem d35_54 : dk c35 54 (.iload_n 3) 1 := by decide +kernel
theorem d35_55 : dk c35 55 (.idiv) 1 := by decide +kernel
theorem d35_56 : dk c35 56 (.iload_n 1) 1 := by decide +kernel
theorem d35_57 : dk c35 57 (.if_icmp .gt 17) 3 := by decide +kernel
theorem d35_60 : dk c35 60 (.iload_n 1) 1 := by decide +kernel
theorem d35_61 : dk c35 61 (.iload 7) 2 := by decide +kernel
theorem d35_63 : dk c35 63 (.iload_n 2) 1 := by decide +kernel
theorem d35_64 : dk c35 64 (.imul) 1 := by decide +kernel
theorem d35_65 : dk c35 65 (.iload_n 3) 1 := by decide +kernel
theorem d35_66 : dk c35 66 (.idiv) 1 := by decide +kernel
theorem d35_67 : dk c35 67 (.if_icmp .ge 7) 3 := by decide +kernel
theorem d35_70 : dk c35 70 (.iconst 1) 1 := by decide +kernel
theorem d35_71 : dk c35 71 (.goto 4) 3 := by decide +kernel
theorem d35_75 : dk c35 75 (.ireturn) 1 := by decide +kernel
theorem d35_12 : dk c35 12 (.iload 4) 2 := by decide +kernel
theorem d35_14 : dk c35 14 (.ifCond .eq 22) 3 := by decide +kernel
theorem d35_17 : dk c35 17 (.iload_n 1) 1 := by decide +kernel
theorem d35_18 : dk c35 18 (.iload 5) 2 := by decide +kernel
theorem d35_20 : dk c35 20 (.if_icmp .ne 16) 3 := by decide +kernel
theorem d35_23 : dk c35 23 (.iload 7) 2 := by decide +kernel
theorem d35_25 : dk c35 25 (.iload 6) 2 := by decide +kernel
theorem d35_27 : dk c35 27 (.if_icmp .ne 7) 3 := by decide +kernel
theorem d35_30 : dk c35 30 (.iconst 1) 1 := by decide +kernel
theorem d35_31 : dk c35 31 (.goto 4) 3 := by decide +kernel
theorem d35_35 : dk c35 35 (.ireturn) 1 := by decide +kernel
theorem d35_5 : dk c35 5 (.iconst 1) 1 := by decide +kernel
theorem d35_6 : dk c35 6 (.ireturn) 1 := by decide +kernel
theorem own_ef24 (m : MethodId) (x0 : Addr) (x1 : Int32) (x2 : Int32) (x3 : Int32) (x4 : Int32) (x5 : Int32) (x6 : Int32) : entryFrame m #[(.ref x0), (.int x1), (.int x2), (.int x3), (.int x4), (.int x5), (.int x6)] 8 = mkF m 0 #[.val (.ref x0), .val (.int x1), .val (.int x2), .val (.int x3), .val (.int x4), .val (.int x5), .val (.int x6), .unset] [] := by first | (simp [entryFrame, mkF, argsToLocals, Value.category]; done) | rfl
def own_atQ (Z : State) (b : Addr) (kb : ClassId) (us : List Value) (np : Nat) (nw : Nat) (gg : Int32) (qn : Nat) (wn : Nat) (jn : Nat) (h0 : Heap) (n0 : Nat) (v : Option Value) (h : Heap) (L : List Loc) : Prop := v = some (.int 1) ∧ Fr n0 L ∧ h = h0
theorem own_pn26 : plainName "com/example/millrace/millrace/cluster/SharesOwnersPinLaw" = true := by first | (simp [plainName, overriddenIn]; done) | decide +kernel
abbrev own_atR : Room := { frames := 0, cells := 0, slots := 0, locals := 0 }
theorem own_at (l : Launch) (Z : State) (a0 : Array Value) (hw : ∀ d ∈ tables_1, d.before a0 Z = true) (ws : List Jvm.Cond) (b : Addr) (kb : ClassId) (us : List Value) (np : Nat) (nw : Nat) (gg : Int32) (qn : Nat) (wn : Nat) (jn : Nat) (h0 : Heap) (n0 : Nat) (Z0 : n0 ≤ h0.size) (pr1 : Arv Z h0 b kb .int (Int32.ofNat np) us (Value.int 0)) (pr2 : ∀ zz, zz < np → us.getD zz (Value.int 0) = .int (Int32.ofNat (own_gf np nw gg qn wn zz))) (pr3 : np ≤ 7) (pr4 : 1 ≤ nw) (pr5 : nw ≤ 4) (pr6 : qn < np) (pr7 : jn ≤ 7) :
    own_M l yN0 method_4_code 8 (some .boolean) ws own_atR #[(.ref b), (.int (Int32.ofNat jn)), (.int (Int32.ofNat np)), (.int (Int32.ofNat nw)), (.int gg), (.int (Int32.ofNat qn)), (.int (Int32.ofNat wn))] Z h0 (own_atQ Z b kb us np nw gg qn wn jn h0 n0) := by
 refine own_go (plainFor_of_name own_pn26) (fun m => own_ef24 m b (Int32.ofNat jn) (Int32.ofNat np) (Int32.ofNat nw) gg (Int32.ofNat qn) (Int32.ofNat wn) ) ?_
 intro p e s m below meth c s₁ Bd hx hby hml hZ hh hown hnm X0 e0
 have N0 := Fr.nil n0
 have ha0 := pr2
 have ha1 := pr3
 have ha2 := pr4
 have ha3 := pr5
 have ha4 := pr6
 have ha5 := pr7
 refine own_st (g' := (mkF m 2 #[oR b, oJ jn, oJ np, oJ nw, oI gg, oJ qn, oJ wn, .unset] [vJ np, vJ jn])) (fun _ kt => XS.iloadN X0.here hx rfl (hb hby d35_0) rfl (XS.iloadN X0.here hx rfl (hb hby d35_1) rfl kt)) ?_
 by_cases hc2239 : (Int32.ofNat jn) < (Int32.ofNat np)
 ·
  have hjn : jn < np := (own_ige (by omega) (by omega)).mp hc2239
  refine own_st (g' := (mkF m 9 #[oR b, oJ jn, oJ np, oJ nw, oI gg, oJ qn, oJ wn, .unset] [vJ jn, (.ref b)])) (fun _ kt => XS.icmpYes X0.here hx rfl (pc0 := 2) (pc' := 7) rfl (hb hby d35_2) rfl (XT.ii_lt_t hc2239) (by decide) (by decide) (XS.aloadN X0.here hx rfl (hb hby d35_7) rfl rfl (XS.iloadN X0.here hx rfl (hb hby d35_8) rfl kt))) ?_
  refine own_st (g' := (mkF m 10 #[oR b, oJ jn, oJ np, oJ nw, oI gg, oJ qn, oJ wn, .unset] [vJ (own_gf np nw gg qn wn jn)])) (own_ial X0 hx hZ e0 pr1 (own_idx hjn (by omega)) (by rw [own_tn (by omega)]; exact ha0 jn hjn) (g := (mkF m 9 #[oR b, oJ jn, oJ np, oJ nw, oI gg, oJ qn, oJ wn, .unset] [vJ jn, (.ref b)])) rfl rfl (hb hby d35_9)) ?_
  refine own_st (g' := (mkF m 12 #[oR b, oJ jn, oJ np, oJ nw, oI gg, oJ qn, oJ wn, oJ (own_gf np nw gg qn wn jn)] [])) (fun _ kt => XS.istore X0.here hx rfl (hb hby d35_10) rfl (l' := #[oR b, oJ jn, oJ np, oJ nw, oI gg, oJ qn, oJ wn, oJ (own_gf np nw gg qn wn jn)]) rfl kt) ?_
  obtain ⟨og, hog⟩ : ∃ z, z = own_gf np nw gg qn wn jn := ⟨_, rfl⟩
  rw [← hog]
  refine own_join (α := Unit) (gj := fun q => (mkF m 36 #[oR b, oJ jn, oJ np, oJ nw, oI gg, oJ qn, oJ wn, oJ og] [])) (P := fun q => og = own_on np nw jn) ?_ (fun J2240 => ?_)
  ·
   rintro _ hj2240
   try dsimp only at hj2240 ⊢
   have hk := own_atk ha2 ha3 ha1 hjn
   rw [← hj2240] at hk
   refine own_st (g' := (mkF m 55 #[oR b, oJ jn, oJ np, oJ nw, oI gg, oJ qn, oJ wn, oJ og] [vJ nw, (.int (((Int32.ofNat og) - (1 : Int32)) * (Int32.ofNat np)))])) (fun _ kt => XS.iload X0.here hx rfl (hb hby d35_36) rfl (XS.iconst X0.here hx rfl (hb hby d35_38) (XS.icmpNo X0.here hx rfl (hb hby d35_39) rfl (XT.ii_lt_f hk.1) (XS.iload X0.here hx rfl (hb hby d35_42) rfl (XS.iloadN X0.here hx rfl (hb hby d35_44) rfl (XS.icmpNo X0.here hx rfl (hb hby d35_45) rfl (XT.ii_gt_f hk.2.1) (XS.iload X0.here hx rfl (hb hby d35_48) rfl (XS.iconst X0.here hx rfl (hb hby d35_50) (XS.isub X0.here hx rfl (hb hby d35_51) rfl (XS.iloadN X0.here hx rfl (hb hby d35_52) rfl (XS.imul X0.here hx rfl (hb hby d35_53) rfl (XS.iloadN X0.here hx rfl (hb hby d35_54) rfl kt)))))))))))) ?_
   refine own_st (g' := (mkF m 75 #[oR b, oJ jn, oJ np, oJ nw, oI gg, oJ qn, oJ wn, oJ og] [(.int 1)])) (fun _ kt => XS.idiv X0.here hx rfl (hb hby d35_55) rfl (own_nz ha2 (by omega)) (XS.iloadN X0.here hx rfl (hb hby d35_56) rfl (XS.icmpNo X0.here hx rfl (hb hby d35_57) rfl (XT.ii_gt_f hk.2.2.1) (XS.iloadN X0.here hx rfl (hb hby d35_60) rfl (XS.iload X0.here hx rfl (hb hby d35_61) rfl (XS.iloadN X0.here hx rfl (hb hby d35_63) rfl (XS.imul X0.here hx rfl (hb hby d35_64) rfl (XS.iloadN X0.here hx rfl (hb hby d35_65) rfl (XS.idiv X0.here hx rfl (hb hby d35_66) rfl (own_nz ha2 (by omega)) (XS.icmpNo X0.here hx rfl (hb hby d35_67) rfl (XT.ii_ge_f hk.2.2.2) (XS.iconst X0.here hx rfl (hb hby d35_70) (XS.goto X0.here hx rfl (pc0 := 71) (pc' := 75) rfl (hb hby d35_71) (by decide) (by decide) kt)))))))))))) ?_
   obtain ⟨fs, hr, hrun, hended, hW, hsame⟩ := X0.leave (v := some (.int 1)) (fun h => by rw [Bd.returns] at h; cases h)
   refine own_end (retN X0 hx (t := .boolean) Bd.returns (by simp) (hb hby d35_75) hr) ⟨_, hrun, hended, _, _, rfl, ?_, ⟨_, rfl⟩, hW, hsame.mono (by decide) (by decide)⟩
   show own_atQ Z _ _ _ _ _ _ _ _ _ h0 n0 _ s₁.heap _
   rw [e0]
   exact ⟨rfl, N0, rfl⟩
  ·
   refine own_st (g' := (mkF m 14 #[oR b, oJ jn, oJ np, oJ nw, oI gg, oJ qn, oJ wn, oJ og] [(.int gg)])) (fun _ kt => XS.iload X0.here hx rfl (hb hby d35_12) rfl kt) ?_
   by_cases hc2241 : gg = 0
   ·
    refine own_st (g' := (mkF m 36 #[oR b, oJ jn, oJ np, oJ nw, oI gg, oJ qn, oJ wn, oJ og] [])) (fun _ kt => XS.ifYes X0.here hx rfl (pc0 := 14) (pc' := 36) rfl (hb hby d35_14) rfl (XT.i0_eq_t hc2241) (by decide) (by decide) kt) ?_
    exact J2240 () (by rw [hog, own_gf, if_pos hc2241])
   ·
    refine own_st (g' := (mkF m 20 #[oR b, oJ jn, oJ np, oJ nw, oI gg, oJ qn, oJ wn, oJ og] [vJ qn, vJ jn])) (fun _ kt => XS.ifNo X0.here hx rfl (hb hby d35_14) rfl (XT.i0_eq_f hc2241) (XS.iloadN X0.here hx rfl (hb hby d35_17) rfl (XS.iload X0.here hx rfl (hb hby d35_18) rfl kt))) ?_
    by_cases hc2242 : (Int32.ofNat jn) = (Int32.ofNat qn)
    ·
     refine own_st (g' := (mkF m 35 #[oR b, oJ jn, oJ np, oJ nw, oI gg, oJ qn, oJ wn, oJ og] [(.int 1)])) (fun _ kt => XS.icmpNo X0.here hx rfl (hb hby d35_20) rfl (XT.ii_ne_f hc2242) (XS.iload X0.here hx rfl (hb hby d35_23) rfl (XS.iload X0.here hx rfl (hb hby d35_25) rfl (XS.icmpNo X0.here hx rfl (hb hby d35_27) rfl (XT.ii_ne_f (by rw [hog, own_gf, if_neg hc2241, if_pos (own_onat (by omega) (by omega) hc2242)])) (XS.iconst X0.here hx rfl (hb hby d35_30) (XS.goto X0.here hx rfl (pc0 := 31) (pc' := 35) rfl (hb hby d35_31) (by decide) (by decide) kt)))))) ?_
     obtain ⟨fs, hr, hrun, hended, hW, hsame⟩ := X0.leave (v := some (.int 1)) (fun h => by rw [Bd.returns] at h; cases h)
     refine own_end (retN X0 hx (t := .boolean) Bd.returns (by simp) (hb hby d35_35) hr) ⟨_, hrun, hended, _, _, rfl, ?_, ⟨_, rfl⟩, hW, hsame.mono (by decide) (by decide)⟩
     show own_atQ Z _ _ _ _ _ _ _ _ _ h0 n0 _ s₁.heap _
     rw [e0]
     exact ⟨rfl, N0, rfl⟩
    ·
     refine own_st (g' := (mkF m 36 #[oR b, oJ jn, oJ np, oJ nw, oI gg, oJ qn, oJ wn, oJ og] [])) (fun _ kt => XS.icmpYes X0.here hx rfl (pc0 := 20) (pc' := 36) rfl (hb hby d35_20) rfl (XT.ii_ne_t hc2242) (by decide) (by decide) kt) ?_
     exact J2240 () (by rw [hog, own_gf, if_neg hc2241, if_neg (fun q => hc2242 (by rw [q]))])
 ·
  refine own_st (g' := (mkF m 6 #[oR b, oJ jn, oJ np, oJ nw, oI gg, oJ qn, oJ wn, .unset] [(.int 1)])) (fun _ kt => XS.icmpNo X0.here hx rfl (hb hby d35_2) rfl (XT.ii_lt_f hc2239) (XS.iconst X0.here hx rfl (hb hby d35_5) kt)) ?_
  obtain ⟨fs, hr, hrun, hended, hW, hsame⟩ := X0.leave (v := some (.int 1)) (fun h => by rw [Bd.returns] at h; cases h)
  refine own_end (retN X0 hx (t := .boolean) Bd.returns (by simp) (hb hby d35_6) hr) ⟨_, hrun, hended, _, _, rfl, ?_, ⟨_, rfl⟩, hW, hsame.mono (by decide) (by decide)⟩
  show own_atQ Z _ _ _ _ _ _ _ _ _ h0 n0 _ s₁.heap _
  rw [e0]
  exact ⟨rfl, N0, rfl⟩
abbrev c34 := method_3_code
theorem d34_0 : dk c34 0 (.aload_n 0) 1 := by decide +kernel
theorem d34_1 : dk c34 1 (.arraylength) 1 := by decide +kernel
theorem d34_2 : dk c34 2 (.iload_n 1) 1 := by decide +kernel
theorem d34_3 : dk c34 3 (.if_icmp .eq 5) 3 := by decide +kernel
theorem d34_8 : dk c34 8 (.aload_n 0) 1 := by decide +kernel
theorem d34_9 : dk c34 9 (.iconst 0) 1 := by decide +kernel
theorem d34_10 : dk c34 10 (.iload_n 1) 1 := by decide +kernel
theorem d34_11 : dk c34 11 (.iload_n 2) 1 := by decide +kernel
theorem d34_12 : dk c34 12 (.iload_n 3) 1 := by decide +kernel
theorem d34_13 : dk c34 13 (.iload 4) 2 := by decide +kernel
theorem d34_15 : dk c34 15 (.iload 5) 2 := by decide +kernel
theorem d34_17 : dk c34 17 (.invokestatic 32) 3 := by decide +kernel
theorem own_pd25 : parseMethodDescriptor "([IIIIZII)Z" = some ⟨[(.array .int), .int, .int, .int, .boolean, .int, .int], some .boolean⟩ := by decide +kernel
theorem d34_20 : dk c34 20 (.ifCond .eq 114) 3 := by decide +kernel
theorem d34_23 : dk c34 23 (.aload_n 0) 1 := by decide +kernel
theorem d34_24 : dk c34 24 (.iconst 1) 1 := by decide +kernel
theorem d34_25 : dk c34 25 (.iload_n 1) 1 := by decide +kernel
theorem d34_26 : dk c34 26 (.iload_n 2) 1 := by decide +kernel
theorem d34_27 : dk c34 27 (.iload_n 3) 1 := by decide +kernel
theorem d34_28 : dk c34 28 (.iload 4) 2 := by decide +kernel
theorem d34_30 : dk c34 30 (.iload 5) 2 := by decide +kernel
theorem d34_32 : dk c34 32 (.invokestatic 32) 3 := by decide +kernel
theorem d34_35 : dk c34 35 (.ifCond .eq 99) 3 := by decide +kernel
theorem d34_38 : dk c34 38 (.aload_n 0) 1 := by decide +kernel
theorem d34_39 : dk c34 39 (.iconst 2) 1 := by decide +kernel
theorem d34_40 : dk c34 40 (.iload_n 1) 1 := by decide +kernel
theorem d34_41 : dk c34 41 (.iload_n 2) 1 := by decide +kernel
theorem d34_42 : dk c34 42 (.iload_n 3) 1 := by decide +kernel
theorem d34_43 : dk c34 43 (.iload 4) 2 := by decide +kernel
theorem d34_45 : dk c34 45 (.iload 5) 2 := by decide +kernel
theorem d34_47 : dk c34 47 (.invokestatic 32) 3 := by decide +kernel
theorem d34_50 : dk c34 50 (.ifCond .eq 84) 3 := by decide +kernel
theorem d34_53 : dk c34 53 (.aload_n 0) 1 := by decide +kernel
theorem d34_54 : dk c34 54 (.iconst 3) 1 := by decide +kernel
theorem d34_55 : dk c34 55 (.iload_n 1) 1 := by decide +kernel
theorem d34_56 : dk c34 56 (.iload_n 2) 1 := by decide +kernel
theorem d34_57 : dk c34 57 (.iload_n 3) 1 := by decide +kernel
theorem d34_58 : dk c34 58 (.iload 4) 2 := by decide +kernel
theorem d34_60 : dk c34 60 (.iload 5) 2 := by decide +kernel
theorem d34_62 : dk c34 62 (.invokestatic 32) 3 := by decide +kernel
theorem d34_65 : dk c34 65 (.ifCond .eq 69) 3 := by decide +kernel
theorem d34_68 : dk c34 68 (.aload_n 0) 1 := by decide +kernel
theorem d34_69 : dk c34 69 (.iconst 4) 1 := by decide +kernel
theorem d34_70 : dk c34 70 (.iload_n 1) 1 := by decide +kernel
theorem d34_71 : dk c34 71 (.iload_n 2) 1 := by decide +kernel
theorem d34_72 : dk c34 72 (.iload_n 3) 1 := by decide +kernel
theorem d34_73 : dk c34 73 (.iload 4) 2 := by decide +kernel
theorem d34_75 : dk c34 75 (.iload 5) 2 := by decide +kernel
theorem d34_77 : dk c34 77 (.invokestatic 32) 3 := by decide +kernel
theorem d34_80 : dk c34 80 (.ifCond .eq 54) 3 := by decide +kernel
theorem d34_83 : dk c34 83 (.aload_n 0) 1 := by decide +kernel
theorem d34_84 : dk c34 84 (.iconst 5) 1 := by decide +kernel
theorem d34_85 : dk c34 85 (.iload_n 1) 1 := by decide +kernel
theorem d34_86 : dk c34 86 (.iload_n 2) 1 := by decide +kernel
theorem d34_87 : dk c34 87 (.iload_n 3) 1 := by decide +kernel
theorem d34_88 : dk c34 88 (.iload 4) 2 := by decide +kernel
theorem d34_90 : dk c34 90 (.iload 5) 2 := by decide +kernel
theorem d34_92 : dk c34 92 (.invokestatic 32) 3 := by decide +kernel
theorem d34_95 : dk c34 95 (.ifCond .eq 39) 3 := by decide +kernel
theorem d34_98 : dk c34 98 (.aload_n 0) 1 := by decide +kernel
theorem d34_99 : dk c34 99 (.bipush 6) 2 := by decide +kernel
theorem d34_101 : dk c34 101 (.iload_n 1) 1 := by decide +kernel
theorem d34_102 : dk c34 102 (.iload_n 2) 1 := by decide +kernel
theorem d34_103 : dk c34 103 (.iload_n 3) 1 := by decide +kernel
theorem d34_104 : dk c34 104 (.iload 4) 2 := by decide +kernel
theorem d34_106 : dk c34 106 (.iload 5) 2 := by decide +kernel
theorem d34_108 : dk c34 108 (.invokestatic 32) 3 := by decide +kernel
theorem d34_111 : dk c34 111 (.ifCond .eq 23) 3 := by decide +kernel
theorem d34_114 : dk c34 114 (.aload_n 0) 1 := by decide +kernel
theorem d34_115 : dk c34 115 (.bipush 7) 2 := by decide +kernel
theorem d34_117 : dk c34 117 (.iload_n 1) 1 := by decide +kernel
theorem d34_118 : dk c34 118 (.iload_n 2) 1 := by decide +kernel
theorem d34_119 : dk c34 119 (.iload_n 3) 1 := by decide +kernel
theorem d34_120 : dk c34 120 (.iload 4) 2 := by decide +kernel
theorem d34_122 : dk c34 122 (.iload 5) 2 := by decide +kernel
theorem d34_124 : dk c34 124 (.invokestatic 32) 3 := by decide +kernel
theorem d34_127 : dk c34 127 (.ifCond .eq 7) 3 := by decide +kernel
theorem d34_130 : dk c34 130 (.iconst 1) 1 := by decide +kernel
theorem d34_131 : dk c34 131 (.goto 4) 3 := by decide +kernel
theorem d34_135 : dk c34 135 (.ireturn) 1 := by decide +kernel
theorem own_ef25 (m : MethodId) (x0 : Addr) (x1 : Int32) (x2 : Int32) (x3 : Int32) (x4 : Int32) (x5 : Int32) : entryFrame m #[(.ref x0), (.int x1), (.int x2), (.int x3), (.int x4), (.int x5)] 6 = mkF m 0 #[.val (.ref x0), .val (.int x1), .val (.int x2), .val (.int x3), .val (.int x4), .val (.int x5)] [] := by first | (simp [entryFrame, mkF, argsToLocals, Value.category]; done) | rfl
def own_allQ (Z : State) (b : Addr) (kb : ClassId) (us : List Value) (np : Nat) (nw : Nat) (gg : Int32) (qn : Nat) (wn : Nat) (h0 : Heap) (n0 : Nat) (v : Option Value) (h : Heap) (L : List Loc) : Prop := v = some (.int 1) ∧ Fr n0 L ∧ h = h0
abbrev own_allR : Room := { frames := 1, cells := 0, slots := 0, locals := 19 }
theorem own_all (l : Launch) (Z : State) (a0 : Array Value) (hw : ∀ d ∈ tables_1, d.before a0 Z = true) (ws : List Jvm.Cond) (b : Addr) (kb : ClassId) (us : List Value) (np : Nat) (nw : Nat) (gg : Int32) (qn : Nat) (wn : Nat) (h0 : Heap) (n0 : Nat) (Z0 : n0 ≤ h0.size) (pr1 : Arv Z h0 b kb .int (Int32.ofNat np) us (Value.int 0)) (pr2 : ∀ zz, zz < np → us.getD zz (Value.int 0) = .int (Int32.ofNat (own_gf np nw gg qn wn zz))) (pr3 : np ≤ 7) (pr4 : 1 ≤ nw) (pr5 : nw ≤ 4) (pr6 : qn < np) :
    own_M l yN28 method_3_code 6 (some .boolean) ws own_allR #[(.ref b), (.int (Int32.ofNat np)), (.int (Int32.ofNat nw)), (.int gg), (.int (Int32.ofNat qn)), (.int (Int32.ofNat wn))] Z h0 (own_allQ Z b kb us np nw gg qn wn h0 n0) := by
 refine own_go (plainFor_of_name own_pn26) (fun m => own_ef25 m b (Int32.ofNat np) (Int32.ofNat nw) gg (Int32.ofNat qn) (Int32.ofNat wn) ) ?_
 intro p e s m below meth c s₁ Bd hx hby hml hZ hh hown hnm X0 e0
 have N0 := Fr.nil n0
 refine own_st (g' := (mkF m 1 #[oR b, oJ np, oJ nw, oI gg, oJ qn, oJ wn] [(.ref b)])) (fun _ kt => XS.aloadN X0.here hx rfl (hb hby d34_0) rfl rfl kt) ?_
 refine own_st (g' := (mkF m 2 #[oR b, oJ np, oJ nw, oI gg, oJ qn, oJ wn] [vJ np])) (own_alen X0 hx hZ e0 pr1 (g := (mkF m 1 #[oR b, oJ np, oJ nw, oI gg, oJ qn, oJ wn] [(.ref b)])) rfl rfl (hb hby d34_1)) ?_
 refine own_st (g' := (mkF m 17 #[oR b, oJ np, oJ nw, oI gg, oJ qn, oJ wn] [vJ wn, vJ qn, (.int gg), vJ nw, vJ np, (.int 0), (.ref b)])) (fun _ kt => XS.iloadN X0.here hx rfl (hb hby d34_2) rfl (XS.icmpYes X0.here hx rfl (pc0 := 3) (pc' := 8) rfl (hb hby d34_3) rfl (XT.ii_eq_t rfl) (by decide) (by decide) (XS.aloadN X0.here hx rfl (hb hby d34_8) rfl rfl (XS.iconst X0.here hx rfl (hb hby d34_9) (XS.iloadN X0.here hx rfl (hb hby d34_10) rfl (XS.iloadN X0.here hx rfl (hb hby d34_11) rfl (XS.iloadN X0.here hx rfl (hb hby d34_12) rfl (XS.iload X0.here hx rfl (hb hby d34_13) rfl (XS.iload X0.here hx rfl (hb hby d34_15) rfl kt))))))))) ?_
 obtain ⟨_, _, ⟨T2243, L2243, k2243, n2243⟩, -, X2243, ⟨Lc2243, hQ2243, l2243, y2243, z2243⟩, st2243⟩ := Jvm.LawKit.callS X0 hx (y := yN0) hown (mvT hZ (own_k hw 301 rfl)) (mvT hZ (own_k hw 302 rfl)) (mvT hZ (own_k hw 299 rfl)) (mvT hZ (own_k hw 303 rfl)) (by decide) (backOf (W := 0) (own_at l Z a0 hw [] b kb us np nw gg qn wn 0 h0 n0 Z0 pr1 pr2 pr3 pr4 pr5 pr6 (show 0 ≤ 7 from (by decide))) hZ (own_k hw 303 rfl) (own_k hw 299 rfl) (by decide) (by decide)) (g := (mkF m 17 #[oR b, oJ np, oJ nw, oI gg, oJ qn, oJ wn] [vJ wn, vJ qn, (.int gg), vJ nw, vJ np, (.int 0), (.ref b)])) rfl hml.symm  (argsL := [(.ref b), (.int 0), vJ np, vJ nw, (.int gg), vJ qn, vJ wn]) (rest := []) (lenOf own_pd25 rfl) rfl (own_w0 rfl rfl) (hb hby d34_17) (fun _ _ => ⟨rfl, e0, (by decide : 0 + 0 ≤ 0), (by decide : 0 + 0 ≤ 0)⟩)
 dsimp only [Pt.U, Pt.locs, Pt.cells, Pt.slots] at X2243 l2243 y2243 z2243 st2243 hQ2243
 subst l2243 y2243 z2243
 obtain ⟨rfl, N2243, e2243⟩ := hQ2243
 have N2244 := Fr.app N0 N2243
 refine own_st st2243 ?_
 refine own_st (g' := (mkF m 32 #[oR b, oJ np, oJ nw, oI gg, oJ qn, oJ wn] [vJ wn, vJ qn, (.int gg), vJ nw, vJ np, (.int 1), (.ref b)])) (fun _ kt => XS.ifNo X2243.here hx rfl (hb hby d34_20) rfl (XT.i0_eq_f (by decide)) (XS.aloadN X2243.here hx rfl (hb hby d34_23) rfl rfl (XS.iconst X2243.here hx rfl (hb hby d34_24) (XS.iloadN X2243.here hx rfl (hb hby d34_25) rfl (XS.iloadN X2243.here hx rfl (hb hby d34_26) rfl (XS.iloadN X2243.here hx rfl (hb hby d34_27) rfl (XS.iload X2243.here hx rfl (hb hby d34_28) rfl (XS.iload X2243.here hx rfl (hb hby d34_30) rfl kt)))))))) ?_
 obtain ⟨_, _, ⟨T2245, L2245, k2245, n2245⟩, -, X2245, ⟨Lc2245, hQ2245, l2245, y2245, z2245⟩, st2245⟩ := Jvm.LawKit.callS X2243 hx (y := yN0) hown (mvT hZ (own_k hw 301 rfl)) (mvT hZ (own_k hw 302 rfl)) (mvT hZ (own_k hw 299 rfl)) (mvT hZ (own_k hw 303 rfl)) (by decide) (backOf (W := 0) (own_at l Z a0 hw [] b kb us np nw gg qn wn 1 h0 n0 Z0 pr1 pr2 pr3 pr4 pr5 pr6 (show 1 ≤ 7 from (by decide))) hZ (own_k hw 303 rfl) (own_k hw 299 rfl) (by decide) (by decide)) (g := (mkF m 32 #[oR b, oJ np, oJ nw, oI gg, oJ qn, oJ wn] [vJ wn, vJ qn, (.int gg), vJ nw, vJ np, (.int 1), (.ref b)])) rfl hml.symm  (argsL := [(.ref b), (.int 1), vJ np, vJ nw, (.int gg), vJ qn, vJ wn]) (rest := []) (lenOf own_pd25 rfl) rfl (own_w0 rfl rfl) (hb hby d34_32) (fun _ _ => ⟨rfl, e2243, (by decide : 0 + 0 ≤ 0), (by decide : 0 + 0 ≤ 0)⟩)
 dsimp only [Pt.U, Pt.locs, Pt.cells, Pt.slots] at X2245 l2245 y2245 z2245 st2245 hQ2245
 subst l2245 y2245 z2245
 obtain ⟨rfl, N2245, e2245⟩ := hQ2245
 have N2246 := Fr.app N2244 N2245
 refine own_st st2245 ?_
 refine own_st (g' := (mkF m 47 #[oR b, oJ np, oJ nw, oI gg, oJ qn, oJ wn] [vJ wn, vJ qn, (.int gg), vJ nw, vJ np, (.int 2), (.ref b)])) (fun _ kt => XS.ifNo X2245.here hx rfl (hb hby d34_35) rfl (XT.i0_eq_f (by decide)) (XS.aloadN X2245.here hx rfl (hb hby d34_38) rfl rfl (XS.iconst X2245.here hx rfl (hb hby d34_39) (XS.iloadN X2245.here hx rfl (hb hby d34_40) rfl (XS.iloadN X2245.here hx rfl (hb hby d34_41) rfl (XS.iloadN X2245.here hx rfl (hb hby d34_42) rfl (XS.iload X2245.here hx rfl (hb hby d34_43) rfl (XS.iload X2245.here hx rfl (hb hby d34_45) rfl kt)))))))) ?_
 obtain ⟨_, _, ⟨T2247, L2247, k2247, n2247⟩, -, X2247, ⟨Lc2247, hQ2247, l2247, y2247, z2247⟩, st2247⟩ := Jvm.LawKit.callS X2245 hx (y := yN0) hown (mvT hZ (own_k hw 301 rfl)) (mvT hZ (own_k hw 302 rfl)) (mvT hZ (own_k hw 299 rfl)) (mvT hZ (own_k hw 303 rfl)) (by decide) (backOf (W := 0) (own_at l Z a0 hw [] b kb us np nw gg qn wn 2 h0 n0 Z0 pr1 pr2 pr3 pr4 pr5 pr6 (show 2 ≤ 7 from (by decide))) hZ (own_k hw 303 rfl) (own_k hw 299 rfl) (by decide) (by decide)) (g := (mkF m 47 #[oR b, oJ np, oJ nw, oI gg, oJ qn, oJ wn] [vJ wn, vJ qn, (.int gg), vJ nw, vJ np, (.int 2), (.ref b)])) rfl hml.symm  (argsL := [(.ref b), (.int 2), vJ np, vJ nw, (.int gg), vJ qn, vJ wn]) (rest := []) (lenOf own_pd25 rfl) rfl (own_w0 rfl rfl) (hb hby d34_47) (fun _ _ => ⟨rfl, e2245, (by decide : 0 + 0 ≤ 0), (by decide : 0 + 0 ≤ 0)⟩)
 dsimp only [Pt.U, Pt.locs, Pt.cells, Pt.slots] at X2247 l2247 y2247 z2247 st2247 hQ2247
 subst l2247 y2247 z2247
 obtain ⟨rfl, N2247, e2247⟩ := hQ2247
 have N2248 := Fr.app N2246 N2247
 refine own_st st2247 ?_
 refine own_st (g' := (mkF m 62 #[oR b, oJ np, oJ nw, oI gg, oJ qn, oJ wn] [vJ wn, vJ qn, (.int gg), vJ nw, vJ np, (.int 3), (.ref b)])) (fun _ kt => XS.ifNo X2247.here hx rfl (hb hby d34_50) rfl (XT.i0_eq_f (by decide)) (XS.aloadN X2247.here hx rfl (hb hby d34_53) rfl rfl (XS.iconst X2247.here hx rfl (hb hby d34_54) (XS.iloadN X2247.here hx rfl (hb hby d34_55) rfl (XS.iloadN X2247.here hx rfl (hb hby d34_56) rfl (XS.iloadN X2247.here hx rfl (hb hby d34_57) rfl (XS.iload X2247.here hx rfl (hb hby d34_58) rfl (XS.iload X2247.here hx rfl (hb hby d34_60) rfl kt)))))))) ?_
 obtain ⟨_, _, ⟨T2249, L2249, k2249, n2249⟩, -, X2249, ⟨Lc2249, hQ2249, l2249, y2249, z2249⟩, st2249⟩ := Jvm.LawKit.callS X2247 hx (y := yN0) hown (mvT hZ (own_k hw 301 rfl)) (mvT hZ (own_k hw 302 rfl)) (mvT hZ (own_k hw 299 rfl)) (mvT hZ (own_k hw 303 rfl)) (by decide) (backOf (W := 0) (own_at l Z a0 hw [] b kb us np nw gg qn wn 3 h0 n0 Z0 pr1 pr2 pr3 pr4 pr5 pr6 (show 3 ≤ 7 from (by decide))) hZ (own_k hw 303 rfl) (own_k hw 299 rfl) (by decide) (by decide)) (g := (mkF m 62 #[oR b, oJ np, oJ nw, oI gg, oJ qn, oJ wn] [vJ wn, vJ qn, (.int gg), vJ nw, vJ np, (.int 3), (.ref b)])) rfl hml.symm  (argsL := [(.ref b), (.int 3), vJ np, vJ nw, (.int gg), vJ qn, vJ wn]) (rest := []) (lenOf own_pd25 rfl) rfl (own_w0 rfl rfl) (hb hby d34_62) (fun _ _ => ⟨rfl, e2247, (by decide : 0 + 0 ≤ 0), (by decide : 0 + 0 ≤ 0)⟩)
 dsimp only [Pt.U, Pt.locs, Pt.cells, Pt.slots] at X2249 l2249 y2249 z2249 st2249 hQ2249
 subst l2249 y2249 z2249
 obtain ⟨rfl, N2249, e2249⟩ := hQ2249
 have N2250 := Fr.app N2248 N2249
 refine own_st st2249 ?_
 refine own_st (g' := (mkF m 77 #[oR b, oJ np, oJ nw, oI gg, oJ qn, oJ wn] [vJ wn, vJ qn, (.int gg), vJ nw, vJ np, (.int 4), (.ref b)])) (fun _ kt => XS.ifNo X2249.here hx rfl (hb hby d34_65) rfl (XT.i0_eq_f (by decide)) (XS.aloadN X2249.here hx rfl (hb hby d34_68) rfl rfl (XS.iconst X2249.here hx rfl (hb hby d34_69) (XS.iloadN X2249.here hx rfl (hb hby d34_70) rfl (XS.iloadN X2249.here hx rfl (hb hby d34_71) rfl (XS.iloadN X2249.here hx rfl (hb hby d34_72) rfl (XS.iload X2249.here hx rfl (hb hby d34_73) rfl (XS.iload X2249.here hx rfl (hb hby d34_75) rfl kt)))))))) ?_
 obtain ⟨_, _, ⟨T2251, L2251, k2251, n2251⟩, -, X2251, ⟨Lc2251, hQ2251, l2251, y2251, z2251⟩, st2251⟩ := Jvm.LawKit.callS X2249 hx (y := yN0) hown (mvT hZ (own_k hw 301 rfl)) (mvT hZ (own_k hw 302 rfl)) (mvT hZ (own_k hw 299 rfl)) (mvT hZ (own_k hw 303 rfl)) (by decide) (backOf (W := 0) (own_at l Z a0 hw [] b kb us np nw gg qn wn 4 h0 n0 Z0 pr1 pr2 pr3 pr4 pr5 pr6 (show 4 ≤ 7 from (by decide))) hZ (own_k hw 303 rfl) (own_k hw 299 rfl) (by decide) (by decide)) (g := (mkF m 77 #[oR b, oJ np, oJ nw, oI gg, oJ qn, oJ wn] [vJ wn, vJ qn, (.int gg), vJ nw, vJ np, (.int 4), (.ref b)])) rfl hml.symm  (argsL := [(.ref b), (.int 4), vJ np, vJ nw, (.int gg), vJ qn, vJ wn]) (rest := []) (lenOf own_pd25 rfl) rfl (own_w0 rfl rfl) (hb hby d34_77) (fun _ _ => ⟨rfl, e2249, (by decide : 0 + 0 ≤ 0), (by decide : 0 + 0 ≤ 0)⟩)
 dsimp only [Pt.U, Pt.locs, Pt.cells, Pt.slots] at X2251 l2251 y2251 z2251 st2251 hQ2251
 subst l2251 y2251 z2251
 obtain ⟨rfl, N2251, e2251⟩ := hQ2251
 have N2252 := Fr.app N2250 N2251
 refine own_st st2251 ?_
 refine own_st (g' := (mkF m 92 #[oR b, oJ np, oJ nw, oI gg, oJ qn, oJ wn] [vJ wn, vJ qn, (.int gg), vJ nw, vJ np, (.int 5), (.ref b)])) (fun _ kt => XS.ifNo X2251.here hx rfl (hb hby d34_80) rfl (XT.i0_eq_f (by decide)) (XS.aloadN X2251.here hx rfl (hb hby d34_83) rfl rfl (XS.iconst X2251.here hx rfl (hb hby d34_84) (XS.iloadN X2251.here hx rfl (hb hby d34_85) rfl (XS.iloadN X2251.here hx rfl (hb hby d34_86) rfl (XS.iloadN X2251.here hx rfl (hb hby d34_87) rfl (XS.iload X2251.here hx rfl (hb hby d34_88) rfl (XS.iload X2251.here hx rfl (hb hby d34_90) rfl kt)))))))) ?_
 obtain ⟨_, _, ⟨T2253, L2253, k2253, n2253⟩, -, X2253, ⟨Lc2253, hQ2253, l2253, y2253, z2253⟩, st2253⟩ := Jvm.LawKit.callS X2251 hx (y := yN0) hown (mvT hZ (own_k hw 301 rfl)) (mvT hZ (own_k hw 302 rfl)) (mvT hZ (own_k hw 299 rfl)) (mvT hZ (own_k hw 303 rfl)) (by decide) (backOf (W := 0) (own_at l Z a0 hw [] b kb us np nw gg qn wn 5 h0 n0 Z0 pr1 pr2 pr3 pr4 pr5 pr6 (show 5 ≤ 7 from (by decide))) hZ (own_k hw 303 rfl) (own_k hw 299 rfl) (by decide) (by decide)) (g := (mkF m 92 #[oR b, oJ np, oJ nw, oI gg, oJ qn, oJ wn] [vJ wn, vJ qn, (.int gg), vJ nw, vJ np, (.int 5), (.ref b)])) rfl hml.symm  (argsL := [(.ref b), (.int 5), vJ np, vJ nw, (.int gg), vJ qn, vJ wn]) (rest := []) (lenOf own_pd25 rfl) rfl (own_w0 rfl rfl) (hb hby d34_92) (fun _ _ => ⟨rfl, e2251, (by decide : 0 + 0 ≤ 0), (by decide : 0 + 0 ≤ 0)⟩)
 dsimp only [Pt.U, Pt.locs, Pt.cells, Pt.slots] at X2253 l2253 y2253 z2253 st2253 hQ2253
 subst l2253 y2253 z2253
 obtain ⟨rfl, N2253, e2253⟩ := hQ2253
 have N2254 := Fr.app N2252 N2253
 refine own_st st2253 ?_
 refine own_st (g' := (mkF m 108 #[oR b, oJ np, oJ nw, oI gg, oJ qn, oJ wn] [vJ wn, vJ qn, (.int gg), vJ nw, vJ np, (.int 6), (.ref b)])) (fun _ kt => XS.ifNo X2253.here hx rfl (hb hby d34_95) rfl (XT.i0_eq_f (by decide)) (XS.aloadN X2253.here hx rfl (hb hby d34_98) rfl rfl (XS.bipush X2253.here hx rfl (hb hby d34_99) (XS.iloadN X2253.here hx rfl (hb hby d34_101) rfl (XS.iloadN X2253.here hx rfl (hb hby d34_102) rfl (XS.iloadN X2253.here hx rfl (hb hby d34_103) rfl (XS.iload X2253.here hx rfl (hb hby d34_104) rfl (XS.iload X2253.here hx rfl (hb hby d34_106) rfl kt)))))))) ?_
 obtain ⟨_, _, ⟨T2255, L2255, k2255, n2255⟩, -, X2255, ⟨Lc2255, hQ2255, l2255, y2255, z2255⟩, st2255⟩ := Jvm.LawKit.callS X2253 hx (y := yN0) hown (mvT hZ (own_k hw 301 rfl)) (mvT hZ (own_k hw 302 rfl)) (mvT hZ (own_k hw 299 rfl)) (mvT hZ (own_k hw 303 rfl)) (by decide) (backOf (W := 0) (own_at l Z a0 hw [] b kb us np nw gg qn wn 6 h0 n0 Z0 pr1 pr2 pr3 pr4 pr5 pr6 (show 6 ≤ 7 from (by decide))) hZ (own_k hw 303 rfl) (own_k hw 299 rfl) (by decide) (by decide)) (g := (mkF m 108 #[oR b, oJ np, oJ nw, oI gg, oJ qn, oJ wn] [vJ wn, vJ qn, (.int gg), vJ nw, vJ np, (.int 6), (.ref b)])) rfl hml.symm  (argsL := [(.ref b), (.int 6), vJ np, vJ nw, (.int gg), vJ qn, vJ wn]) (rest := []) (lenOf own_pd25 rfl) rfl (own_w0 rfl rfl) (hb hby d34_108) (fun _ _ => ⟨rfl, e2253, (by decide : 0 + 0 ≤ 0), (by decide : 0 + 0 ≤ 0)⟩)
 dsimp only [Pt.U, Pt.locs, Pt.cells, Pt.slots] at X2255 l2255 y2255 z2255 st2255 hQ2255
 subst l2255 y2255 z2255
 obtain ⟨rfl, N2255, e2255⟩ := hQ2255
 have N2256 := Fr.app N2254 N2255
 refine own_st st2255 ?_
 refine own_st (g' := (mkF m 124 #[oR b, oJ np, oJ nw, oI gg, oJ qn, oJ wn] [vJ wn, vJ qn, (.int gg), vJ nw, vJ np, (.int 7), (.ref b)])) (fun _ kt => XS.ifNo X2255.here hx rfl (hb hby d34_111) rfl (XT.i0_eq_f (by decide)) (XS.aloadN X2255.here hx rfl (hb hby d34_114) rfl rfl (XS.bipush X2255.here hx rfl (hb hby d34_115) (XS.iloadN X2255.here hx rfl (hb hby d34_117) rfl (XS.iloadN X2255.here hx rfl (hb hby d34_118) rfl (XS.iloadN X2255.here hx rfl (hb hby d34_119) rfl (XS.iload X2255.here hx rfl (hb hby d34_120) rfl (XS.iload X2255.here hx rfl (hb hby d34_122) rfl kt)))))))) ?_
 obtain ⟨_, _, ⟨T2257, L2257, k2257, n2257⟩, -, X2257, ⟨Lc2257, hQ2257, l2257, y2257, z2257⟩, st2257⟩ := Jvm.LawKit.callS X2255 hx (y := yN0) hown (mvT hZ (own_k hw 301 rfl)) (mvT hZ (own_k hw 302 rfl)) (mvT hZ (own_k hw 299 rfl)) (mvT hZ (own_k hw 303 rfl)) (by decide) (backOf (W := 0) (own_at l Z a0 hw [] b kb us np nw gg qn wn 7 h0 n0 Z0 pr1 pr2 pr3 pr4 pr5 pr6 (show 7 ≤ 7 from (by decide))) hZ (own_k hw 303 rfl) (own_k hw 299 rfl) (by decide) (by decide)) (g := (mkF m 124 #[oR b, oJ np, oJ nw, oI gg, oJ qn, oJ wn] [vJ wn, vJ qn, (.int gg), vJ nw, vJ np, (.int 7), (.ref b)])) rfl hml.symm  (argsL := [(.ref b), (.int 7), vJ np, vJ nw, (.int gg), vJ qn, vJ wn]) (rest := []) (lenOf own_pd25 rfl) rfl (own_w0 rfl rfl) (hb hby d34_124) (fun _ _ => ⟨rfl, e2255, (by decide : 0 + 0 ≤ 0), (by decide : 0 + 0 ≤ 0)⟩)
 dsimp only [Pt.U, Pt.locs, Pt.cells, Pt.slots] at X2257 l2257 y2257 z2257 st2257 hQ2257
 subst l2257 y2257 z2257
 obtain ⟨rfl, N2257, e2257⟩ := hQ2257
 have N2258 := Fr.app N2256 N2257
 refine own_st st2257 ?_
 refine own_st (g' := (mkF m 135 #[oR b, oJ np, oJ nw, oI gg, oJ qn, oJ wn] [(.int 1)])) (fun _ kt => XS.ifNo X2257.here hx rfl (hb hby d34_127) rfl (XT.i0_eq_f (by decide)) (XS.iconst X2257.here hx rfl (hb hby d34_130) (XS.goto X2257.here hx rfl (pc0 := 131) (pc' := 135) rfl (hb hby d34_131) (by decide) (by decide) kt))) ?_
 obtain ⟨fs, hr, hrun, hended, hW, hsame⟩ := X2257.leave (v := some (.int 1)) (fun h => by rw [Bd.returns] at h; cases h)
 refine own_end (retN X2257 hx (t := .boolean) Bd.returns (by simp) (hb hby d34_135) hr) ⟨_, hrun, hended, _, _, rfl, ?_, ⟨_, rfl⟩, hW, hsame.mono (by decide) (by decide)⟩
 show own_allQ Z _ _ _ _ _ _ _ _ h0 n0 _ T2257.heap _
 rw [e2257]
 exact ⟨rfl, N2258, rfl⟩
theorem own_pd26 : parseMethodDescriptor "(III)V" = some ⟨[.int, .int, .int], none⟩ := by decide +kernel
theorem own_pd27 : parseMethodDescriptor "(Lcom/example/millrace/millrace/cluster/Placement;Z)V" = some ⟨[(.object "com/example/millrace/millrace/cluster/Placement"), .boolean], none⟩ := by decide +kernel
theorem own_pd28 : parseMethodDescriptor "()[I" = some ⟨[], some (.array .int)⟩ := by decide +kernel
theorem own_pd29 : parseMethodDescriptor "([IIIZII)Z" = some ⟨[(.array .int), .int, .int, .boolean, .int, .int], some .boolean⟩ := by decide +kernel
theorem own_pd30 : parseMethodDescriptor "(IILcom/example/millrace/millrace/cluster/Partitions$Saved;Lcom/example/millrace/millrace/cluster/Partitions$Saved;)Lcom/example/millrace/millrace/cluster/Partitions$Adoption;" = some ⟨[.int, .int, (.object "com/example/millrace/millrace/cluster/Partitions$Saved"), (.object "com/example/millrace/millrace/cluster/Partitions$Saved")], some (.object "com/example/millrace/millrace/cluster/Partitions$Adoption")⟩ := by decide +kernel
theorem own_ef26 (m : MethodId) (x0 : Int32) (x1 : Int32) (x2 : Int32) (x3 : Int32) : entryFrame m #[(.int x0), (.int x1), (.int x2), (.int x3)] 14 = mkF m 0 #[.val (.int x0), .val (.int x1), .val (.int x2), .val (.int x3), .unset, .unset, .unset, .unset, .unset, .unset, .unset, .unset, .unset, .unset] [] := by first | (simp [entryFrame, mkF, argsToLocals, Value.category]; done) | rfl
def own_lawQ (Z : State) (p1 : Int32) (p2 : Int32) (p3 : Int32) (p4 : Int32) (de : Addr) (kd : ClassId) (h0 : Heap) (n0 : Nat) (v : Option Value) (h : Heap) (L : List Loc) : Prop := v = some (.int 1) ∧ Fr n0 L
theorem own_law (l : Launch) (Z : State) (a0 : Array Value) (hw : ∀ d ∈ tables_1, d.before a0 Z = true) (ws : List Jvm.Cond) (p1 : Int32) (p2 : Int32) (p3 : Int32) (p4 : Int32) (de : Addr) (kd : ClassId) (h0 : Heap) (n0 : Nat) (Z0 : n0 ≤ h0.size) (pr1 : Old Z n0 h0) (pr2 : Sta Z Z.heap zC1 "DEFAULTCAPACITY_EMPTY_ELEMENTDATA" zC7 (.ref de)) (pr3 : Arv Z Z.heap de kd (.object zC3) (0 : Int32) [] .null) (pr4 : Sta Z Z.heap zC0 "$assertionsDisabled" "Z" (.int 1)) :
    own_M l x code maxLocals ret ws room_1 #[(.int p1), (.int p2), (.int p3), (.int p4)] Z h0 (own_lawQ Z p1 p2 p3 p4 de kd h0 n0) := by
 refine own_go (plainFor_of_name own_pn26) (fun m => own_ef26 m p1 p2 p3 p4 ) ?_
 intro p e s m below meth c s₁ Bd hx hby hml hZ hh hown hnm X0 e0
 have N0 := Fr.nil n0
 refine own_st (g' := (mkF m 7 #[oI p1, oI p2, oI p3, oI p4, oI ((p1 &&& (3 : Int32)) + (1 : Int32)), .unset, .unset, .unset, .unset, .unset, .unset, .unset, .unset, .unset] [])) (fun _ kt => XS.iloadN X0.here hx rfl (hb hby at_0) rfl (XS.iconst X0.here hx rfl (hb hby at_1) (XS.iand X0.here hx rfl (hb hby at_2) rfl (XS.iconst X0.here hx rfl (hb hby at_3) (XS.iadd X0.here hx rfl (hb hby at_4) rfl (XS.istore X0.here hx rfl (hb hby at_5) rfl (l' := #[oI p1, oI p2, oI p3, oI p4, oI ((p1 &&& (3 : Int32)) + (1 : Int32)), .unset, .unset, .unset, .unset, .unset, .unset, .unset, .unset, .unset]) rfl kt)))))) ?_
 obtain ⟨nw, hw1, hw4, hwe⟩ := own_wn p1
 rw [hwe]
 refine own_st (g' := (mkF m 17 #[oI p1, oI p2, oI p3, oI p4, oJ nw, oI ((Int32.ofNat nw) + ((XT.ushr p1 (2 : Int32)) &&& (3 : Int32))), .unset, .unset, .unset, .unset, .unset, .unset, .unset, .unset] [])) (fun _ kt => XS.iload X0.here hx rfl (hb hby at_7) rfl (XS.iloadN X0.here hx rfl (hb hby at_9) rfl (XS.iconst X0.here hx rfl (hb hby at_10) (XT.iushr X0.here hx rfl (hb hby at_11) rfl (XS.iconst X0.here hx rfl (hb hby at_12) (XS.iand X0.here hx rfl (hb hby at_13) rfl (XS.iadd X0.here hx rfl (hb hby at_14) rfl (XS.istore X0.here hx rfl (hb hby at_15) rfl (l' := #[oI p1, oI p2, oI p3, oI p4, oJ nw, oI ((Int32.ofNat nw) + ((XT.ushr p1 (2 : Int32)) &&& (3 : Int32))), .unset, .unset, .unset, .unset, .unset, .unset, .unset, .unset]) rfl kt)))))))) ?_
 obtain ⟨np, hp1, hp7, hpe⟩ := own_pn nw hw4 (XT.ushr p1 (2 : Int32))
 rw [hpe]
 refine own_join (α := Nat) (gj := fun q => (mkF m 38 #[oI p1, oI p2, oI p3, oI p4, oJ nw, oJ np, .unset, .unset, .unset, .unset, .unset, .unset, .unset, .unset] [vJ q])) (P := fun q => 1 ≤ q ∧ (q = 1 ∨ q < nw)) ?_ (fun J2259 => ?_)
 ·
  rintro nr hj2259
  try dsimp only at hj2259 ⊢
  refine own_st (g' := (mkF m 40 #[oI p1, oI p2, oI p3, oI p4, oJ nw, oJ np, oJ nr, .unset, .unset, .unset, .unset, .unset, .unset, .unset] [])) (fun _ kt => XS.istore X0.here hx rfl (hb hby at_38) rfl (l' := #[oI p1, oI p2, oI p3, oI p4, oJ nw, oJ np, oJ nr, .unset, .unset, .unset, .unset, .unset, .unset, .unset]) rfl kt) ?_
  have hnr := hj2259
  refine own_join (α := Int32) (gj := fun q => (mkF m 52 #[oI p1, oI p2, oI p3, oI p4, oJ nw, oJ np, oJ nr, .unset, .unset, .unset, .unset, .unset, .unset, .unset] [(.int q)])) (P := fun q => True) ?_ (fun J2260 => ?_)
  ·
   rintro ft hj2260
   try dsimp only
   refine own_st (g' := (mkF m 54 #[oI p1, oI p2, oI p3, oI p4, oJ nw, oJ np, oJ nr, oI ft, .unset, .unset, .unset, .unset, .unset, .unset] [])) (fun _ kt => XS.istore X0.here hx rfl (hb hby at_52) rfl (l' := #[oI p1, oI p2, oI p3, oI p4, oJ nw, oJ np, oJ nr, oI ft, .unset, .unset, .unset, .unset, .unset, .unset]) rfl kt) ?_
   refine own_join (α := Int32) (gj := fun q => (mkF m 65 #[oI p1, oI p2, oI p3, oI p4, oJ nw, oJ np, oJ nr, oI ft, .unset, .unset, .unset, .unset, .unset, .unset] [(.int q)])) (P := fun q => True) ?_ (fun J2261 => ?_)
   ·
    rintro gg hj2261
    try dsimp only
    refine own_st (g' := (mkF m 73 #[oI p1, oI p2, oI p3, oI p4, oJ nw, oJ np, oJ nr, oI ft, oI gg, .unset, .unset, .unset, .unset, .unset] [(.int ((XT.ushr p3 (1 : Int32)) - ((XT.ushr p3 (1 : Int32)) / (Int32.ofNat np)) * (Int32.ofNat np)))])) (fun _ kt => XS.istore X0.here hx rfl (hb hby at_65) rfl (l' := #[oI p1, oI p2, oI p3, oI p4, oJ nw, oJ np, oJ nr, oI ft, oI gg, .unset, .unset, .unset, .unset, .unset]) rfl (XS.iloadN X0.here hx rfl (hb hby at_67) rfl (XS.iconst X0.here hx rfl (hb hby at_68) (XT.iushr X0.here hx rfl (hb hby at_69) rfl (XS.iload X0.here hx rfl (hb hby at_70) rfl (XS.irem X0.here hx rfl (hb hby at_72) rfl (own_nz (by omega) (by omega)) kt)))))) ?_
    obtain ⟨qn, hq1, hqe⟩ := own_rem (x := XT.ushr p3 (1 : Int32)) (k := np) (own_us p3) (by omega) (by omega)
    rw [hqe]
    refine own_st (g' := (mkF m 76 #[oI p1, oI p2, oI p3, oI p4, oJ nw, oJ np, oJ nr, oI ft, oI gg, oJ qn, .unset, .unset, .unset, .unset] [(.int p4)])) (fun _ kt => XS.istore X0.here hx rfl (hb hby at_73) rfl (l' := #[oI p1, oI p2, oI p3, oI p4, oJ nw, oJ np, oJ nr, oI ft, oI gg, oJ qn, .unset, .unset, .unset, .unset]) rfl (XS.iloadN X0.here hx rfl (hb hby at_75) rfl kt)) ?_
    refine own_st (g' := (mkF m 78 #[oI p1, oI p2, oI p3, oI p4, oJ nw, oJ np, oJ nr, oI ft, oI gg, oJ qn, .unset, .unset, .unset, .unset] [(.int 2147483647), (.int p4)])) (Stand.ldcInt X0 hx hown (mvT hZ (own_k hw 0 rfl)) (g := (mkF m 76 #[oI p1, oI p2, oI p3, oI p4, oJ nw, oJ np, oJ nr, oI ft, oI gg, oJ qn, .unset, .unset, .unset, .unset] [(.int p4)])) rfl (hb hby at_76)) ?_
    refine own_st (g' := (mkF m 84 #[oI p1, oI p2, oI p3, oI p4, oJ nw, oJ np, oJ nr, oI ft, oI gg, oJ qn, .unset, .unset, .unset, .unset] [(.int (((p4 &&& (2147483647 : Int32)) - ((p4 &&& (2147483647 : Int32)) / (Int32.ofNat nw)) * (Int32.ofNat nw)) + (1 : Int32)))])) (fun _ kt => XS.iand X0.here hx rfl (hb hby at_78) rfl (XS.iload X0.here hx rfl (hb hby at_79) rfl (XS.irem X0.here hx rfl (hb hby at_81) rfl (own_nz hw1 (by omega)) (XS.iconst X0.here hx rfl (hb hby at_82) (XS.iadd X0.here hx rfl (hb hby at_83) rfl kt))))) ?_
    obtain ⟨w0, hw5, hwf⟩ := own_rem (x := p4 &&& (2147483647 : Int32)) (k := nw) (own_andM p4) (by omega) (by omega)
    rw [hwf, own_succ (n := w0) (by omega)]
    obtain ⟨wn, hwn⟩ : ∃ z, z = w0 + 1 := ⟨_, rfl⟩
    rw [← hwn]
    refine own_st (g' := (mkF m 86 #[oI p1, oI p2, oI p3, oI p4, oJ nw, oJ np, oJ nr, oI ft, oI gg, oJ qn, oJ wn, .unset, .unset, .unset] [])) (fun _ kt => XS.istore X0.here hx rfl (hb hby at_84) rfl (l' := #[oI p1, oI p2, oI p3, oI p4, oJ nw, oJ np, oJ nr, oI ft, oI gg, oJ qn, oJ wn, .unset, .unset, .unset]) rfl kt) ?_
    obtain ⟨T2262, h2262, X2262, e2262, E2262, A2262, D2262, -, st2262⟩ := newO X0 hx hZ hown (own_k hw 1 rfl) (own_k hw 2 rfl) (own_k hw 3 rfl) e0 (g := (mkF m 86 #[oI p1, oI p2, oI p3, oI p4, oJ nw, oJ np, oJ nr, oI ft, oI gg, oJ qn, oJ wn, .unset, .unset, .unset] [])) rfl (hb hby at_86) (by decide) (by decide)
    obtain ⟨b2262, g2262⟩ : ∃ z, z = h0.size := ⟨_, rfl⟩
    rw [← g2262] at A2262 D2262 st2262
    have Z2263 := Nat.le_trans Z0 E2262.1
    have ge_b2262 : n0 ≤ b2262 := Nat.le_trans Z0 (Nat.le_of_eq g2262.symm)
    have F2264 : Fld Z h2262 b2262 zC4 "commits" zC16 .null := D2262 (Or.inr (own_k hw 57 rfl)) (ty := (.object zC11)) (by decide)
    have F2265 : Fld Z h2262 b2262 zC4 "shares" zC19 .null := D2262 (Or.inr (own_k hw 66 rfl)) (ty := (.array (.object zC5))) (by decide)
    have F2266 : Fld Z h2262 b2262 zC4 "placement" zC36 .null := D2262 (Or.inr (own_k hw 68 rfl)) (ty := (.object zC2)) (by decide)
    have F2267 : Fld Z h2262 b2262 zC4 "spoken" zC18 .null := D2262 (Or.inr (own_k hw 77 rfl)) (ty := (.array (.object zC0))) (by decide)
    have F2268 : Fld Z h2262 b2262 zC4 "pendingOf" zC18 .null := D2262 (Or.inr (own_k hw 79 rfl)) (ty := (.array (.object zC0))) (by decide)
    have F2269 : Fld Z h2262 b2262 zC4 "retained" zC24 .null := D2262 (Or.inr (own_k hw 166 rfl)) (ty := (.object zC6)) (by decide)
    have F2270 : Fld Z h2262 b2262 zC4 "coverage" zC37 .null := D2262 (Or.inr (own_k hw 228 rfl)) (ty := (.object zC14)) (by decide)
    have F2271 : Fld Z h2262 b2262 zC4 "generation" "I" (.int 0) := D2262 (Or.inl (own_k hw 321 rfl)) (ty := .int) (by decide)
    refine own_st st2262 ?_
    refine own_st (g' := (mkF m 90 #[oI p1, oI p2, oI p3, oI p4, oJ nw, oJ np, oJ nr, oI ft, oI gg, oJ qn, oJ wn, .unset, .unset, .unset] [(.ref b2262), (.ref b2262)])) (fun _ kt => XS.dup X2262.here hx rfl (hb hby at_89) rfl rfl kt) ?_
    obtain ⟨T2272, h2272, X2272, e2272, E2272, A2272, D2272, -, st2272⟩ := newO X2262 hx hZ hown (own_k hw 4 rfl) (own_k hw 5 rfl) (own_k hw 6 rfl) e2262 (g := (mkF m 90 #[oI p1, oI p2, oI p3, oI p4, oJ nw, oJ np, oJ nr, oI ft, oI gg, oJ qn, oJ wn, .unset, .unset, .unset] [(.ref b2262), (.ref b2262)])) rfl (hb hby at_90) (by decide) (by decide)
    obtain ⟨b2272, g2272⟩ : ∃ z, z = h2262.size := ⟨_, rfl⟩
    rw [← g2272] at A2272 D2272 st2272
    have Z2273 := Nat.le_trans Z2263 E2272.1
    have ge_b2272 : n0 ≤ b2272 := Nat.le_trans Z2263 (Nat.le_of_eq g2272.symm)
    have F2274 : Fld Z h2272 b2272 zC2 "workers" "I" (.int 0) := D2272 (Or.inr (own_k hw 18 rfl)) (ty := .int) (by decide)
    have F2275 : Fld Z h2272 b2272 zC2 "backupsEach" "I" (.int 0) := D2272 (Or.inr (own_k hw 20 rfl)) (ty := .int) (by decide)
    have F2276 : Fld Z h2272 b2272 zC2 "owners" "[I" .null := D2272 (Or.inr (own_k hw 23 rfl)) (ty := (.array .int)) (by decide)
    refine own_st st2272 ?_
    refine own_st (g' := (mkF m 100 #[oI p1, oI p2, oI p3, oI p4, oJ nw, oJ np, oJ nr, oI ft, oI gg, oJ qn, oJ wn, .unset, .unset, .unset] [vJ nr, vJ nw, vJ np, (.ref b2272), (.ref b2272), (.ref b2262), (.ref b2262)])) (fun _ kt => XS.dup X2272.here hx rfl (hb hby at_93) rfl rfl (XS.iload X2272.here hx rfl (hb hby at_94) rfl (XS.iload X2272.here hx rfl (hb hby at_96) rfl (XS.iload X2272.here hx rfl (hb hby at_98) rfl kt)))) ?_
    obtain ⟨_, _, ⟨T2277, L2277, k2277, n2277⟩, -, X2277, ⟨Lc2277, hQ2277, l2277, y2277, z2277⟩, st2277⟩ := X2272.specialBack hx (y := yN53) rfl hown (mvT hZ (own_k hw 7 rfl)) (mvT hZ (own_k hw 8 rfl)) (mvT hZ (own_k hw 9 rfl)) (by decide) (backOf (W := 3) (own_pin l Z a0 hw [] b2272 np nw nr h2272 n0 Z2273 A2272 ge_b2272 F2274 F2275 F2276 hp7 hw1 hw4 hp1 (show 1 ≤ nr from hnr.1) (show nr = 1 ∨ nr < nw from hnr.2)) hZ (own_k hw 9 rfl) (own_k hw 6 rfl) (by decide) (by decide)) (g := (mkF m 100 #[oI p1, oI p2, oI p3, oI p4, oJ nw, oJ np, oJ nr, oI ft, oI gg, oJ qn, oJ wn, .unset, .unset, .unset] [vJ nr, vJ nw, vJ np, (.ref b2272), (.ref b2272), (.ref b2262), (.ref b2262)])) rfl hml.symm (Steps.refl _) (a := b2272) (argsL := [vJ np, vJ nw, vJ nr]) (rest := [(.ref b2272), (.ref b2262), (.ref b2262)]) (lenOf own_pd26 rfl) rfl (own_w0 rfl rfl) (hb hby at_100) (fun _ _ => ⟨rfl, e2272, (by decide : 2 + 1 ≤ 328), (by decide : 12 + 7 ≤ 10368)⟩)
    dsimp only [Pt.U, Pt.locs, Pt.cells, Pt.slots] at X2277 l2277 y2277 z2277 st2277 hQ2277
    subst l2277 y2277 z2277
    obtain ⟨b_2277, kb_2277, us_2277, rfl, N2277, K2277_, P2278, P2279, P2280, P2281, P2282, P2283, P2284, P2285⟩ := hQ2277
    have N2286 := Fr.app N0 N2277
    have Z2287 := Nat.le_trans Z2273 K2277_.1
    have ge2288 : n0 ≤ b_2277 := Nat.le_trans Z2273 P2285
    refine own_tr st2277 ?_
    refine own_st (g' := (mkF m 105 #[oI p1, oI p2, oI p3, oI p4, oJ nw, oJ np, oJ nr, oI ft, oI gg, oJ qn, oJ wn, .unset, .unset, .unset] [(.int ft), (.ref b2272), (.ref b2262), (.ref b2262)])) (fun _ kt => XS.iload X2277.here hx rfl (hb hby at_103) rfl kt) ?_
    have F2289 := (Old.keep (Old.ext (Old.ext pr1 E2262) E2272) K2277_ (allS ge_b2272 all0))
    have F2290 := (Exa.keep (Exa.ext E2272 A2262) K2277_)
    have ne2291 : b2262 ≠ b2272 := (Nat.ne_of_lt (Nat.lt_of_lt_of_le A2262.lt (Nat.le_of_eq g2272.symm)))
    have F2292 := (Fld.keep (Fld.ext E2272 F2264) K2277_ (ninS ne2291 nin0))
    have F2293 := (Fld.keep (Fld.ext E2272 F2265) K2277_ (ninS ne2291 nin0))
    have F2294 := (Fld.keep (Fld.ext E2272 F2266) K2277_ (ninS ne2291 nin0))
    have F2295 := (Fld.keep (Fld.ext E2272 F2267) K2277_ (ninS ne2291 nin0))
    have F2296 := (Fld.keep (Fld.ext E2272 F2268) K2277_ (ninS ne2291 nin0))
    have F2297 := (Fld.keep (Fld.ext E2272 F2269) K2277_ (ninS ne2291 nin0))
    have F2298 := (Fld.keep (Fld.ext E2272 F2270) K2277_ (ninS ne2291 nin0))
    have F2299 := (Fld.keep (Fld.ext E2272 F2271) K2277_ (ninS ne2291 nin0))
    obtain ⟨_, _, ⟨T2300, L2300, k2300, n2300⟩, -, X2300, ⟨Lc2300, hQ2300, l2300, y2300, z2300⟩, st2300⟩ := X2277.specialBack hx (y := yN56) rfl hown (mvT hZ (own_k hw 28 rfl)) (mvT hZ (own_k hw 29 rfl)) (mvT hZ (own_k hw 30 rfl)) (by decide) (backOf (W := 1) (own_sin l Z a0 hw [] b2262 b2272 b_2277 kb_2277 np nw nr us_2277 ft de kd T2277.heap n0 Z2287 F2289 pr2 pr3 pr4 ge_b2262 F2290 F2292 F2293 F2294 F2295 F2296 F2297 F2298 F2299 P2278 P2279 P2280 P2282 P2281 hp7 hw1 hw4 hp1 (show 1 ≤ nr from hnr.1) (show nr = 1 ∨ nr < nw from hnr.2) P2284) hZ (own_k hw 30 rfl) (own_k hw 3 rfl) (by decide) (by decide)) (g := (mkF m 105 #[oI p1, oI p2, oI p3, oI p4, oJ nw, oJ np, oJ nr, oI ft, oI gg, oJ qn, oJ wn, .unset, .unset, .unset] [(.int ft), (.ref b2272), (.ref b2262), (.ref b2262)])) rfl hml.symm (Steps.refl _) (a := b2262) (argsL := [(.ref b2272), (.int ft)]) (rest := [(.ref b2262)]) (lenOf own_pd27 rfl) rfl (own_w0 rfl rfl) (hb hby at_105) (fun _ _ => ⟨rfl, rfl, (by decide : 3 + 230 ≤ 328), (by decide : 19 + 7600 ≤ 10368)⟩)
    dsimp only [Pt.U, Pt.locs, Pt.cells, Pt.slots] at X2300 l2300 y2300 z2300 st2300 hQ2300
    subst l2300 y2300 z2300
    obtain ⟨sa_2300, ks_2300, vs_2300, sp_2300, kp_2300, bs_2300, re_2300, db_2300, kdb_2300, lo_2300, mi_2300, n1_2300, rfl, N2300, K2300_, P2301, P2302, P2303, P2304, P2305, P2306, P2307, P2308, P2309, P2310, P2311, P2312, P2313, P2314, P2315, P2316, P2317, P2318, P2319, P2320, P2321, P2322, P2323, P2324, P2325, P2326⟩ := hQ2300
    have N2327 := Fr.app N2286 N2300
    have Z2328 := Nat.le_trans Z2287 K2300_.1
    have ge2329 : n0 ≤ sa_2300 := Nat.le_trans Z2287 P2315
    have ge2330 : n0 ≤ sp_2300 := Nat.le_trans Z2287 P2316
    have ge2331 : n0 ≤ re_2300 := Nat.le_trans Z2287 P2317
    have ge2332 : n0 ≤ db_2300 := Nat.le_trans Z2287 P2318
    refine own_tr st2300 ?_
    refine own_st (g' := (mkF m 110 #[oI p1, oI p2, oI p3, oI p4, oJ nw, oJ np, oJ nr, oI ft, oI gg, oJ qn, oJ wn, oR b2262, .unset, .unset] [])) (fun _ kt => XS.astore X2300.here hx rfl (hb hby at_108) rfl rfl (l' := #[oI p1, oI p2, oI p3, oI p4, oJ nw, oJ np, oJ nr, oI ft, oI gg, oJ qn, oJ wn, oR b2262, .unset, .unset]) rfl kt) ?_
    refine own_joinH (α := Unit) X2300 (cells' := 248) (slots' := 7699) (gj := fun q => (mkF m 127 #[oI p1, oI p2, oI p3, oI p4, oJ nw, oJ np, oJ nr, oI ft, oI gg, oJ qn, oJ wn, oR b2262, .unset, .unset] [])) (P := fun L_ h_ q => (Fr n0 L_) ∧ (n0 ≤ h_.size) ∧ (Old Z n0 h_) ∧ (Exa Z h_ b2262 zC4) ∧ (Fld Z h_ b2262 zC4 "shares" zC19 (.ref sa_2300)) ∧ (Arv Z h_ sa_2300 ks_2300 (.object zC5) (Int32.ofNat np) vs_2300 .null) ∧ (own_OW Z h_ np vs_2300 (fun zy => Int32.ofNat (own_gf np nw gg qn wn zy)))) ?_ (fun J2333 => ?_)
    ·
     rintro T2333 L2333 h2333 _ ⟨N2333, Z2333, O2333, F2334, F2335, F2336, F2337⟩ X2333 e2333
     try dsimp only at F2334 F2335 F2336 F2337 ⊢
     have K2_2338 : Keep h2333 h2333 [] := Keep.refl _ _
     refine own_st (g' := (mkF m 129 #[oI p1, oI p2, oI p3, oI p4, oJ nw, oJ np, oJ nr, oI ft, oI gg, oJ qn, oJ wn, oR b2262, .unset, .unset] [(.ref b2262)])) (fun _ kt => XS.aload X2333.here hx rfl (hb hby at_127) rfl rfl kt) ?_
     obtain ⟨cq2340, kq2340, qa2340, qb2340, qc2340⟩ := isOf hZ e2333 F2334
     obtain ⟨_, _, ⟨T2339, L2339, k2339, n2339⟩, -, X2339, ⟨Lc2339, hQ2339, l2339, y2339, z2339⟩, st2339⟩ := X2333.virtualBack hx (y := yN6) (z := yN6) hown (mvT hZ (own_k hw 291 rfl)) (mvT hZ (own_k hw 292 rfl)) (notFace_of_selects (args := #[]) (mvT hZ (own_k hw 294 rfl))) (mvT hZ (own_k hw 294 rfl)) (mvT hZ (own_k hw 293 rfl)) (by decide) (backOf (W := 0) (own_own l Z a0 hw [] b2262 sa_2300 ks_2300 vs_2300 np (fun zy => Int32.ofNat (own_gf np nw gg qn wn zy)) h2333 n0 Z2333 F2334 F2335 F2336 F2337 (show 1 ≤ np from (by omega)) hp7) hZ (own_k hw 295 rfl) (own_k hw 3 rfl) (by decide) (by decide)) qa2340 qc2340 (g := (mkF m 129 #[oI p1, oI p2, oI p3, oI p4, oJ nw, oJ np, oJ nr, oI ft, oI gg, oJ qn, oJ wn, oR b2262, .unset, .unset] [(.ref b2262)])) rfl hml.symm (Steps.refl _) (argsL := []) (rest := []) (lenOf own_pd28 rfl) rfl (own_w0 rfl rfl) (hb hby at_129) (fun _ _ => ⟨rfl, e2333, (by decide : 248 + 1 ≤ 328), (by decide : 7699 + 7 ≤ 10368)⟩)
     dsimp only [Pt.U, Pt.locs, Pt.cells, Pt.slots] at X2339 l2339 y2339 z2339 st2339 hQ2339
     subst l2339 y2339 z2339
     obtain ⟨ob_2339, ko_2339, os_2339, rfl, N2339, K2339_, P2341, P2342, P2343, P2344⟩ := hQ2339
     have N2345 := Fr.app N2333 N2339
     have Z2346 := Nat.le_trans Z2333 K2339_.1
     have K2_2346 := (Keep.trans K2_2338 K2339_ all0)
     have ge2347 : n0 ≤ ob_2339 := Nat.le_trans Z2333 P2344
     refine own_tr st2339 ?_
     refine own_st (g' := (mkF m 146 #[oI p1, oI p2, oI p3, oI p4, oJ nw, oJ np, oJ nr, oI ft, oI gg, oJ qn, oJ wn, oR b2262, oR ob_2339, .unset] [vJ wn, vJ qn, (.int gg), vJ nw, vJ np, (.ref ob_2339)])) (fun _ kt => XS.astore X2339.here hx rfl (hb hby at_132) rfl rfl (l' := #[oI p1, oI p2, oI p3, oI p4, oJ nw, oJ np, oJ nr, oI ft, oI gg, oJ qn, oJ wn, oR b2262, oR ob_2339, .unset]) rfl (XS.aload X2339.here hx rfl (hb hby at_134) rfl rfl (XS.iload X2339.here hx rfl (hb hby at_136) rfl (XS.iload X2339.here hx rfl (hb hby at_138) rfl (XS.iload X2339.here hx rfl (hb hby at_140) rfl (XS.iload X2339.here hx rfl (hb hby at_142) rfl (XS.iload X2339.here hx rfl (hb hby at_144) rfl kt))))))) ?_
     obtain ⟨_, _, ⟨T2348, L2348, k2348, n2348⟩, -, X2348, ⟨Lc2348, hQ2348, l2348, y2348, z2348⟩, st2348⟩ := Jvm.LawKit.callS X2339 hx (y := yN28) hown (mvT hZ (own_k hw 297 rfl)) (mvT hZ (own_k hw 298 rfl)) (mvT hZ (own_k hw 299 rfl)) (mvT hZ (own_k hw 300 rfl)) (by decide) (backOf (W := 0) (own_all l Z a0 hw [] ob_2339 ko_2339 os_2339 np nw gg qn wn T2339.heap n0 Z2346 P2341 P2343 hp7 hw1 hw4 hq1) hZ (own_k hw 300 rfl) (own_k hw 299 rfl) (by decide) (by decide)) (g := (mkF m 146 #[oI p1, oI p2, oI p3, oI p4, oJ nw, oJ np, oJ nr, oI ft, oI gg, oJ qn, oJ wn, oR b2262, oR ob_2339, .unset] [vJ wn, vJ qn, (.int gg), vJ nw, vJ np, (.ref ob_2339)])) rfl hml.symm  (argsL := [(.ref ob_2339), vJ np, vJ nw, (.int gg), vJ qn, vJ wn]) (rest := []) (lenOf own_pd29 rfl) rfl (own_w0 rfl rfl) (hb hby at_146) (fun _ _ => ⟨rfl, rfl, (by decide : 249 + 0 ≤ 328), (by decide : 7706 + 0 ≤ 10368)⟩)
     dsimp only [Pt.U, Pt.locs, Pt.cells, Pt.slots] at X2348 l2348 y2348 z2348 st2348 hQ2348
     subst l2348 y2348 z2348
     obtain ⟨rfl, N2348, e2348⟩ := hQ2348
     have N2349 := Fr.app N2345 N2348
     refine own_st st2348 ?_
     refine own_st (g' := (mkF m 158 #[oI p1, oI p2, oI p3, oI p4, oJ nw, oJ np, oJ nr, oI ft, oI gg, oJ qn, oJ wn, oR b2262, oR ob_2339, .unset] [(.int 0), (.int 0), (.ref ob_2339)])) (fun _ kt => XS.ifYes X2348.here hx rfl (pc0 := 149) (pc' := 154) rfl (hb hby at_149) rfl (XT.i0_ne_t (by decide)) (by decide) (by decide) (XS.aload X2348.here hx rfl (hb hby at_154) rfl rfl (XS.iconst X2348.here hx rfl (hb hby at_156) (XS.iconst X2348.here hx rfl (hb hby at_157) kt)))) ?_
     have hol := P2342
     obtain ⟨T2350, h2350, X2350, e2350, W2350, V2350, st2350⟩ := own_ist X2348 hx hZ e2348 P2341 (own_idx (i := 0) (by omega) (by omega)) (i := 0) (own_tn (i := 0) (by omega)) (by omega) (g := (mkF m 158 #[oI p1, oI p2, oI p3, oI p4, oJ nw, oJ np, oJ nr, oI ft, oI gg, oJ qn, oJ wn, oR b2262, oR ob_2339, .unset] [(.int 0), (.int 0), (.ref ob_2339)])) rfl rfl (hb hby at_158)
     have N2350 := Fr.snoc X2350 N2349 ge2347
     have Z2351 := Nat.le_trans Z2346 (Nat.le_of_eq (Wr.size W2350).symm)
     have K2_2351 := (Keep.wr K2_2346 W2350 (Or.inr (Nat.le_trans K2_2338.1 P2344)))
     have F2352 : Arv Z h2350 ob_2339 ko_2339 .int (Int32.ofNat np) (os_2339.set 0 (.int 0)) (Value.int 0) := V2350
     refine own_st st2350 ?_
     refine own_st (g' := (mkF m 161 #[oI p1, oI p2, oI p3, oI p4, oJ nw, oJ np, oJ nr, oI ft, oI gg, oJ qn, oJ wn, oR b2262, oR ob_2339, .unset] [(.ref b2262)])) (fun _ kt => XS.aload X2350.here hx rfl (hb hby at_159) rfl rfl kt) ?_
     have Q2353 : own_OW Z h2350 np vs_2300 (fun zy => Int32.ofNat (own_gf np nw gg qn wn zy)) := (own_OW_keep F2337 K2_2351 all0)
     have F2354 := (Exa.keep F2334 K2_2351)
     have F2355 := (Fld.keep F2335 K2_2351 nin0)
     have F2356 := (Arv.keep F2336 K2_2351 nin0)
     obtain ⟨cq2358, kq2358, qa2358, qb2358, qc2358⟩ := isOf hZ e2350 F2354
     obtain ⟨_, _, ⟨T2357, L2357, k2357, n2357⟩, -, X2357, ⟨Lc2357, hQ2357, l2357, y2357, z2357⟩, st2357⟩ := X2350.virtualBack hx (y := yN6) (z := yN6) hown (mvT hZ (own_k hw 291 rfl)) (mvT hZ (own_k hw 292 rfl)) (notFace_of_selects (args := #[]) (mvT hZ (own_k hw 294 rfl))) (mvT hZ (own_k hw 294 rfl)) (mvT hZ (own_k hw 293 rfl)) (by decide) (backOf (W := 0) (own_own l Z a0 hw [] b2262 sa_2300 ks_2300 vs_2300 np (fun zy => Int32.ofNat (own_gf np nw gg qn wn zy)) h2350 n0 Z2351 F2354 F2355 F2356 Q2353 (show 1 ≤ np from (by omega)) hp7) hZ (own_k hw 295 rfl) (own_k hw 3 rfl) (by decide) (by decide)) qa2358 qc2358 (g := (mkF m 161 #[oI p1, oI p2, oI p3, oI p4, oJ nw, oJ np, oJ nr, oI ft, oI gg, oJ qn, oJ wn, oR b2262, oR ob_2339, .unset] [(.ref b2262)])) rfl hml.symm (Steps.refl _) (argsL := []) (rest := []) (lenOf own_pd28 rfl) rfl (own_w0 rfl rfl) (hb hby at_161) (fun _ _ => ⟨rfl, e2350, (by decide : 249 + 1 ≤ 328), (by decide : 7706 + 7 ≤ 10368)⟩)
     dsimp only [Pt.U, Pt.locs, Pt.cells, Pt.slots] at X2357 l2357 y2357 z2357 st2357 hQ2357
     subst l2357 y2357 z2357
     obtain ⟨ob_2357, ko_2357, os_2357, rfl, N2357, K2357_, P2359, P2360, P2361, P2362⟩ := hQ2357
     have N2363 := Fr.app N2350 N2357
     have Z2364 := Nat.le_trans Z2351 K2357_.1
     have K2_2364 := (Keep.trans K2_2351 K2357_ all0)
     have ge2365 : n0 ≤ ob_2357 := Nat.le_trans Z2351 P2362
     refine own_tr st2357 ?_
     refine own_st (g' := (mkF m 178 #[oI p1, oI p2, oI p3, oI p4, oJ nw, oJ np, oJ nr, oI ft, oI gg, oJ qn, oJ wn, oR b2262, oR ob_2339, oR ob_2357] [vJ wn, vJ qn, (.int gg), vJ nw, vJ np, (.ref ob_2357)])) (fun _ kt => XS.astore X2357.here hx rfl (hb hby at_164) rfl rfl (l' := #[oI p1, oI p2, oI p3, oI p4, oJ nw, oJ np, oJ nr, oI ft, oI gg, oJ qn, oJ wn, oR b2262, oR ob_2339, oR ob_2357]) rfl (XS.aload X2357.here hx rfl (hb hby at_166) rfl rfl (XS.iload X2357.here hx rfl (hb hby at_168) rfl (XS.iload X2357.here hx rfl (hb hby at_170) rfl (XS.iload X2357.here hx rfl (hb hby at_172) rfl (XS.iload X2357.here hx rfl (hb hby at_174) rfl (XS.iload X2357.here hx rfl (hb hby at_176) rfl kt))))))) ?_
     obtain ⟨_, _, ⟨T2366, L2366, k2366, n2366⟩, -, X2366, ⟨Lc2366, hQ2366, l2366, y2366, z2366⟩, st2366⟩ := Jvm.LawKit.callS X2357 hx (y := yN28) hown (mvT hZ (own_k hw 297 rfl)) (mvT hZ (own_k hw 298 rfl)) (mvT hZ (own_k hw 299 rfl)) (mvT hZ (own_k hw 300 rfl)) (by decide) (backOf (W := 0) (own_all l Z a0 hw [] ob_2357 ko_2357 os_2357 np nw gg qn wn T2357.heap n0 Z2364 P2359 P2361 hp7 hw1 hw4 hq1) hZ (own_k hw 300 rfl) (own_k hw 299 rfl) (by decide) (by decide)) (g := (mkF m 178 #[oI p1, oI p2, oI p3, oI p4, oJ nw, oJ np, oJ nr, oI ft, oI gg, oJ qn, oJ wn, oR b2262, oR ob_2339, oR ob_2357] [vJ wn, vJ qn, (.int gg), vJ nw, vJ np, (.ref ob_2357)])) rfl hml.symm  (argsL := [(.ref ob_2357), vJ np, vJ nw, (.int gg), vJ qn, vJ wn]) (rest := []) (lenOf own_pd29 rfl) rfl (own_w0 rfl rfl) (hb hby at_178) (fun _ _ => ⟨rfl, rfl, (by decide : 250 + 0 ≤ 328), (by decide : 7713 + 0 ≤ 10368)⟩)
     dsimp only [Pt.U, Pt.locs, Pt.cells, Pt.slots] at X2366 l2366 y2366 z2366 st2366 hQ2366
     subst l2366 y2366 z2366
     obtain ⟨rfl, N2366, e2366⟩ := hQ2366
     have N2367 := Fr.app N2363 N2366
     refine own_st st2366 ?_
     obtain ⟨fs, hr, hrun, hended, hW, hsame⟩ := X2366.leave (v := some (.int 1)) (fun h => by rw [Bd.returns] at h; cases h)
     refine own_end (retN X2366 hx (t := .boolean) Bd.returns (by simp) (hb hby at_181) hr) ⟨_, hrun, hended, _, _, rfl, ?_, ⟨_, rfl⟩, hW, hsame.mono (by decide) (by decide)⟩
     show own_lawQ Z _ _ _ _ _ _ h0 n0 _ T2366.heap _
     rw [e2366]
     exact ⟨rfl, N2367⟩
    ·
     refine own_st (g' := (mkF m 112 #[oI p1, oI p2, oI p3, oI p4, oJ nw, oJ np, oJ nr, oI ft, oI gg, oJ qn, oJ wn, oR b2262, .unset, .unset] [(.int gg)])) (fun _ kt => XS.iload X2300.here hx rfl (hb hby at_110) rfl kt) ?_
     by_cases hc2368 : gg = 0
     ·
      refine own_st (g' := (mkF m 127 #[oI p1, oI p2, oI p3, oI p4, oJ nw, oJ np, oJ nr, oI ft, oI gg, oJ qn, oJ wn, oR b2262, .unset, .unset] [])) (fun _ kt => XS.ifYes X2300.here hx rfl (pc0 := 112) (pc' := 127) rfl (hb hby at_112) rfl (XT.i0_eq_t hc2368) (by decide) (by decide) kt) ?_
      have Q2369 : own_OW Z T2300.heap np vs_2300 (fun zy => Int32.ofNat (own_gf np nw gg qn wn zy)) := (own_S_ow P2314 hc2368)
      have F2370 := (Old.keep F2289 K2300_ (allS ge_b2262 all0))
      exact J2333 _ _ _ () ⟨N2327, Z2328, F2370, P2301, P2302, P2306, Q2369⟩ (X2300.mono (by decide) (by decide)) rfl
     ·
      refine own_st (g' := (mkF m 123 #[oI p1, oI p2, oI p3, oI p4, oJ nw, oJ np, oJ nr, oI ft, oI gg, oJ qn, oJ wn, oR b2262, .unset, .unset] [.null, .null, vJ wn, vJ qn, (.ref b2262)])) (fun _ kt => XS.ifNo X2300.here hx rfl (hb hby at_112) rfl (XT.i0_eq_f hc2368) (XS.aload X2300.here hx rfl (hb hby at_115) rfl rfl (XS.iload X2300.here hx rfl (hb hby at_117) rfl (XS.iload X2300.here hx rfl (hb hby at_119) rfl (XS.aconstNull X2300.here hx rfl (hb hby at_121) (XS.aconstNull X2300.here hx rfl (hb hby at_122) kt)))))) ?_
      have F2371 := (Old.keep F2289 K2300_ (allS ge_b2262 all0))
      obtain ⟨cq2373, kq2373, qa2373, qb2373, qc2373⟩ := isOf hZ rfl P2301
      obtain ⟨_, _, ⟨T2372, L2372, k2372, n2372⟩, -, X2372, ⟨Lc2372, hQ2372, l2372, y2372, z2372⟩, st2372⟩ := X2300.virtualBack hx (y := yN27) (z := yN27) hown (mvT hZ (own_k hw 304 rfl)) (mvT hZ (own_k hw 305 rfl)) (notFace_of_selects (args := #[]) (mvT hZ (own_k hw 307 rfl))) (mvT hZ (own_k hw 307 rfl)) (mvT hZ (own_k hw 306 rfl)) (by decide) (backOf (W := 0) (own_gv l Z a0 hw [] b2262 sa_2300 ks_2300 vs_2300 sp_2300 kp_2300 bs_2300 re_2300 db_2300 kdb_2300 lo_2300 mi_2300 n1_2300 np nw qn wn gg T2300.heap n0 Z2328 F2371 pr4 ge2332 P2311 P2301 P2302 P2303 P2304 P2305 P2306 P2307 P2308 P2309 P2310 P2312 P2313 P2314 P2320 P2321 P2322 P2323 P2324 (show n0 ≤ lo_2300 from (Nat.le_trans Z2287 P2319)) hp7 hw1 hw4 hq1 hc2368) hZ (own_k hw 308 rfl) (own_k hw 3 rfl) (by decide) (by decide)) qa2373 qc2373 (g := (mkF m 123 #[oI p1, oI p2, oI p3, oI p4, oJ nw, oJ np, oJ nr, oI ft, oI gg, oJ qn, oJ wn, oR b2262, .unset, .unset] [.null, .null, vJ wn, vJ qn, (.ref b2262)])) rfl hml.symm (Steps.refl _) (argsL := [vJ qn, vJ wn, .null, .null]) (rest := []) (lenOf own_pd30 rfl) rfl (own_w0 rfl rfl) (hb hby at_123) (fun _ _ => ⟨rfl, rfl, (by decide : 233 + 10 ≤ 328), (by decide : 7619 + 60 ≤ 10368)⟩)
      dsimp only [Pt.U, Pt.locs, Pt.cells, Pt.slots] at X2372 l2372 y2372 z2372 st2372 hQ2372
      subst l2372 y2372 z2372
      obtain ⟨zz_2372, rfl, N2372, P2374, P2375, P2376, P2377, P2378, P2379⟩ := hQ2372
      have N2380 := Fr.app N2327 N2372
      refine own_tr st2372 ?_
      refine own_st (g' := (mkF m 127 #[oI p1, oI p2, oI p3, oI p4, oJ nw, oJ np, oJ nr, oI ft, oI gg, oJ qn, oJ wn, oR b2262, .unset, .unset] [])) (fun _ kt => XT.pop X2372.here hx rfl (hb hby at_126) rfl rfl kt) ?_
      exact J2333 _ _ _ () ⟨N2380, P2379, P2374, P2375, P2376, P2377, P2378⟩ (X2372.mono (by decide) (by decide)) rfl
   ·
    refine own_st (g' := (mkF m 57 #[oI p1, oI p2, oI p3, oI p4, oJ nw, oJ np, oJ nr, oI ft, .unset, .unset, .unset, .unset, .unset, .unset] [(.int (p3 &&& (1 : Int32)))])) (fun _ kt => XS.iloadN X0.here hx rfl (hb hby at_54) rfl (XS.iconst X0.here hx rfl (hb hby at_55) (XS.iand X0.here hx rfl (hb hby at_56) rfl kt))) ?_
    by_cases hc2381 : (p3 &&& (1 : Int32)) = 0
    ·
     refine own_st (g' := (mkF m 65 #[oI p1, oI p2, oI p3, oI p4, oJ nw, oJ np, oJ nr, oI ft, .unset, .unset, .unset, .unset, .unset, .unset] [(.int 0)])) (fun _ kt => XS.ifYes X0.here hx rfl (pc0 := 57) (pc' := 64) rfl (hb hby at_57) rfl (XT.i0_eq_t hc2381) (by decide) (by decide) (XS.iconst X0.here hx rfl (hb hby at_64) kt)) ?_
     exact J2261 (0 : Int32) trivial
    ·
     refine own_st (g' := (mkF m 65 #[oI p1, oI p2, oI p3, oI p4, oJ nw, oJ np, oJ nr, oI ft, .unset, .unset, .unset, .unset, .unset, .unset] [(.int 1)])) (fun _ kt => XS.ifNo X0.here hx rfl (hb hby at_57) rfl (XT.i0_eq_f hc2381) (XS.iconst X0.here hx rfl (hb hby at_60) (XS.goto X0.here hx rfl (pc0 := 61) (pc' := 65) rfl (hb hby at_61) (by decide) (by decide) kt))) ?_
     exact J2261 (1 : Int32) trivial
  ·
   refine own_st (g' := (mkF m 44 #[oI p1, oI p2, oI p3, oI p4, oJ nw, oJ np, oJ nr, .unset, .unset, .unset, .unset, .unset, .unset, .unset] [(.int (XT.ushr p2 (31 : Int32)))])) (fun _ kt => XS.iloadN X0.here hx rfl (hb hby at_40) rfl (XS.bipush X0.here hx rfl (hb hby at_41) (XT.iushr X0.here hx rfl (hb hby at_43) rfl kt))) ?_
   by_cases hc2382 : (XT.ushr p2 (31 : Int32)) = 0
   ·
    refine own_st (g' := (mkF m 52 #[oI p1, oI p2, oI p3, oI p4, oJ nw, oJ np, oJ nr, .unset, .unset, .unset, .unset, .unset, .unset, .unset] [(.int 0)])) (fun _ kt => XS.ifYes X0.here hx rfl (pc0 := 44) (pc' := 51) rfl (hb hby at_44) rfl (XT.i0_eq_t hc2382) (by decide) (by decide) (XS.iconst X0.here hx rfl (hb hby at_51) kt)) ?_
    exact J2260 (0 : Int32) trivial
   ·
    refine own_st (g' := (mkF m 52 #[oI p1, oI p2, oI p3, oI p4, oJ nw, oJ np, oJ nr, .unset, .unset, .unset, .unset, .unset, .unset, .unset] [(.int 1)])) (fun _ kt => XS.ifNo X0.here hx rfl (hb hby at_44) rfl (XT.i0_eq_f hc2382) (XS.iconst X0.here hx rfl (hb hby at_47) (XS.goto X0.here hx rfl (pc0 := 48) (pc' := 52) rfl (hb hby at_48) (by decide) (by decide) kt))) ?_
    exact J2260 (1 : Int32) trivial
 ·
  refine own_st (g' := (mkF m 20 #[oI p1, oI p2, oI p3, oI p4, oJ nw, oJ np, .unset, .unset, .unset, .unset, .unset, .unset, .unset, .unset] [(.int 1), vJ nw])) (fun _ kt => XS.iload X0.here hx rfl (hb hby at_17) rfl (XS.iconst X0.here hx rfl (hb hby at_19) kt)) ?_
  by_cases hc2383 : (Int32.ofNat nw) = (1 : Int32)
  ·
   refine own_st (g' := (mkF m 38 #[oI p1, oI p2, oI p3, oI p4, oJ nw, oJ np, .unset, .unset, .unset, .unset, .unset, .unset, .unset, .unset] [(.int 1)])) (fun _ kt => XS.icmpNo X0.here hx rfl (hb hby at_20) rfl (XT.ii_ne_f hc2383) (XS.iconst X0.here hx rfl (hb hby at_23) (XS.goto X0.here hx rfl (pc0 := 24) (pc' := 38) rfl (hb hby at_24) (by decide) (by decide) kt))) ?_
   exact J2259 1 ⟨Nat.le_refl _, Or.inl rfl⟩
  ·
   have hw2 : 2 ≤ nw := Nat.lt_of_le_of_ne hw1 (fun q => hc2383 (congrArg Int32.ofNat q.symm))
   refine own_st (g' := (mkF m 29 #[oI p1, oI p2, oI p3, oI p4, oJ nw, oJ np, .unset, .unset, .unset, .unset, .unset, .unset, .unset, .unset] [(.int p2), (.int 1)])) (fun _ kt => XS.icmpYes X0.here hx rfl (pc0 := 20) (pc' := 27) rfl (hb hby at_20) rfl (XT.ii_ne_t hc2383) (by decide) (by decide) (XS.iconst X0.here hx rfl (hb hby at_27) (XS.iloadN X0.here hx rfl (hb hby at_28) rfl kt))) ?_
   refine own_st (g' := (mkF m 31 #[oI p1, oI p2, oI p3, oI p4, oJ nw, oJ np, .unset, .unset, .unset, .unset, .unset, .unset, .unset, .unset] [(.int 2147483647), (.int p2), (.int 1)])) (Stand.ldcInt X0 hx hown (mvT hZ (own_k hw 0 rfl)) (g := (mkF m 29 #[oI p1, oI p2, oI p3, oI p4, oJ nw, oJ np, .unset, .unset, .unset, .unset, .unset, .unset, .unset, .unset] [(.int p2), (.int 1)])) rfl (hb hby at_29)) ?_
   refine own_st (g' := (mkF m 36 #[oI p1, oI p2, oI p3, oI p4, oJ nw, oJ np, .unset, .unset, .unset, .unset, .unset, .unset, .unset, .unset] [(.int ((Int32.ofNat nw) - (1 : Int32))), (.int (p2 &&& (2147483647 : Int32))), (.int 1)])) (fun _ kt => XS.iand X0.here hx rfl (hb hby at_31) rfl (XS.iload X0.here hx rfl (hb hby at_32) rfl (XS.iconst X0.here hx rfl (hb hby at_34) (XS.isub X0.here hx rfl (hb hby at_35) rfl kt)))) ?_
   rw [own_prd (n := nw) (by omega) (by omega)]
   refine own_st (g' := (mkF m 38 #[oI p1, oI p2, oI p3, oI p4, oJ nw, oJ np, .unset, .unset, .unset, .unset, .unset, .unset, .unset, .unset] [(.int ((1 : Int32) + ((p2 &&& (2147483647 : Int32)) - ((p2 &&& (2147483647 : Int32)) / (Int32.ofNat (nw - 1))) * (Int32.ofNat (nw - 1)))))])) (fun _ kt => XS.irem X0.here hx rfl (hb hby at_36) rfl (own_nz (by omega) (by omega)) (XS.iadd X0.here hx rfl (hb hby at_37) rfl kt)) ?_
   obtain ⟨rm, hr1, hre⟩ := own_rem (x := p2 &&& (2147483647 : Int32)) (k := nw - 1) (own_andM p2) (by omega) (by omega)
   rw [hre, show (1 : Int32) + Int32.ofNat rm = Int32.ofNat (rm + 1) from by rw [Int32.add_comm]; exact own_succ (by omega)]
   exact J2259 (rm + 1) ⟨by omega, Or.inr (by omega)⟩
theorem own_lenq {Z : State} {args : Array Value} {t : Term} {a : Addr} {cl : Cell} {ty : FieldType} {z : Int32} (et : t.eval args Z none [] Z = some (.ref a)) (A : Arr Z Z.heap a cl ty) (h : (Term.length t).eval args Z none [] Z = some (.int z)) : cl.slots.size < 2 ^ 31 ∧ cl.slots.size.toInt32 = z := by
  simp only [Term.eval, Option.bind_eq_bind, et, Option.bind_some] at h
  obtain ⟨cell, hcell, h⟩ := Option.bind_eq_some_iff.mp h
  obtain ⟨h1, -⟩ := State.arrayAt?_spec hcell
  cases A.1.symm.trans h1
  by_cases hn : cl.slots.size < 2 ^ 31
  · rw [if_pos hn] at h; cases h; exact ⟨hn, rfl⟩
  · rw [if_neg hn] at h; cases h
theorem comes_1 {Post : Tables → Env → Array Value → State → Outcome → State → Prop} (hpost : ∀ tb e args s v u, (limb_1_1.after args s (.returned v) u = true ∧ limb_1_2.after args s (.returned v) u = true ∧ True) → FrameEnd s (.returned v) u (Jvm.fieldLocs frame_1_writes args s ++ Jvm.arrayLocs frame_1_arrays args s ++ Jvm.staticLocs frame_1_statics s) 328 10368 → Post tb e args s (.returned v) u) :
    ArmFor flags0 classFile x code maxLocals ret World_1 tables_1 room_1 Calls_1 rest_1 Pre_1 Post := by
  intro l hfl _ _ p e ha hc hk s m args below hf hA hF happ hP
  obtain ⟨hcalls, hrest, hpre⟩ := hP
  obtain ⟨-, -, -, hnamed, -, -, -, hat⟩ := (Spec.applies_iff hf).mp happ
  obtain ⟨hg, hn⟩ := and_e (Cond.before_iff.mp (show (Jvm.Cond.and given_1 narrow_1).before args s = true from hpre))
  obtain ⟨g0, hg⟩ := and_e hg
  obtain ⟨g1, hg⟩ := and_e hg
  obtain ⟨g2, hg⟩ := and_e hg
  obtain ⟨g3, hg⟩ := and_e hg
  obtain ⟨w0, w1, w2, w3, rfl⟩ : ∃ w0 w1 w2 w3 : Value, args = #[w0, w1, w2, w3] := by
    have hs : args.size = 4 := by simpa [Cond.value, given_1] using g0
    obtain ⟨L⟩ := args
    match L, hs with
    | [w0, w1, w2, w3], _ => exact ⟨w0, w1, w2, w3, rfl⟩
  have hw := fun d (hd : d ∈ tables_1) => atoms_spec (ws := Jvm.Cond.code x code maxLocals ret :: tables_1) hat d (List.mem_cons_of_mem _ hd)
  have hfit : Fit s := fun {y c} hc i hi => by
    obtain ⟨ha, rfl⟩ := Array.getElem?_eq_some_iff.mp hc
    have q := List.all_eq_true.mp ((Array.all_eq_true_iff_forall_mem.mp hF) _ (Array.getElem_mem ha)) i (List.mem_range.mpr hi)
    simpa [Array.getElem?_eq_getElem hi] using q
  obtain ⟨i0, e0⟩ := is_v g1
  obtain rfl : w0 = (.int i0) := Option.some.inj e0
  obtain ⟨i1, e1⟩ := is_v g2
  obtain rfl : w1 = (.int i1) := Option.some.inj e1
  obtain ⟨i2, e2⟩ := is_v g3
  obtain rfl : w2 = (.int i2) := Option.some.inj e2
  obtain ⟨i3, e3⟩ := is_v hg
  obtain rfl : w3 = (.int i3) := Option.some.inj e3
  obtain ⟨hsets, hown0⟩ := atoms_of _ (rest_1_c_eq ▸ (show rest_1_c.before _ s = true from hrest))
  have y6 := Cond.before_iff.mp (hsets _ (List.mem_of_getElem? (i := 6) rfl))
  have y8 := Cond.before_iff.mp (hsets _ (List.mem_of_getElem? (i := 8) rfl))
  obtain ⟨de, ed⟩ := arr_v y6
  obtain ⟨cd, Ad⟩ := Arr.start ed y6
  have ld := own_lenq ed Ad (eqv_i (Term.int_eval (0)) y8)
  have DV : Arv s s.heap de cd.cls (.object zC3) (0 : Int32) [] .null := Arv.start hfit Ad ld.1 ld.2 (by decide) rfl trivial
  have SD : Sta s s.heap zC1 "DEFAULTCAPACITY_EMPTY_ELEMENTDATA" zC7 (.ref de) := Sta.start ed (Or.inr ⟨(own_k hw 34 rfl), hsets _ (List.mem_of_getElem? (i := 2) rfl)⟩)
  have y11 := eqv_i (Term.int_eval (1)) (Cond.before_iff.mp (hsets _ (List.mem_of_getElem? (i := 11) rfl)))
  have A0 : Sta s s.heap zC0 "$assertionsDisabled" "Z" (.int 1) := Sta.start y11 (Or.inl (hsets _ (List.mem_of_getElem? (i := 10) rfl)))
  obtain ⟨n, o, h1, h2, h3, _, L, rfl, ⟨rfl, N⟩, hq⟩ := own_law l s _ hw tables_1 i0 i1 i2 i3 de _ s.heap s.heap.size (Nat.le_refl _) (Old.start s) SD DV A0 p e ha hc hk s m _ below hf ((Spec.applies_iff_loose hf).mp happ).1 ⟨rfl, State.Warmed39.refl s, rfl⟩ trivial
  refine ⟨n, _, h1, h2, h3, hpost _ _ _ _ _ _ ⟨Cond.after_iff.mpr rfl, Cond.after_iff.mpr (eq_i res_at (Term.int_eval (1)) rfl), trivial⟩ ⟨hq.1, hq.2.1, (hq.2.2.sift fun y hy => Or.inr (N y hy)).mono (by decide) (by decide)⟩⟩
theorem main_1_1 : Claimed_1_1 := comes_1 fun _ _ _ _ _ _ h hF => ⟨h.1, hF⟩
theorem main_1_2 : Claimed_1_2 := comes_1 fun _ _ _ _ _ _ h hF => ⟨h.2.1, hF⟩
end Jvm.Pilot.@@N@@
namespace Jvm.Pilot.@@N@@
open Jvm Jvm.ClassFile Sem Op Lib Jvm.Free Jvm.Stand Jvm.Pilot.@@N@@.Jvm.D
/-! MADE BY PROGRAM (witnessworld.py) out of the Statement's table words and the real class files: 58 classes; the members and pool entries that the words name. The judged class is class 1, her method 1. -/
set_option maxRecDepth 65536
namespace start1
open Jvm.ClassFile
def u (s : String) : CpInfo := .utf8 (stringToUtf16 s)
def gap : Nat → List CpInfo → List CpInfo
  | 0, r => r
  | n + 1, r => .unusable :: gap n r
def poolList (es : List (Nat × CpInfo)) (last : Nat) : List CpInfo := es.foldr (fun e r => gap e.1 (e.2 :: r)) (gap last [])
def pool (es : List (Nat × CpInfo)) (last : Nat) : Array CpInfo := ⟨poolList es last⟩
def fileOf (pool : Array CpInfo) (this : Nat) (attrs : Array Attribute := #[]) (ms : Array MethodInfo := #[]) (fl : Nat := 33) (sup : Nat := 0) (ifs : Array Nat := #[]) (fds : Array FieldInfo := #[]) : ClassFile where
  minorVersion := 0
  majorVersion := 65
  constantPool := pool
  accessFlags := fl
  thisClass := this
  superClass := sup
  interfaces := ifs
  fields := fds
  methods := ms
  attributes := attrs
def plain (name : String) (sup : Option ClassId) : Class where
  name := name
  kind := .ordinary
  loader := none
  accessFlags := 33
  super := sup
  interfaces := #[]
  cf := none
  fields := #[]
  methods := #[]
  instanceTypes := #[]
  staticTypes := #[]
  resolved := #[]
  callSites := []
  init := .initialized
  statics := none
  mirror := none

def pool0 : Array CpInfo := pool [(5, u "<init>"), (0, u "()V"), (1, .class_ 10), (1, u "java/lang/Object")] 113

def k0c0 : Code := ⟨0, 1, object_method_1_code, #[], #[]⟩
def k0m0 : Method := ⟨"<init>", "()V", ⟨[], none⟩, 1, some k0c0⟩
def k0 : Class := { plain "java/lang/Object" none with
  accessFlags := 33
  interfaces := #[]
  cf := some (fileOf pool0 8 #[] #[⟨1, 5, 6, #[]⟩] 33 0 #[] #[])
  fields := #[]
  methods := #[k0m0]
  instanceTypes := #[]
  staticTypes := #[]
  resolved := Array.replicate 124 none
  statics := none }

def pool1 : Array CpInfo := pool [(2, .class_ 4), (1, u "java/lang/Object"), (0, u "<init>"), (0, u "()V"), (0, .integer 2147483647), (0, .class_ 9), (0, u "com/example/millrace/millrace/cluster/Shares"), (0, .class_ 11), (0, u "com/example/millrace/millrace/cluster/Placement"), (0, .methodref 10 13), (0, .nameAndType 5 14), (0, u "(III)V"), (0, .methodref 8 16), (0, .nameAndType 5 17), (0, u "(Lcom/example/millrace/millrace/cluster/Placement;Z)V"), (0, .methodref 8 19), (0, .nameAndType 20 21), (0, u "give"), (0, u "(IILcom/example/millrace/millrace/cluster/Partitions$Saved;Lcom/example/millrace/millrace/cluster/Partitions$Saved;)Lcom/example/millrace/millrace/cluster/Partitions$Adoption;"), (0, .methodref 8 23), (0, .nameAndType 24 25), (0, u "owners"), (0, u "()[I"), (0, .methodref 27 28), (0, .class_ 29), (0, .nameAndType 30 31), (0, u "com/example/millrace/millrace/cluster/SharesOwnersPinLaw"), (0, u "all"), (0, u "([IIIZII)Z"), (0, .methodref 27 33), (0, .nameAndType 34 35), (0, u "at"), (0, u "([IIIIZII)Z"), (2, u "law"), (0, u "(IIII)Z")] 14

def k1m0 : Method := ⟨"<init>", "()V", ⟨[], none⟩, 1, none⟩
def k1c1 : Code := ⟨7, 14, code, #[], #[]⟩
def k1m1 : Method := ⟨"law", "(IIII)Z", ⟨[.int, .int, .int, .int], some .boolean⟩, 9, some k1c1⟩
def k1c2 : Code := ⟨7, 6, method_3_code, #[], #[]⟩
def k1m2 : Method := ⟨"all", "([IIIZII)Z", ⟨[(.array .int), .int, .int, .boolean, .int, .int], some .boolean⟩, 10, some k1c2⟩
def k1c3 : Code := ⟨3, 8, method_4_code, #[], #[]⟩
def k1m3 : Method := ⟨"at", "([IIIIZII)Z", ⟨[(.array .int), .int, .int, .int, .boolean, .int, .int], some .boolean⟩, 10, some k1c3⟩
def k1 : Class := { plain "com/example/millrace/millrace/cluster/SharesOwnersPinLaw" (some 0) with
  accessFlags := 49
  interfaces := #[]
  cf := some (fileOf pool1 27 #[] #[⟨1, 5, 6, #[]⟩, ⟨9, 38, 39, #[]⟩, ⟨10, 30, 31, #[]⟩, ⟨10, 34, 35, #[]⟩] 49 2 #[] #[])
  fields := #[]
  methods := #[k1m0, k1m1, k1m2, k1m3]
  instanceTypes := #[]
  staticTypes := #[]
  resolved := Array.replicate 54 none
  statics := none }

def pool2 : Array CpInfo := pool [(1, .methodref 2 3), (0, .class_ 4), (0, .nameAndType 5 6), (0, u "java/lang/Object"), (0, u "<init>"), (0, u "()V"), (0, .class_ 8), (0, u "java/util/ArrayList"), (0, .methodref 7 3), (0, .fieldref 11 12), (0, .class_ 13), (0, .nameAndType 14 15), (0, u "com/example/millrace/millrace/cluster/Shares"), (0, u "commits"), (0, u "Ljava/util/List;"), (0, .methodref 17 18), (0, .class_ 19), (0, .nameAndType 20 21), (0, u "com/example/millrace/millrace/cluster/Placement"), (0, u "partitions"), (0, u "()I"), (0, .class_ 23), (0, u "com/example/millrace/millrace/cluster/Shares$Share"), (0, .fieldref 11 25), (0, .nameAndType 26 27), (0, u "shares"), (0, u "[Lcom/example/millrace/millrace/cluster/Shares$Share;"), (0, .fieldref 11 29), (0, .nameAndType 30 31), (0, u "placement"), (0, u "Lcom/example/millrace/millrace/cluster/Placement;"), (0, .methodref 17 33), (0, .nameAndType 34 21), (0, u "workers"), (0, .class_ 36), (0, u "java/util/BitSet"), (0, .fieldref 11 38), (0, .nameAndType 39 40), (0, u "spoken"), (0, u "[Ljava/util/BitSet;"), (0, .fieldref 11 42), (0, .nameAndType 43 40), (0, u "pendingOf"), (0, .class_ 45), (0, u "com/example/millrace/millrace/cluster/Retained"), (0, .methodref 44 47), (0, .nameAndType 5 48), (0, u "(I)V"), (0, .fieldref 11 50), (0, .nameAndType 51 52), (0, u "retained"), (0, u "Lcom/example/millrace/millrace/cluster/Retained;"), (0, .class_ 54), (0, u "com/example/millrace/millrace/cluster/Coverage"), (0, .methodref 53 56), (0, .nameAndType 5 57), (0, u "(II)V"), (0, .fieldref 11 59), (0, .nameAndType 60 61), (0, u "coverage"), (0, u "Lcom/example/millrace/millrace/cluster/Coverage;"), (0, .methodref 35 3), (0, .methodref 17 64), (0, .nameAndType 65 66), (0, u "backups"), (0, u "()[[I"), (0, .class_ 68), (0, u "[[I"), (0, .methodref 17 70), (0, .nameAndType 71 72), (0, u "owner"), (0, u "(I)I"), (0, .methodref 22 47), (0, .fieldref 22 75), (0, .nameAndType 65 15), (0, .class_ 77), (0, u "com/example/millrace/millrace/cluster/Shares$Backup"), (0, .methodref 76 56), (0, .interfaceMethodref 80 81), (0, .class_ 82), (0, .nameAndType 83 84), (0, u "java/util/List"), (0, u "add"), (0, u "(Ljava/lang/Object;)Z"), (0, .methodref 35 86), (0, .nameAndType 87 48), (0, u "set"), (0, .fieldref 11 89), (0, .nameAndType 90 91), (0, u "generation"), (0, u "I"), (0, .fieldref 22 93), (0, .nameAndType 71 91), (0, .interfaceMethodref 80 95), (0, .nameAndType 96 97), (0, u "iterator"), (0, u "()Ljava/util/Iterator;"), (0, .interfaceMethodref 99 100), (0, .class_ 101), (0, .nameAndType 102 103), (0, u "java/util/Iterator"), (0, u "hasNext"), (0, u "()Z"), (0, .interfaceMethodref 99 105), (0, .nameAndType 106 107), (0, u "next"), (0, u "()Ljava/lang/Object;"), (21, u "Z"), (1, .nameAndType 132 6), (0, u "clear"), (32, .fieldref 22 166), (0, .nameAndType 167 129), (0, u "written"), (0, .fieldref 22 169), (0, .nameAndType 170 171), (0, u "writtenTo"), (0, u "J"), (13, .fieldref 76 186), (0, .nameAndType 187 188), (0, u "pending"), (0, u "Ljava/util/ArrayDeque;"), (1, .class_ 191), (0, u "java/util/ArrayDeque"), (4, .methodref 35 197), (0, .nameAndType 132 48), (12, .fieldref 22 211), (0, .nameAndType 212 91), (0, u "ownedFrom"), (22, .class_ 236), (0, u "com/example/millrace/millrace/cluster/Shares$Waiting"), (19, u "checkpoints"), (43, u "TOLD"), (0, u "Ljava/util/Comparator;"), (8, .class_ 312), (1, u "com/example/millrace/millrace/cluster/Shares$Hold"), (22, .methodref 190 131), (52, u "give"), (0, u "(IILcom/example/millrace/millrace/cluster/Partitions$Saved;Lcom/example/millrace/millrace/cluster/Partitions$Saved;)Lcom/example/millrace/millrace/cluster/Partitions$Adoption;"), (0, .class_ 391), (0, u "com/example/millrace/millrace/cluster/Shares$Given"), (31, .methodref 44 424), (0, .nameAndType 425 48), (0, u "keepForReplay"), (0, .class_ 427), (0, u "com/example/millrace/millrace/cluster/Partitions$Adoption"), (0, .long 9223372036854775808), (1, .methodref 426 431), (0, .nameAndType 5 432), (0, u "(IZJIIJ)V"), (35, u "owners"), (0, u "()[I"), (50, u "(Lcom/example/millrace/millrace/cluster/Placement;Z)V")] 117

def k2c0 : Code := ⟨5, 10, prog_112_method_1_code, #[], #[]⟩
def k2m0 : Method := ⟨"<init>", "(Lcom/example/millrace/millrace/cluster/Placement;Z)V", ⟨[(.object "com/example/millrace/millrace/cluster/Placement"), .boolean], none⟩, 0, some k2c0⟩
def k2c1 : Code := ⟨4, 3, prog_112_method_12_code, #[], #[]⟩
def k2m1 : Method := ⟨"owners", "()[I", ⟨[], some (.array .int)⟩, 0, some k2c1⟩
def k2c2 : Code := ⟨10, 8, prog_112_method_40_code, #[], #[]⟩
def k2m2 : Method := ⟨"give", "(IILcom/example/millrace/millrace/cluster/Partitions$Saved;Lcom/example/millrace/millrace/cluster/Partitions$Saved;)Lcom/example/millrace/millrace/cluster/Partitions$Adoption;", ⟨[.int, .int, (.object "com/example/millrace/millrace/cluster/Partitions$Saved"), (.object "com/example/millrace/millrace/cluster/Partitions$Saved")], some (.object "com/example/millrace/millrace/cluster/Partitions$Adoption")⟩, 0, some k2c2⟩
def k2 : Class := { plain "com/example/millrace/millrace/cluster/Shares" (some 0) with
  accessFlags := 48
  interfaces := #[]
  cf := some (fileOf pool2 11 #[.nestMembers #[390, 22, 235, 76, 310]] #[⟨0, 5, 520, #[]⟩, ⟨0, 468, 469, #[]⟩, ⟨0, 388, 389, #[]⟩] 48 2 #[] #[⟨26, 300, 301, #[]⟩, ⟨18, 26, 27, #[]⟩, ⟨18, 30, 31, #[]⟩, ⟨18, 39, 40, #[]⟩, ⟨18, 43, 40, #[]⟩, ⟨18, 51, 52, #[]⟩, ⟨18, 60, 61, #[]⟩, ⟨18, 14, 15, #[]⟩, ⟨2, 256, 171, #[]⟩, ⟨2, 90, 91, #[]⟩])
  fields := #[⟨"TOLD", (.object "java/util/Comparator"), 26, 0, 0⟩, ⟨"shares", (.array (.object "com/example/millrace/millrace/cluster/Shares$Share")), 18, 0, 0⟩, ⟨"placement", (.object "com/example/millrace/millrace/cluster/Placement"), 18, 1, 0⟩, ⟨"spoken", (.array (.object "java/util/BitSet")), 18, 2, 0⟩, ⟨"pendingOf", (.array (.object "java/util/BitSet")), 18, 3, 0⟩, ⟨"retained", (.object "com/example/millrace/millrace/cluster/Retained"), 18, 4, 0⟩, ⟨"coverage", (.object "com/example/millrace/millrace/cluster/Coverage"), 18, 5, 0⟩, ⟨"commits", (.object "java/util/List"), 18, 6, 0⟩, ⟨"checkpoints", .long, 2, 7, 0⟩, ⟨"generation", .int, 2, 8, 0⟩]
  methods := #[k2m0, k2m1, k2m2]
  instanceTypes := #[(.array (.object "com/example/millrace/millrace/cluster/Shares$Share")), (.object "com/example/millrace/millrace/cluster/Placement"), (.array (.object "java/util/BitSet")), (.array (.object "java/util/BitSet")), (.object "com/example/millrace/millrace/cluster/Retained"), (.object "com/example/millrace/millrace/cluster/Coverage"), (.object "java/util/List"), .long, .int]
  staticTypes := #[(.object "java/util/Comparator")]
  resolved := Array.replicate 638 none
  statics := none }

def pool3 : Array CpInfo := pool [(1, .methodref 2 3), (0, .class_ 4), (0, .nameAndType 5 6), (0, u "java/lang/Object"), (0, u "<init>"), (0, u "()V"), (9, .methodref 17 18), (0, .class_ 19), (0, .nameAndType 20 21), (0, u "java/lang/Math"), (0, u "max"), (0, u "(II)I"), (1, .fieldref 24 25), (0, .class_ 26), (0, .nameAndType 27 28), (0, u "com/example/millrace/millrace/cluster/Placement"), (0, u "workers"), (0, u "I"), (0, .fieldref 24 30), (0, .nameAndType 31 28), (0, u "backupsEach"), (0, .fieldref 24 33), (0, .nameAndType 34 35), (0, u "owners"), (0, u "[I"), (0, .methodref 24 37), (0, .nameAndType 38 39), (0, u "first"), (0, u "(I)I"), (6, u "()I"), (37, .class_ 35), (0, .methodref 86 87), (0, .class_ 88), (0, .nameAndType 89 90), (0, u "java/util/Arrays"), (0, u "sort"), (0, u "([I)V"), (52, .class_ 144), (0, u "com/example/millrace/millrace/cluster/Placement$Orphan"), (176, .class_ 322), (0, u "com/example/millrace/millrace/cluster/Placement$Transfer"), (2, u "(III)V"), (7, .class_ 334), (0, u "com/example/millrace/millrace/cluster/Placement$Backing"), (27, u "FNV_OFFSET_BASIS"), (1, u "FNV_PRIME"), (6, u "partitions"), (0, u "owner"), (4, u "backups"), (0, u "()[[I")] 87

def k3c0 : Code := ⟨4, 6, prog_94_method_1_code, #[], #[]⟩
def k3m0 : Method := ⟨"<init>", "(III)V", ⟨[.int, .int, .int], none⟩, 0, some k3c0⟩
def k3c1 : Code := ⟨1, 1, prog_94_method_4_code, #[], #[]⟩
def k3m1 : Method := ⟨"partitions", "()I", ⟨[], some .int⟩, 0, some k3c1⟩
def k3c2 : Code := ⟨1, 1, prog_94_method_5_code, #[], #[]⟩
def k3m2 : Method := ⟨"workers", "()I", ⟨[], some .int⟩, 0, some k3c2⟩
def k3c3 : Code := ⟨2, 2, prog_94_method_7_code, #[], #[]⟩
def k3m3 : Method := ⟨"owner", "(I)I", ⟨[.int], some .int⟩, 0, some k3c3⟩
def k3c4 : Code := ⟨4, 12, prog_94_method_9_code, #[], #[]⟩
def k3m4 : Method := ⟨"backups", "()[[I", ⟨[], some (.array (.array .int))⟩, 0, some k3c4⟩
def k3c5 : Code := ⟨4, 2, prog_94_method_22_code, #[], #[]⟩
def k3m5 : Method := ⟨"first", "(I)I", ⟨[.int], some .int⟩, 2, some k3c5⟩
def k3 : Class := { plain "com/example/millrace/millrace/cluster/Placement" (some 0) with
  accessFlags := 48
  interfaces := #[]
  cf := some (fileOf pool3 24 #[.nestMembers #[333, 321, 143]] #[⟨0, 5, 325, #[]⟩, ⟨0, 371, 46, #[]⟩, ⟨0, 27, 46, #[]⟩, ⟨0, 372, 39, #[]⟩, ⟨0, 377, 378, #[]⟩, ⟨2, 38, 39, #[]⟩] 48 2 #[] #[⟨26, 362, 28, #[]⟩, ⟨26, 364, 28, #[]⟩, ⟨18, 27, 28, #[]⟩, ⟨18, 31, 28, #[]⟩, ⟨18, 34, 35, #[]⟩])
  fields := #[⟨"FNV_OFFSET_BASIS", .int, 26, 0, 0⟩, ⟨"FNV_PRIME", .int, 26, 1, 0⟩, ⟨"workers", .int, 18, 0, 0⟩, ⟨"backupsEach", .int, 18, 1, 0⟩, ⟨"owners", (.array .int), 18, 2, 0⟩]
  methods := #[k3m0, k3m1, k3m2, k3m3, k3m4, k3m5]
  instanceTypes := #[.int, .int, (.array .int)]
  staticTypes := #[.int, .int]
  resolved := Array.replicate 466 none
  statics := none }

def pool4 : Array CpInfo := pool [(1, .class_ 2), (0, u "java/lang/Math"), (1, .class_ 6), (1, u "java/lang/Object"), (0, u "<init>"), (0, u "()V"), (89, .class_ 100), (1, u "java/lang/Math$RandomNumberGeneratorHolder"), (71, u "negativeZeroFloatBits"), (0, u "J"), (2, u "negativeZeroDoubleBits"), (21, u "max"), (46, u "$assertionsDisabled"), (0, u "Z"), (88, u "(II)I"), (2, u "twoToTheDoubleScaleDown"), (0, u "D"), (4, u "twoToTheDoubleScaleUp"), (9, u "E"), (3, u "PI"), (2, u "TAU"), (2, u "DEGREES_TO_RADIANS"), (0, u "RADIANS_TO_DEGREES")] 94

def k4m0 : Method := ⟨"<init>", "()V", ⟨[], none⟩, 2, none⟩
def k4c1 : Code := ⟨2, 2, jdk_29_method_65_code, #[], #[]⟩
def k4m1 : Method := ⟨"max", "(II)I", ⟨[.int, .int], some .int⟩, 9, some k4c1⟩
def k4 : Class := { plain "java/lang/Math" (some 0) with
  accessFlags := 49
  interfaces := #[]
  cf := some (fileOf pool4 1 #[.nestMembers #[98]] #[⟨2, 7, 8, #[]⟩, ⟨9, 198, 335, #[]⟩] 49 4 #[] #[⟨25, 354, 339, #[]⟩, ⟨25, 358, 339, #[]⟩, ⟨25, 361, 339, #[]⟩, ⟨26, 364, 339, #[]⟩, ⟨26, 365, 339, #[]⟩, ⟨26, 172, 173, #[]⟩, ⟨26, 176, 173, #[]⟩, ⟨8, 344, 339, #[]⟩, ⟨8, 338, 339, #[]⟩, ⟨4120, 245, 246, #[]⟩])
  fields := #[⟨"E", .double, 25, 0, 0⟩, ⟨"PI", .double, 25, 1, 0⟩, ⟨"TAU", .double, 25, 2, 0⟩, ⟨"DEGREES_TO_RADIANS", .double, 26, 3, 0⟩, ⟨"RADIANS_TO_DEGREES", .double, 26, 4, 0⟩, ⟨"negativeZeroFloatBits", .long, 26, 5, 0⟩, ⟨"negativeZeroDoubleBits", .long, 26, 6, 0⟩, ⟨"twoToTheDoubleScaleUp", .double, 8, 7, 0⟩, ⟨"twoToTheDoubleScaleDown", .double, 8, 8, 0⟩, ⟨"$assertionsDisabled", .boolean, 4120, 9, 0⟩]
  methods := #[k4m0, k4m1]
  instanceTypes := #[]
  staticTypes := #[.double, .double, .double, .double, .double, .long, .long, .double, .double, .boolean]
  resolved := Array.replicate 460 none
  statics := none }

def pool5 : Array CpInfo := pool [(8, .class_ 10), (1, u "java/lang/Iterable"), (24, .class_ 36), (0, u "java/lang/Object")] 25

def k5 : Class := { plain "java/lang/Iterable" (some 0) with
  accessFlags := 1537
  interfaces := #[]
  cf := some (fileOf pool5 8 #[] #[] 1537 35 #[] #[])
  fields := #[]
  methods := #[]
  instanceTypes := #[]
  staticTypes := #[]
  resolved := Array.replicate 62 none
  statics := none }

def pool6 : Array CpInfo := pool [(10, .class_ 12), (1, u "java/util/Collection"), (47, .class_ 61), (0, u "java/lang/Object"), (0, .class_ 63), (0, u "java/lang/Iterable")] 51

def k6 : Class := { plain "java/util/Collection" (some 0) with
  accessFlags := 1537
  interfaces := #[5]
  cf := some (fileOf pool6 10 #[] #[] 1537 60 #[62] #[])
  fields := #[]
  methods := #[]
  instanceTypes := #[]
  staticTypes := #[]
  resolved := Array.replicate 115 none
  statics := none }

def pool7 : Array CpInfo := pool [(1, .methodref 2 3), (0, .class_ 4), (0, .nameAndType 5 6), (0, u "java/lang/Object"), (0, u "<init>"), (0, u "()V"), (1, .class_ 10), (1, u "java/util/AbstractCollection"), (66, .class_ 78), (0, u "java/util/Collection")] 81

def k7c0 : Code := ⟨1, 1, jdk_22_method_1_code, #[], #[]⟩
def k7m0 : Method := ⟨"<init>", "()V", ⟨[], none⟩, 4, some k7c0⟩
def k7 : Class := { plain "java/util/AbstractCollection" (some 0) with
  accessFlags := 1057
  interfaces := #[6]
  cf := some (fileOf pool7 8 #[] #[⟨4, 5, 6, #[]⟩] 1057 2 #[77] #[])
  fields := #[]
  methods := #[k7m0]
  instanceTypes := #[]
  staticTypes := #[]
  resolved := Array.replicate 160 none
  statics := none }

def pool8 : Array CpInfo := pool [(8, .class_ 10), (1, u "java/util/SequencedCollection"), (15, .class_ 27), (0, u "java/lang/Object"), (0, .class_ 29), (0, u "java/util/Collection")] 27

def k8 : Class := { plain "java/util/SequencedCollection" (some 0) with
  accessFlags := 1537
  interfaces := #[6]
  cf := some (fileOf pool8 8 #[] #[] 1537 26 #[28] #[])
  fields := #[]
  methods := #[]
  instanceTypes := #[]
  staticTypes := #[]
  resolved := Array.replicate 57 none
  statics := none }

def pool9 : Array CpInfo := pool [(8, .class_ 10), (1, u "java/util/List"), (49, u "add"), (3, u "(Ljava/lang/Object;)Z"), (38, .class_ 104), (0, u "java/lang/Object"), (15, .class_ 121), (0, u "java/util/SequencedCollection"), (1, u "iterator"), (0, u "()Ljava/util/Iterator;")] 126

def k9m0 : Method := ⟨"iterator", "()Ljava/util/Iterator;", ⟨[], some (.object "java/util/Iterator")⟩, 1025, none⟩
def k9m1 : Method := ⟨"add", "(Ljava/lang/Object;)Z", ⟨[(.object "java/lang/Object")], some .boolean⟩, 1025, none⟩
def k9 : Class := { plain "java/util/List" (some 0) with
  accessFlags := 1537
  interfaces := #[8]
  cf := some (fileOf pool9 8 #[] #[⟨1025, 123, 124, #[]⟩, ⟨1025, 60, 64, #[]⟩] 1537 103 #[120] #[])
  fields := #[]
  methods := #[k9m0, k9m1]
  instanceTypes := #[]
  staticTypes := #[]
  resolved := Array.replicate 251 none
  statics := none }

def pool10 : Array CpInfo := pool [(1, .methodref 2 3), (0, .class_ 4), (0, .nameAndType 5 6), (0, u "java/util/AbstractCollection"), (0, u "<init>"), (0, u "()V"), (0, .fieldref 8 9), (0, .class_ 10), (0, .nameAndType 11 12), (0, u "java/util/AbstractList"), (0, u "modCount"), (0, u "I"), (64, .class_ 78), (0, u "java/util/AbstractList$Itr"), (3, .class_ 83), (0, u "java/util/AbstractList$ListItr"), (9, .class_ 94), (0, u "java/util/AbstractList$RandomAccessSubList"), (3, .class_ 99), (0, u "java/util/AbstractList$SubList"), (33, .class_ 134), (0, u "java/util/List"), (73, .class_ 209), (0, u "java/util/AbstractList$SubList$1"), (0, .class_ 211), (0, u "java/util/AbstractList$RandomAccessSpliterator")] 6

def k10c0 : Code := ⟨2, 1, jdk_39_method_1_code, #[], #[]⟩
def k10m0 : Method := ⟨"<init>", "()V", ⟨[], none⟩, 4, some k10c0⟩
def k10 : Class := { plain "java/util/AbstractList" (some 7) with
  accessFlags := 1057
  interfaces := #[9]
  cf := some (fileOf pool10 8 #[.nestMembers #[93, 98, 208, 210, 82, 77]] #[⟨4, 5, 6, #[]⟩] 1057 2 #[133] #[⟨132, 11, 12, #[]⟩])
  fields := #[⟨"modCount", .int, 132, 0, 0⟩]
  methods := #[k10m0]
  instanceTypes := #[.int]
  staticTypes := #[]
  resolved := Array.replicate 218 none
  statics := none }

def pool11 : Array CpInfo := pool [(1, .class_ 2), (0, u "java/util/RandomAccess"), (0, .class_ 4), (0, u "java/lang/Object")] 2

def k11 : Class := { plain "java/util/RandomAccess" (some 0) with
  accessFlags := 1537
  interfaces := #[]
  cf := some (fileOf pool11 1 #[] #[] 1537 3 #[] #[])
  fields := #[]
  methods := #[]
  instanceTypes := #[]
  staticTypes := #[]
  resolved := Array.replicate 7 none
  statics := none }

def pool12 : Array CpInfo := pool [(1, .class_ 2), (0, u "java/lang/Cloneable"), (0, .class_ 4), (0, u "java/lang/Object")] 2

def k12 : Class := { plain "java/lang/Cloneable" (some 0) with
  accessFlags := 1537
  interfaces := #[]
  cf := some (fileOf pool12 1 #[] #[] 1537 3 #[] #[])
  fields := #[]
  methods := #[]
  instanceTypes := #[]
  staticTypes := #[]
  resolved := Array.replicate 7 none
  statics := none }

def pool13 : Array CpInfo := pool [(1, .class_ 2), (0, u "java/io/Serializable"), (0, .class_ 4), (0, u "java/lang/Object")] 2

def k13 : Class := { plain "java/io/Serializable" (some 0) with
  accessFlags := 1537
  interfaces := #[]
  cf := some (fileOf pool13 1 #[] #[] 1537 3 #[] #[])
  fields := #[]
  methods := #[]
  instanceTypes := #[]
  staticTypes := #[]
  resolved := Array.replicate 7 none
  statics := none }

def pool14 : Array CpInfo := pool [(1, .methodref 2 3), (0, .class_ 4), (0, .nameAndType 5 6), (0, u "java/util/AbstractList"), (0, u "<init>"), (0, u "()V"), (0, .class_ 8), (0, u "java/lang/Object"), (0, .fieldref 10 11), (0, .class_ 12), (0, .nameAndType 13 14), (0, u "java/util/ArrayList"), (0, u "elementData"), (0, u "[Ljava/lang/Object;"), (2, u "EMPTY_ELEMENTDATA"), (21, .fieldref 10 40), (0, .nameAndType 41 14), (0, u "DEFAULTCAPACITY_EMPTY_ELEMENTDATA"), (5, u "()[Ljava/lang/Object;"), (0, .fieldref 10 49), (0, .nameAndType 50 51), (0, u "size"), (0, u "I"), (11, .fieldref 10 64), (0, .nameAndType 65 51), (0, u "modCount"), (3, .methodref 10 70), (0, .nameAndType 71 72), (0, u "grow"), (0, u "(I)[Ljava/lang/Object;"), (6, .methodref 80 81), (0, .class_ 82), (0, .nameAndType 83 84), (0, u "java/lang/Math"), (0, u "max"), (0, u "(II)I"), (11, u "(Ljava/lang/Object;)Z"), (32, .methodref 10 130), (0, .nameAndType 71 47), (0, .methodref 10 132), (0, .nameAndType 133 134), (0, u "add"), (0, u "(Ljava/lang/Object;[Ljava/lang/Object;I)V"), (3, u "(I)V"), (9, .class_ 149), (0, u "java/util/List"), (16, u "iterator"), (0, u "()Ljava/util/Iterator;"), (94, .class_ 263), (0, u "java/util/ArrayList$ListItr"), (3, .class_ 268), (0, u "java/util/ArrayList$Itr"), (0, .methodref 267 270), (0, .nameAndType 5 271), (0, u "(Ljava/util/ArrayList;)V"), (4, .class_ 277), (0, u "java/util/ArrayList$SubList"), (12, .class_ 291), (0, u "java/util/ArrayList$ArrayListSpliterator"), (37, .class_ 330), (0, u "java/util/RandomAccess"), (0, .class_ 332), (0, u "java/lang/Cloneable"), (0, .class_ 334), (0, u "java/io/Serializable"), (0, u "serialVersionUID"), (0, u "J"), (3, u "DEFAULT_CAPACITY"), (159, .class_ 501), (0, u "java/util/ArrayList$SubList$2"), (0, .class_ 503), (0, u "java/util/ArrayList$SubList$1")] 5

def k14c0 : Code := ⟨4, 2, jdk_38_method_1_code, #[], #[]⟩
def k14m0 : Method := ⟨"<init>", "(I)V", ⟨[.int], none⟩, 1, some k14c0⟩
def k14c1 : Code := ⟨2, 1, jdk_38_method_2_code, #[], #[]⟩
def k14m1 : Method := ⟨"<init>", "()V", ⟨[], none⟩, 1, some k14c1⟩
def k14c2 : Code := ⟨4, 4, jdk_38_method_6_code, #[], #[]⟩
def k14m2 : Method := ⟨"grow", "(I)[Ljava/lang/Object;", ⟨[.int], some (.array (.object "java/lang/Object"))⟩, 2, some k14c2⟩
def k14c3 : Code := ⟨3, 1, jdk_38_method_7_code, #[], #[]⟩
def k14m3 : Method := ⟨"grow", "()[Ljava/lang/Object;", ⟨[], some (.array (.object "java/lang/Object"))⟩, 2, some k14c3⟩
def k14c4 : Code := ⟨3, 4, jdk_38_method_24_code, #[], #[]⟩
def k14m4 : Method := ⟨"add", "(Ljava/lang/Object;[Ljava/lang/Object;I)V", ⟨[(.object "java/lang/Object"), (.array (.object "java/lang/Object")), .int], none⟩, 2, some k14c4⟩
def k14c5 : Code := ⟨4, 2, jdk_38_method_25_code, #[], #[]⟩
def k14m5 : Method := ⟨"add", "(Ljava/lang/Object;)Z", ⟨[(.object "java/lang/Object")], some .boolean⟩, 1, some k14c5⟩
def k14c6 : Code := ⟨3, 1, jdk_38_method_55_code, #[], #[]⟩
def k14m6 : Method := ⟨"iterator", "()Ljava/util/Iterator;", ⟨[], some (.object "java/util/Iterator")⟩, 1, some k14c6⟩
def k14 : Class := { plain "java/util/ArrayList" (some 10) with
  accessFlags := 33
  interfaces := #[9, 11, 12, 13]
  cf := some (fileOf pool14 10 #[.nestMembers #[290, 276, 500, 502, 262, 267]] #[⟨1, 5, 138, #[]⟩, ⟨1, 5, 6, #[]⟩, ⟨2, 71, 72, #[]⟩, ⟨2, 71, 47, #[]⟩, ⟨2, 133, 134, #[]⟩, ⟨1, 133, 96, #[]⟩, ⟨1, 166, 167, #[]⟩] 33 2 #[148, 329, 331, 333] #[⟨26, 335, 336, #[]⟩, ⟨26, 340, 51, #[]⟩, ⟨26, 17, 14, #[]⟩, ⟨26, 41, 14, #[]⟩, ⟨128, 13, 14, #[]⟩, ⟨2, 50, 51, #[]⟩])
  fields := #[⟨"serialVersionUID", .long, 26, 0, 0⟩, ⟨"DEFAULT_CAPACITY", .int, 26, 1, 0⟩, ⟨"EMPTY_ELEMENTDATA", (.array (.object "java/lang/Object")), 26, 2, 0⟩, ⟨"DEFAULTCAPACITY_EMPTY_ELEMENTDATA", (.array (.object "java/lang/Object")), 26, 3, 0⟩, ⟨"elementData", (.array (.object "java/lang/Object")), 128, 1, 0⟩, ⟨"size", .int, 2, 2, 0⟩]
  methods := #[k14m0, k14m1, k14m2, k14m3, k14m4, k14m5, k14m6]
  instanceTypes := #[.int, (.array (.object "java/lang/Object")), .int]
  staticTypes := #[.long, .int, (.array (.object "java/lang/Object")), (.array (.object "java/lang/Object"))]
  resolved := Array.replicate 509 none
  statics := some 0 }

def pool15 : Array CpInfo := pool [(1, .methodref 2 3), (0, .class_ 4), (0, .nameAndType 5 6), (0, u "java/lang/Object"), (0, u "<init>"), (0, u "()V"), (0, .class_ 8), (0, u "java/util/ArrayList"), (0, .methodref 7 3), (0, .fieldref 11 12), (0, .class_ 13), (0, .nameAndType 14 15), (0, u "com/example/millrace/millrace/cluster/Shares$Share"), (0, u "backups"), (0, u "Ljava/util/List;"), (0, .fieldref 11 17), (0, .nameAndType 18 19), (0, u "owner"), (0, u "I"), (27, u "inputReleased"), (0, u "Z"), (5, u "sentReleased"), (6, u "written"), (2, u "writtenTo"), (0, u "J"), (0, u "ownedFrom"), (2, u "finished"), (0, u "(I)V"), (13, .class_ 85), (0, u "com/example/millrace/millrace/cluster/Shares")] 8

def k15c0 : Code := ⟨3, 2, prog_116_method_1_code, #[], #[]⟩
def k15m0 : Method := ⟨"<init>", "(I)V", ⟨[.int], none⟩, 0, some k15c0⟩
def k15 : Class := { plain "com/example/millrace/millrace/cluster/Shares$Share" (some 0) with
  accessFlags := 48
  interfaces := #[]
  cf := some (fileOf pool15 11 #[.nestHost 84] #[⟨0, 5, 70, #[]⟩] 48 2 #[] #[⟨0, 18, 19, #[]⟩, ⟨0, 66, 19, #[]⟩, ⟨16, 14, 15, #[]⟩, ⟨0, 61, 48, #[]⟩, ⟨0, 64, 65, #[]⟩, ⟨0, 69, 48, #[]⟩, ⟨0, 47, 48, #[]⟩, ⟨0, 54, 48, #[]⟩])
  fields := #[⟨"owner", .int, 0, 0, 0⟩, ⟨"ownedFrom", .int, 0, 1, 0⟩, ⟨"backups", (.object "java/util/List"), 16, 2, 0⟩, ⟨"written", .boolean, 0, 3, 0⟩, ⟨"writtenTo", .long, 0, 4, 0⟩, ⟨"finished", .boolean, 0, 5, 0⟩, ⟨"inputReleased", .boolean, 0, 6, 0⟩, ⟨"sentReleased", .boolean, 0, 7, 0⟩]
  methods := #[k15m0]
  instanceTypes := #[.int, .int, (.object "java/util/List"), .boolean, .long, .boolean, .boolean, .boolean]
  staticTypes := #[]
  resolved := Array.replicate 94 none
  statics := none }

def pool16 : Array CpInfo := pool [(1, .class_ 2), (0, u "java/util/BitSet"), (0, .fieldref 1 4), (0, .nameAndType 5 6), (0, u "$assertionsDisabled"), (0, u "Z"), (0, .fieldref 1 8), (0, .nameAndType 9 10), (0, u "wordsInUse"), (0, u "I"), (0, .fieldref 1 12), (0, .nameAndType 13 14), (0, u "words"), (0, u "[J"), (3, .nameAndType 19 20), (0, u "<init>"), (0, u "()V"), (0, .methodref 22 18), (0, .class_ 23), (0, u "java/lang/Object"), (0, .fieldref 1 25), (0, .nameAndType 26 6), (0, u "sizeIsSticky"), (0, .methodref 1 28), (0, .nameAndType 29 30), (0, u "initWords"), (0, u "(I)V"), (21, .methodref 1 53), (0, .nameAndType 54 55), (0, u "wordIndex"), (0, u "(I)I"), (0, .methodref 1 57), (0, .nameAndType 58 20), (0, u "checkInvariants"), (80, .methodref 1 140), (0, .nameAndType 141 30), (0, u "ensureCapacity"), (13, .methodref 1 156), (0, .nameAndType 157 30), (0, u "expandTo"), (0, .methodref 1 159), (0, .nameAndType 160 20), (0, u "recalculateWordsInUse"), (4, .long 18446744073709551615), (3, u "set"), (2, u "clear"), (96, .class_ 270), (0, u "java/util/BitSet$1BitSetSpliterator"), (22, u "serialPersistentFields"), (0, u "[Ljava/io/ObjectStreamField;"), (0, .class_ 296), (0, u "java/lang/Cloneable"), (0, .class_ 298), (0, u "java/io/Serializable"), (0, u "ADDRESS_BITS_PER_WORD"), (2, u "BITS_PER_WORD"), (1, u "BIT_INDEX_MASK"), (1, u "WORD_MASK"), (0, u "J"), (0, u "serialVersionUID")] 108

def k16c0 : Code := ⟨2, 1, jdk_92_method_1_code, #[], #[]⟩
def k16m0 : Method := ⟨"wordIndex", "(I)I", ⟨[.int], some .int⟩, 10, some k16c0⟩
def k16c1 : Code := ⟨4, 1, jdk_92_method_2_code, #[], #[]⟩
def k16m1 : Method := ⟨"checkInvariants", "()V", ⟨[], none⟩, 2, some k16c1⟩
def k16c2 : Code := ⟨4, 2, jdk_92_method_3_code, #[], #[]⟩
def k16m2 : Method := ⟨"recalculateWordsInUse", "()V", ⟨[], none⟩, 2, some k16c2⟩
def k16c3 : Code := ⟨2, 1, jdk_92_method_4_code, #[], #[]⟩
def k16m3 : Method := ⟨"<init>", "()V", ⟨[], none⟩, 1, some k16c3⟩
def k16c4 : Code := ⟨3, 2, jdk_92_method_6_code, #[], #[]⟩
def k16m4 : Method := ⟨"initWords", "(I)V", ⟨[.int], none⟩, 2, some k16c4⟩
def k16c5 : Code := ⟨3, 3, jdk_92_method_14_code, #[], #[]⟩
def k16m5 : Method := ⟨"ensureCapacity", "(I)V", ⟨[.int], none⟩, 2, some k16c5⟩
def k16c6 : Code := ⟨2, 3, jdk_92_method_15_code, #[], #[]⟩
def k16m6 : Method := ⟨"expandTo", "(I)V", ⟨[.int], none⟩, 2, some k16c6⟩
def k16c7 : Code := ⟨7, 3, jdk_92_method_19_code, #[], #[]⟩
def k16m7 : Method := ⟨"set", "(I)V", ⟨[.int], none⟩, 1, some k16c7⟩
def k16c8 : Code := ⟨8, 3, jdk_92_method_23_code, #[], #[]⟩
def k16m8 : Method := ⟨"clear", "(I)V", ⟨[.int], none⟩, 1, some k16c8⟩
def k16 : Class := { plain "java/util/BitSet" (some 0) with
  accessFlags := 33
  interfaces := #[12, 13]
  cf := some (fileOf pool16 1 #[.nestMembers #[269]] #[⟨10, 54, 55, #[]⟩, ⟨2, 58, 20, #[]⟩, ⟨2, 160, 20, #[]⟩, ⟨1, 19, 20, #[]⟩, ⟨2, 29, 30, #[]⟩, ⟨2, 141, 30, #[]⟩, ⟨2, 157, 30, #[]⟩, ⟨1, 169, 30, #[]⟩, ⟨1, 172, 30, #[]⟩] 33 22 #[295, 297] #[⟨26, 299, 10, #[]⟩, ⟨26, 302, 10, #[]⟩, ⟨26, 304, 10, #[]⟩, ⟨26, 306, 307, #[]⟩, ⟨26, 293, 294, #[]⟩, ⟨2, 13, 14, #[]⟩, ⟨130, 9, 10, #[]⟩, ⟨130, 26, 6, #[]⟩, ⟨26, 308, 307, #[]⟩, ⟨4120, 5, 6, #[]⟩])
  fields := #[⟨"ADDRESS_BITS_PER_WORD", .int, 26, 0, 0⟩, ⟨"BITS_PER_WORD", .int, 26, 1, 0⟩, ⟨"BIT_INDEX_MASK", .int, 26, 2, 0⟩, ⟨"WORD_MASK", .long, 26, 3, 0⟩, ⟨"serialPersistentFields", (.array (.object "java/io/ObjectStreamField")), 26, 4, 0⟩, ⟨"words", (.array .long), 2, 0, 0⟩, ⟨"wordsInUse", .int, 130, 1, 0⟩, ⟨"sizeIsSticky", .boolean, 130, 2, 0⟩, ⟨"serialVersionUID", .long, 26, 5, 0⟩, ⟨"$assertionsDisabled", .boolean, 4120, 6, 0⟩]
  methods := #[k16m0, k16m1, k16m2, k16m3, k16m4, k16m5, k16m6, k16m7, k16m8]
  instanceTypes := #[(.array .long), .int, .boolean]
  staticTypes := #[.int, .int, .int, .long, (.array (.object "java/io/ObjectStreamField")), .long, .boolean]
  resolved := Array.replicate 417 none
  statics := some 1 }

def pool17 : Array CpInfo := pool [(1, .methodref 2 3), (0, .class_ 4), (0, .nameAndType 5 6), (0, u "java/lang/Object"), (0, u "<init>"), (0, u "()V"), (0, .class_ 8), (0, u "java/util/ArrayList"), (0, .methodref 7 10), (0, .nameAndType 5 11), (0, u "(I)V"), (0, .fieldref 13 14), (0, .class_ 15), (0, .nameAndType 16 17), (0, u "com/example/millrace/millrace/cluster/Retained"), (0, u "partitions"), (0, u "Ljava/util/List;"), (0, .class_ 19), (0, u "java/util/TreeMap"), (0, .methodref 18 3), (0, .interfaceMethodref 22 23), (0, .class_ 24), (0, .nameAndType 25 26), (0, u "java/util/List"), (0, u "add"), (0, u "(Ljava/lang/Object;)Z"), (0, .class_ 28), (0, u "com/example/millrace/millrace/cluster/Packed"), (0, .fieldref 13 30), (0, .nameAndType 31 32), (0, u "last"), (0, u "[Lcom/example/millrace/millrace/cluster/Packed;"), (0, .fieldref 13 34), (0, .nameAndType 35 36), (0, u "lastLateFrom"), (0, u "[J"), (0, .class_ 38), (0, u "com/example/millrace/millrace/cluster/Places"), (0, .methodref 37 10), (0, .fieldref 13 41), (0, .nameAndType 42 43), (0, u "places"), (0, u "Lcom/example/millrace/millrace/cluster/Places;"), (0, .class_ 45), (0, u "java/lang/Long"), (0, .fieldref 13 47), (0, .nameAndType 48 49), (0, u "dropping"), (0, u "[Ljava/lang/Long;"), (6, .methodref 44 57), (0, .nameAndType 58 59), (0, u "valueOf"), (0, u "(J)Ljava/lang/Long;"), (10, u "sent"), (0, u "J"), (5, u "heldMost"), (2, u "held"), (81, .long 9223372036854775808), (96, u "keepForReplay")] 49

def k17c0 : Code := ⟨4, 3, prog_109_method_1_code, #[], #[]⟩
def k17m0 : Method := ⟨"<init>", "(I)V", ⟨[.int], none⟩, 0, some k17c0⟩
def k17c1 : Code := ⟨4, 2, prog_109_method_10_code, #[], #[]⟩
def k17m1 : Method := ⟨"keepForReplay", "(I)V", ⟨[.int], none⟩, 0, some k17c1⟩
def k17 : Class := { plain "com/example/millrace/millrace/cluster/Retained" (some 0) with
  accessFlags := 48
  interfaces := #[]
  cf := some (fileOf pool17 13 #[] #[⟨0, 5, 11, #[]⟩, ⟨0, 259, 11, #[]⟩] 48 2 #[] #[⟨18, 16, 17, #[]⟩, ⟨18, 31, 32, #[]⟩, ⟨18, 35, 36, #[]⟩, ⟨18, 42, 43, #[]⟩, ⟨18, 48, 49, #[]⟩, ⟨2, 70, 71, #[]⟩, ⟨2, 80, 71, #[]⟩, ⟨2, 77, 71, #[]⟩])
  fields := #[⟨"partitions", (.object "java/util/List"), 18, 0, 0⟩, ⟨"last", (.array (.object "com/example/millrace/millrace/cluster/Packed")), 18, 1, 0⟩, ⟨"lastLateFrom", (.array .long), 18, 2, 0⟩, ⟨"places", (.object "com/example/millrace/millrace/cluster/Places"), 18, 3, 0⟩, ⟨"dropping", (.array (.object "java/lang/Long")), 18, 4, 0⟩, ⟨"sent", .long, 2, 5, 0⟩, ⟨"held", .long, 2, 6, 0⟩, ⟨"heldMost", .long, 2, 7, 0⟩]
  methods := #[k17m0, k17m1]
  instanceTypes := #[(.object "java/util/List"), (.array (.object "com/example/millrace/millrace/cluster/Packed")), (.array .long), (.object "com/example/millrace/millrace/cluster/Places"), (.array (.object "java/lang/Long")), .long, .long, .long]
  staticTypes := #[]
  resolved := Array.replicate 309 none
  statics := none }

def pool18 : Array CpInfo := pool [(2, .class_ 4), (1, u "java/util/Map"), (31, .class_ 37), (0, u "java/util/Map$Entry"), (55, .class_ 94), (0, u "java/lang/Object")] 168

def k18 : Class := { plain "java/util/Map" (some 0) with
  accessFlags := 1537
  interfaces := #[]
  cf := some (fileOf pool18 2 #[.nestMembers #[36]] #[] 1537 93 #[] #[])
  fields := #[]
  methods := #[]
  instanceTypes := #[]
  staticTypes := #[]
  resolved := Array.replicate 263 none
  statics := none }

def pool19 : Array CpInfo := pool [(1, .methodref 2 3), (0, .class_ 4), (0, .nameAndType 5 6), (0, u "java/lang/Object"), (0, u "<init>"), (0, u "()V"), (1, .class_ 10), (1, u "java/util/AbstractMap"), (42, .class_ 54), (0, u "java/util/Map"), (9, u "keySet"), (0, u "Ljava/util/Set;"), (0, .class_ 67), (0, u "java/util/AbstractMap$1"), (5, u "values"), (0, u "Ljava/util/Collection;"), (0, .class_ 76), (0, u "java/util/AbstractMap$2"), (104, .class_ 182), (0, u "java/util/AbstractMap$ViewCollection"), (0, .class_ 184), (0, u "java/util/AbstractMap$SimpleImmutableEntry"), (0, .class_ 186), (0, u "java/util/AbstractMap$SimpleEntry"), (0, .class_ 188), (0, u "java/util/AbstractMap$2$1"), (0, .class_ 190), (0, u "java/util/AbstractMap$1$1")] 5

def k19c0 : Code := ⟨1, 1, jdk_71_method_1_code, #[], #[]⟩
def k19m0 : Method := ⟨"<init>", "()V", ⟨[], none⟩, 4, some k19c0⟩
def k19 : Class := { plain "java/util/AbstractMap" (some 0) with
  accessFlags := 1057
  interfaces := #[18]
  cf := some (fileOf pool19 8 #[.nestMembers #[181, 183, 185, 75, 187, 66, 189]] #[⟨4, 5, 6, #[]⟩] 1057 2 #[53] #[⟨128, 64, 65, #[]⟩, ⟨128, 73, 74, #[]⟩])
  fields := #[⟨"keySet", (.object "java/util/Set"), 128, 0, 0⟩, ⟨"values", (.object "java/util/Collection"), 128, 1, 0⟩]
  methods := #[k19m0]
  instanceTypes := #[(.object "java/util/Set"), (.object "java/util/Collection")]
  staticTypes := #[]
  resolved := Array.replicate 196 none
  statics := none }

def pool20 : Array CpInfo := pool [(2, .class_ 4), (1, u "java/util/SequencedMap"), (38, .class_ 44), (0, u "java/util/SequencedMap$1SeqKeySet"), (3, .class_ 49), (0, u "java/util/SequencedMap$1SeqValues"), (1, .class_ 52), (0, u "java/util/SequencedMap$1SeqEntrySet"), (1, .class_ 55), (0, u "java/lang/Object"), (0, .class_ 57), (0, u "java/util/Map")] 48

def k20 : Class := { plain "java/util/SequencedMap" (some 0) with
  accessFlags := 1537
  interfaces := #[18]
  cf := some (fileOf pool20 2 #[.nestMembers #[51, 48, 43]] #[] 1537 54 #[56] #[])
  fields := #[]
  methods := #[]
  instanceTypes := #[]
  staticTypes := #[]
  resolved := Array.replicate 106 none
  statics := none }

def pool21 : Array CpInfo := pool [(14, .class_ 16), (1, u "java/util/SortedMap"), (2, .class_ 20), (0, u "java/lang/Object"), (0, .class_ 22), (0, u "java/util/SequencedMap")] 50

def k21 : Class := { plain "java/util/SortedMap" (some 0) with
  accessFlags := 1537
  interfaces := #[20]
  cf := some (fileOf pool21 14 #[] #[] 1537 19 #[21] #[])
  fields := #[]
  methods := #[]
  instanceTypes := #[]
  staticTypes := #[]
  resolved := Array.replicate 73 none
  statics := none }

def pool22 : Array CpInfo := pool [(2, .class_ 4), (1, u "java/util/NavigableMap"), (5, .class_ 11), (0, u "java/lang/Object"), (0, .class_ 13), (0, u "java/util/SortedMap")] 53

def k22 : Class := { plain "java/util/NavigableMap" (some 0) with
  accessFlags := 1537
  interfaces := #[21]
  cf := some (fileOf pool22 2 #[] #[] 1537 10 #[12] #[])
  fields := #[]
  methods := #[]
  instanceTypes := #[]
  staticTypes := #[]
  resolved := Array.replicate 67 none
  statics := none }

def pool23 : Array CpInfo := pool [(1, .methodref 2 3), (0, .class_ 4), (0, .nameAndType 5 6), (0, u "java/util/AbstractMap"), (0, u "<init>"), (0, u "()V"), (0, .fieldref 8 9), (0, .class_ 10), (0, .nameAndType 11 12), (0, u "java/util/TreeMap"), (0, u "size"), (0, u "I"), (0, .fieldref 8 14), (0, .nameAndType 15 12), (0, u "modCount"), (0, .fieldref 8 17), (0, .nameAndType 18 19), (0, u "comparator"), (0, u "Ljava/util/Comparator;"), (14, u "entrySet"), (24, .class_ 61), (1, u "java/util/TreeMap$Entry"), (1, u "Ljava/lang/Object;"), (39, u "root"), (0, u "Ljava/util/TreeMap$Entry;"), (85, u "Ljava/util/TreeMap$EntrySet;"), (2, u "navigableKeySet"), (0, u "Ljava/util/TreeMap$KeySet;"), (2, u "descendingMap"), (0, u "Ljava/util/NavigableMap;"), (23, .class_ 223), (0, u "java/util/TreeMap$KeySet"), (7, .class_ 232), (0, u "java/util/NavigableMap"), (4, .class_ 238), (0, u "java/util/TreeMap$Values"), (3, .class_ 243), (0, u "java/util/TreeMap$EntrySet"), (1, .class_ 246), (0, u "java/util/TreeMap$DescendingSubMap"), (3, .class_ 251), (0, u "java/util/TreeMap$AscendingSubMap"), (17, .class_ 270), (0, u "java/util/TreeMap$KeyIterator"), (3, .class_ 275), (0, u "java/util/TreeMap$DescendingKeyIterator"), (17, u "Z"), (94, .class_ 389), (0, u "java/util/TreeMap$NavigableSubMap"), (1, .class_ 392), (0, u "java/util/TreeMap$KeySpliterator"), (3, .class_ 397), (0, u "java/util/TreeMap$DescendingKeySpliterator"), (4, u "UNBOUNDED"), (0, .class_ 404), (0, u "java/lang/Cloneable"), (0, .class_ 406), (0, u "java/io/Serializable"), (6, u "RED"), (2, u "BLACK"), (1, u "serialVersionUID"), (0, u "J"), (214, .class_ 635), (0, u "java/util/TreeMap$EntrySpliterator"), (0, .class_ 637), (0, u "java/util/TreeMap$ValueSpliterator"), (0, .class_ 639), (0, u "java/util/TreeMap$TreeMapSpliterator"), (0, .class_ 641), (0, u "java/util/TreeMap$SubMap"), (0, .class_ 643), (0, u "java/util/TreeMap$DescendingSubMap$DescendingEntrySetView"), (0, .class_ 645), (0, u "java/util/TreeMap$AscendingSubMap$AscendingEntrySetView"), (0, .class_ 647), (0, u "java/util/TreeMap$NavigableSubMap$DescendingSubMapKeyIterator"), (0, .class_ 649), (0, u "java/util/TreeMap$NavigableSubMap$SubMapKeyIterator"), (0, .class_ 651), (0, u "java/util/TreeMap$NavigableSubMap$DescendingSubMapEntryIterator"), (0, .class_ 653), (0, u "java/util/TreeMap$NavigableSubMap$SubMapEntryIterator"), (0, .class_ 655), (0, u "java/util/TreeMap$NavigableSubMap$SubMapIterator"), (0, .class_ 657), (0, u "java/util/TreeMap$NavigableSubMap$EntrySetView"), (0, .class_ 659), (0, u "java/util/TreeMap$ValueIterator"), (0, .class_ 661), (0, u "java/util/TreeMap$EntryIterator"), (0, .class_ 663), (0, u "java/util/TreeMap$PrivateEntryIterator")] 28

def k23c0 : Code := ⟨2, 1, jdk_2729_method_1_code, #[], #[]⟩
def k23m0 : Method := ⟨"<init>", "()V", ⟨[], none⟩, 1, some k23c0⟩
def k23 : Class := { plain "java/util/TreeMap" (some 19) with
  accessFlags := 33
  interfaces := #[22, 12, 13]
  cf := some (fileOf pool23 8 #[.nestMembers #[634, 636, 396, 391, 638, 59, 640, 245, 642, 250, 644, 388, 646, 648, 650, 652, 654, 656, 274, 269, 658, 660, 662, 222, 242, 237]] #[⟨1, 5, 6, #[]⟩] 33 2 #[231, 403, 405] #[⟨18, 18, 19, #[]⟩, ⟨130, 103, 104, #[]⟩, ⟨130, 11, 12, #[]⟩, ⟨130, 15, 12, #[]⟩, ⟨130, 34, 190, #[]⟩, ⟨130, 193, 194, #[]⟩, ⟨130, 197, 198, #[]⟩, ⟨26, 402, 63, #[]⟩, ⟨26, 413, 293, #[]⟩, ⟨26, 416, 293, #[]⟩, ⟨26, 418, 419, #[]⟩])
  fields := #[⟨"comparator", (.object "java/util/Comparator"), 18, 2, 0⟩, ⟨"root", (.object "java/util/TreeMap$Entry"), 130, 3, 0⟩, ⟨"size", .int, 130, 4, 0⟩, ⟨"modCount", .int, 130, 5, 0⟩, ⟨"entrySet", (.object "java/util/TreeMap$EntrySet"), 130, 6, 0⟩, ⟨"navigableKeySet", (.object "java/util/TreeMap$KeySet"), 130, 7, 0⟩, ⟨"descendingMap", (.object "java/util/NavigableMap"), 130, 8, 0⟩, ⟨"UNBOUNDED", (.object "java/lang/Object"), 26, 0, 0⟩, ⟨"RED", .boolean, 26, 1, 0⟩, ⟨"BLACK", .boolean, 26, 2, 0⟩, ⟨"serialVersionUID", .long, 26, 3, 0⟩]
  methods := #[k23m0]
  instanceTypes := #[(.object "java/util/Set"), (.object "java/util/Collection"), (.object "java/util/Comparator"), (.object "java/util/TreeMap$Entry"), .int, .int, (.object "java/util/TreeMap$EntrySet"), (.object "java/util/TreeMap$KeySet"), (.object "java/util/NavigableMap")]
  staticTypes := #[(.object "java/lang/Object"), .boolean, .boolean, .long]
  resolved := Array.replicate 692 none
  statics := none }

def pool24 : Array CpInfo := pool [(2, .class_ 4), (1, u "java/lang/Object"), (0, u "<init>"), (0, u "()V"), (1, .class_ 10), (1, u "com/example/millrace/millrace/cluster/Packed"), (0, u "bytes"), (0, u "[B"), (2, u "numbers"), (0, u "[J"), (2, u "lengths"), (0, u "[I"), (2, u "bytesTail"), (0, u "I"), (2, u "bytesHead"), (6, u "tail"), (2, u "head"), (28, .class_ 68), (1, u "com/example/millrace/millrace/cluster/Packed$Visitor")] 23

def k24m0 : Method := ⟨"<init>", "()V", ⟨[], none⟩, 0, none⟩
def k24 : Class := { plain "com/example/millrace/millrace/cluster/Packed" (some 0) with
  accessFlags := 48
  interfaces := #[]
  cf := some (fileOf pool24 8 #[.nestMembers #[66]] #[⟨0, 5, 6, #[]⟩] 48 2 #[] #[⟨2, 11, 12, #[]⟩, ⟨2, 27, 24, #[]⟩, ⟨2, 23, 24, #[]⟩, ⟨2, 15, 16, #[]⟩, ⟨2, 19, 20, #[]⟩, ⟨2, 37, 24, #[]⟩, ⟨2, 34, 24, #[]⟩])
  fields := #[⟨"bytes", (.array .byte), 2, 0, 0⟩, ⟨"bytesHead", .int, 2, 1, 0⟩, ⟨"bytesTail", .int, 2, 2, 0⟩, ⟨"numbers", (.array .long), 2, 3, 0⟩, ⟨"lengths", (.array .int), 2, 4, 0⟩, ⟨"head", .int, 2, 5, 0⟩, ⟨"tail", .int, 2, 6, 0⟩]
  methods := #[k24m0]
  instanceTypes := #[(.array .byte), .int, .int, (.array .long), (.array .int), .int, .int]
  staticTypes := #[]
  resolved := Array.replicate 92 none
  statics := none }

def pool25 : Array CpInfo := pool [(1, .methodref 2 3), (0, .class_ 4), (0, .nameAndType 5 6), (0, u "java/lang/Object"), (0, u "<init>"), (0, u "()V"), (0, .fieldref 8 9), (0, .class_ 10), (0, .nameAndType 11 12), (0, u "com/example/millrace/millrace/cluster/Places"), (0, u "log"), (0, u "[B"), (0, .fieldref 8 14), (0, .nameAndType 15 16), (0, u "coveredBelow"), (0, u "[J"), (0, .fieldref 8 18), (0, .nameAndType 19 16), (0, u "writtenTo"), (2, .long 9223372036854775808), (1, .methodref 25 26), (0, .class_ 27), (0, .nameAndType 28 29), (0, u "java/util/Arrays"), (0, u "fill"), (0, u "([JJ)V"), (2, u "tail"), (0, u "I"), (5, u "count"), (0, u "J"), (2, u "heading"), (2, u "lastNumber"), (2, u "lastLateFrom"), (2, u "lastPartition"), (10, u "lastPlace"), (16, u "at"), (2, u "partition"), (2, u "number"), (2, u "place"), (5, u "stamp"), (2, u "lateFrom"), (2, u "head"), (2, u "frontNumber"), (2, u "frontPartition"), (2, u "frontPlace"), (2, u "frontLateFrom"), (33, u "(I)V"), (30, u "MOST_BYTES")] 18

def k25c0 : Code := ⟨3, 2, prog_98_method_1_code, #[], #[]⟩
def k25m0 : Method := ⟨"<init>", "(I)V", ⟨[.int], none⟩, 0, some k25c0⟩
def k25 : Class := { plain "com/example/millrace/millrace/cluster/Places" (some 0) with
  accessFlags := 48
  interfaces := #[]
  cf := some (fileOf pool25 8 #[] #[⟨0, 5, 147, #[]⟩] 48 2 #[] #[⟨26, 178, 33, #[]⟩, ⟨2, 11, 12, #[]⟩, ⟨2, 101, 33, #[]⟩, ⟨2, 32, 33, #[]⟩, ⟨2, 39, 40, #[]⟩, ⟨2, 46, 40, #[]⟩, ⟨2, 52, 33, #[]⟩, ⟨2, 63, 40, #[]⟩, ⟨2, 49, 40, #[]⟩, ⟨2, 104, 40, #[]⟩, ⟨2, 107, 33, #[]⟩, ⟨2, 110, 40, #[]⟩, ⟨2, 113, 40, #[]⟩, ⟨2, 43, 33, #[]⟩, ⟨2, 80, 33, #[]⟩, ⟨2, 86, 40, #[]⟩, ⟨2, 83, 33, #[]⟩, ⟨2, 89, 40, #[]⟩, ⟨2, 98, 40, #[]⟩, ⟨2, 95, 40, #[]⟩, ⟨18, 15, 16, #[]⟩, ⟨18, 19, 16, #[]⟩])
  fields := #[⟨"MOST_BYTES", .int, 26, 0, 0⟩, ⟨"log", (.array .byte), 2, 0, 0⟩, ⟨"head", .int, 2, 1, 0⟩, ⟨"tail", .int, 2, 2, 0⟩, ⟨"count", .long, 2, 3, 0⟩, ⟨"lastNumber", .long, 2, 4, 0⟩, ⟨"lastPartition", .int, 2, 5, 0⟩, ⟨"lastPlace", .long, 2, 6, 0⟩, ⟨"lastLateFrom", .long, 2, 7, 0⟩, ⟨"frontNumber", .long, 2, 8, 0⟩, ⟨"frontPartition", .int, 2, 9, 0⟩, ⟨"frontPlace", .long, 2, 10, 0⟩, ⟨"frontLateFrom", .long, 2, 11, 0⟩, ⟨"heading", .int, 2, 12, 0⟩, ⟨"at", .int, 2, 13, 0⟩, ⟨"number", .long, 2, 14, 0⟩, ⟨"partition", .int, 2, 15, 0⟩, ⟨"place", .long, 2, 16, 0⟩, ⟨"lateFrom", .long, 2, 17, 0⟩, ⟨"stamp", .long, 2, 18, 0⟩, ⟨"coveredBelow", (.array .long), 18, 19, 0⟩, ⟨"writtenTo", (.array .long), 18, 20, 0⟩]
  methods := #[k25m0]
  instanceTypes := #[(.array .byte), .int, .int, .long, .long, .int, .long, .long, .long, .int, .long, .long, .int, .int, .long, .int, .long, .long, .long, (.array .long), (.array .long)]
  staticTypes := #[.int]
  resolved := Array.replicate 197 none
  statics := none }

def pool26 : Array CpInfo := pool [(2, .class_ 4), (1, u "java/lang/Object"), (0, u "<init>"), (0, u "()V"), (0, .methodref 8 9), (0, .class_ 10), (0, .nameAndType 11 12), (0, u "java/util/DualPivotQuicksort"), (0, u "sort"), (0, u "([IIII)V"), (1, .class_ 16), (1, u "java/util/Arrays"), (57, .class_ 76), (1, u "java/util/Arrays$NaturalOrder"), (36, .class_ 115), (1, u "java/util/Arrays$LegacyMergeSort"), (1, u "Z"), (257, .class_ 376), (0, u "java/util/Arrays$ArrayList"), (68, u "$assertionsDisabled"), (269, u "MIN_ARRAY_SORT_GRAN"), (0, u "I"), (2, u "INSERTIONSORT_THRESHOLD"), (6, u "([I)V"), (113, u "fill"), (0, u "([JJ)V"), (133, .class_ 976), (0, u "java/util/Arrays$ArrayItr")] 52

def k26m0 : Method := ⟨"<init>", "()V", ⟨[], none⟩, 2, none⟩
def k26c1 : Code := ⟨4, 1, jdk_65_method_2_code, #[], #[]⟩
def k26m1 : Method := ⟨"sort", "([I)V", ⟨[(.array .int)], none⟩, 9, some k26c1⟩
def k26c2 : Code := ⟨4, 5, jdk_65_method_101_code, #[], #[]⟩
def k26m2 : Method := ⟨"fill", "([JJ)V", ⟨[(.array .long), .long], none⟩, 9, some k26c2⟩
def k26 : Class := { plain "java/util/Arrays" (some 0) with
  accessFlags := 49
  interfaces := #[]
  cf := some (fileOf pool26 14 #[.nestMembers #[975, 375, 113, 74]] #[⟨2, 5, 6, #[]⟩, ⟨9, 11, 726, #[]⟩, ⟨9, 840, 841, #[]⟩] 49 2 #[] #[⟨26, 715, 716, #[]⟩, ⟨26, 719, 716, #[]⟩, ⟨4120, 445, 117, #[]⟩])
  fields := #[⟨"MIN_ARRAY_SORT_GRAN", .int, 26, 0, 0⟩, ⟨"INSERTIONSORT_THRESHOLD", .int, 26, 1, 0⟩, ⟨"$assertionsDisabled", .boolean, 4120, 2, 0⟩]
  methods := #[k26m0, k26m1, k26m2]
  instanceTypes := #[]
  staticTypes := #[.int, .int, .boolean]
  resolved := Array.replicate 1029 none
  statics := none }

def pool27 : Array CpInfo := pool [(1, .methodref 2 3), (0, .class_ 4), (0, .nameAndType 5 6), (0, u "java/lang/Object"), (0, u "<init>"), (0, u "()V"), (1, .class_ 10), (1, u "java/lang/Number"), (2, .class_ 14), (0, u "java/io/Serializable"), (0, u "serialVersionUID"), (0, u "J")] 20

def k27c0 : Code := ⟨1, 1, jdk_18_method_1_code, #[], #[]⟩
def k27m0 : Method := ⟨"<init>", "()V", ⟨[], none⟩, 1, some k27c0⟩
def k27 : Class := { plain "java/lang/Number" (some 0) with
  accessFlags := 1057
  interfaces := #[13]
  cf := some (fileOf pool27 8 #[] #[⟨1, 5, 6, #[]⟩] 1057 2 #[13] #[⟨26, 15, 16, #[]⟩])
  fields := #[⟨"serialVersionUID", .long, 26, 0, 0⟩]
  methods := #[k27m0]
  instanceTypes := #[]
  staticTypes := #[.long]
  resolved := Array.replicate 37 none
  statics := none }

def pool28 : Array CpInfo := pool [(1, .class_ 2), (0, u "java/lang/Comparable"), (0, .class_ 4), (0, u "java/lang/Object")] 7

def k28 : Class := { plain "java/lang/Comparable" (some 0) with
  accessFlags := 1537
  interfaces := #[]
  cf := some (fileOf pool28 1 #[] #[] 1537 3 #[] #[])
  fields := #[]
  methods := #[]
  instanceTypes := #[]
  staticTypes := #[]
  resolved := Array.replicate 12 none
  statics := none }

def pool29 : Array CpInfo := pool [(1, .class_ 2), (0, u "java/lang/constant/Constable"), (0, .class_ 4), (0, u "java/lang/Object")] 6

def k29 : Class := { plain "java/lang/constant/Constable" (some 0) with
  accessFlags := 1537
  interfaces := #[]
  cf := some (fileOf pool29 1 #[] #[] 1537 3 #[] #[])
  fields := #[]
  methods := #[]
  instanceTypes := #[]
  staticTypes := #[]
  resolved := Array.replicate 11 none
  statics := none }

def pool30 : Array CpInfo := pool [(1, .class_ 2), (0, u "java/lang/constant/ConstantDesc"), (0, .class_ 4), (0, u "java/lang/Object")] 32

def k30 : Class := { plain "java/lang/constant/ConstantDesc" (some 0) with
  accessFlags := 1537
  interfaces := #[]
  cf := some (fileOf pool30 1 #[] #[] 1537 3 #[] #[])
  fields := #[]
  methods := #[]
  instanceTypes := #[]
  staticTypes := #[]
  resolved := Array.replicate 37 none
  statics := none }

def pool31 : Array CpInfo := pool [(1, .class_ 2), (0, u "java/lang/Long"), (55, .nameAndType 59 60), (0, u "<init>"), (0, u "()V"), (24, u "valueOf"), (143, u "(J)Ljava/lang/Long;"), (0, .long 18446744073709551488), (4, .class_ 237), (1, u "java/lang/Long$LongCache"), (2, .methodref 1 241), (0, .nameAndType 59 242), (0, u "(J)V"), (27, .methodref 271 58), (0, .class_ 272), (0, u "java/lang/Number"), (0, .fieldref 1 274), (0, .nameAndType 275 276), (0, u "value"), (0, u "J"), (84, u "TYPE"), (0, u "Ljava/lang/Class;"), (0, .class_ 364), (0, u "java/lang/Comparable"), (0, .class_ 366), (0, u "java/lang/constant/Constable"), (0, .class_ 368), (0, u "java/lang/constant/ConstantDesc"), (0, u "MIN_VALUE"), (1, u "MAX_VALUE"), (4, u "SIZE"), (0, u "I"), (1, u "BYTES"), (1, u "serialVersionUID")] 142

def k31c0 : Code := ⟨4, 3, jdk_35_method_24_code, #[], #[]⟩
def k31m0 : Method := ⟨"valueOf", "(J)Ljava/lang/Long;", ⟨[.long], some (.object "java/lang/Long")⟩, 9, some k31c0⟩
def k31c1 : Code := ⟨3, 3, jdk_35_method_26_code, #[], #[]⟩
def k31m1 : Method := ⟨"<init>", "(J)V", ⟨[.long], none⟩, 1, some k31c1⟩
def k31 : Class := { plain "java/lang/Long" (some 27) with
  accessFlags := 49
  interfaces := #[28, 29, 30]
  cf := some (fileOf pool31 1 #[.nestMembers #[235]] #[⟨9, 85, 229, #[]⟩, ⟨1, 59, 242, #[]⟩] 49 271 #[363, 365, 367] #[⟨25, 369, 276, #[]⟩, ⟨25, 371, 276, #[]⟩, ⟨25, 361, 362, #[]⟩, ⟨18, 275, 276, #[]⟩, ⟨25, 376, 377, #[]⟩, ⟨25, 379, 377, #[]⟩, ⟨26, 381, 276, #[]⟩])
  fields := #[⟨"MIN_VALUE", .long, 25, 0, 0⟩, ⟨"MAX_VALUE", .long, 25, 1, 0⟩, ⟨"TYPE", (.object "java/lang/Class"), 25, 2, 0⟩, ⟨"value", .long, 18, 0, 0⟩, ⟨"SIZE", .int, 25, 3, 0⟩, ⟨"BYTES", .int, 25, 4, 0⟩, ⟨"serialVersionUID", .long, 26, 5, 0⟩]
  methods := #[k31m0, k31m1]
  instanceTypes := #[.long]
  staticTypes := #[.long, .long, (.object "java/lang/Class"), .int, .int, .long]
  resolved := Array.replicate 524 none
  statics := none }

def pool32 : Array CpInfo := pool [(1, .methodref 2 3), (0, .class_ 4), (0, .nameAndType 5 6), (0, u "java/lang/Object"), (0, u "<init>"), (0, u "()V"), (0, .fieldref 8 9), (0, .class_ 10), (0, .nameAndType 11 12), (0, u "com/example/millrace/millrace/cluster/Coverage"), (0, u "covered"), (0, u "[J"), (2, .long 9223372036854775808), (1, .methodref 18 19), (0, .class_ 20), (0, .nameAndType 21 22), (0, u "java/util/Arrays"), (0, u "fill"), (0, u "([JJ)V"), (0, .class_ 24), (0, u "java/util/ArrayList"), (0, .methodref 23 26), (0, .nameAndType 5 27), (0, u "(I)V"), (0, .fieldref 8 29), (0, .nameAndType 30 31), (0, u "owners"), (0, u "Ljava/util/List;"), (0, .class_ 33), (0, u "com/example/millrace/millrace/cluster/Coverage$Owner"), (0, .methodref 32 3), (0, .interfaceMethodref 36 37), (0, .class_ 38), (0, .nameAndType 39 40), (0, u "java/util/List"), (0, u "add"), (0, u "(Ljava/lang/Object;)Z"), (14, .class_ 56), (0, u "com/example/millrace/millrace/cluster/Coverage$Counting"), (39, .class_ 97), (0, u "com/example/millrace/millrace/cluster/Coverage$Round"), (29, u "(II)V")] 49

def k32c0 : Code := ⟨4, 4, prog_48_method_1_code, #[], #[]⟩
def k32m0 : Method := ⟨"<init>", "(II)V", ⟨[.int, .int], none⟩, 0, some k32c0⟩
def k32 : Class := { plain "com/example/millrace/millrace/cluster/Coverage" (some 0) with
  accessFlags := 48
  interfaces := #[]
  cf := some (fileOf pool32 8 #[.nestMembers #[32, 96, 55]] #[⟨0, 5, 127, #[]⟩] 48 2 #[] #[⟨18, 11, 12, #[]⟩, ⟨18, 30, 31, #[]⟩])
  fields := #[⟨"covered", (.array .long), 18, 0, 0⟩, ⟨"owners", (.object "java/util/List"), 18, 1, 0⟩]
  methods := #[k32m0]
  instanceTypes := #[(.array .long), (.object "java/util/List")]
  staticTypes := #[]
  resolved := ((Array.replicate 177 none).setIfInBounds 32 (some (.cls 33))).setIfInBounds 34 (some (.method ⟨33, 0⟩))
  statics := none }

def pool33 : Array CpInfo := pool [(1, .methodref 2 3), (0, .class_ 4), (0, .nameAndType 5 6), (0, u "java/lang/Object"), (0, u "<init>"), (0, u "()V"), (2, .fieldref 10 11), (0, .class_ 12), (0, .nameAndType 13 14), (0, u "com/example/millrace/millrace/cluster/Coverage$Owner"), (0, u "covered"), (0, u "J"), (0, .class_ 16), (0, u "java/util/HashSet"), (0, .methodref 15 3), (0, .fieldref 10 19), (0, .nameAndType 20 21), (0, u "alone"), (0, u "Ljava/util/Set;"), (0, .class_ 23), (0, u "java/util/ArrayList"), (0, .methodref 22 3), (0, .fieldref 10 26), (0, .nameAndType 27 28), (0, u "waiting"), (0, u "Ljava/util/List;"), (53, .class_ 83), (0, u "com/example/millrace/millrace/cluster/Coverage")] 6

def k33c0 : Code := ⟨3, 1, prog_50_method_1_code, #[], #[]⟩
def k33m0 : Method := ⟨"<init>", "()V", ⟨[], none⟩, 2, some k33c0⟩
def k33 : Class := { plain "com/example/millrace/millrace/cluster/Coverage$Owner" (some 0) with
  accessFlags := 48
  interfaces := #[]
  cf := some (fileOf pool33 10 #[.nestHost 82] #[⟨2, 5, 6, #[]⟩] 48 2 #[] #[⟨0, 13, 14, #[]⟩, ⟨16, 20, 21, #[]⟩, ⟨16, 27, 28, #[]⟩])
  fields := #[⟨"covered", .long, 0, 0, 0⟩, ⟨"alone", (.object "java/util/Set"), 16, 1, 0⟩, ⟨"waiting", (.object "java/util/List"), 16, 2, 0⟩]
  methods := #[k33m0]
  instanceTypes := #[.long, (.object "java/util/Set"), (.object "java/util/List")]
  staticTypes := #[]
  resolved := Array.replicate 90 none
  statics := none }

def pool34 : Array CpInfo := pool [(26, .class_ 27), (0, u "java/lang/Object"), (5, .class_ 34), (0, u "java/util/Set"), (1, .class_ 38), (1, u "java/util/Collection")] 105

def k34 : Class := { plain "java/util/Set" (some 0) with
  accessFlags := 1537
  interfaces := #[6]
  cf := some (fileOf pool34 33 #[] #[] 1537 26 #[36] #[])
  fields := #[]
  methods := #[]
  instanceTypes := #[]
  staticTypes := #[]
  resolved := Array.replicate 144 none
  statics := none }

def pool35 : Array CpInfo := pool [(1, .methodref 2 3), (0, .class_ 4), (0, .nameAndType 5 6), (0, u "java/util/AbstractCollection"), (0, u "<init>"), (0, u "()V"), (0, .class_ 8), (0, u "java/util/Set"), (7, .class_ 17), (0, u "java/util/AbstractSet")] 78

def k35c0 : Code := ⟨1, 1, jdk_91_method_1_code, #[], #[]⟩
def k35m0 : Method := ⟨"<init>", "()V", ⟨[], none⟩, 4, some k35c0⟩
def k35 : Class := { plain "java/util/AbstractSet" (some 7) with
  accessFlags := 1057
  interfaces := #[34]
  cf := some (fileOf pool35 16 #[] #[⟨4, 5, 6, #[]⟩] 1057 2 #[7] #[])
  fields := #[]
  methods := #[k35m0]
  instanceTypes := #[]
  staticTypes := #[]
  resolved := Array.replicate 96 none
  statics := none }

def pool36 : Array CpInfo := pool [(1, .methodref 2 3), (0, .class_ 4), (0, .nameAndType 5 6), (0, u "java/util/AbstractSet"), (0, u "<init>"), (0, u "()V"), (0, .class_ 8), (0, u "java/util/HashMap"), (0, .methodref 7 3), (0, .fieldref 11 12), (0, .class_ 13), (0, .nameAndType 14 15), (0, u "java/util/HashSet"), (0, u "map"), (0, u "Ljava/util/HashMap;"), (34, .class_ 52), (1, u "java/util/Set"), (13, u "PRESENT"), (0, u "Ljava/lang/Object;"), (158, .class_ 227), (0, u "java/lang/Cloneable"), (0, .class_ 229), (0, u "java/io/Serializable"), (0, u "serialVersionUID"), (0, u "J")] 71

def k36c0 : Code := ⟨3, 1, jdk_93_method_1_code, #[], #[]⟩
def k36m0 : Method := ⟨"<init>", "()V", ⟨[], none⟩, 1, some k36c0⟩
def k36 : Class := { plain "java/util/HashSet" (some 35) with
  accessFlags := 33
  interfaces := #[34, 12, 13]
  cf := some (fileOf pool36 11 #[] #[⟨1, 5, 6, #[]⟩] 33 2 #[50, 226, 228] #[⟨24, 230, 231, #[]⟩, ⟨128, 14, 15, #[]⟩, ⟨24, 66, 67, #[]⟩])
  fields := #[⟨"serialVersionUID", .long, 24, 0, 0⟩, ⟨"map", (.object "java/util/HashMap"), 128, 0, 0⟩, ⟨"PRESENT", (.object "java/lang/Object"), 24, 1, 0⟩]
  methods := #[k36m0]
  instanceTypes := #[(.object "java/util/HashMap")]
  staticTypes := #[.long, (.object "java/lang/Object")]
  resolved := Array.replicate 303 none
  statics := none }

def pool37 : Array CpInfo := pool [(40, .class_ 41), (0, u "java/util/HashMap"), (1, .methodref 44 45), (0, .class_ 46), (0, .nameAndType 47 48), (0, u "java/util/AbstractMap"), (0, u "<init>"), (0, u "()V"), (32, .fieldref 40 82), (0, .nameAndType 83 84), (0, u "loadFactor"), (0, u "F"), (5, u "threshold"), (0, u "I"), (0, .float 1061158912), (8, .class_ 103), (1, u "java/util/Map"), (0, u "size"), (2, u "table"), (0, u "[Ljava/util/HashMap$Node;"), (14, u "entrySet"), (39, .class_ 165), (1, u "java/util/HashMap$Node"), (14, .class_ 181), (0, u "java/util/HashMap$TreeNode"), (22, u "modCount"), (37, u "Ljava/util/Set;"), (0, .class_ 244), (0, u "java/util/HashMap$KeySet"), (18, .class_ 264), (0, u "java/util/HashMap$Values"), (3, .class_ 269), (0, u "java/util/HashMap$EntrySet"), (76, .class_ 348), (1, u "java/util/HashMap$UnsafeHolder"), (43, .class_ 393), (0, u "java/lang/Cloneable"), (0, .class_ 395), (0, u "java/io/Serializable"), (0, u "serialVersionUID"), (0, u "J"), (3, u "DEFAULT_INITIAL_CAPACITY"), (1, u "MAXIMUM_CAPACITY"), (0, u "DEFAULT_LOAD_FACTOR"), (0, u "TREEIFY_THRESHOLD"), (1, u "UNTREEIFY_THRESHOLD"), (1, u "MIN_TREEIFY_CAPACITY"), (186, .class_ 597), (0, u "java/util/HashMap$EntrySpliterator"), (0, .class_ 599), (0, u "java/util/HashMap$ValueSpliterator"), (0, .class_ 601), (0, u "java/util/HashMap$KeySpliterator"), (0, .class_ 603), (0, u "java/util/HashMap$HashMapSpliterator"), (0, .class_ 605), (0, u "java/util/HashMap$EntryIterator"), (0, .class_ 607), (0, u "java/util/HashMap$ValueIterator"), (0, .class_ 609), (0, u "java/util/HashMap$KeyIterator"), (0, .class_ 611), (0, u "java/util/HashMap$HashIterator")] 17

def k37c0 : Code := ⟨2, 1, jdk_69_method_7_code, #[], #[]⟩
def k37m0 : Method := ⟨"<init>", "()V", ⟨[], none⟩, 1, some k37c0⟩
def k37 : Class := { plain "java/util/HashMap" (some 19) with
  accessFlags := 33
  interfaces := #[18, 12, 13]
  cf := some (fileOf pool37 40 #[.nestMembers #[180, 596, 598, 600, 602, 604, 606, 608, 610, 346, 268, 263, 243, 163]] #[⟨1, 47, 48, #[]⟩] 33 44 #[101, 392, 394] #[⟨26, 396, 397, #[]⟩, ⟨24, 401, 91, #[]⟩, ⟨24, 403, 91, #[]⟩, ⟨24, 404, 84, #[]⟩, ⟨24, 405, 91, #[]⟩, ⟨24, 407, 91, #[]⟩, ⟨24, 409, 91, #[]⟩, ⟨128, 107, 108, #[]⟩, ⟨128, 123, 242, #[]⟩, ⟨128, 104, 91, #[]⟩, ⟨128, 204, 91, #[]⟩, ⟨0, 90, 91, #[]⟩, ⟨16, 83, 84, #[]⟩])
  fields := #[⟨"serialVersionUID", .long, 26, 0, 0⟩, ⟨"DEFAULT_INITIAL_CAPACITY", .int, 24, 1, 0⟩, ⟨"MAXIMUM_CAPACITY", .int, 24, 2, 0⟩, ⟨"DEFAULT_LOAD_FACTOR", .float, 24, 3, 0⟩, ⟨"TREEIFY_THRESHOLD", .int, 24, 4, 0⟩, ⟨"UNTREEIFY_THRESHOLD", .int, 24, 5, 0⟩, ⟨"MIN_TREEIFY_CAPACITY", .int, 24, 6, 0⟩, ⟨"table", (.array (.object "java/util/HashMap$Node")), 128, 2, 0⟩, ⟨"entrySet", (.object "java/util/Set"), 128, 3, 0⟩, ⟨"size", .int, 128, 4, 0⟩, ⟨"modCount", .int, 128, 5, 0⟩, ⟨"threshold", .int, 0, 6, 0⟩, ⟨"loadFactor", .float, 16, 7, 0⟩]
  methods := #[k37m0]
  instanceTypes := #[(.object "java/util/Set"), (.object "java/util/Collection"), (.array (.object "java/util/HashMap$Node")), (.object "java/util/Set"), .int, .int, .int, .float]
  staticTypes := #[.long, .int, .int, .float, .int, .int, .int]
  resolved := Array.replicate 629 none
  statics := none }

def pool38 : Array CpInfo := pool [(16, .class_ 18), (1, u "java/util/Iterator"), (0, u "hasNext"), (0, u "()Z"), (2, u "next"), (0, u "()Ljava/lang/Object;"), (6, .class_ 32), (0, u "java/lang/Object")] 20

def k38m0 : Method := ⟨"hasNext", "()Z", ⟨[], some .boolean⟩, 1025, none⟩
def k38m1 : Method := ⟨"next", "()Ljava/lang/Object;", ⟨[], some (.object "java/lang/Object")⟩, 1025, none⟩
def k38 : Class := { plain "java/util/Iterator" (some 0) with
  accessFlags := 1537
  interfaces := #[]
  cf := some (fileOf pool38 16 #[] #[⟨1025, 19, 20, #[]⟩, ⟨1025, 23, 24, #[]⟩] 1537 31 #[] #[])
  fields := #[]
  methods := #[k38m0, k38m1]
  instanceTypes := #[]
  staticTypes := #[]
  resolved := Array.replicate 53 none
  statics := none }

def pool39 : Array CpInfo := pool [(1, .fieldref 2 3), (0, .class_ 4), (0, .nameAndType 5 6), (0, u "java/util/ArrayList$Itr"), (0, u "this$0"), (0, u "Ljava/util/ArrayList;"), (0, .methodref 8 9), (0, .class_ 10), (0, .nameAndType 11 12), (0, u "java/lang/Object"), (0, u "<init>"), (0, u "()V"), (0, .fieldref 2 14), (0, .nameAndType 15 16), (0, u "lastRet"), (0, u "I"), (0, .fieldref 18 19), (0, .class_ 20), (0, .nameAndType 21 16), (0, u "java/util/ArrayList"), (0, u "modCount"), (0, .fieldref 2 23), (0, .nameAndType 24 16), (0, u "expectedModCount"), (0, .fieldref 2 26), (0, .nameAndType 27 16), (0, u "cursor"), (0, .fieldref 18 29), (0, .nameAndType 30 16), (0, u "size"), (0, .methodref 2 32), (0, .nameAndType 33 12), (0, u "checkForComodification"), (3, .fieldref 18 38), (0, .nameAndType 39 40), (0, u "elementData"), (0, u "[Ljava/lang/Object;"), (28, .class_ 70), (0, u "java/util/Iterator"), (0, u "(Ljava/util/ArrayList;)V"), (8, u "hasNext"), (0, u "()Z"), (1, u "next"), (0, u "()Ljava/lang/Object;")] 19

def k39c0 : Code := ⟨2, 2, jdk_49_method_1_code, #[], #[]⟩
def k39m0 : Method := ⟨"<init>", "(Ljava/util/ArrayList;)V", ⟨[(.object "java/util/ArrayList")], none⟩, 0, some k39c0⟩
def k39c1 : Code := ⟨2, 1, jdk_49_method_2_code, #[], #[]⟩
def k39m1 : Method := ⟨"hasNext", "()Z", ⟨[], some .boolean⟩, 1, some k39c1⟩
def k39c2 : Code := ⟨4, 3, jdk_49_method_3_code, #[], #[]⟩
def k39m2 : Method := ⟨"next", "()Ljava/lang/Object;", ⟨[], some (.object "java/lang/Object")⟩, 1, some k39c2⟩
def k39c3 : Code := ⟨2, 1, jdk_49_method_6_code, #[], #[]⟩
def k39m3 : Method := ⟨"checkForComodification", "()V", ⟨[], none⟩, 16, some k39c3⟩
def k39 : Class := { plain "java/util/ArrayList$Itr" (some 0) with
  accessFlags := 32
  interfaces := #[38]
  cf := some (fileOf pool39 2 #[.nestHost 18] #[⟨0, 11, 71, #[]⟩, ⟨1, 80, 81, #[]⟩, ⟨1, 83, 84, #[]⟩, ⟨16, 33, 12, #[]⟩] 32 8 #[69] #[⟨0, 27, 16, #[]⟩, ⟨0, 15, 16, #[]⟩, ⟨0, 24, 16, #[]⟩, ⟨4112, 5, 6, #[]⟩])
  fields := #[⟨"cursor", .int, 0, 0, 0⟩, ⟨"lastRet", .int, 0, 1, 0⟩, ⟨"expectedModCount", .int, 0, 2, 0⟩, ⟨"this$0", (.object "java/util/ArrayList"), 4112, 3, 0⟩]
  methods := #[k39m0, k39m1, k39m2, k39m3]
  instanceTypes := #[.int, .int, .int, (.object "java/util/ArrayList")]
  staticTypes := #[]
  resolved := Array.replicate 104 none
  statics := none }

def pool40 : Array CpInfo := pool [(1, .methodref 2 3), (0, .class_ 4), (0, .nameAndType 5 6), (0, u "java/lang/Object"), (0, u "<init>"), (0, u "()V"), (0, .class_ 8), (0, u "java/lang/Record")] 13

def k40c0 : Code := ⟨1, 1, jdk_30_method_1_code, #[], #[]⟩
def k40m0 : Method := ⟨"<init>", "()V", ⟨[], none⟩, 4, some k40c0⟩
def k40 : Class := { plain "java/lang/Record" (some 0) with
  accessFlags := 1057
  interfaces := #[]
  cf := some (fileOf pool40 7 #[] #[⟨4, 5, 6, #[]⟩] 1057 2 #[] #[])
  fields := #[]
  methods := #[k40m0]
  instanceTypes := #[]
  staticTypes := #[]
  resolved := Array.replicate 22 none
  statics := none }

def pool41 : Array CpInfo := pool [(1, .methodref 2 3), (0, .class_ 4), (0, .nameAndType 5 6), (0, u "java/lang/Record"), (0, u "<init>"), (0, u "()V"), (0, .fieldref 8 9), (0, .class_ 10), (0, .nameAndType 11 12), (0, u "com/example/millrace/millrace/cluster/Partitions$Adoption"), (0, u "partition"), (0, u "I"), (0, .fieldref 8 14), (0, .nameAndType 15 16), (0, u "written"), (0, u "Z"), (0, .fieldref 8 18), (0, .nameAndType 19 20), (0, u "writtenTo"), (0, u "J"), (0, .fieldref 8 22), (0, .nameAndType 23 12), (0, u "first"), (0, .fieldref 8 25), (0, .nameAndType 26 12), (0, u "second"), (0, .fieldref 8 28), (0, .nameAndType 29 20), (0, u "from"), (12, u "(IZJIIJ)V"), (11, .class_ 55), (0, u "com/example/millrace/millrace/cluster/Partitions")] 24

def k41c0 : Code := ⟨3, 9, prog_80_method_1_code, #[], #[]⟩
def k41m0 : Method := ⟨"<init>", "(IZJIIJ)V", ⟨[.int, .boolean, .long, .int, .int, .long], none⟩, 0, some k41c0⟩
def k41 : Class := { plain "com/example/millrace/millrace/cluster/Partitions$Adoption" (some 40) with
  accessFlags := 48
  interfaces := #[]
  cf := some (fileOf pool41 8 #[.nestHost 54] #[⟨0, 5, 42, #[]⟩] 48 2 #[] #[⟨18, 11, 12, #[]⟩, ⟨18, 15, 16, #[]⟩, ⟨18, 19, 20, #[]⟩, ⟨18, 23, 12, #[]⟩, ⟨18, 26, 12, #[]⟩, ⟨18, 29, 20, #[]⟩])
  fields := #[⟨"partition", .int, 18, 0, 0⟩, ⟨"written", .boolean, 18, 1, 0⟩, ⟨"writtenTo", .long, 18, 2, 0⟩, ⟨"first", .int, 18, 3, 0⟩, ⟨"second", .int, 18, 4, 0⟩, ⟨"from", .long, 18, 5, 0⟩]
  methods := #[k41m0]
  instanceTypes := #[.int, .boolean, .long, .int, .int, .long]
  staticTypes := #[]
  resolved := Array.replicate 80 none
  statics := none }

def pool42 : Array CpInfo := pool [(1, .class_ 2), (0, u "java/util/DualPivotQuicksort"), (5, .class_ 10), (1, u "java/lang/Object"), (0, u "<init>"), (0, u "()V"), (4, .class_ 18), (0, u "java/util/DualPivotQuicksort$Sorter"), (7, .methodref 1 27), (0, .nameAndType 28 29), (0, u "sort"), (0, u "(Ljava/util/DualPivotQuicksort$Sorter;[IIII)V"), (3, u "([IIII)V"), (0, .methodref 1 35), (0, .nameAndType 36 37), (0, u "insertionSort"), (0, u "([III)V"), (30, u "I"), (4, .class_ 74), (0, u "java/util/DualPivotQuicksort$RunMerger"), (10, .class_ 86), (0, u "java/util/DualPivotQuicksort$Merger"), (127, u "MAX_MIXED_INSERTION_SORT_SIZE"), (2, u "MAX_INSERTION_SORT_SIZE"), (1, u "MIN_PARALLEL_SORT_SIZE"), (1, u "MIN_TRY_MERGE_SIZE"), (0, u "MIN_FIRST_RUN_SIZE"), (1, u "MIN_FIRST_RUNS_FACTOR"), (1, u "MAX_RUN_CAPACITY"), (1, u "MIN_RUN_COUNT"), (1, u "MIN_PARALLEL_MERGE_PARTS_SIZE"), (0, u "MIN_BYTE_COUNTING_SORT_SIZE"), (1, u "MIN_SHORT_OR_CHAR_COUNTING_SORT_SIZE"), (1, u "DELTA"), (1, u "MAX_RECURSION_DEPTH"), (1, u "NUM_BYTE_VALUES"), (1, u "MAX_BYTE_INDEX"), (0, u "NUM_CHAR_VALUES"), (0, u "NUM_SHORT_VALUES"), (0, u "MAX_SHORT_INDEX")] 86

def k42m0 : Method := ⟨"<init>", "()V", ⟨[], none⟩, 2, none⟩
def k42c1 : Code := ⟨9, 7, jdk_2529_method_3_code, #[], #[]⟩
def k42m1 : Method := ⟨"sort", "([IIII)V", ⟨[(.array .int), .int, .int, .int], none⟩, 8, some k42c1⟩
def k42c2 : Code := ⟨6, 21, jdk_2529_method_4_code, #[], #[]⟩
def k42m2 : Method := ⟨"sort", "(Ljava/util/DualPivotQuicksort$Sorter;[IIII)V", ⟨[(.object "java/util/DualPivotQuicksort$Sorter"), (.array .int), .int, .int, .int], none⟩, 8, some k42c2⟩
def k42c3 : Code := ⟨4, 6, jdk_2529_method_6_code, #[], #[]⟩
def k42m3 : Method := ⟨"insertionSort", "([III)V", ⟨[(.array .int), .int, .int], none⟩, 10, some k42c3⟩
def k42 : Class := { plain "java/util/DualPivotQuicksort" (some 0) with
  accessFlags := 48
  interfaces := #[]
  cf := some (fileOf pool42 1 #[.nestMembers #[73, 85, 17]] #[⟨2, 11, 12, #[]⟩, ⟨8, 28, 33, #[]⟩, ⟨8, 28, 29, #[]⟩, ⟨10, 36, 37, #[]⟩] 48 8 #[] #[⟨26, 214, 68, #[]⟩, ⟨26, 217, 68, #[]⟩, ⟨26, 219, 68, #[]⟩, ⟨26, 221, 68, #[]⟩, ⟨26, 222, 68, #[]⟩, ⟨26, 224, 68, #[]⟩, ⟨26, 226, 68, #[]⟩, ⟨26, 228, 68, #[]⟩, ⟨26, 230, 68, #[]⟩, ⟨26, 231, 68, #[]⟩, ⟨26, 233, 68, #[]⟩, ⟨26, 235, 68, #[]⟩, ⟨26, 237, 68, #[]⟩, ⟨26, 239, 68, #[]⟩, ⟨26, 241, 68, #[]⟩, ⟨26, 242, 68, #[]⟩, ⟨26, 243, 68, #[]⟩, ⟨26, 244, 68, #[]⟩])
  fields := #[⟨"MAX_MIXED_INSERTION_SORT_SIZE", .int, 26, 0, 0⟩, ⟨"MAX_INSERTION_SORT_SIZE", .int, 26, 1, 0⟩, ⟨"MIN_PARALLEL_SORT_SIZE", .int, 26, 2, 0⟩, ⟨"MIN_TRY_MERGE_SIZE", .int, 26, 3, 0⟩, ⟨"MIN_FIRST_RUN_SIZE", .int, 26, 4, 0⟩, ⟨"MIN_FIRST_RUNS_FACTOR", .int, 26, 5, 0⟩, ⟨"MAX_RUN_CAPACITY", .int, 26, 6, 0⟩, ⟨"MIN_RUN_COUNT", .int, 26, 7, 0⟩, ⟨"MIN_PARALLEL_MERGE_PARTS_SIZE", .int, 26, 8, 0⟩, ⟨"MIN_BYTE_COUNTING_SORT_SIZE", .int, 26, 9, 0⟩, ⟨"MIN_SHORT_OR_CHAR_COUNTING_SORT_SIZE", .int, 26, 10, 0⟩, ⟨"DELTA", .int, 26, 11, 0⟩, ⟨"MAX_RECURSION_DEPTH", .int, 26, 12, 0⟩, ⟨"NUM_BYTE_VALUES", .int, 26, 13, 0⟩, ⟨"MAX_BYTE_INDEX", .int, 26, 14, 0⟩, ⟨"NUM_CHAR_VALUES", .int, 26, 15, 0⟩, ⟨"NUM_SHORT_VALUES", .int, 26, 16, 0⟩, ⟨"MAX_SHORT_INDEX", .int, 26, 17, 0⟩]
  methods := #[k42m0, k42m1, k42m2, k42m3]
  instanceTypes := #[]
  staticTypes := #[.int, .int, .int, .int, .int, .int, .int, .int, .int, .int, .int, .int, .int, .int, .int, .int, .int, .int]
  resolved := Array.replicate 331 none
  statics := none }

def pool43 : Array CpInfo := pool [(1, .methodref 2 3), (0, .class_ 4), (0, .nameAndType 5 6), (0, u "java/lang/Object"), (0, u "<init>"), (0, u "()V"), (0, .class_ 8), (0, u "java/util/ArrayDeque"), (0, .methodref 7 3), (0, .fieldref 11 12), (0, .class_ 13), (0, .nameAndType 14 15), (0, u "com/example/millrace/millrace/cluster/Shares$Backup"), (0, u "pending"), (0, u "Ljava/util/ArrayDeque;"), (0, .fieldref 11 17), (0, .nameAndType 18 19), (0, u "partition"), (0, u "I"), (0, .fieldref 11 21), (0, .nameAndType 22 19), (0, u "worker"), (0, u "first"), (0, u "Lcom/example/millrace/millrace/cluster/Partitions$Saved;"), (0, u "second"), (2, u "hold"), (0, u "Lcom/example/millrace/millrace/cluster/Shares$Hold;"), (0, u "life"), (0, u "(II)V"), (5, .class_ 38), (0, u "com/example/millrace/millrace/cluster/Shares")] 10

def k43c0 : Code := ⟨3, 3, prog_113_method_1_code, #[], #[]⟩
def k43m0 : Method := ⟨"<init>", "(II)V", ⟨[.int, .int], none⟩, 0, some k43c0⟩
def k43 : Class := { plain "com/example/millrace/millrace/cluster/Shares$Backup" (some 0) with
  accessFlags := 48
  interfaces := #[]
  cf := some (fileOf pool43 11 #[.nestHost 37] #[⟨0, 5, 31, #[]⟩] 48 2 #[] #[⟨16, 18, 19, #[]⟩, ⟨0, 22, 19, #[]⟩, ⟨0, 23, 24, #[]⟩, ⟨0, 25, 24, #[]⟩, ⟨16, 14, 15, #[]⟩, ⟨0, 28, 29, #[]⟩, ⟨0, 30, 19, #[]⟩])
  fields := #[⟨"partition", .int, 16, 0, 0⟩, ⟨"worker", .int, 0, 1, 0⟩, ⟨"first", (.object "com/example/millrace/millrace/cluster/Partitions$Saved"), 0, 2, 0⟩, ⟨"second", (.object "com/example/millrace/millrace/cluster/Partitions$Saved"), 0, 3, 0⟩, ⟨"pending", (.object "java/util/ArrayDeque"), 16, 4, 0⟩, ⟨"hold", (.object "com/example/millrace/millrace/cluster/Shares$Hold"), 0, 5, 0⟩, ⟨"life", .int, 0, 6, 0⟩]
  methods := #[k43m0]
  instanceTypes := #[.int, .int, (.object "com/example/millrace/millrace/cluster/Partitions$Saved"), (.object "com/example/millrace/millrace/cluster/Partitions$Saved"), (.object "java/util/ArrayDeque"), (.object "com/example/millrace/millrace/cluster/Shares$Hold"), .int]
  staticTypes := #[]
  resolved := Array.replicate 49 none
  statics := none }

def pool44 : Array CpInfo := pool [(1, .class_ 2), (0, u "java/util/Queue"), (0, .class_ 4), (0, u "java/lang/Object"), (0, .class_ 6), (0, u "java/util/Collection")] 14

def k44 : Class := { plain "java/util/Queue" (some 0) with
  accessFlags := 1537
  interfaces := #[6]
  cf := some (fileOf pool44 1 #[] #[] 1537 3 #[5] #[])
  fields := #[]
  methods := #[]
  instanceTypes := #[]
  staticTypes := #[]
  resolved := Array.replicate 21 none
  statics := none }

def pool45 : Array CpInfo := pool [(8, .class_ 10), (1, u "java/util/Deque"), (2, .class_ 14), (0, u "java/lang/Object"), (0, .class_ 16), (0, u "java/util/Queue"), (0, .class_ 18), (0, u "java/util/SequencedCollection")] 51

def k45 : Class := { plain "java/util/Deque" (some 0) with
  accessFlags := 1537
  interfaces := #[44, 8]
  cf := some (fileOf pool45 8 #[] #[] 1537 13 #[15, 17] #[])
  fields := #[]
  methods := #[]
  instanceTypes := #[]
  staticTypes := #[]
  resolved := Array.replicate 70 none
  statics := none }

def pool46 : Array CpInfo := pool [(3, .fieldref 4 5), (0, .class_ 6), (0, .nameAndType 7 8), (0, u "java/util/ArrayDeque"), (0, u "elements"), (0, u "[Ljava/lang/Object;"), (11, .fieldref 4 21), (0, .nameAndType 22 23), (0, u "tail"), (0, u "I"), (0, .fieldref 4 25), (0, .nameAndType 26 23), (0, u "head"), (12, u "<init>"), (2, .methodref 43 44), (0, .class_ 45), (0, .nameAndType 39 46), (0, u "java/util/AbstractCollection"), (0, u "()V"), (0, .class_ 48), (0, u "java/lang/Object"), (82, .class_ 132), (0, u "java/util/ArrayDeque$DeqIterator"), (3, .class_ 137), (0, u "java/util/ArrayDeque$DescendingIterator"), (1, .class_ 140), (0, u "java/util/ArrayDeque$DeqSpliterator"), (40, .methodref 4 182), (0, .nameAndType 183 184), (0, u "circularClear"), (0, u "([Ljava/lang/Object;II)V"), (93, .class_ 279), (0, u "java/util/Deque"), (0, .class_ 281), (0, u "java/lang/Cloneable"), (0, .class_ 283), (0, u "java/io/Serializable"), (0, u "MAX_ARRAY_SIZE"), (1, u "serialVersionUID"), (0, u "J"), (90, u "clear")] 59

def k46c0 : Code := ⟨2, 1, jdk_21_method_3_code, #[], #[]⟩
def k46m0 : Method := ⟨"<init>", "()V", ⟨[], none⟩, 1, some k46c0⟩
def k46c1 : Code := ⟨4, 1, jdk_21_method_53_code, #[], #[]⟩
def k46m1 : Method := ⟨"clear", "()V", ⟨[], none⟩, 1, some k46c1⟩
def k46c2 : Code := ⟨3, 4, jdk_21_method_54_code, #[], #[]⟩
def k46m2 : Method := ⟨"circularClear", "([Ljava/lang/Object;II)V", ⟨[(.array (.object "java/lang/Object")), .int, .int], none⟩, 10, some k46c2⟩
def k46 : Class := { plain "java/util/ArrayDeque" (some 7) with
  accessFlags := 33
  interfaces := #[45, 12, 13]
  cf := some (fileOf pool46 4 #[.nestMembers #[139, 136, 131]] #[⟨1, 39, 46, #[]⟩, ⟨1, 378, 46, #[]⟩, ⟨10, 183, 184, #[]⟩] 33 43 #[278, 280, 282] #[⟨128, 7, 8, #[]⟩, ⟨128, 26, 23, #[]⟩, ⟨128, 22, 23, #[]⟩, ⟨26, 284, 23, #[]⟩, ⟨26, 286, 287, #[]⟩])
  fields := #[⟨"elements", (.array (.object "java/lang/Object")), 128, 0, 0⟩, ⟨"head", .int, 128, 1, 0⟩, ⟨"tail", .int, 128, 2, 0⟩, ⟨"MAX_ARRAY_SIZE", .int, 26, 0, 0⟩, ⟨"serialVersionUID", .long, 26, 1, 0⟩]
  methods := #[k46m0, k46m1, k46m2]
  instanceTypes := #[(.array (.object "java/lang/Object")), .int, .int]
  staticTypes := #[.int, .long]
  resolved := Array.replicate 438 none
  statics := none }

def k47 : Class := { plain "byte" none with kind := .primitive 'B', accessFlags := 0x411 }
def k48 : Class := { plain "[B" (some 0) with kind := .array 47 .byte, interfaces := #[12, 13], accessFlags := 1041 }

def k49 : Class := { plain "int" none with kind := .primitive 'I', accessFlags := 0x411 }
def k50 : Class := { plain "[I" (some 0) with kind := .array 49 .int, interfaces := #[12, 13], accessFlags := 1041 }

def k51 : Class := { plain "long" none with kind := .primitive 'J', accessFlags := 0x411 }
def k52 : Class := { plain "[J" (some 0) with kind := .array 51 .long, interfaces := #[12, 13], accessFlags := 1041 }

def k53 : Class := { plain "[Lcom/example/millrace/millrace/cluster/Packed;" (some 0) with kind := .array 24 (.object "com/example/millrace/millrace/cluster/Packed"), interfaces := #[12, 13], accessFlags := 1041 }

def k54 : Class := { plain "[Lcom/example/millrace/millrace/cluster/Shares$Share;" (some 0) with kind := .array 15 (.object "com/example/millrace/millrace/cluster/Shares$Share"), interfaces := #[12, 13], accessFlags := 1041 }

def k55 : Class := { plain "[Ljava/lang/Long;" (some 0) with kind := .array 31 (.object "java/lang/Long"), interfaces := #[12, 13], accessFlags := 1041 }

def k56 : Class := { plain "[Ljava/lang/Object;" (some 0) with kind := .array 0 (.object "java/lang/Object"), interfaces := #[12, 13], accessFlags := 1041 }

def k57 : Class := { plain "[Ljava/util/BitSet;" (some 0) with kind := .array 16 (.object "java/util/BitSet"), interfaces := #[12, 13], accessFlags := 1041 }

def heap : Heap := #[{ cls := 14, slots := #[.long 0, .int 0, .ref 2, .ref 3], vm := .statics 14 },
  { cls := 16, slots := #[.int 0, .int 0, .int 0, .long 0, .null, .long 0, .int 1], vm := .statics 16 },
  { cls := 56, slots := #[], vm := .none },
  { cls := 56, slots := #[], vm := .none }]
def k58 : Class := { plain "[[I" (some 0) with kind := .array 50 (.array .int), interfaces := #[12, 13], accessFlags := 1041 }
def classes : Array Class := #[k0, k1, k2, k3, k4, k5, k6, k7, k8, k9, k10, k11, k12, k13, k14, k15, k16, k17, k18, k19, k20, k21, k22, k23, k24, k25, k26, k27, k28, k29, k30, k31, k32, k33, k34, k35, k36, k37, k38, k39, k40, k41, k42, k43, k44, k45, k46, k47, k48, k49, k50, k51, k52, k53, k54, k55, k56, k57, k58]
def interned : List (Array UInt16 × Addr) := []
def slotsUsed : Nat := 11
def theMethod : MethodId := ⟨1, 1⟩
def args0 : Array Value := #[.int 5, .int 5, .int 5, .int 5]
def aboutOver (below : List Frame) : State where
  vm := { classes := classes, interned := interned.toArray }
  heap := heap
  slotsUsed := slotsUsed
  threads := #[{ frames := .invoking theMethod args0 :: below }]
def below0 : List Frame := [.native { method := ⟨0, 0⟩, args := #[] }]
def about1 : State := aboutOver below0
def p0 : Program := .bare "" "" ""
def e0 : Env := launch0.env 0 0 0
theorem w_frames : about1.frames = Frame.invoking theMethod args0 :: below0 := rfl
theorem w_args : argsFit about1.vm theMethod args0 = true := by decide +kernel
theorem w_heap : heapFits about1 = true := by decide +kernel
theorem w_runnable : about1.curStatus? = some .runnable := by decide +kernel
theorem w_alone : about1.alone = true := by decide +kernel
theorem w_named : about1.methodNamed? x = some theMethod := by decide +kernel
theorem w_hears : about1.hears theMethod below0 = true := by decide +kernel
theorem w_ripe : about1.ripe theMethod args0 below0 = true := by decide +kernel
theorem w_running : about1.status = .running := rfl
theorem w_room : about1.hasRoom e0.platform room_1 = true :=
  launch0.hasRoom_least _ room_1 (by decide +kernel) (by decide +kernel) (by decide +kernel) (by decide +kernel) (by decide +kernel) (by decide +kernel)
theorem allAtoms_all (ts : List Jvm.Cond) (a : Array Jvm.Value) (st : Jvm.State) : (allAtoms ts).before a st = ts.all (fun c => c.before a st) := by
  induction ts with
  | nil => rfl
  | cons c t ih =>
    show (Jvm.Cond.and c (allAtoms t)).before a st = _
    rw [Jvm.Cond.before_and, ih, List.all_cons]
def words1 : List Jvm.Cond := Jvm.Cond.code x code maxLocals ret :: tables_1
theorem code_word {y : MethodName} {bytes : ByteArray} {mx : Nat} {rt : Option FieldType} {a : Array Value} {s : State} {m : MethodId} {meth : Method} {c : Code} (h1 : s.methodNamed? y = some m) (h2 : s.vm.method? m = some meth) (h3 : meth.code = some c) (h4 : c.code = bytes)
    (h5 : (c.maxLocals == mx && c.exceptionTable.isEmpty && decide (c.maxStack ≤ mostOperands) && decide (meth.sig.returnType = rt) && !meth.locks && decide (parseMethodDescriptor y.desc = some meth.sig)) = true) : (Jvm.Cond.code y bytes mx rt).before a s = true := by
  simp only [Bool.and_eq_true, beq_iff_eq, Bool.not_eq_true', decide_eq_true_eq] at h5
  obtain ⟨⟨⟨⟨⟨g1, g2⟩, g3⟩, g4⟩, g5⟩, g6⟩ := h5
  simp [Cond.before, Cond.holds, Cond.value, h1, h2, h3, h4, g1, g2, g3, g4, g5, g6]
def isCode : Jvm.Cond → Bool
  | .code _ _ _ _ => true
  | _ => false
theorem all_split {L : List Jvm.Cond} {P : Jvm.Cond → Bool} (h1 : L.all (fun c => isCode c || P c) = true) (h2 : ∀ c ∈ L.filter isCode, P c = true) : L.all P = true := by
  refine List.all_eq_true.mpr fun c hc => ?_
  have h := List.all_eq_true.mp h1 c hc
  rcases Bool.eq_false_or_eq_true (isCode c) with hi | hi
  · exact h2 c (List.mem_filter.mpr ⟨hc, hi⟩)
  · simpa [hi] using h
theorem w_c0 : (Jvm.Cond.code x code maxLocals ret).before args0 about1 = true := code_word (m := ⟨1, 1⟩) (meth := k1m1) (c := k1c1) (by decide +kernel) rfl rfl rfl (by decide +kernel)
theorem w_c1 : (Jvm.Cond.code ⟨"com/example/millrace/millrace/cluster/Placement", "<init>", "(III)V"⟩ prog_94_method_1_code (6 : Nat) none).before args0 about1 = true := code_word (m := ⟨3, 0⟩) (meth := k3m0) (c := k3c0) (by decide +kernel) rfl rfl rfl (by decide +kernel)
theorem w_c2 : (Jvm.Cond.code ⟨"java/lang/Object", "<init>", "()V"⟩ object_method_1_code (1 : Nat) none).before args0 about1 = true := code_word (m := ⟨0, 0⟩) (meth := k0m0) (c := k0c0) (by decide +kernel) rfl rfl rfl (by decide +kernel)
theorem w_c3 : (Jvm.Cond.code ⟨"java/lang/Math", "max", "(II)I"⟩ jdk_29_method_65_code (2 : Nat) (Option.some Jvm.ClassFile.FieldType.int)).before args0 about1 = true := code_word (m := ⟨4, 1⟩) (meth := k4m1) (c := k4c1) (by decide +kernel) rfl rfl rfl (by decide +kernel)
theorem w_c4 : (Jvm.Cond.code ⟨"com/example/millrace/millrace/cluster/Placement", "first", "(I)I"⟩ prog_94_method_22_code (2 : Nat) (Option.some Jvm.ClassFile.FieldType.int)).before args0 about1 = true := code_word (m := ⟨3, 5⟩) (meth := k3m5) (c := k3c5) (by decide +kernel) rfl rfl rfl (by decide +kernel)
theorem w_c5 : (Jvm.Cond.code ⟨"com/example/millrace/millrace/cluster/Shares", "<init>", "(Lcom/example/millrace/millrace/cluster/Placement;Z)V"⟩ prog_112_method_1_code (10 : Nat) none).before args0 about1 = true := code_word (m := ⟨2, 0⟩) (meth := k2m0) (c := k2c0) (by decide +kernel) rfl rfl rfl (by decide +kernel)
theorem w_c6 : (Jvm.Cond.code ⟨"java/util/ArrayList", "<init>", "()V"⟩ jdk_38_method_2_code (1 : Nat) none).before args0 about1 = true := code_word (m := ⟨14, 1⟩) (meth := k14m1) (c := k14c1) (by decide +kernel) rfl rfl rfl (by decide +kernel)
theorem w_c7 : (Jvm.Cond.code ⟨"java/util/AbstractList", "<init>", "()V"⟩ jdk_39_method_1_code (1 : Nat) none).before args0 about1 = true := code_word (m := ⟨10, 0⟩) (meth := k10m0) (c := k10c0) (by decide +kernel) rfl rfl rfl (by decide +kernel)
theorem w_c8 : (Jvm.Cond.code ⟨"java/util/AbstractCollection", "<init>", "()V"⟩ jdk_22_method_1_code (1 : Nat) none).before args0 about1 = true := code_word (m := ⟨7, 0⟩) (meth := k7m0) (c := k7c0) (by decide +kernel) rfl rfl rfl (by decide +kernel)
theorem w_c9 : (Jvm.Cond.code ⟨"com/example/millrace/millrace/cluster/Placement", "partitions", "()I"⟩ prog_94_method_4_code (1 : Nat) (Option.some Jvm.ClassFile.FieldType.int)).before args0 about1 = true := code_word (m := ⟨3, 1⟩) (meth := k3m1) (c := k3c1) (by decide +kernel) rfl rfl rfl (by decide +kernel)
theorem w_c10 : (Jvm.Cond.code ⟨"com/example/millrace/millrace/cluster/Placement", "workers", "()I"⟩ prog_94_method_5_code (1 : Nat) (Option.some Jvm.ClassFile.FieldType.int)).before args0 about1 = true := code_word (m := ⟨3, 2⟩) (meth := k3m2) (c := k3c2) (by decide +kernel) rfl rfl rfl (by decide +kernel)
theorem w_c11 : (Jvm.Cond.code ⟨"com/example/millrace/millrace/cluster/Retained", "<init>", "(I)V"⟩ prog_109_method_1_code (3 : Nat) none).before args0 about1 = true := code_word (m := ⟨17, 0⟩) (meth := k17m0) (c := k17c0) (by decide +kernel) rfl rfl rfl (by decide +kernel)
theorem w_c12 : (Jvm.Cond.code ⟨"java/util/ArrayList", "<init>", "(I)V"⟩ jdk_38_method_1_code (2 : Nat) none).before args0 about1 = true := code_word (m := ⟨14, 0⟩) (meth := k14m0) (c := k14c0) (by decide +kernel) rfl rfl rfl (by decide +kernel)
theorem w_c13 : (Jvm.Cond.code ⟨"java/util/TreeMap", "<init>", "()V"⟩ jdk_2729_method_1_code (1 : Nat) none).before args0 about1 = true := code_word (m := ⟨23, 0⟩) (meth := k23m0) (c := k23c0) (by decide +kernel) rfl rfl rfl (by decide +kernel)
theorem w_c14 : (Jvm.Cond.code ⟨"java/util/AbstractMap", "<init>", "()V"⟩ jdk_71_method_1_code (1 : Nat) none).before args0 about1 = true := code_word (m := ⟨19, 0⟩) (meth := k19m0) (c := k19c0) (by decide +kernel) rfl rfl rfl (by decide +kernel)
theorem w_c15 : (Jvm.Cond.code ⟨"java/util/ArrayList", "add", "(Ljava/lang/Object;)Z"⟩ jdk_38_method_25_code (2 : Nat) (Option.some Jvm.ClassFile.FieldType.boolean)).before args0 about1 = true := code_word (m := ⟨14, 5⟩) (meth := k14m5) (c := k14c5) (by decide +kernel) rfl rfl rfl (by decide +kernel)
theorem w_c16 : (Jvm.Cond.code ⟨"java/util/ArrayList", "add", "(Ljava/lang/Object;[Ljava/lang/Object;I)V"⟩ jdk_38_method_24_code (4 : Nat) none).before args0 about1 = true := code_word (m := ⟨14, 4⟩) (meth := k14m4) (c := k14c4) (by decide +kernel) rfl rfl rfl (by decide +kernel)
theorem w_c17 : (Jvm.Cond.code ⟨"com/example/millrace/millrace/cluster/Places", "<init>", "(I)V"⟩ prog_98_method_1_code (2 : Nat) none).before args0 about1 = true := code_word (m := ⟨25, 0⟩) (meth := k25m0) (c := k25c0) (by decide +kernel) rfl rfl rfl (by decide +kernel)
theorem w_c18 : (Jvm.Cond.code ⟨"java/util/Arrays", "fill", "([JJ)V"⟩ jdk_65_method_101_code (5 : Nat) none).before args0 about1 = true := code_word (m := ⟨26, 2⟩) (meth := k26m2) (c := k26c2) (by decide +kernel) rfl rfl rfl (by decide +kernel)
theorem w_c19 : (Jvm.Cond.code ⟨"com/example/millrace/millrace/cluster/Coverage", "<init>", "(II)V"⟩ prog_48_method_1_code (4 : Nat) none).before args0 about1 = true := code_word (m := ⟨32, 0⟩) (meth := k32m0) (c := k32c0) (by decide +kernel) rfl rfl rfl (by decide +kernel)
theorem w_c20 : (Jvm.Cond.code ⟨"com/example/millrace/millrace/cluster/Coverage$Owner", "<init>", "()V"⟩ prog_50_method_1_code (1 : Nat) none).before args0 about1 = true := code_word (m := ⟨33, 0⟩) (meth := k33m0) (c := k33c0) (by decide +kernel) rfl rfl rfl (by decide +kernel)
theorem w_c21 : (Jvm.Cond.code ⟨"java/util/HashSet", "<init>", "()V"⟩ jdk_93_method_1_code (1 : Nat) none).before args0 about1 = true := code_word (m := ⟨36, 0⟩) (meth := k36m0) (c := k36c0) (by decide +kernel) rfl rfl rfl (by decide +kernel)
theorem w_c22 : (Jvm.Cond.code ⟨"java/util/AbstractSet", "<init>", "()V"⟩ jdk_91_method_1_code (1 : Nat) none).before args0 about1 = true := code_word (m := ⟨35, 0⟩) (meth := k35m0) (c := k35c0) (by decide +kernel) rfl rfl rfl (by decide +kernel)
theorem w_c23 : (Jvm.Cond.code ⟨"java/util/HashMap", "<init>", "()V"⟩ jdk_69_method_7_code (1 : Nat) none).before args0 about1 = true := code_word (m := ⟨37, 0⟩) (meth := k37m0) (c := k37c0) (by decide +kernel) rfl rfl rfl (by decide +kernel)
theorem w_c24 : (Jvm.Cond.code ⟨"java/util/BitSet", "<init>", "()V"⟩ jdk_92_method_4_code (1 : Nat) none).before args0 about1 = true := code_word (m := ⟨16, 3⟩) (meth := k16m3) (c := k16c3) (by decide +kernel) rfl rfl rfl (by decide +kernel)
theorem w_c25 : (Jvm.Cond.code ⟨"java/util/BitSet", "initWords", "(I)V"⟩ jdk_92_method_6_code (2 : Nat) none).before args0 about1 = true := code_word (m := ⟨16, 4⟩) (meth := k16m4) (c := k16c4) (by decide +kernel) rfl rfl rfl (by decide +kernel)
theorem w_c26 : (Jvm.Cond.code ⟨"java/util/BitSet", "wordIndex", "(I)I"⟩ jdk_92_method_1_code (1 : Nat) (Option.some Jvm.ClassFile.FieldType.int)).before args0 about1 = true := code_word (m := ⟨16, 0⟩) (meth := k16m0) (c := k16c0) (by decide +kernel) rfl rfl rfl (by decide +kernel)
theorem w_c27 : (Jvm.Cond.code ⟨"com/example/millrace/millrace/cluster/Placement", "owner", "(I)I"⟩ prog_94_method_7_code (2 : Nat) (Option.some Jvm.ClassFile.FieldType.int)).before args0 about1 = true := code_word (m := ⟨3, 3⟩) (meth := k3m3) (c := k3c3) (by decide +kernel) rfl rfl rfl (by decide +kernel)
theorem w_c28 : (Jvm.Cond.code ⟨"com/example/millrace/millrace/cluster/Shares$Share", "<init>", "(I)V"⟩ prog_116_method_1_code (2 : Nat) none).before args0 about1 = true := code_word (m := ⟨15, 0⟩) (meth := k15m0) (c := k15c0) (by decide +kernel) rfl rfl rfl (by decide +kernel)
theorem w_c29 : (Jvm.Cond.code ⟨"java/util/BitSet", "set", "(I)V"⟩ jdk_92_method_19_code (3 : Nat) none).before args0 about1 = true := code_word (m := ⟨16, 7⟩) (meth := k16m7) (c := k16c7) (by decide +kernel) rfl rfl rfl (by decide +kernel)
theorem w_c30 : (Jvm.Cond.code ⟨"java/util/BitSet", "expandTo", "(I)V"⟩ jdk_92_method_15_code (3 : Nat) none).before args0 about1 = true := code_word (m := ⟨16, 6⟩) (meth := k16m6) (c := k16c6) (by decide +kernel) rfl rfl rfl (by decide +kernel)
theorem w_c31 : (Jvm.Cond.code ⟨"java/util/BitSet", "ensureCapacity", "(I)V"⟩ jdk_92_method_14_code (3 : Nat) none).before args0 about1 = true := code_word (m := ⟨16, 5⟩) (meth := k16m5) (c := k16c5) (by decide +kernel) rfl rfl rfl (by decide +kernel)
theorem w_c32 : (Jvm.Cond.code ⟨"java/util/BitSet", "checkInvariants", "()V"⟩ jdk_92_method_2_code (1 : Nat) none).before args0 about1 = true := code_word (m := ⟨16, 1⟩) (meth := k16m1) (c := k16c1) (by decide +kernel) rfl rfl rfl (by decide +kernel)
theorem w_c33 : (Jvm.Cond.code ⟨"com/example/millrace/millrace/cluster/Shares", "owners", "()[I"⟩ prog_112_method_12_code (3 : Nat) (Option.some (Jvm.ClassFile.FieldType.array Jvm.ClassFile.FieldType.int))).before args0 about1 = true := code_word (m := ⟨2, 1⟩) (meth := k2m1) (c := k2c1) (by decide +kernel) rfl rfl rfl (by decide +kernel)
theorem w_c34 : (Jvm.Cond.code ⟨"com/example/millrace/millrace/cluster/SharesOwnersPinLaw", "all", "([IIIZII)Z"⟩ method_3_code (6 : Nat) (Option.some Jvm.ClassFile.FieldType.boolean)).before args0 about1 = true := code_word (m := ⟨1, 2⟩) (meth := k1m2) (c := k1c2) (by decide +kernel) rfl rfl rfl (by decide +kernel)
theorem w_c35 : (Jvm.Cond.code ⟨"com/example/millrace/millrace/cluster/SharesOwnersPinLaw", "at", "([IIIIZII)Z"⟩ method_4_code (8 : Nat) (Option.some Jvm.ClassFile.FieldType.boolean)).before args0 about1 = true := code_word (m := ⟨1, 3⟩) (meth := k1m3) (c := k1c3) (by decide +kernel) rfl rfl rfl (by decide +kernel)
theorem w_c36 : (Jvm.Cond.code ⟨"com/example/millrace/millrace/cluster/Shares", "give", "(IILcom/example/millrace/millrace/cluster/Partitions$Saved;Lcom/example/millrace/millrace/cluster/Partitions$Saved;)Lcom/example/millrace/millrace/cluster/Partitions$Adoption;"⟩ prog_112_method_40_code (8 : Nat) (Option.some (Jvm.ClassFile.FieldType.object "com/example/millrace/millrace/cluster/Partitions$Adoption"))).before args0 about1 = true := code_word (m := ⟨2, 2⟩) (meth := k2m2) (c := k2c2) (by decide +kernel) rfl rfl rfl (by decide +kernel)
theorem w_c37 : (Jvm.Cond.code ⟨"java/util/BitSet", "clear", "(I)V"⟩ jdk_92_method_23_code (3 : Nat) none).before args0 about1 = true := code_word (m := ⟨16, 8⟩) (meth := k16m8) (c := k16c8) (by decide +kernel) rfl rfl rfl (by decide +kernel)
theorem w_c38 : (Jvm.Cond.code ⟨"java/util/BitSet", "recalculateWordsInUse", "()V"⟩ jdk_92_method_3_code (2 : Nat) none).before args0 about1 = true := code_word (m := ⟨16, 2⟩) (meth := k16m2) (c := k16c2) (by decide +kernel) rfl rfl rfl (by decide +kernel)
theorem w_c39 : (Jvm.Cond.code ⟨"java/util/ArrayList", "iterator", "()Ljava/util/Iterator;"⟩ jdk_38_method_55_code (1 : Nat) (Option.some (Jvm.ClassFile.FieldType.object "java/util/Iterator"))).before args0 about1 = true := code_word (m := ⟨14, 6⟩) (meth := k14m6) (c := k14c6) (by decide +kernel) rfl rfl rfl (by decide +kernel)
theorem w_c40 : (Jvm.Cond.code ⟨"java/util/ArrayList$Itr", "<init>", "(Ljava/util/ArrayList;)V"⟩ jdk_49_method_1_code (2 : Nat) none).before args0 about1 = true := code_word (m := ⟨39, 0⟩) (meth := k39m0) (c := k39c0) (by decide +kernel) rfl rfl rfl (by decide +kernel)
theorem w_c41 : (Jvm.Cond.code ⟨"java/util/ArrayList$Itr", "hasNext", "()Z"⟩ jdk_49_method_2_code (1 : Nat) (Option.some Jvm.ClassFile.FieldType.boolean)).before args0 about1 = true := code_word (m := ⟨39, 1⟩) (meth := k39m1) (c := k39c1) (by decide +kernel) rfl rfl rfl (by decide +kernel)
theorem w_c42 : (Jvm.Cond.code ⟨"com/example/millrace/millrace/cluster/Retained", "keepForReplay", "(I)V"⟩ prog_109_method_10_code (2 : Nat) none).before args0 about1 = true := code_word (m := ⟨17, 1⟩) (meth := k17m1) (c := k17c1) (by decide +kernel) rfl rfl rfl (by decide +kernel)
theorem w_c43 : (Jvm.Cond.code ⟨"java/lang/Long", "valueOf", "(J)Ljava/lang/Long;"⟩ jdk_35_method_24_code (3 : Nat) (Option.some (Jvm.ClassFile.FieldType.object "java/lang/Long"))).before args0 about1 = true := code_word (m := ⟨31, 0⟩) (meth := k31m0) (c := k31c0) (by decide +kernel) rfl rfl rfl (by decide +kernel)
theorem w_c44 : (Jvm.Cond.code ⟨"java/lang/Long", "<init>", "(J)V"⟩ jdk_35_method_26_code (3 : Nat) none).before args0 about1 = true := code_word (m := ⟨31, 1⟩) (meth := k31m1) (c := k31c1) (by decide +kernel) rfl rfl rfl (by decide +kernel)
theorem w_c45 : (Jvm.Cond.code ⟨"java/lang/Number", "<init>", "()V"⟩ jdk_18_method_1_code (1 : Nat) none).before args0 about1 = true := code_word (m := ⟨27, 0⟩) (meth := k27m0) (c := k27c0) (by decide +kernel) rfl rfl rfl (by decide +kernel)
theorem w_c46 : (Jvm.Cond.code ⟨"com/example/millrace/millrace/cluster/Partitions$Adoption", "<init>", "(IZJIIJ)V"⟩ prog_80_method_1_code (9 : Nat) none).before args0 about1 = true := code_word (m := ⟨41, 0⟩) (meth := k41m0) (c := k41c0) (by decide +kernel) rfl rfl rfl (by decide +kernel)
theorem w_c47 : (Jvm.Cond.code ⟨"java/lang/Record", "<init>", "()V"⟩ jdk_30_method_1_code (1 : Nat) none).before args0 about1 = true := code_word (m := ⟨40, 0⟩) (meth := k40m0) (c := k40c0) (by decide +kernel) rfl rfl rfl (by decide +kernel)
theorem w_c48 : (Jvm.Cond.code ⟨"com/example/millrace/millrace/cluster/Placement", "backups", "()[[I"⟩ prog_94_method_9_code (12 : Nat) (Option.some (Jvm.ClassFile.FieldType.array (Jvm.ClassFile.FieldType.array Jvm.ClassFile.FieldType.int)))).before args0 about1 = true := code_word (m := ⟨3, 4⟩) (meth := k3m4) (c := k3c4) (by decide +kernel) rfl rfl rfl (by decide +kernel)
theorem w_c49 : (Jvm.Cond.code ⟨"java/util/Arrays", "sort", "([I)V"⟩ jdk_65_method_2_code (1 : Nat) none).before args0 about1 = true := code_word (m := ⟨26, 1⟩) (meth := k26m1) (c := k26c1) (by decide +kernel) rfl rfl rfl (by decide +kernel)
theorem w_c50 : (Jvm.Cond.code ⟨"java/util/DualPivotQuicksort", "sort", "([IIII)V"⟩ jdk_2529_method_3_code (7 : Nat) none).before args0 about1 = true := code_word (m := ⟨42, 1⟩) (meth := k42m1) (c := k42c1) (by decide +kernel) rfl rfl rfl (by decide +kernel)
theorem w_c51 : (Jvm.Cond.code ⟨"java/util/DualPivotQuicksort", "sort", "(Ljava/util/DualPivotQuicksort$Sorter;[IIII)V"⟩ jdk_2529_method_4_code (21 : Nat) none).before args0 about1 = true := code_word (m := ⟨42, 2⟩) (meth := k42m2) (c := k42c2) (by decide +kernel) rfl rfl rfl (by decide +kernel)
theorem w_c52 : (Jvm.Cond.code ⟨"java/util/DualPivotQuicksort", "insertionSort", "([III)V"⟩ jdk_2529_method_6_code (6 : Nat) none).before args0 about1 = true := code_word (m := ⟨42, 3⟩) (meth := k42m3) (c := k42c3) (by decide +kernel) rfl rfl rfl (by decide +kernel)
theorem w_c53 : (Jvm.Cond.code ⟨"com/example/millrace/millrace/cluster/Shares$Backup", "<init>", "(II)V"⟩ prog_113_method_1_code (3 : Nat) none).before args0 about1 = true := code_word (m := ⟨43, 0⟩) (meth := k43m0) (c := k43c0) (by decide +kernel) rfl rfl rfl (by decide +kernel)
theorem w_c54 : (Jvm.Cond.code ⟨"java/util/ArrayDeque", "<init>", "()V"⟩ jdk_21_method_3_code (1 : Nat) none).before args0 about1 = true := code_word (m := ⟨46, 0⟩) (meth := k46m0) (c := k46c0) (by decide +kernel) rfl rfl rfl (by decide +kernel)
theorem w_c55 : (Jvm.Cond.code ⟨"java/util/ArrayList", "grow", "()[Ljava/lang/Object;"⟩ jdk_38_method_7_code (1 : Nat) (Option.some (Jvm.ClassFile.FieldType.array (Jvm.ClassFile.FieldType.object "java/lang/Object")))).before args0 about1 = true := code_word (m := ⟨14, 3⟩) (meth := k14m3) (c := k14c3) (by decide +kernel) rfl rfl rfl (by decide +kernel)
theorem w_c56 : (Jvm.Cond.code ⟨"java/util/ArrayList", "grow", "(I)[Ljava/lang/Object;"⟩ jdk_38_method_6_code (4 : Nat) (Option.some (Jvm.ClassFile.FieldType.array (Jvm.ClassFile.FieldType.object "java/lang/Object")))).before args0 about1 = true := code_word (m := ⟨14, 2⟩) (meth := k14m2) (c := k14c2) (by decide +kernel) rfl rfl rfl (by decide +kernel)
theorem w_c57 : (Jvm.Cond.code ⟨"java/util/ArrayList$Itr", "next", "()Ljava/lang/Object;"⟩ jdk_49_method_3_code (3 : Nat) (Option.some (Jvm.ClassFile.FieldType.object "java/lang/Object"))).before args0 about1 = true := code_word (m := ⟨39, 2⟩) (meth := k39m2) (c := k39c2) (by decide +kernel) rfl rfl rfl (by decide +kernel)
theorem w_c58 : (Jvm.Cond.code ⟨"java/util/ArrayList$Itr", "checkForComodification", "()V"⟩ jdk_49_method_6_code (1 : Nat) none).before args0 about1 = true := code_word (m := ⟨39, 3⟩) (meth := k39m3) (c := k39c3) (by decide +kernel) rfl rfl rfl (by decide +kernel)
theorem w_c59 : (Jvm.Cond.code ⟨"java/util/ArrayDeque", "clear", "()V"⟩ jdk_21_method_53_code (1 : Nat) none).before args0 about1 = true := code_word (m := ⟨46, 1⟩) (meth := k46m1) (c := k46c1) (by decide +kernel) rfl rfl rfl (by decide +kernel)
theorem w_c60 : (Jvm.Cond.code ⟨"java/util/ArrayDeque", "circularClear", "([Ljava/lang/Object;II)V"⟩ jdk_21_method_54_code (4 : Nat) none).before args0 about1 = true := code_word (m := ⟨46, 2⟩) (meth := k46m2) (c := k46c2) (by decide +kernel) rfl rfl rfl (by decide +kernel)
def codes1 : List Jvm.Cond := [Jvm.Cond.code x code maxLocals ret, Jvm.Cond.code ⟨"com/example/millrace/millrace/cluster/Placement", "<init>", "(III)V"⟩ prog_94_method_1_code (6 : Nat) none, Jvm.Cond.code ⟨"java/lang/Object", "<init>", "()V"⟩ object_method_1_code (1 : Nat) none, Jvm.Cond.code ⟨"java/lang/Math", "max", "(II)I"⟩ jdk_29_method_65_code (2 : Nat) (Option.some Jvm.ClassFile.FieldType.int), Jvm.Cond.code ⟨"com/example/millrace/millrace/cluster/Placement", "first", "(I)I"⟩ prog_94_method_22_code (2 : Nat) (Option.some Jvm.ClassFile.FieldType.int), Jvm.Cond.code ⟨"com/example/millrace/millrace/cluster/Shares", "<init>", "(Lcom/example/millrace/millrace/cluster/Placement;Z)V"⟩ prog_112_method_1_code (10 : Nat) none, Jvm.Cond.code ⟨"java/util/ArrayList", "<init>", "()V"⟩ jdk_38_method_2_code (1 : Nat) none, Jvm.Cond.code ⟨"java/util/AbstractList", "<init>", "()V"⟩ jdk_39_method_1_code (1 : Nat) none, Jvm.Cond.code ⟨"java/util/AbstractCollection", "<init>", "()V"⟩ jdk_22_method_1_code (1 : Nat) none, Jvm.Cond.code ⟨"com/example/millrace/millrace/cluster/Placement", "partitions", "()I"⟩ prog_94_method_4_code (1 : Nat) (Option.some Jvm.ClassFile.FieldType.int), Jvm.Cond.code ⟨"com/example/millrace/millrace/cluster/Placement", "workers", "()I"⟩ prog_94_method_5_code (1 : Nat) (Option.some Jvm.ClassFile.FieldType.int), Jvm.Cond.code ⟨"com/example/millrace/millrace/cluster/Retained", "<init>", "(I)V"⟩ prog_109_method_1_code (3 : Nat) none, Jvm.Cond.code ⟨"java/util/ArrayList", "<init>", "(I)V"⟩ jdk_38_method_1_code (2 : Nat) none, Jvm.Cond.code ⟨"java/util/TreeMap", "<init>", "()V"⟩ jdk_2729_method_1_code (1 : Nat) none, Jvm.Cond.code ⟨"java/util/AbstractMap", "<init>", "()V"⟩ jdk_71_method_1_code (1 : Nat) none, Jvm.Cond.code ⟨"java/util/ArrayList", "add", "(Ljava/lang/Object;)Z"⟩ jdk_38_method_25_code (2 : Nat) (Option.some Jvm.ClassFile.FieldType.boolean), Jvm.Cond.code ⟨"java/util/ArrayList", "add", "(Ljava/lang/Object;[Ljava/lang/Object;I)V"⟩ jdk_38_method_24_code (4 : Nat) none, Jvm.Cond.code ⟨"com/example/millrace/millrace/cluster/Places", "<init>", "(I)V"⟩ prog_98_method_1_code (2 : Nat) none, Jvm.Cond.code ⟨"java/util/Arrays", "fill", "([JJ)V"⟩ jdk_65_method_101_code (5 : Nat) none, Jvm.Cond.code ⟨"com/example/millrace/millrace/cluster/Coverage", "<init>", "(II)V"⟩ prog_48_method_1_code (4 : Nat) none, Jvm.Cond.code ⟨"com/example/millrace/millrace/cluster/Coverage$Owner", "<init>", "()V"⟩ prog_50_method_1_code (1 : Nat) none, Jvm.Cond.code ⟨"java/util/HashSet", "<init>", "()V"⟩ jdk_93_method_1_code (1 : Nat) none, Jvm.Cond.code ⟨"java/util/AbstractSet", "<init>", "()V"⟩ jdk_91_method_1_code (1 : Nat) none, Jvm.Cond.code ⟨"java/util/HashMap", "<init>", "()V"⟩ jdk_69_method_7_code (1 : Nat) none, Jvm.Cond.code ⟨"java/util/BitSet", "<init>", "()V"⟩ jdk_92_method_4_code (1 : Nat) none, Jvm.Cond.code ⟨"java/util/BitSet", "initWords", "(I)V"⟩ jdk_92_method_6_code (2 : Nat) none, Jvm.Cond.code ⟨"java/util/BitSet", "wordIndex", "(I)I"⟩ jdk_92_method_1_code (1 : Nat) (Option.some Jvm.ClassFile.FieldType.int), Jvm.Cond.code ⟨"com/example/millrace/millrace/cluster/Placement", "owner", "(I)I"⟩ prog_94_method_7_code (2 : Nat) (Option.some Jvm.ClassFile.FieldType.int), Jvm.Cond.code ⟨"com/example/millrace/millrace/cluster/Shares$Share", "<init>", "(I)V"⟩ prog_116_method_1_code (2 : Nat) none, Jvm.Cond.code ⟨"java/util/BitSet", "set", "(I)V"⟩ jdk_92_method_19_code (3 : Nat) none, Jvm.Cond.code ⟨"java/util/BitSet", "expandTo", "(I)V"⟩ jdk_92_method_15_code (3 : Nat) none, Jvm.Cond.code ⟨"java/util/BitSet", "ensureCapacity", "(I)V"⟩ jdk_92_method_14_code (3 : Nat) none, Jvm.Cond.code ⟨"java/util/BitSet", "checkInvariants", "()V"⟩ jdk_92_method_2_code (1 : Nat) none, Jvm.Cond.code ⟨"com/example/millrace/millrace/cluster/Shares", "owners", "()[I"⟩ prog_112_method_12_code (3 : Nat) (Option.some (Jvm.ClassFile.FieldType.array Jvm.ClassFile.FieldType.int)), Jvm.Cond.code ⟨"com/example/millrace/millrace/cluster/SharesOwnersPinLaw", "all", "([IIIZII)Z"⟩ method_3_code (6 : Nat) (Option.some Jvm.ClassFile.FieldType.boolean), Jvm.Cond.code ⟨"com/example/millrace/millrace/cluster/SharesOwnersPinLaw", "at", "([IIIIZII)Z"⟩ method_4_code (8 : Nat) (Option.some Jvm.ClassFile.FieldType.boolean), Jvm.Cond.code ⟨"com/example/millrace/millrace/cluster/Shares", "give", "(IILcom/example/millrace/millrace/cluster/Partitions$Saved;Lcom/example/millrace/millrace/cluster/Partitions$Saved;)Lcom/example/millrace/millrace/cluster/Partitions$Adoption;"⟩ prog_112_method_40_code (8 : Nat) (Option.some (Jvm.ClassFile.FieldType.object "com/example/millrace/millrace/cluster/Partitions$Adoption")), Jvm.Cond.code ⟨"java/util/BitSet", "clear", "(I)V"⟩ jdk_92_method_23_code (3 : Nat) none, Jvm.Cond.code ⟨"java/util/BitSet", "recalculateWordsInUse", "()V"⟩ jdk_92_method_3_code (2 : Nat) none, Jvm.Cond.code ⟨"java/util/ArrayList", "iterator", "()Ljava/util/Iterator;"⟩ jdk_38_method_55_code (1 : Nat) (Option.some (Jvm.ClassFile.FieldType.object "java/util/Iterator")), Jvm.Cond.code ⟨"java/util/ArrayList$Itr", "<init>", "(Ljava/util/ArrayList;)V"⟩ jdk_49_method_1_code (2 : Nat) none, Jvm.Cond.code ⟨"java/util/ArrayList$Itr", "hasNext", "()Z"⟩ jdk_49_method_2_code (1 : Nat) (Option.some Jvm.ClassFile.FieldType.boolean), Jvm.Cond.code ⟨"com/example/millrace/millrace/cluster/Retained", "keepForReplay", "(I)V"⟩ prog_109_method_10_code (2 : Nat) none, Jvm.Cond.code ⟨"java/lang/Long", "valueOf", "(J)Ljava/lang/Long;"⟩ jdk_35_method_24_code (3 : Nat) (Option.some (Jvm.ClassFile.FieldType.object "java/lang/Long")), Jvm.Cond.code ⟨"java/lang/Long", "<init>", "(J)V"⟩ jdk_35_method_26_code (3 : Nat) none, Jvm.Cond.code ⟨"java/lang/Number", "<init>", "()V"⟩ jdk_18_method_1_code (1 : Nat) none, Jvm.Cond.code ⟨"com/example/millrace/millrace/cluster/Partitions$Adoption", "<init>", "(IZJIIJ)V"⟩ prog_80_method_1_code (9 : Nat) none, Jvm.Cond.code ⟨"java/lang/Record", "<init>", "()V"⟩ jdk_30_method_1_code (1 : Nat) none, Jvm.Cond.code ⟨"com/example/millrace/millrace/cluster/Placement", "backups", "()[[I"⟩ prog_94_method_9_code (12 : Nat) (Option.some (Jvm.ClassFile.FieldType.array (Jvm.ClassFile.FieldType.array Jvm.ClassFile.FieldType.int))), Jvm.Cond.code ⟨"java/util/Arrays", "sort", "([I)V"⟩ jdk_65_method_2_code (1 : Nat) none, Jvm.Cond.code ⟨"java/util/DualPivotQuicksort", "sort", "([IIII)V"⟩ jdk_2529_method_3_code (7 : Nat) none, Jvm.Cond.code ⟨"java/util/DualPivotQuicksort", "sort", "(Ljava/util/DualPivotQuicksort$Sorter;[IIII)V"⟩ jdk_2529_method_4_code (21 : Nat) none, Jvm.Cond.code ⟨"java/util/DualPivotQuicksort", "insertionSort", "([III)V"⟩ jdk_2529_method_6_code (6 : Nat) none, Jvm.Cond.code ⟨"com/example/millrace/millrace/cluster/Shares$Backup", "<init>", "(II)V"⟩ prog_113_method_1_code (3 : Nat) none, Jvm.Cond.code ⟨"java/util/ArrayDeque", "<init>", "()V"⟩ jdk_21_method_3_code (1 : Nat) none, Jvm.Cond.code ⟨"java/util/ArrayList", "grow", "()[Ljava/lang/Object;"⟩ jdk_38_method_7_code (1 : Nat) (Option.some (Jvm.ClassFile.FieldType.array (Jvm.ClassFile.FieldType.object "java/lang/Object"))), Jvm.Cond.code ⟨"java/util/ArrayList", "grow", "(I)[Ljava/lang/Object;"⟩ jdk_38_method_6_code (4 : Nat) (Option.some (Jvm.ClassFile.FieldType.array (Jvm.ClassFile.FieldType.object "java/lang/Object"))), Jvm.Cond.code ⟨"java/util/ArrayList$Itr", "next", "()Ljava/lang/Object;"⟩ jdk_49_method_3_code (3 : Nat) (Option.some (Jvm.ClassFile.FieldType.object "java/lang/Object")), Jvm.Cond.code ⟨"java/util/ArrayList$Itr", "checkForComodification", "()V"⟩ jdk_49_method_6_code (1 : Nat) none, Jvm.Cond.code ⟨"java/util/ArrayDeque", "clear", "()V"⟩ jdk_21_method_53_code (1 : Nat) none, Jvm.Cond.code ⟨"java/util/ArrayDeque", "circularClear", "([Ljava/lang/Object;II)V"⟩ jdk_21_method_54_code (4 : Nat) none]
theorem codes_eq : words1.filter isCode = codes1 := rfl
theorem w_codes : ∀ c ∈ words1.filter isCode, c.before args0 about1 = true := by
  rw [codes_eq]
  intro c hc
  simp only [codes1, List.mem_cons, List.not_mem_nil, or_false] at hc
  rcases hc with rfl | rfl | rfl | rfl | rfl | rfl | rfl | rfl | rfl | rfl | rfl | rfl | rfl | rfl | rfl | rfl | rfl | rfl | rfl | rfl | rfl | rfl | rfl | rfl | rfl | rfl | rfl | rfl | rfl | rfl | rfl | rfl | rfl | rfl | rfl | rfl | rfl | rfl | rfl | rfl | rfl | rfl | rfl | rfl | rfl | rfl | rfl | rfl | rfl | rfl | rfl | rfl | rfl | rfl | rfl | rfl | rfl | rfl | rfl | rfl | rfl
  · exact w_c0
  · exact w_c1
  · exact w_c2
  · exact w_c3
  · exact w_c4
  · exact w_c5
  · exact w_c6
  · exact w_c7
  · exact w_c8
  · exact w_c9
  · exact w_c10
  · exact w_c11
  · exact w_c12
  · exact w_c13
  · exact w_c14
  · exact w_c15
  · exact w_c16
  · exact w_c17
  · exact w_c18
  · exact w_c19
  · exact w_c20
  · exact w_c21
  · exact w_c22
  · exact w_c23
  · exact w_c24
  · exact w_c25
  · exact w_c26
  · exact w_c27
  · exact w_c28
  · exact w_c29
  · exact w_c30
  · exact w_c31
  · exact w_c32
  · exact w_c33
  · exact w_c34
  · exact w_c35
  · exact w_c36
  · exact w_c37
  · exact w_c38
  · exact w_c39
  · exact w_c40
  · exact w_c41
  · exact w_c42
  · exact w_c43
  · exact w_c44
  · exact w_c45
  · exact w_c46
  · exact w_c47
  · exact w_c48
  · exact w_c49
  · exact w_c50
  · exact w_c51
  · exact w_c52
  · exact w_c53
  · exact w_c54
  · exact w_c55
  · exact w_c56
  · exact w_c57
  · exact w_c58
  · exact w_c59
  · exact w_c60
theorem w_t1 : (words1.take 24).all (fun c => isCode c || c.before args0 about1) = true := by decide +kernel
theorem w_t2 : ((words1.drop 24).take 24).all (fun c => isCode c || c.before args0 about1) = true := by decide +kernel
theorem w_t3 : (((words1.drop 24).drop 24).take 24).all (fun c => isCode c || c.before args0 about1) = true := by decide +kernel
theorem w_t4 : ((((words1.drop 24).drop 24).drop 24).take 24).all (fun c => isCode c || c.before args0 about1) = true := by decide +kernel
theorem w_t5 : (((((words1.drop 24).drop 24).drop 24).drop 24).take 24).all (fun c => isCode c || c.before args0 about1) = true := by decide +kernel
theorem w_t6 : ((((((words1.drop 24).drop 24).drop 24).drop 24).drop 24).take 24).all (fun c => isCode c || c.before args0 about1) = true := by decide +kernel
theorem w_t7 : (((((((words1.drop 24).drop 24).drop 24).drop 24).drop 24).drop 24).take 24).all (fun c => isCode c || c.before args0 about1) = true := by decide +kernel
theorem w_t8 : ((((((((words1.drop 24).drop 24).drop 24).drop 24).drop 24).drop 24).drop 24).take 24).all (fun c => isCode c || c.before args0 about1) = true := by decide +kernel
theorem w_t9 : (((((((((words1.drop 24).drop 24).drop 24).drop 24).drop 24).drop 24).drop 24).drop 24).take 24).all (fun c => isCode c || c.before args0 about1) = true := by decide +kernel
theorem w_t10 : ((((((((((words1.drop 24).drop 24).drop 24).drop 24).drop 24).drop 24).drop 24).drop 24).drop 24).take 24).all (fun c => isCode c || c.before args0 about1) = true := by decide +kernel
theorem w_t11 : (((((((((((words1.drop 24).drop 24).drop 24).drop 24).drop 24).drop 24).drop 24).drop 24).drop 24).drop 24).take 24).all (fun c => isCode c || c.before args0 about1) = true := by decide +kernel
theorem w_t12 : ((((((((((((words1.drop 24).drop 24).drop 24).drop 24).drop 24).drop 24).drop 24).drop 24).drop 24).drop 24).drop 24).take 24).all (fun c => isCode c || c.before args0 about1) = true := by decide +kernel
theorem w_t13 : (((((((((((((words1.drop 24).drop 24).drop 24).drop 24).drop 24).drop 24).drop 24).drop 24).drop 24).drop 24).drop 24).drop 24).take 24).all (fun c => isCode c || c.before args0 about1) = true := by decide +kernel
theorem w_t14 : ((((((((((((((words1.drop 24).drop 24).drop 24).drop 24).drop 24).drop 24).drop 24).drop 24).drop 24).drop 24).drop 24).drop 24).drop 24).take 24).all (fun c => isCode c || c.before args0 about1) = true := by decide +kernel
theorem w_t15 : (((((((((((((((words1.drop 24).drop 24).drop 24).drop 24).drop 24).drop 24).drop 24).drop 24).drop 24).drop 24).drop 24).drop 24).drop 24).drop 24).take 24).all (fun c => isCode c || c.before args0 about1) = true := by decide +kernel
theorem w_t16 : ((((((((((((((((words1.drop 24).drop 24).drop 24).drop 24).drop 24).drop 24).drop 24).drop 24).drop 24).drop 24).drop 24).drop 24).drop 24).drop 24).drop 24).take 24).all (fun c => isCode c || c.before args0 about1) = true := by decide +kernel
theorem w_t17 : (((((((((((((((((words1.drop 24).drop 24).drop 24).drop 24).drop 24).drop 24).drop 24).drop 24).drop 24).drop 24).drop 24).drop 24).drop 24).drop 24).drop 24).drop 24).take 24).all (fun c => isCode c || c.before args0 about1) = true := by decide +kernel
theorem w_t18 : ((((((((((((((((((words1.drop 24).drop 24).drop 24).drop 24).drop 24).drop 24).drop 24).drop 24).drop 24).drop 24).drop 24).drop 24).drop 24).drop 24).drop 24).drop 24).drop 24).take 24).all (fun c => isCode c || c.before args0 about1) = true := by decide +kernel
theorem w_t19 : (((((((((((((((((((words1.drop 24).drop 24).drop 24).drop 24).drop 24).drop 24).drop 24).drop 24).drop 24).drop 24).drop 24).drop 24).drop 24).drop 24).drop 24).drop 24).drop 24).drop 24).take 24).all (fun c => isCode c || c.before args0 about1) = true := by decide +kernel
theorem w_t20 : ((((((((((((((((((((words1.drop 24).drop 24).drop 24).drop 24).drop 24).drop 24).drop 24).drop 24).drop 24).drop 24).drop 24).drop 24).drop 24).drop 24).drop 24).drop 24).drop 24).drop 24).drop 24).take 24).all (fun c => isCode c || c.before args0 about1) = true := by decide +kernel
theorem w_t21 : ((((((((((((((((((((words1.drop 24).drop 24).drop 24).drop 24).drop 24).drop 24).drop 24).drop 24).drop 24).drop 24).drop 24).drop 24).drop 24).drop 24).drop 24).drop 24).drop 24).drop 24).drop 24).drop 24).all (fun c => isCode c || c.before args0 about1) = true := by decide +kernel
theorem w_tables : (allAtoms (Jvm.Cond.code x code maxLocals ret :: tables_1)).before args0 about1 = true := by
  rw [allAtoms_all]
  show words1.all (fun c => c.before args0 about1) = true
  refine all_split ?_ w_codes
  rw [← List.take_append_drop 24 words1, List.all_append, w_t1, ← List.take_append_drop 24 (words1.drop 24), List.all_append, w_t2, ← List.take_append_drop 24 ((words1.drop 24).drop 24), List.all_append, w_t3, ← List.take_append_drop 24 (((words1.drop 24).drop 24).drop 24), List.all_append, w_t4, ← List.take_append_drop 24 ((((words1.drop 24).drop 24).drop 24).drop 24), List.all_append, w_t5, ← List.take_append_drop 24 (((((words1.drop 24).drop 24).drop 24).drop 24).drop 24), List.all_append, w_t6, ← List.take_append_drop 24 ((((((words1.drop 24).drop 24).drop 24).drop 24).drop 24).drop 24), List.all_append, w_t7, ← List.take_append_drop 24 (((((((words1.drop 24).drop 24).drop 24).drop 24).drop 24).drop 24).drop 24), List.all_append, w_t8, ← List.take_append_drop 24 ((((((((words1.drop 24).drop 24).drop 24).drop 24).drop 24).drop 24).drop 24).drop 24), List.all_append, w_t9, ← List.take_append_drop 24 (((((((((words1.drop 24).drop 24).drop 24).drop 24).drop 24).drop 24).drop 24).drop 24).drop 24), List.all_append, w_t10, ← List.take_append_drop 24 ((((((((((words1.drop 24).drop 24).drop 24).drop 24).drop 24).drop 24).drop 24).drop 24).drop 24).drop 24), List.all_append, w_t11, ← List.take_append_drop 24 (((((((((((words1.drop 24).drop 24).drop 24).drop 24).drop 24).drop 24).drop 24).drop 24).drop 24).drop 24).drop 24), List.all_append, w_t12, ← List.take_append_drop 24 ((((((((((((words1.drop 24).drop 24).drop 24).drop 24).drop 24).drop 24).drop 24).drop 24).drop 24).drop 24).drop 24).drop 24), List.all_append, w_t13, ← List.take_append_drop 24 (((((((((((((words1.drop 24).drop 24).drop 24).drop 24).drop 24).drop 24).drop 24).drop 24).drop 24).drop 24).drop 24).drop 24).drop 24), List.all_append, w_t14, ← List.take_append_drop 24 ((((((((((((((words1.drop 24).drop 24).drop 24).drop 24).drop 24).drop 24).drop 24).drop 24).drop 24).drop 24).drop 24).drop 24).drop 24).drop 24), List.all_append, w_t15, ← List.take_append_drop 24 (((((((((((((((words1.drop 24).drop 24).drop 24).drop 24).drop 24).drop 24).drop 24).drop 24).drop 24).drop 24).drop 24).drop 24).drop 24).drop 24).drop 24), List.all_append, w_t16, ← List.take_append_drop 24 ((((((((((((((((words1.drop 24).drop 24).drop 24).drop 24).drop 24).drop 24).drop 24).drop 24).drop 24).drop 24).drop 24).drop 24).drop 24).drop 24).drop 24).drop 24), List.all_append, w_t17, ← List.take_append_drop 24 (((((((((((((((((words1.drop 24).drop 24).drop 24).drop 24).drop 24).drop 24).drop 24).drop 24).drop 24).drop 24).drop 24).drop 24).drop 24).drop 24).drop 24).drop 24).drop 24), List.all_append, w_t18, ← List.take_append_drop 24 ((((((((((((((((((words1.drop 24).drop 24).drop 24).drop 24).drop 24).drop 24).drop 24).drop 24).drop 24).drop 24).drop 24).drop 24).drop 24).drop 24).drop 24).drop 24).drop 24).drop 24), List.all_append, w_t19, ← List.take_append_drop 24 (((((((((((((((((((words1.drop 24).drop 24).drop 24).drop 24).drop 24).drop 24).drop 24).drop 24).drop 24).drop 24).drop 24).drop 24).drop 24).drop 24).drop 24).drop 24).drop 24).drop 24).drop 24), List.all_append, w_t20, w_t21]
  rfl
theorem w_rest : rest_1_c.before args0 about1 = true := by decide +kernel
theorem w_case : (Jvm.Cond.and given_1 narrow_1).before args0 about1 = true := by decide +kernel
theorem w_applies : (headSpec (Jvm.Cond.code x code maxLocals ret :: tables_1) room_1).applies x e0.platform about1 = true :=
  (Spec.applies_iff w_frames).mpr ⟨w_running, w_runnable, w_alone, w_named, w_hears, w_ripe, w_room, w_tables⟩
theorem atStart : AtStart classFile x code maxLocals ret World_1 tables_1 room_1 Calls_1 rest_1 Pre_1 launch0 p0 e0 about1 theMethod args0 below0 :=
  ⟨lists_1, trivial, launch0.admits_env _ _ _, launch0.least_env, fairChoices_fair.cas, fairChoices_fair.clock, w_frames, w_args, w_heap, w_applies, trivial, w_rest, w_case⟩
end start1
theorem witness_1 : WitnessClaimed_1 := ⟨start1.p0, start1.e0, start1.about1, start1.theMethod, start1.args0, start1.below0, start1.atStart⟩
end Jvm.Pilot.@@N@@
