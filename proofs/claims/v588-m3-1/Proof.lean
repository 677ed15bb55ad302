import JvmDerived
import JvmDerived.Pilot.@@N@@Statement
import JvmDerived.Pilot.@@N@@Code
set_option linter.unusedVariables false
set_option linter.unusedSimpArgs false
@@BLOCK:NumsL.lean.txt@@
namespace Jvm.Pilot.@@N@@
open Jvm Jvm.ClassFile Sem Op Lib Jvm.Free Jvm.Stand Jvm.LawKit Jvm.RoadKit Bundle Jvm.Pilot.@@N@@.Jvm.D
theorem own_k {Z : State} {a0 : Array Value} (hw : ∀ d ∈ tables_1, d.before a0 Z = true) {d : Jvm.Cond} (i : Nat) (h : tables_1[i]? = some d) : d.before a0 Z = true := hw d (List.mem_of_getElem? h)
theorem own_nn32 {n : Nat} (h : n < 2147483648) : ¬ Int32.ofNat n < 0 := by
  rw [Int32.lt_iff_toInt_lt, Int32.toInt_ofNat_of_lt (by omega), show (0 : Int32).toInt = 0 from rfl]
  omega
/-- from here the run ends as F says -/
def own_G (p : Program) (e : Env) (below : List Frame) (T : State) (g : JFrame) (F : State → Prop) : Prop := ∃ s₂, Steps p.tables e below (T.setTop g) s₂ ∧ F s₂
theorem own_st {p : Program} {e : Env} {below : List Frame} {T T' : State} {g g' : JFrame} {F : State → Prop} (h : ∀ target, Steps p.tables e below (T'.setTop g') target → Steps p.tables e below (T.setTop g) target) (k : own_G p e below T' g' F) : own_G p e below T g F := by
  obtain ⟨s2, a, b⟩ := k
  exact ⟨s2, h _ a, b⟩
theorem own_tr {p : Program} {e : Env} {below : List Frame} {T T' : State} {g g' : JFrame} {F : State → Prop} (h : Steps p.tables e below (T.setTop g) (T'.setTop g')) (k : own_G p e below T' g' F) : own_G p e below T g F := by
  obtain ⟨s2, a, b⟩ := k
  exact ⟨s2, h.trans a, b⟩
theorem own_end {p : Program} {e : Env} {below : List Frame} {T s2 : State} {g : JFrame} {F : State → Prop} (h : Steps p.tables e below (T.setTop g) s2) (k : F s2) : own_G p e below T g F := ⟨s2, h, k⟩
theorem own_join {α : Type} {p : Program} {e : Env} {below : List Frame} {T : State} {g : JFrame} {gj : α → JFrame} {P : α → Prop} {F : State → Prop} (k : ∀ q, P q → own_G p e below T (gj q) F) (h : (∀ q, P q → own_G p e below T (gj q) F) → own_G p e below T g F) : own_G p e below T g F := h k
abbrev own_E (s : State) (below : List Frame) (R : Room) (Q : Option Value → Heap → List Loc → Prop) : State → Prop := fun s₂ => ∃ o, s₂.status = .running ∧ Ended s₂ below o ∧ ∃ v L, o = .returned v ∧ Q v s₂.heap L ∧ FrameEnd s o s₂ L R.cells R.slots
abbrev own_EndW (s : State) (below : List Frame) (R : Room) (Q : Option Value → Heap → List Loc → Prop) : State → Prop := fun s₂ => ∃ o, s₂.status = .running ∧ Ended s₂ below o ∧ ∃ v L, o = .returned v ∧ Q v s₂.heap L ∧ ReturnedEndW s o s₂ L R.cells R.slots
abbrev own_EndH (Z : State) (EL : List (String × Nat)) (s : State) (below : List Frame) (R : Room) (Q : Option Value → Heap → List Loc → Prop) : State → Prop := fun s₂ => ∃ o, s₂.status = .running ∧ Ended s₂ below o ∧ ∃ v L, o = .returned v ∧ Q v s₂.heap L ∧ CHr Z EL s.vm s.heap s₂.vm s₂.heap ∧ ReturnedEndW s o s₂ L R.cells R.slots
abbrev own_M (l : Launch) (y : MethodName) (bs : ByteArray) (ml : Nat) (rt : Option FieldType) (ws : List Jvm.Cond) (R : Room) (as' : Array Value) (Z : State) (h0 : Heap) (Q : Option Value → Heap → List Loc → Prop) : Prop :=
  MetFree l y (head1 (Jvm.Cond.code y bs ml rt :: ws) R) (fun av U => av = as' ∧ Z.Warmed39 U.vm ∧ U.heap = h0) (fun _ _ _ _ _ => True) (fun _ U o U' => ∃ v L, o = .returned v ∧ Q v U'.heap L ∧ FrameEnd U o U' L R.cells R.slots)
abbrev own_MW (l : Launch) (y : MethodName) (bs : ByteArray) (ml : Nat) (rt : Option FieldType) (ws : List Jvm.Cond) (R : Room) (as' : Array Value) (Z : State) (h0 : Heap) (Q : Option Value → Heap → List Loc → Prop) : Prop :=
  MetFree l y (head1 (Jvm.Cond.code y bs ml rt :: ws) R) (fun av U => av = as' ∧ Z.Warmed39 U.vm ∧ U.heap = h0) (fun _ _ _ _ _ => True) (fun _ U o U' => ∃ v L, o = .returned v ∧ Q v U'.heap L ∧ ReturnedEndW U o U' L R.cells R.slots)
abbrev own_MH (EL : List (String × Nat)) (l : Launch) (y : MethodName) (bs : ByteArray) (ml : Nat) (rt : Option FieldType) (ws : List Jvm.Cond) (R : Room) (as' : Array Value) (Z : State) (h0 : Heap) (Q : Option Value → Heap → List Loc → Prop) : Prop :=
  MetFree l y (head1 (Jvm.Cond.code y bs ml rt :: ws) R) (fun av U => av = as' ∧ Z.Warmed39 U.vm ∧ U.heap = h0 ∧ CHv Z EL U.vm h0) (fun _ _ _ _ _ => True) (fun _ U o U' => ∃ v L, o = .returned v ∧ Q v U'.heap L ∧ CHr Z EL U.vm U.heap U'.vm U'.heap ∧ ReturnedEndW U o U' L R.cells R.slots)
theorem own_go {l : Launch} {y : MethodName} {bs : ByteArray} {ml : Nat} {rt : Option FieldType} {ws : List Jvm.Cond} {R : Room} {as' : Array Value} {Z : State} {h0 : Heap} {Q : Option Value → Heap → List Loc → Prop} (hpn : plainFor y = true) {ff : MethodId → JFrame} (hff : ∀ m, entryFrame m as' ml = ff m)
    (body : ∀ p e s m below meth c s₁, BodyLoose p l y (head1 (Jvm.Cond.code y bs ml rt :: ws) R) bs ml rt e s m as' below meth c s₁ → p.tables.exec = Jvm.exec → c.code = bs → c.maxLocals = ml → Z.Warmed39 s.vm → s.heap = h0 → s.vm.findClass y.cls = some m.cls → meth.name = y.name → Stand p l e R s m as' below meth c s₁ [] 0 0 → s₁.heap = h0 → own_G p e below s₁ (ff m) (own_E s below R Q)) : own_M l y bs ml rt ws R as' Z h0 Q := by
  refine MetFree.of_bodySF hpn hisR ?_
  intro p e s m args below meth c s₁ Bd hml0 hP hK
  obtain ⟨rfl, hZ, hh⟩ := hP
  obtain ⟨s2, g1, o, g2⟩ := body p e s m below meth c s₁ Bd Bd.exec Bd.bytes hml0 hZ hh (findClass_of_methodNamed Bd.named) (name_of_methodNamed Bd.named Bd.method).1 (Stand.of_body Bd) (by rw [← hh, Bd.state]; rfl)
  exact ⟨s2, o, castTop (hff m) g1, g2⟩
theorem own_goW {l : Launch} {y : MethodName} {bs : ByteArray} {ml : Nat} {rt : Option FieldType} {ws : List Jvm.Cond} {R : Room} {as' : Array Value} {Z : State} {h0 : Heap} {Q : Option Value → Heap → List Loc → Prop} (hpn : plainFor y = true) {ff : MethodId → JFrame} (hff : ∀ m, entryFrame m as' ml = ff m)
    (body : ∀ p e s m below meth c s₁, BodyLoose p l y (head1 (Jvm.Cond.code y bs ml rt :: ws) R) bs ml rt e s m as' below meth c s₁ → p.tables.exec = Jvm.exec → c.code = bs → c.maxLocals = ml → Z.Warmed39 s.vm → s.heap = h0 → s.vm.findClass y.cls = some m.cls → meth.name = y.name → Stand p l e R (s.setVm s.vm) m as' below meth c s₁ [] 0 0 → s₁.heap = h0 → s.Since s.vm h0.size → own_G p e below s₁ (ff m) (own_EndW s below R Q)) : own_MW l y bs ml rt ws R as' Z h0 Q := by
  refine MetFree.of_bodySF hpn hisR ?_
  intro p e s m args below meth c s₁ Bd hml0 hP hK
  obtain ⟨rfl, hZ, hh⟩ := hP
  obtain ⟨s2, g1, o, g2⟩ := body p e s m below meth c s₁ Bd Bd.exec Bd.bytes hml0 hZ hh (findClass_of_methodNamed Bd.named) (name_of_methodNamed Bd.named Bd.method).1 (Stand.of_body Bd) (by rw [← hh, Bd.state]; rfl) ((State.WarmedH.refl s).since _)
  exact ⟨s2, o, castTop (hff m) g1, g2⟩
theorem own_goH {EL : List (String × Nat)} {l : Launch} {y : MethodName} {bs : ByteArray} {ml : Nat} {rt : Option FieldType} {ws : List Jvm.Cond} {R : Room} {as' : Array Value} {Z : State} {h0 : Heap} {Q : Option Value → Heap → List Loc → Prop} (hpn : plainFor y = true) {ff : MethodId → JFrame} (hff : ∀ m, entryFrame m as' ml = ff m)
    (body : ∀ p e s m below meth c s₁, BodyLoose p l y (head1 (Jvm.Cond.code y bs ml rt :: ws) R) bs ml rt e s m as' below meth c s₁ → p.tables.exec = Jvm.exec → c.code = bs → c.maxLocals = ml → Z.Warmed39 s.vm → s.heap = h0 → s.vm.findClass y.cls = some m.cls → meth.name = y.name → Stand p l e R (s.setVm s.vm) m as' below meth c s₁ [] 0 0 → s₁.heap = h0 → s.Since s.vm h0.size → CHr Z EL s.vm h0 s.vm h0 → own_G p e below s₁ (ff m) (own_EndH Z EL s below R Q)) : own_MH EL l y bs ml rt ws R as' Z h0 Q := by
  refine MetFree.of_bodySF hpn hisR ?_
  intro p e s m args below meth c s₁ Bd hml0 hP hK
  obtain ⟨rfl, hZ, hh, hCH⟩ := hP
  obtain ⟨s2, g1, o, g2⟩ := body p e s m below meth c s₁ Bd Bd.exec Bd.bytes hml0 hZ hh (findClass_of_methodNamed Bd.named) (name_of_methodNamed Bd.named Bd.method).1 (Stand.of_body Bd) (by rw [← hh, Bd.state]; rfl) ((State.WarmedH.refl s).since _) (CHr.refl hCH)
  exact ⟨s2, o, castTop (hff m) g1, g2⟩
theorem own_pop2 {tb : Tables} [Ours tb] {e : Env} {below : List Frame} {T target : State} {m : MethodId} {c : Code} {g : JFrame} (h : At T m c below) (hx : tb.exec = Jvm.exec) (hg : g.method = m) {x : Value} {rest : List Value} (hd : decode c.code g.pc = .ok (.pop2, 1)) (hs : g.stack = x :: rest) (hc : x.category = 2)
    (hr : Steps tb e below (T.setTop { g with pc := g.pc + 1, stack := rest }) target) : Steps tb e below (T.setTop g) target := by
  subst hg
  jvm_step h [h.top, hx, hd, hs, hc]
  exact hr
theorem own_w0 {g : JFrame} {rest : List Value} {W : Nat} (h : g.monitorRoom = 0) (k : (rest.map fun v => v.category).sum = W) : 2 * g.monitorRoom + (rest.map fun v => v.category).sum ≤ W := by
  rw [h, k]; omega
section Own
variable {p : Program} {l : Launch} {e : Env} {R : Room} {s : State} {m : MethodId} {args : Array Value} {below : List Frame} {meth : Method} {c : Code} {T : State} {locs : List Loc} {cells slots : Nat} {Z : State} {h h' : Heap} {a : Addr} {k : ClassId} {ty : FieldType} {z j : Int32} {vs : List Value} {d v : Value} {g : JFrame} {rest : List Value}
theorem own_joinT {α : Type} {gj : α → JFrame} {P : α → Prop} {F : State → Prop} (X : Stand p l e R s m args below meth c T locs cells slots) (eT : T.heap = h)
    (k : ∀ T' q, P q → Stand p l e R s m args below meth c T' locs cells slots → T'.heap = h → own_G p e below T' (gj q) F) (r : (∀ T' q, P q → Stand p l e R s m args below meth c T' locs cells slots → T'.heap = h → own_G p e below T' (gj q) F) → own_G p e below T g F) : own_G p e below T g F := r k
theorem own_loop {α : Type} {gj : α → JFrame} {P : Nat → α → Prop} {F : State → Prop} (X : Stand p l e R s m args below meth c T locs cells slots) (eT : T.heap = h)
    (k : ∀ n, (∀ i, i < n → ∀ T' q, P i q → Stand p l e R s m args below meth c T' locs cells slots → T'.heap = h → own_G p e below T' (gj q) F) → ∀ T' q, P n q → Stand p l e R s m args below meth c T' locs cells slots → T'.heap = h → own_G p e below T' (gj q) F)
    (r : (∀ n T' q, P n q → Stand p l e R s m args below meth c T' locs cells slots → T'.heap = h → own_G p e below T' (gj q) F) → own_G p e below T g F) : own_G p e below T g F :=
  r fun n => Nat.strongRecOn n fun n ih => k n ih
theorem own_joinH {α : Type} {gj : α → JFrame} {P : List Loc → Heap → α → Prop} {F : State → Prop} {cells' slots' : Nat} (X : Stand p l e R s m args below meth c T locs cells slots)
    (k : ∀ T' L h' q, P L h' q → Stand p l e R s m args below meth c T' L cells' slots' → T'.heap = h' → own_G p e below T' (gj q) F) (r : (∀ T' L h' q, P L h' q → Stand p l e R s m args below meth c T' L cells' slots' → T'.heap = h' → own_G p e below T' (gj q) F) → own_G p e below T g F) : own_G p e below T g F := r k
theorem own_joinHV {α : Type} {gj : α → JFrame} {P : Vm → Nat → List Loc → Heap → α → Prop} {F : State → Prop} {cells' slots' : Nat} {vm0 : Vm} (X : Stand p l e R (s.setVm vm0) m args below meth c T locs cells slots)
    (k : ∀ vm1 k1 T' L h' q, P vm1 k1 L h' q → Stand p l e R (s.setVm vm1) m args below meth c T' L cells' slots' → T'.heap = h' → own_G p e below T' (gj q) F) (r : (∀ vm1 k1 T' L h' q, P vm1 k1 L h' q → Stand p l e R (s.setVm vm1) m args below meth c T' L cells' slots' → T'.heap = h' → own_G p e below T' (gj q) F) → own_G p e below T g F) : own_G p e below T g F := r k
theorem own_alen (X : Stand p l e R s m args below meth c T locs cells slots) (hx : p.tables.exec = Jvm.exec) (hZ : Z.Warmed39 s.vm) (eT : T.heap = h) (F : Arv Z h a k ty z vs d) (hg : g.method = m) (hs : g.stack = .ref a :: rest) (hd : decode c.code g.pc = .ok (.arraylength, 1)) :
    ∀ target, Steps p.tables e below (T.setTop { g with pc := g.pc + 1, stack := .int z :: rest }) target → Steps p.tables e below (T.setTop g) target := by
  obtain ⟨cl, A, -, S, M, -⟩ := F
  intro target hr
  refine X.arraylength hx (cell := cl) (by rw [eT]; exact A.1) (State.isArrayOf_alike hZ.alike A.2.1) hg hs hd target ?_
  rw [len_of S M]; exact hr
theorem own_ial (X : Stand p l e R s m args below meth c T locs cells slots) (hx : p.tables.exec = Jvm.exec) (hZ : Z.Warmed39 s.vm) (eT : T.heap = h) (F : Arv Z h a k .int z vs d) (hj : ¬ j < 0 ∧ j < z) (hv : vs.getD j.toNatClampNeg d = v) (hg : g.method = m) (hs : g.stack = .int j :: .ref a :: rest) (hd : decode c.code g.pc = .ok (.iaload, 1)) :
    ∀ target, Steps p.tables e below (T.setTop { g with pc := g.pc + 1, stack := v :: rest }) target → Steps p.tables e below (T.setTop g) target := by
  obtain ⟨cl, A, -, S, M, H, -⟩ := F
  intro target hr
  exact X.iaload hx (by rw [eT]; exact A.1) (State.isArrayOf_alike hZ.alike A.2.1) A.2.2 (inb_of S hj) (H.at (inb_of S hj) hv) hg hs hd target hr
theorem own_cal (X : Stand p l e R s m args below meth c T locs cells slots) (hx : p.tables.exec = Jvm.exec) (hZ : Z.Warmed39 s.vm) (eT : T.heap = h) (F : Arv Z h a k .char z vs d) (hj : ¬ j < 0 ∧ j < z) (hv : vs.getD j.toNatClampNeg d = v) (hg : g.method = m) (hs : g.stack = .int j :: .ref a :: rest) (hd : decode c.code g.pc = .ok (.caload, 1)) :
    ∀ target, Steps p.tables e below (T.setTop { g with pc := g.pc + 1, stack := v :: rest }) target → Steps p.tables e below (T.setTop g) target := by
  obtain ⟨cl, A, -, S, M, H, -⟩ := F
  intro target hr
  exact X.caload hx (by rw [eT]; exact A.1) (State.isArrayOf_alike hZ.alike A.2.1) A.2.2 (inb_of S hj) (H.at (inb_of S hj) hv) hg hs hd target hr
theorem own_bal (X : Stand p l e R s m args below meth c T locs cells slots) (hx : p.tables.exec = Jvm.exec) (hZ : Z.Warmed39 s.vm) (eT : T.heap = h) (F : Arv Z h a k .byte z vs d) (hj : ¬ j < 0 ∧ j < z) (hv : vs.getD j.toNatClampNeg d = v) (hg : g.method = m) (hs : g.stack = .int j :: .ref a :: rest) (hd : decode c.code g.pc = .ok (.baload, 1)) :
    ∀ target, Steps p.tables e below (T.setTop { g with pc := g.pc + 1, stack := v :: rest }) target → Steps p.tables e below (T.setTop g) target := by
  obtain ⟨cl, A, -, S, M, H, -⟩ := F
  intro target hr
  exact X.baloadBytes hx (by rw [eT]; exact A.1) (State.isArrayOf_alike hZ.alike A.2.1) A.2.2 (inb_of S hj) (H.at (inb_of S hj) hv) hg hs hd target hr
theorem own_lal (X : Stand p l e R s m args below meth c T locs cells slots) (hx : p.tables.exec = Jvm.exec) (hZ : Z.Warmed39 s.vm) (eT : T.heap = h) (F : Arv Z h a k .long z vs d) (hj : ¬ j < 0 ∧ j < z) (hv : vs.getD j.toNatClampNeg d = v) (hg : g.method = m) (hs : g.stack = .int j :: .ref a :: rest) (hd : decode c.code g.pc = .ok (.laload, 1)) :
    ∀ target, Steps p.tables e below (T.setTop { g with pc := g.pc + 1, stack := v :: rest }) target → Steps p.tables e below (T.setTop g) target := by
  obtain ⟨cl, A, -, S, M, H, -⟩ := F
  intro target hr
  exact X.laload hx (by rw [eT]; exact A.1) (State.isArrayOf_alike hZ.alike A.2.1) A.2.2 (inb_of S hj) (H.at (inb_of S hj) hv) hg hs hd target hr
theorem own_dal (X : Stand p l e R s m args below meth c T locs cells slots) (hx : p.tables.exec = Jvm.exec) (hZ : Z.Warmed39 s.vm) (eT : T.heap = h) (F : Arv Z h a k .double z vs d) (hj : ¬ j < 0 ∧ j < z) (hv : vs.getD j.toNatClampNeg d = v) (hg : g.method = m) (hs : g.stack = .int j :: .ref a :: rest) (hd : decode c.code g.pc = .ok (.daload, 1)) :
    ∀ target, Steps p.tables e below (T.setTop { g with pc := g.pc + 1, stack := v :: rest }) target → Steps p.tables e below (T.setTop g) target := by
  obtain ⟨cl, A, -, S, M, H, -⟩ := F
  intro target hr
  exact X.daload hx (by rw [eT]; exact A.1) (State.isArrayOf_alike hZ.alike A.2.1) A.2.2 (inb_of S hj) (H.at (inb_of S hj) hv) hg hs hd target hr
theorem own_aal (X : Stand p l e R s m args below meth c T locs cells slots) (hx : p.tables.exec = Jvm.exec) (hZ : Z.Warmed39 s.vm) (eT : T.heap = h) (F : Arv Z h a k ty z vs d) (hty : ty.isReference = true) (hj : ¬ j < 0 ∧ j < z) (hv : vs.getD j.toNatClampNeg d = v) (hg : g.method = m) (hs : g.stack = .int j :: .ref a :: rest) (hd : decode c.code g.pc = .ok (.aaload, 1)) :
    ∀ target, Steps p.tables e below (T.setTop { g with pc := g.pc + 1, stack := v :: rest }) target → Steps p.tables e below (T.setTop g) target := by
  obtain ⟨cl, A, -, S, M, H, -⟩ := F
  intro target hr
  exact X.aaload hx (by rw [eT]; exact A.1) (State.isArrayOf_alike hZ.alike A.2.1) hty A.2.2 (inb_of S hj) (H.at (inb_of S hj) hv) hg hs hd target hr
theorem own_ist (X : Stand p l e R s m args below meth c T locs cells slots) (hx : p.tables.exec = Jvm.exec) (hZ : Z.Warmed39 s.vm) (eT : T.heap = h) (F : Arv Z h a k .int z vs d) (hj : ¬ j < 0 ∧ j < z) {i : Nat} (hi : j.toNatClampNeg = i) (hl : i < vs.length) {x : Int32} (hg : g.method = m) (hs : g.stack = .int x :: .int j :: .ref a :: rest) (hd : decode c.code g.pc = .ok (.iastore, 1)) :
    ∃ T' h', Stand p l e R s m args below meth c T' (locs ++ [⟨a, j.toNatClampNeg⟩]) cells slots ∧ T'.heap = h' ∧ Wr h h' a j.toNatClampNeg (.int x) ∧ Arv Z h' a k .int z (vs.set i (.int x)) d ∧ ∀ target, Steps p.tables e below (T'.setTop { g with pc := g.pc + 1, stack := rest }) target → Steps p.tables e below (T.setTop g) target := by
  obtain ⟨cl, A, q, S, M, H, G⟩ := F
  obtain ⟨T', h', X', e', W, st⟩ := stI X hx hZ eT A (inb_of S hj) hg hs hd
  exact ⟨T', h', X', e', W, Arv.set A q S M H G rfl W i hi hl, st⟩
theorem own_lst (X : Stand p l e R s m args below meth c T locs cells slots) (hx : p.tables.exec = Jvm.exec) (hZ : Z.Warmed39 s.vm) (eT : T.heap = h) (F : Arv Z h a k .long z vs d) (hj : ¬ j < 0 ∧ j < z) {i : Nat} (hi : j.toNatClampNeg = i) (hl : i < vs.length) {x : Int64} (hg : g.method = m) (hs : g.stack = .long x :: .int j :: .ref a :: rest) (hd : decode c.code g.pc = .ok (.lastore, 1)) :
    ∃ T' h', Stand p l e R s m args below meth c T' (locs ++ [⟨a, j.toNatClampNeg⟩]) cells slots ∧ T'.heap = h' ∧ Wr h h' a j.toNatClampNeg (.long x) ∧ Arv Z h' a k .long z (vs.set i (.long x)) d ∧ ∀ target, Steps p.tables e below (T'.setTop { g with pc := g.pc + 1, stack := rest }) target → Steps p.tables e below (T.setTop g) target := by
  obtain ⟨cl, A, q, S, M, H, G⟩ := F
  obtain ⟨T', h', X', e', W, st⟩ := stJ X hx hZ eT A (inb_of S hj) hg hs hd
  exact ⟨T', h', X', e', W, Arv.set A q S M H G rfl W i hi hl, st⟩
theorem own_dst (X : Stand p l e R s m args below meth c T locs cells slots) (hx : p.tables.exec = Jvm.exec) (hZ : Z.Warmed39 s.vm) (eT : T.heap = h) (F : Arv Z h a k .double z vs d) (hj : ¬ j < 0 ∧ j < z) {i : Nat} (hi : j.toNatClampNeg = i) (hl : i < vs.length) {x : UInt64} (hg : g.method = m) (hs : g.stack = .double x :: .int j :: .ref a :: rest) (hd : decode c.code g.pc = .ok (.dastore, 1)) :
    ∃ T' h', Stand p l e R s m args below meth c T' (locs ++ [⟨a, j.toNatClampNeg⟩]) cells slots ∧ T'.heap = h' ∧ Wr h h' a j.toNatClampNeg (.double x) ∧ Arv Z h' a k .double z (vs.set i (.double x)) d ∧ ∀ target, Steps p.tables e below (T'.setTop { g with pc := g.pc + 1, stack := rest }) target → Steps p.tables e below (T.setTop g) target := by
  obtain ⟨cl, A, q, S, M, H, G⟩ := F
  obtain ⟨T', h', X', e', W, st⟩ := stD X hx hZ eT A (inb_of S hj) hg hs hd
  exact ⟨T', h', X', e', W, Arv.set A q S M H G rfl W i hi hl, st⟩
theorem own_cst (X : Stand p l e R s m args below meth c T locs cells slots) (hx : p.tables.exec = Jvm.exec) (hZ : Z.Warmed39 s.vm) (eT : T.heap = h) (F : Arv Z h a k .char z vs d) (hj : ¬ j < 0 ∧ j < z) {i : Nat} (hi : j.toNatClampNeg = i) (hl : i < vs.length) {x y : Int32} (hn : nar .char x = y) (hg : g.method = m) (hs : g.stack = .int x :: .int j :: .ref a :: rest) (hd : decode c.code g.pc = .ok (.castore, 1)) :
    ∃ T' h', Stand p l e R s m args below meth c T' (locs ++ [⟨a, j.toNatClampNeg⟩]) cells slots ∧ T'.heap = h' ∧ Wr h h' a j.toNatClampNeg (.int y) ∧ Arv Z h' a k .char z (vs.set i (.int y)) d ∧ ∀ target, Steps p.tables e below (T'.setTop { g with pc := g.pc + 1, stack := rest }) target → Steps p.tables e below (T.setTop g) target := by
  obtain ⟨cl, A, q, S, M, H, G⟩ := F
  obtain ⟨T', h', X', e', W, st⟩ := stC X hx hZ eT A (inb_of S hj) hg hs hd
  rw [hn] at W
  exact ⟨T', h', X', e', W, Arv.set A q S M H G (by rw [← hn]; exact fits_nar_char x) W i hi hl, st⟩
theorem own_bst (X : Stand p l e R s m args below meth c T locs cells slots) (hx : p.tables.exec = Jvm.exec) (hZ : Z.Warmed39 s.vm) (eT : T.heap = h) (F : Arv Z h a k .byte z vs d) (hj : ¬ j < 0 ∧ j < z) {i : Nat} (hi : j.toNatClampNeg = i) (hl : i < vs.length) {x y : Int32} (hn : nar .byte x = y) (hg : g.method = m) (hs : g.stack = .int x :: .int j :: .ref a :: rest) (hd : decode c.code g.pc = .ok (.bastore, 1)) :
    ∃ T' h', Stand p l e R s m args below meth c T' (locs ++ [⟨a, j.toNatClampNeg⟩]) cells slots ∧ T'.heap = h' ∧ Wr h h' a j.toNatClampNeg (.int y) ∧ Arv Z h' a k .byte z (vs.set i (.int y)) d ∧ ∀ target, Steps p.tables e below (T'.setTop { g with pc := g.pc + 1, stack := rest }) target → Steps p.tables e below (T.setTop g) target := by
  obtain ⟨cl, A, q, S, M, H, G⟩ := F
  obtain ⟨T', h', X', e', W, st⟩ := stB X hx hZ eT A (inb_of S hj) hg hs hd
  rw [hn] at W
  exact ⟨T', h', X', e', W, Arv.set A q S M H G (by rw [← hn]; exact fits_nar_byte x) W i hi hl, st⟩
theorem own_ast (X : Stand p l e R s m args below meth c T locs cells slots) (hx : p.tables.exec = Jvm.exec) (hZ : Z.Warmed39 s.vm) (eT : T.heap = h) (F : Arv Z h a k ty z vs d) (hty : ty.isReference = true) (hj : ¬ j < 0 ∧ j < z) {i : Nat} (hi : j.toNatClampNeg = i) (hl : i < vs.length) (hv : fits ty v = true) (Q : Sto Z h a v) (hg : g.method = m) (hs : g.stack = v :: .int j :: .ref a :: rest) (hd : decode c.code g.pc = .ok (.aastore, 1)) :
    ∃ T' h', Stand p l e R s m args below meth c T' (locs ++ [⟨a, j.toNatClampNeg⟩]) cells slots ∧ T'.heap = h' ∧ Wr h h' a j.toNatClampNeg v ∧ Arv Z h' a k ty z (vs.set i v) d ∧ ∀ target, Steps p.tables e below (T'.setTop { g with pc := g.pc + 1, stack := rest }) target → Steps p.tables e below (T.setTop g) target := by
  obtain ⟨cl, A, q, S, M, H, G⟩ := F
  obtain ⟨T', h', X', e', W, st⟩ := stR X hx hZ eT A (inb_of S hj) hty Q hg hs hd
  exact ⟨T', h', X', e', W, Arv.set A q S M H G hv W i hi hl, st⟩
theorem own_retJ (X : Stand p l e R s m args below meth c T locs cells slots) (hx : p.tables.exec = Jvm.exec) {pc : Nat} {Ls : Array Slot} {w : Int64} (hret : meth.sig.returnType = some .long) (hd : decode c.code pc = .ok (.lreturn, 1)) {fs : List Frame}
    (hl : ∀ (f : JFrame) (acts : List Action), f.method = m → f.locked = none → f.entered = [] → (doReturn e (T.setTop f) acts (some (.long w))).1 = T.setFrames fs) : Steps p.tables e below (T.setTop (mkF m pc Ls (.long w :: rest))) (T.setFrames fs) :=
  retOut X hx hret rfl (Or.inr (Or.inl ⟨rfl, rfl, w, rfl⟩)) hd hl
theorem own_retD (X : Stand p l e R s m args below meth c T locs cells slots) (hx : p.tables.exec = Jvm.exec) {pc : Nat} {Ls : Array Slot} {w : UInt64} (hret : meth.sig.returnType = some .double) (hd : decode c.code pc = .ok (.dreturn, 1)) {fs : List Frame}
    (hl : ∀ (f : JFrame) (acts : List Action), f.method = m → f.locked = none → f.entered = [] → (doReturn e (T.setTop f) acts (some (.double w))).1 = T.setFrames fs) : Steps p.tables e below (T.setTop (mkF m pc Ls (.double w :: rest))) (T.setFrames fs) :=
  retOut X hx hret rfl (Or.inr (Or.inr (Or.inl ⟨rfl, rfl, w, rfl⟩))) hd hl
theorem own_retI (X : Stand p l e R s m args below meth c T locs cells slots) (hx : p.tables.exec = Jvm.exec) {pc : Nat} {Ls : Array Slot} {w : Int32} (hret : meth.sig.returnType = some .int) (hd : decode c.code pc = .ok (.ireturn, 1)) {fs : List Frame}
    (hl : ∀ (f : JFrame) (acts : List Action), f.method = m → f.locked = none → f.entered = [] → (doReturn e (T.setTop f) acts (some (.int w))).1 = T.setFrames fs) : Steps p.tables e below (T.setTop (mkF m pc Ls (.int w :: rest))) (T.setFrames fs) :=
  retOut X hx hret rfl (Or.inl ⟨rfl, Or.inl rfl, w, rfl⟩) hd hl
theorem own_retA (X : Stand p l e R s m args below meth c T locs cells slots) (hx : p.tables.exec = Jvm.exec) {pc : Nat} {Ls : Array Slot} {w : Value} {t : FieldType} (hret : meth.sig.returnType = some t) (ht : t.isReference = true) (hn : narrow t w = w) (hw : w.isRef = true) (hd : decode c.code pc = .ok (.areturn, 1)) {fs : List Frame}
    (hl : ∀ (f : JFrame) (acts : List Action), f.method = m → f.locked = none → f.entered = [] → (doReturn e (T.setTop f) acts (some w)).1 = T.setFrames fs) : Steps p.tables e below (T.setTop (mkF m pc Ls (w :: rest))) (T.setFrames fs) :=
  retOut X hx hret hn (Or.inr (Or.inr (Or.inr (Or.inr ⟨rfl, ht, hw⟩)))) hd hl
end Own
set_option maxRecDepth 65536
set_option maxHeartbeats 40000000
abbrev yN0 : MethodName := ⟨"java/lang/String", "length", "()I"⟩
abbrev yN1 : MethodName := ⟨"java/lang/StringUTF16", "compress", "([CI[BII)I"⟩
abbrev yN2 : MethodName := ⟨"java/lang/StringUTF16", "compress", "([CII)[B"⟩
abbrev yN3 : MethodName := ⟨"java/lang/StringUTF16", "coderFromArrayLen", "([BI)B"⟩
abbrev yN4 : MethodName := ⟨"java/lang/String", "charAt", "(I)C"⟩
abbrev yN5 : MethodName := ⟨"java/lang/StringUTF16", "toBytes", "([CII)[B"⟩
abbrev yN6 : MethodName := ⟨"java/lang/StringUTF16", "getChar", "([BI)C"⟩
abbrev yN7 : MethodName := ⟨"java/lang/String", "isEmpty", "()Z"⟩
abbrev yN8 : MethodName := ⟨"java/lang/StringUTF16", "putChar", "([BII)V"⟩
abbrev yN9 : MethodName := ⟨"com/example/tidelock/tidelock/protocol/ShardIsNamePinLaw", "allowed", "(C)Z"⟩
abbrev yN10 : MethodName := ⟨"com/example/tidelock/tidelock/protocol/RoutingTable$Shard", "isName", "(Ljava/lang/String;)Z"⟩
abbrev yN11 : MethodName := ⟨"java/lang/String", "<init>", "([CIILjava/lang/Void;)V"⟩
abbrev yN12 : MethodName := ⟨"java/lang/String", "<init>", "([C)V"⟩
abbrev yN13 : MethodName := ⟨"java/lang/StringUTF16", "newBytesLength", "(I)I"⟩
abbrev yN14 : MethodName := ⟨"java/lang/StringUTF16", "newBytesFor", "(I)[B"⟩
abbrev yN15 : MethodName := ⟨"java/lang/String", "isLatin1", "()Z"⟩
abbrev yN16 : MethodName := ⟨"java/lang/String", "coder", "()B"⟩
theorem own_wS {Z : State} {a0 : Array Value} (hw : ∀ d ∈ tables_1, d.before a0 Z = true) : ∀ d ∈ Bundle.stringAtoms, d.before a0 Z = true := by
  intro d hd
  simp only [Bundle.stringAtoms, Bundle.sN, List.mem_cons, List.not_mem_nil, or_false] at hd
  rcases hd with rfl | rfl | rfl | rfl | rfl | rfl | rfl
  · exact own_k hw 4 rfl
  · exact own_k hw 3 rfl
  · exact own_k hw 17 rfl
  · exact own_k hw 18 rfl
  · exact own_k hw 19 rfl
  · exact own_k hw 20 rfl
  · exact own_k hw 21 rfl
def own_EL : List (String × Nat) := [("java/lang/String", 7)]
theorem own_EW {Z : State} {a0 : Array Value} (hw : ∀ d ∈ tables_1, d.before a0 Z = true) : EW Z a0 own_EL := (EW.cons (own_k hw 16 rfl) (by decide +kernel) EW.nil)
theorem own_safeStr {Z : State} {EL : List (String × Nat)} {vm : Vm} {h : Heap} {x : Addr} (hal : Z.vm.Alike vm) (E : Exa Z h x "java/lang/String") (V : Fld Z h x "java/lang/String" "value" "[B" .null) : Safe Z EL vm h x := fun B => by
  obtain ⟨p, hp, u, a, hb, q, qa, S, hy⟩ := B
  obtain ⟨cS, ⟨⟨s1, s2, s3, ⟨cv, kv, iv, s4, s4'⟩, ⟨cc, kc, ic, s5, s5'⟩, s6, s7, s8, s9, s10, s11, s12, s13, s14, s15, s16⟩, hfS, hcS⟩, -, hB, -⟩ := S
  rcases hy with rfl | rfl
  · obtain ⟨cell, cf, k, i, f, h1, h2, -, -, -, -, h7⟩ := V
    obtain ⟨kv', z4⟩ := ff_back hal s4
    have s1' : h[q.sa]? = some q.sC := s1
    cases h1.symm.trans s1'
    cases h2.symm.trans z4
    cases h7.symm.trans s8
  · obtain ⟨cell, k, h1, h2, h3, -, -⟩ := E
    have s10' : h[q.sd]? = some q.SA := s10
    cases h1.symm.trans s10'
    have hB' : Z.vm.findClass "[B" = some q.SA.cls := by rw [← hal.findClass]; exact hB
    obtain ⟨k1, a1, a2⟩ := Vm.findClass_spec h2
    obtain ⟨k2, b1, b2⟩ := Vm.findClass_spec hB'
    cases a1.symm.trans b1
    exact absurd (a2.symm.trans b2) (by decide)
/-- a char -/
def own_c16 (c : Int32) : Prop := ¬ c < 0 ∧ ¬ (65535 : Int32) < c
def own_lo (c : Int32) : Int32 := (c >>> ((0 : Int32) &&& 31)).toInt8.toInt32
def own_hi (c : Int32) : Int32 := (c >>> ((8 : Int32) &&& 31)).toInt8.toInt32
def own_ok (c : Int32) : Prop := (¬ c < 65 ∧ ¬ (90 : Int32) < c) ∨ (¬ c < 97 ∧ ¬ (122 : Int32) < c) ∨ (¬ c < 48 ∧ ¬ (57 : Int32) < c) ∨ c = 95 ∨ c = 45
instance own_okD (c : Int32) : Decidable (own_ok c) := by unfold own_ok; infer_instance
def own_al (c : Int32) : Int32 := if own_ok c then 1 else 0
theorem own_c16n {c : Int32} (h : own_c16 c) : ∃ n : Nat, n < 65536 ∧ c = Int32.ofNat n := by
  obtain ⟨h1, h2⟩ := h
  simp only [Int32.lt_iff_toInt_lt] at h1 h2
  have e0 : (0 : Int32).toInt = 0 := rfl; have e1 : (65535 : Int32).toInt = 65535 := rfl
  rw [e0] at h1; rw [e1] at h2
  refine ⟨c.toInt.toNat, by omega, ?_⟩
  rw [← Int32.toInt_inj, Int32.toInt_ofNat_of_lt (by omega)]; omega
theorem own_narc {c : Int32} (h : own_c16 c) : nar .char c = c := by
  obtain ⟨n, hn, rfl⟩ := own_c16n h
  simp only [nar]
  apply Int32.toBitVec_inj.mp
  apply BitVec.eq_of_toNat_eq
  simp
  omega
theorem own_u16 (u : UInt16) : u.toUInt32.toInt32 = Int32.ofNat u.toNat := by
  apply Int32.toBitVec_inj.mp
  apply BitVec.eq_of_toNat_eq
  simp
theorem own_mk16 (x : Int32) : own_c16 (x &&& (65535 : Int32)).toUInt32.toUInt16.toUInt32.toInt32 := by
  have h := own_u16 (x &&& (65535 : Int32)).toUInt32.toUInt16
  have hb := ((x &&& (65535 : Int32)).toUInt32.toUInt16).toNat_lt
  rw [h]
  generalize ((x &&& (65535 : Int32)).toUInt32.toUInt16).toNat = n at hb
  unfold own_c16
  simp only [Int32.lt_iff_toInt_lt, Int32.toInt_ofNat_of_lt (show n < 2 ^ 31 by omega)]
  have e0 : (0 : Int32).toInt = 0 := rfl; have e1 : (65535 : Int32).toInt = 65535 := rfl
  omega
theorem own_and255 (x : Int32) : ∃ n : Nat, n ≤ 255 ∧ x &&& 255 = Int32.ofNat n := by
  refine ⟨(x &&& 255).toBitVec.toNat, ?_, ?_⟩
  · simp only [Int32.toBitVec_and, BitVec.toNat_and]
    exact Nat.and_le_right
  · apply Int32.toBitVec_inj.mp
    show _ = BitVec.ofNat 32 _
    rw [BitVec.ofNat_toNat]; simp
theorem own_ch (x : Int32) : ¬ (x &&& (255 : Int32)).toUInt32.toUInt16.toUInt32.toInt32 < 0 ∧ ¬ (255 : Int32) < (x &&& (255 : Int32)).toUInt32.toUInt16.toUInt32.toInt32 := by
  rw [i2c_mask]
  obtain ⟨n, h, e⟩ := own_and255 x
  rw [e]
  simp only [Int32.lt_iff_toInt_lt, Int32.toInt_ofNat_of_lt (show n < 2 ^ 31 by omega)]
  have : (255 : Int32).toInt = 255 := rfl; have : (0 : Int32).toInt = 0 := rfl
  omega
theorem own_b8 : ∀ m : Fin 256, (Int8.ofNat m.val).toInt32 &&& 255 = Int32.ofNat m.val := by decide +kernel
theorem own_i8 (n : Nat) : (Int32.ofNat n).toInt8 = Int8.ofNat (n % 256) := by
  apply Int8.toBitVec_inj.mp
  rw [Int32.toBitVec_toInt8, BitVec.signExtend_eq_setWidth_of_le _ (by decide)]
  apply BitVec.eq_of_toNat_eq
  show ((BitVec.ofNat 32 n).setWidth 8).toNat = (BitVec.ofNat 8 (n % 256)).toNat
  rw [BitVec.toNat_setWidth, BitVec.toNat_ofNat, BitVec.toNat_ofNat]
  omega
theorem own_i8b (n : Nat) : (Int32.ofNat n).toInt8.toInt32 &&& 255 = Int32.ofNat (n % 256) := by
  rw [own_i8]; exact own_b8 ⟨n % 256, Nat.mod_lt _ (by decide)⟩
theorem own_sh0 (x : Int32) : x >>> ((0 : Int32) &&& 31) = x := by
  apply Int32.toBitVec_inj.mp
  simp
theorem own_sl0 (x : Int32) : x <<< ((0 : Int32) &&& 31) = x := by
  apply Int32.toBitVec_inj.mp
  simp
theorem own_sh8 {n : Nat} (h : n < 65536) : Int32.ofNat n >>> ((8 : Int32) &&& 31) = Int32.ofNat (n / 256) := by
  rw [← Int32.toInt_inj, Jvm.Kit.i32_shr (Int32.ofNat n) ((8 : Int32) &&& 31) (k := 8) (by decide), Int32.toInt_ofNat_of_lt (by omega), Int32.toInt_ofNat_of_lt (by omega)]
  omega
theorem own_nc (x : Int32) : nar .char (x.toUInt32.toUInt16.toUInt32.toInt32) = x.toUInt32.toUInt16.toUInt32.toInt32 := by simp only [nar, UInt32.toUInt32_toInt32, UInt16.toUInt16_toUInt32]
theorem own_i2c {n : Nat} (h : n < 65536) : (Int32.ofNat n).toUInt32.toUInt16.toUInt32.toInt32 = Int32.ofNat n := by
  apply Int32.toBitVec_inj.mp
  apply BitVec.eq_of_toNat_eq
  simp
  omega
theorem own_orN {a b : Nat} (ha : a < 65536) (hb : b < 65536) : Int32.ofNat a ||| Int32.ofNat b = Int32.ofNat (a ||| b) := by
  have hc : a ||| b < 65536 := Nat.or_lt_two_pow (n := 16) ha hb
  apply Int32.toBitVec_inj.mp
  rw [Int32.toBitVec_or]
  apply BitVec.eq_of_toNat_eq
  rw [BitVec.toNat_or]
  show (BitVec.ofNat 32 a).toNat ||| (BitVec.ofNat 32 b).toNat = (BitVec.ofNat 32 (a ||| b)).toNat
  rw [BitVec.toNat_ofNat, BitVec.toNat_ofNat, BitVec.toNat_ofNat, Nat.mod_eq_of_lt (by omega), Nat.mod_eq_of_lt (by omega), Nat.mod_eq_of_lt (by omega)]
theorem own_comb {a b : Nat} (ha : a < 256) (hb : b < 256) : Int32.ofNat b ||| (Int32.ofNat a <<< ((8 : Int32) &&& 31)) = Int32.ofNat (a * 256 + b) := by
  have e : Int32.ofNat a <<< ((8 : Int32) &&& 31) = Int32.ofNat (a * 256) := by
    rw [← Int32.toInt_inj, Jvm.Kit.i32_shl (Int32.ofNat a) ((8 : Int32) &&& 31) (k := 8) (by decide) (by rw [Int32.toInt_ofNat_of_lt (by omega)]; omega) (by rw [Int32.toInt_ofNat_of_lt (by omega)]; omega), Int32.toInt_ofNat_of_lt (by omega), Int32.toInt_ofNat_of_lt (by omega)]
    omega
  rw [e, own_orN (by omega) (by omega), Nat.or_comm]
  have := Nat.shiftLeft_add_eq_or_of_lt (i := 8) (b := b) (by omega) a
  rw [Nat.shiftLeft_eq] at this
  rw [← this]
theorem own_back8 {c : Int32} (h : own_c16 c) (h2 : ¬ (255 : Int32) < c) : nar .char ((c.toInt8.toInt32 &&& (255 : Int32)).toUInt32.toUInt16.toUInt32.toInt32) = c := by
  obtain ⟨n, hn, rfl⟩ := own_c16n h
  have hb : n < 256 := by
    rw [Int32.lt_iff_toInt_lt, Int32.toInt_ofNat_of_lt (by omega)] at h2
    have e1 : (255 : Int32).toInt = 255 := rfl
    omega
  rw [own_nc, own_i8b, own_i2c (by omega), Nat.mod_eq_of_lt hb]
theorem own_back16 {c : Int32} (h : own_c16 c) : nar .char ((((own_lo c &&& (255 : Int32)) <<< ((0 : Int32) &&& 31)) ||| ((own_hi c &&& (255 : Int32)) <<< ((8 : Int32) &&& 31))).toUInt32.toUInt16.toUInt32.toInt32) = c := by
  obtain ⟨n, hn, rfl⟩ := own_c16n h
  rw [own_nc, own_lo, own_hi, own_sh0, own_sl0, own_sh8 hn, own_i8b, own_i8b, own_comb (Nat.mod_lt _ (by decide)) (Nat.mod_lt _ (by decide)), show n / 256 % 256 * 256 + n % 256 = n by omega, own_i2c hn]
theorem own_or {n : Nat} (h : n < 65536) : ∃ k : Nat, Int32.ofNat n ||| (32 : Int32) = Int32.ofNat k ∧ k < 65536 ∧ ((97 ≤ k ∧ k ≤ 122) ↔ ((65 ≤ n ∧ n ≤ 90) ∨ (97 ≤ n ∧ n ≤ 122))) := by
  refine ⟨n ||| 32, ?_, ?_, ?_⟩
  · exact own_orN h (b := 32) (by decide)
  · exact Nat.or_lt_two_pow (n := 16) h (by decide)
  · by_cases q : n < 256
    · have key : ∀ m : Fin 256, (97 ≤ (m.val ||| 32) ∧ (m.val ||| 32) ≤ 122) ↔ ((65 ≤ m.val ∧ m.val ≤ 90) ∨ (97 ≤ m.val ∧ m.val ≤ 122)) := by decide +kernel
      exact key ⟨n, q⟩
    · have := Nat.left_le_or (n := n) (m := 32)
      omega
theorem own_t0 : (0 : Int32).toInt = 0 := rfl
theorem own_t9 : (9 : Int32).toInt = 9 := rfl
theorem own_t45 : (45 : Int32).toInt = 45 := rfl
theorem own_t48 : (48 : Int32).toInt = 48 := rfl
theorem own_t57 : (57 : Int32).toInt = 57 := rfl
theorem own_t65 : (65 : Int32).toInt = 65 := rfl
theorem own_t90 : (90 : Int32).toInt = 90 := rfl
theorem own_t95 : (95 : Int32).toInt = 95 := rfl
theorem own_t97 : (97 : Int32).toInt = 97 := rfl
theorem own_t122 : (122 : Int32).toInt = 122 := rfl
theorem own_t255 : (255 : Int32).toInt = 255 := rfl
theorem d16_0 : decode jdk_41_method_11_code 0 = .ok (.iload_n 0, 1) := by decide +kernel
theorem d16_1 : decode jdk_41_method_11_code 1 = .ok (.ifCond .lt 8, 3) := by decide +kernel
theorem d16_4 : decode jdk_41_method_11_code 4 = .ok (.iload_n 0, 1) := by decide +kernel
theorem d16_5 : decode jdk_41_method_11_code 5 = .ok (.iload_n 1, 1) := by decide +kernel
theorem d16_6 : decode jdk_41_method_11_code 6 = .ok (.if_icmp .lt 10, 3) := by decide +kernel
theorem d16_16 : decode jdk_41_method_11_code 16 = .ok (.iload_n 0, 1) := by decide +kernel
theorem d16_17 : decode jdk_41_method_11_code 17 = .ok (.ireturn, 1) := by decide +kernel
theorem own_ef1 (m : MethodId) (x0 : Int32) (x1 : Int32) (x2 : Value) (hx2 : x2.isRef = true) : entryFrame m #[(.int x0), (.int x1), x2] 3 = mkF m 0 #[.val (.int x0), .val (.int x1), .val x2] [] := by rcases ref_cases hx2 with rfl | ⟨_, rfl⟩ <;> first | (simp [entryFrame, mkF, argsToLocals, Value.category]; done) | rfl
def own_pciQ (Z : State) (u1 : Int32) (u2 : Int32) (fmt : Value) (h0 : Heap) (n0 : Nat) (v : Option Value) (h : Heap) (L : List Loc) : Prop := v = some (.int u1) ∧ Fr n0 L ∧ h = h0
theorem own_pn1 : plainName "jdk/internal/util/Preconditions" = true := by first | (simp [plainName, overriddenIn]; done) | decide +kernel
abbrev own_pciR : Room := { frames := 0, cells := 0, slots := 0, locals := 0 }
theorem own_pci (l : Launch) (Z : State) (a0 : Array Value) (hw : ∀ d ∈ tables_1, d.before a0 Z = true) (ws : List Jvm.Cond) (u1 : Int32) (u2 : Int32) (fmt : Value) (h0 : Heap) (n0 : Nat) (Z0 : n0 ≤ h0.size) (pr1 : ¬ u1 < 0) (pr2 : u1 < u2) (pr3 : fmt.isRef = true) :
    own_M l (⟨"jdk/internal/util/Preconditions", "checkIndex", "(IILjava/util/function/BiFunction;)I"⟩ : MethodName) jdk_41_method_11_code 3 (some .int) ws own_pciR #[(.int u1), (.int u2), fmt] Z h0 (own_pciQ Z u1 u2 fmt h0 n0) := by
  refine own_go (plainFor_of_name own_pn1) (fun m => own_ef1 m u1 u2 fmt pr3) ?_
  intro p e s m below meth c s₁ Bd hx hby hml hZ hh hown hnm X0 e0
  have N0 := Fr.nil n0
  refine own_st (T' := s₁) (g' := (mkF m 17 #[.val (.int u1), .val (.int u2), .val fmt] [(.int u1)])) (fun _ kt => XS.iloadN X0.here hx rfl (hb hby d16_0) rfl (XS.ifNo X0.here hx rfl (hb hby d16_1) rfl (XT.i0_lt_f pr1) (XS.iloadN X0.here hx rfl (hb hby d16_4) rfl (XS.iloadN X0.here hx rfl (hb hby d16_5) rfl (XS.icmpYes X0.here hx rfl (pc0 := 6) (pc' := 16) rfl (hb hby d16_6) rfl (XT.ii_lt_t pr2) (by decide) (by decide) (XS.iloadN X0.here hx rfl (hb hby d16_16) rfl kt)))))) ?_
  obtain ⟨fs, hr, hrun, hended, hW, hsame⟩ := X0.leave (v := some (.int u1)) (fun h => by rw [Bd.returns] at h; cases h)
  refine own_end (own_retI X0 hx Bd.returns (hb hby d16_17) hr) ⟨_, hrun, hended, _, _, rfl, ?_, ⟨_, rfl⟩, hW, hsame.mono (by decide) (by decide)⟩
  show own_pciQ Z _ _ _ h0 n0 _ s₁.heap _
  rw [e0]
  exact ⟨rfl, N0, rfl⟩
theorem d15_0 : decode jdk_42_method_155_code 0 = .ok (.iload_n 0, 1) := by decide +kernel
theorem d15_1 : decode jdk_42_method_155_code 1 = .ok (.iload_n 1, 1) := by decide +kernel
theorem d15_2 : decode jdk_42_method_155_code 2 = .ok (.getstatic 1053, 3) := by decide +kernel
theorem d15_5 : decode jdk_42_method_155_code 5 = .ok (.invokestatic 1059, 3) := by decide +kernel
theorem own_pd1 : parseMethodDescriptor "(IILjava/util/function/BiFunction;)I" = some ⟨[.int, .int, (.object "java/util/function/BiFunction")], some .int⟩ := by decide +kernel
theorem d15_8 : decode jdk_42_method_155_code 8 = .ok (.pop, 1) := by decide +kernel
theorem d15_9 : decode jdk_42_method_155_code 9 = .ok (.return_, 1) := by decide +kernel
theorem own_ef2 (m : MethodId) (x0 : Int32) (x1 : Int32) : entryFrame m #[(.int x0), (.int x1)] 2 = mkF m 0 #[.val (.int x0), .val (.int x1)] [] := by first | (simp [entryFrame, mkF, argsToLocals, Value.category]; done) | rfl
def own_ciQ (Z : State) (u1 : Int32) (u2 : Int32) (fmt : Value) (h0 : Heap) (n0 : Nat) (v : Option Value) (h : Heap) (L : List Loc) : Prop := v = none ∧ Fr n0 L ∧ h = h0
theorem own_pn2 : plainName "java/lang/String" = true := by first | (simp [plainName, overriddenIn]; done) | decide +kernel
abbrev own_ciR : Room := { frames := 1, cells := 0, slots := 0, locals := 14 }
theorem own_ci (l : Launch) (Z : State) (a0 : Array Value) (hw : ∀ d ∈ tables_1, d.before a0 Z = true) (ws : List Jvm.Cond) (u1 : Int32) (u2 : Int32) (fmt : Value) (h0 : Heap) (n0 : Nat) (Z0 : n0 ≤ h0.size) (pr1 : Old Z n0 h0) (pr2 : Sta Z Z.heap "jdk/internal/util/Preconditions" "SIOOBE_FORMATTER" "Ljava/util/function/BiFunction;" fmt) (pr3 : ¬ u1 < 0) (pr4 : u1 < u2) (pr5 : fmt.isRef = true) :
    own_M l (⟨"java/lang/String", "checkIndex", "(II)V"⟩ : MethodName) jdk_42_method_155_code 2 none ws own_ciR #[(.int u1), (.int u2)] Z h0 (own_ciQ Z u1 u2 fmt h0 n0) := by
  refine own_go (plainFor_of_name own_pn2) (fun m => own_ef2 m u1 u2 ) ?_
  intro p e s m below meth c s₁ Bd hx hby hml hZ hh hown hnm X0 e0
  have N0 := Fr.nil n0
  refine own_st (T' := s₁) (g' := (mkF m 2 #[.val (.int u1), .val (.int u2)] [(.int u2), (.int u1)])) (fun _ kt => XS.iloadN X0.here hx rfl (hb hby d15_0) rfl (XS.iloadN X0.here hx rfl (hb hby d15_1) rfl kt)) ?_
  obtain ⟨T1, X1, e1, st1⟩ := getS2 X0 hx hZ hown (host := "") (Or.inl (own_k hw 75 rfl)) Via.refl e0 (Sta.ext pr1.2 pr2) (g := (mkF m 2 #[.val (.int u1), .val (.int u2)] [(.int u2), (.int u1)])) rfl (hb hby d15_2)
  refine own_st (T' := T1) (g' := (mkF m 5 #[.val (.int u1), .val (.int u2)] [fmt, (.int u2), (.int u1)])) st1 ?_
  obtain ⟨_, _, ⟨T2, L2, k2, n2⟩, -, X2, ⟨Lc2, hQ2, l2, y2, z2⟩, st2⟩ := Jvm.LawKit.callS X1 hx (y := (⟨"jdk/internal/util/Preconditions", "checkIndex", "(IILjava/util/function/BiFunction;)I"⟩ : MethodName)) hown (mvT hZ (own_k hw 77 rfl)) (mvT hZ (own_k hw 78 rfl)) (mvT hZ (own_k hw 76 rfl)) (mvT hZ (own_k hw 79 rfl)) (by decide) (backOf (W := 0) (own_pci l Z a0 hw [] u1 u2 fmt h0 n0 Z0 pr3 pr4 pr5) hZ (own_k hw 79 rfl) (own_k hw 76 rfl) (by decide) (by decide)) (g := (mkF m 5 #[.val (.int u1), .val (.int u2)] [fmt, (.int u2), (.int u1)])) rfl hml.symm  (argsL := [(.int u1), (.int u2), fmt]) (rest := []) (lenOf own_pd1 rfl) rfl (own_w0 rfl rfl) (hb hby d15_5) (fun _ _ => ⟨rfl, e1, (by decide : 0 + 0 ≤ 0), (by decide : 0 + 0 ≤ 0)⟩)
  dsimp only [Pt.U, Pt.locs, Pt.cells, Pt.slots] at X2 l2 y2 z2 st2 hQ2
  subst l2 y2 z2
  obtain ⟨rfl, N2, e2⟩ := hQ2
  have N3 := Fr.app N0 N2
  refine own_st (T' := T2) (g' := (mkF m 8 #[.val (.int u1), .val (.int u2)] [(.int u1)])) st2 ?_
  refine own_st (T' := T2) (g' := (mkF m 9 #[.val (.int u1), .val (.int u2)] [])) (fun _ kt => XT.pop X2.here hx rfl (hb hby d15_8) rfl rfl kt) ?_
  obtain ⟨fs, hr, hrun, hended, hW, hsame⟩ := X2.leave (v := none) (fun _ => rfl)
  refine own_end (X2.returnOut hx Bd.returns (hb hby d15_9) hr) ⟨_, hrun, hended, _, _, rfl, ?_, ⟨_, rfl⟩, hW, hsame.mono (by decide) (by decide)⟩
  show own_ciQ Z _ _ _ h0 n0 _ T2.heap _
  rw [e2]
  exact ⟨rfl, N3, rfl⟩
theorem d13_0 : decode jdk_42_method_154_code 0 = .ok (.getstatic 38, 3) := by decide +kernel
theorem d13_3 : decode jdk_42_method_154_code 3 = .ok (.ifCond .eq 14, 3) := by decide +kernel
theorem d13_6 : decode jdk_42_method_154_code 6 = .ok (.aload_n 0, 1) := by decide +kernel
theorem d13_7 : decode jdk_42_method_154_code 7 = .ok (.getfield 15, 3) := by decide +kernel
theorem d13_10 : decode jdk_42_method_154_code 10 = .ok (.ifCond .ne 7, 3) := by decide +kernel
theorem d13_13 : decode jdk_42_method_154_code 13 = .ok (.iconst 1, 1) := by decide +kernel
theorem d13_14 : decode jdk_42_method_154_code 14 = .ok (.goto 4, 3) := by decide +kernel
theorem d13_18 : decode jdk_42_method_154_code 18 = .ok (.ireturn, 1) := by decide +kernel
theorem own_ef3 (m : MethodId) (x0 : Addr) : entryFrame m #[(.ref x0)] 1 = mkF m 0 #[.val (.ref x0)] [] := by first | (simp [entryFrame, mkF, argsToLocals, Value.category]; done) | rfl
def own_il0Q (Z : State) (x0 : Addr) (zc : Int32) (h0 : Heap) (n0 : Nat) (v : Option Value) (h : Heap) (L : List Loc) : Prop := v = some (.int 1) ∧ Fr n0 L ∧ h = h0
abbrev own_il0R : Room := { frames := 0, cells := 0, slots := 0, locals := 0 }
theorem own_il0 (l : Launch) (Z : State) (a0 : Array Value) (hw : ∀ d ∈ tables_1, d.before a0 Z = true) (ws : List Jvm.Cond) (x0 : Addr) (zc : Int32) (h0 : Heap) (n0 : Nat) (Z0 : n0 ≤ h0.size) (pr1 : Old Z n0 h0) (pr2 : Sta Z Z.heap "java/lang/String" "COMPACT_STRINGS" "Z" (.int zc)) (pr3 : ¬ zc = 0) (pr4 : Fld Z h0 x0 "java/lang/String" "coder" "B" (.int 0)) :
    own_M l yN15 jdk_42_method_154_code 1 (some .boolean) ws own_il0R #[(.ref x0)] Z h0 (own_il0Q Z x0 zc h0 n0) := by
  refine own_go (plainFor_of_name own_pn2) (fun m => own_ef3 m x0 ) ?_
  intro p e s m below meth c s₁ Bd hx hby hml hZ hh hown hnm X0 e0
  have N0 := Fr.nil n0
  obtain ⟨T4, X4, e4, st4⟩ := getS2 X0 hx hZ hown (host := "") (Or.inl (own_k hw 33 rfl)) Via.refl e0 (Sta.ext pr1.2 pr2) (g := (mkF m 0 #[.val (.ref x0)] [])) rfl (hb hby d13_0)
  refine own_st (T' := T4) (g' := (mkF m 3 #[.val (.ref x0)] [(.int zc)])) st4 ?_
  refine own_st (T' := T4) (g' := (mkF m 7 #[.val (.ref x0)] [(.ref x0)])) (fun _ kt => XS.ifNo X4.here hx rfl (hb hby d13_3) rfl (XT.i0_eq_f pr3) (XS.aloadN X4.here hx rfl (hb hby d13_6) rfl rfl kt)) ?_
  obtain ⟨T5, X5, e5, st5⟩ := getF X4 hx hZ hown (host := "") (Or.inl (own_k hw 23 rfl)) Via.refl e4 pr4 (g := (mkF m 7 #[.val (.ref x0)] [(.ref x0)])) rfl rfl (hb hby d13_7)
  refine own_st (T' := T5) (g' := (mkF m 10 #[.val (.ref x0)] [(.int 0)])) st5 ?_
  refine own_st (T' := T5) (g' := (mkF m 18 #[.val (.ref x0)] [(.int 1)])) (fun _ kt => XS.ifNo X5.here hx rfl (hb hby d13_10) rfl (XT.i0_ne_f (by decide)) (XS.iconst X5.here hx rfl (hb hby d13_13) (XS.goto X5.here hx rfl (pc0 := 14) (pc' := 18) rfl (hb hby d13_14) (by decide) (by decide) kt))) ?_
  obtain ⟨fs, hr, hrun, hended, hW, hsame⟩ := X5.leave (v := some (.int 1)) (fun h => by rw [Bd.returns] at h; cases h)
  refine own_end (retN X5 hx (t := .boolean) Bd.returns (by simp) (hb hby d13_18) hr) ⟨_, hrun, hended, _, _, rfl, ?_, ⟨_, rfl⟩, hW, hsame.mono (by decide) (by decide)⟩
  show own_il0Q Z _ _ h0 n0 _ T5.heap _
  rw [e5]
  exact ⟨rfl, N0, rfl⟩
theorem d11_0 : decode jdk_42_method_152_code 0 = .ok (.getstatic 38, 3) := by decide +kernel
theorem d11_3 : decode jdk_42_method_152_code 3 = .ok (.ifCond .eq 10, 3) := by decide +kernel
theorem d11_6 : decode jdk_42_method_152_code 6 = .ok (.aload_n 0, 1) := by decide +kernel
theorem d11_7 : decode jdk_42_method_152_code 7 = .ok (.getfield 15, 3) := by decide +kernel
theorem d11_10 : decode jdk_42_method_152_code 10 = .ok (.goto 4, 3) := by decide +kernel
theorem d11_14 : decode jdk_42_method_152_code 14 = .ok (.ireturn, 1) := by decide +kernel
def own_cod0Q (Z : State) (x0 : Addr) (zc : Int32) (h0 : Heap) (n0 : Nat) (v : Option Value) (h : Heap) (L : List Loc) : Prop := v = some (.int 0) ∧ Fr n0 L ∧ h = h0
abbrev own_cod0R : Room := { frames := 0, cells := 0, slots := 0, locals := 0 }
theorem own_cod0 (l : Launch) (Z : State) (a0 : Array Value) (hw : ∀ d ∈ tables_1, d.before a0 Z = true) (ws : List Jvm.Cond) (x0 : Addr) (zc : Int32) (h0 : Heap) (n0 : Nat) (Z0 : n0 ≤ h0.size) (pr1 : Old Z n0 h0) (pr2 : Sta Z Z.heap "java/lang/String" "COMPACT_STRINGS" "Z" (.int zc)) (pr3 : ¬ zc = 0) (pr4 : Fld Z h0 x0 "java/lang/String" "coder" "B" (.int 0)) :
    own_M l yN16 jdk_42_method_152_code 1 (some .byte) ws own_cod0R #[(.ref x0)] Z h0 (own_cod0Q Z x0 zc h0 n0) := by
  refine own_go (plainFor_of_name own_pn2) (fun m => own_ef3 m x0 ) ?_
  intro p e s m below meth c s₁ Bd hx hby hml hZ hh hown hnm X0 e0
  have N0 := Fr.nil n0
  obtain ⟨T6, X6, e6, st6⟩ := getS2 X0 hx hZ hown (host := "") (Or.inl (own_k hw 33 rfl)) Via.refl e0 (Sta.ext pr1.2 pr2) (g := (mkF m 0 #[.val (.ref x0)] [])) rfl (hb hby d11_0)
  refine own_st (T' := T6) (g' := (mkF m 3 #[.val (.ref x0)] [(.int zc)])) st6 ?_
  refine own_st (T' := T6) (g' := (mkF m 7 #[.val (.ref x0)] [(.ref x0)])) (fun _ kt => XS.ifNo X6.here hx rfl (hb hby d11_3) rfl (XT.i0_eq_f pr3) (XS.aloadN X6.here hx rfl (hb hby d11_6) rfl rfl kt)) ?_
  obtain ⟨T7, X7, e7, st7⟩ := getF X6 hx hZ hown (host := "") (Or.inl (own_k hw 23 rfl)) Via.refl e6 pr4 (g := (mkF m 7 #[.val (.ref x0)] [(.ref x0)])) rfl rfl (hb hby d11_7)
  refine own_st (T' := T7) (g' := (mkF m 10 #[.val (.ref x0)] [(.int 0)])) st7 ?_
  refine own_st (T' := T7) (g' := (mkF m 14 #[.val (.ref x0)] [(.int 0)])) (fun _ kt => XS.goto X7.here hx rfl (pc0 := 10) (pc' := 14) rfl (hb hby d11_10) (by decide) (by decide) kt) ?_
  obtain ⟨fs, hr, hrun, hended, hW, hsame⟩ := X7.leave (v := some (.int 0)) (fun h => by rw [Bd.returns] at h; cases h)
  refine own_end (retN X7 hx (t := .byte) Bd.returns (by simp) (hb hby d11_14) hr) ⟨_, hrun, hended, _, _, rfl, ?_, ⟨_, rfl⟩, hW, hsame.mono (by decide) (by decide)⟩
  show own_cod0Q Z _ _ h0 n0 _ T7.heap _
  rw [e7]
  exact ⟨rfl, N0, rfl⟩
theorem d13_17 : decode jdk_42_method_154_code 17 = .ok (.iconst 0, 1) := by decide +kernel
def own_il1Q (Z : State) (x0 : Addr) (zc : Int32) (h0 : Heap) (n0 : Nat) (v : Option Value) (h : Heap) (L : List Loc) : Prop := v = some (.int 0) ∧ Fr n0 L ∧ h = h0
abbrev own_il1R : Room := { frames := 0, cells := 0, slots := 0, locals := 0 }
theorem own_il1 (l : Launch) (Z : State) (a0 : Array Value) (hw : ∀ d ∈ tables_1, d.before a0 Z = true) (ws : List Jvm.Cond) (x0 : Addr) (zc : Int32) (h0 : Heap) (n0 : Nat) (Z0 : n0 ≤ h0.size) (pr1 : Old Z n0 h0) (pr2 : Sta Z Z.heap "java/lang/String" "COMPACT_STRINGS" "Z" (.int zc)) (pr3 : ¬ zc = 0) (pr4 : Fld Z h0 x0 "java/lang/String" "coder" "B" (.int 1)) :
    own_M l yN15 jdk_42_method_154_code 1 (some .boolean) ws own_il1R #[(.ref x0)] Z h0 (own_il1Q Z x0 zc h0 n0) := by
  refine own_go (plainFor_of_name own_pn2) (fun m => own_ef3 m x0 ) ?_
  intro p e s m below meth c s₁ Bd hx hby hml hZ hh hown hnm X0 e0
  have N0 := Fr.nil n0
  obtain ⟨T8, X8, e8, st8⟩ := getS2 X0 hx hZ hown (host := "") (Or.inl (own_k hw 33 rfl)) Via.refl e0 (Sta.ext pr1.2 pr2) (g := (mkF m 0 #[.val (.ref x0)] [])) rfl (hb hby d13_0)
  refine own_st (T' := T8) (g' := (mkF m 3 #[.val (.ref x0)] [(.int zc)])) st8 ?_
  refine own_st (T' := T8) (g' := (mkF m 7 #[.val (.ref x0)] [(.ref x0)])) (fun _ kt => XS.ifNo X8.here hx rfl (hb hby d13_3) rfl (XT.i0_eq_f pr3) (XS.aloadN X8.here hx rfl (hb hby d13_6) rfl rfl kt)) ?_
  obtain ⟨T9, X9, e9, st9⟩ := getF X8 hx hZ hown (host := "") (Or.inl (own_k hw 23 rfl)) Via.refl e8 pr4 (g := (mkF m 7 #[.val (.ref x0)] [(.ref x0)])) rfl rfl (hb hby d13_7)
  refine own_st (T' := T9) (g' := (mkF m 10 #[.val (.ref x0)] [(.int 1)])) st9 ?_
  refine own_st (T' := T9) (g' := (mkF m 18 #[.val (.ref x0)] [(.int 0)])) (fun _ kt => XS.ifYes X9.here hx rfl (pc0 := 10) (pc' := 17) rfl (hb hby d13_10) rfl (XT.i0_ne_t (by decide)) (by decide) (by decide) (XS.iconst X9.here hx rfl (hb hby d13_17) kt)) ?_
  obtain ⟨fs, hr, hrun, hended, hW, hsame⟩ := X9.leave (v := some (.int 0)) (fun h => by rw [Bd.returns] at h; cases h)
  refine own_end (retN X9 hx (t := .boolean) Bd.returns (by simp) (hb hby d13_18) hr) ⟨_, hrun, hended, _, _, rfl, ?_, ⟨_, rfl⟩, hW, hsame.mono (by decide) (by decide)⟩
  show own_il1Q Z _ _ h0 n0 _ T9.heap _
  rw [e9]
  exact ⟨rfl, N0, rfl⟩
def own_cod1Q (Z : State) (x0 : Addr) (zc : Int32) (h0 : Heap) (n0 : Nat) (v : Option Value) (h : Heap) (L : List Loc) : Prop := v = some (.int 1) ∧ Fr n0 L ∧ h = h0
abbrev own_cod1R : Room := { frames := 0, cells := 0, slots := 0, locals := 0 }
theorem own_cod1 (l : Launch) (Z : State) (a0 : Array Value) (hw : ∀ d ∈ tables_1, d.before a0 Z = true) (ws : List Jvm.Cond) (x0 : Addr) (zc : Int32) (h0 : Heap) (n0 : Nat) (Z0 : n0 ≤ h0.size) (pr1 : Old Z n0 h0) (pr2 : Sta Z Z.heap "java/lang/String" "COMPACT_STRINGS" "Z" (.int zc)) (pr3 : ¬ zc = 0) (pr4 : Fld Z h0 x0 "java/lang/String" "coder" "B" (.int 1)) :
    own_M l yN16 jdk_42_method_152_code 1 (some .byte) ws own_cod1R #[(.ref x0)] Z h0 (own_cod1Q Z x0 zc h0 n0) := by
  refine own_go (plainFor_of_name own_pn2) (fun m => own_ef3 m x0 ) ?_
  intro p e s m below meth c s₁ Bd hx hby hml hZ hh hown hnm X0 e0
  have N0 := Fr.nil n0
  obtain ⟨T10, X10, e10, st10⟩ := getS2 X0 hx hZ hown (host := "") (Or.inl (own_k hw 33 rfl)) Via.refl e0 (Sta.ext pr1.2 pr2) (g := (mkF m 0 #[.val (.ref x0)] [])) rfl (hb hby d11_0)
  refine own_st (T' := T10) (g' := (mkF m 3 #[.val (.ref x0)] [(.int zc)])) st10 ?_
  refine own_st (T' := T10) (g' := (mkF m 7 #[.val (.ref x0)] [(.ref x0)])) (fun _ kt => XS.ifNo X10.here hx rfl (hb hby d11_3) rfl (XT.i0_eq_f pr3) (XS.aloadN X10.here hx rfl (hb hby d11_6) rfl rfl kt)) ?_
  obtain ⟨T11, X11, e11, st11⟩ := getF X10 hx hZ hown (host := "") (Or.inl (own_k hw 23 rfl)) Via.refl e10 pr4 (g := (mkF m 7 #[.val (.ref x0)] [(.ref x0)])) rfl rfl (hb hby d11_7)
  refine own_st (T' := T11) (g' := (mkF m 10 #[.val (.ref x0)] [(.int 1)])) st11 ?_
  refine own_st (T' := T11) (g' := (mkF m 14 #[.val (.ref x0)] [(.int 1)])) (fun _ kt => XS.goto X11.here hx rfl (pc0 := 10) (pc' := 14) rfl (hb hby d11_10) (by decide) (by decide) kt) ?_
  obtain ⟨fs, hr, hrun, hended, hW, hsame⟩ := X11.leave (v := some (.int 1)) (fun h => by rw [Bd.returns] at h; cases h)
  refine own_end (retN X11 hx (t := .byte) Bd.returns (by simp) (hb hby d11_14) hr) ⟨_, hrun, hended, _, _, rfl, ?_, ⟨_, rfl⟩, hW, hsame.mono (by decide) (by decide)⟩
  show own_cod1Q Z _ _ h0 n0 _ T11.heap _
  rw [e11]
  exact ⟨rfl, N0, rfl⟩
/-- the byte list says char c at place ii, in the two-byte coding -/
def own_u (zz : Int32) (vl : List Value) (ii c : Int32) : Prop := (¬ (ii <<< ((1 : Int32) &&& 31)) < 0 ∧ (ii <<< ((1 : Int32) &&& 31)) < zz) ∧ vl.getD (ii <<< ((1 : Int32) &&& 31)).toNatClampNeg (.int 0) = .int (own_lo c) ∧ (¬ ((ii <<< ((1 : Int32) &&& 31)) + (1 : Int32)) < 0 ∧ ((ii <<< ((1 : Int32) &&& 31)) + (1 : Int32)) < zz) ∧ vl.getD ((ii <<< ((1 : Int32) &&& 31)) + (1 : Int32)).toNatClampNeg (.int 0) = .int (own_hi c)
def own_at (cd zz : Int32) (vl : List Value) (ii c : Int32) : Prop := (cd = 0 ∧ (¬ ii < 0 ∧ ii < zz) ∧ vl.getD ii.toNatClampNeg (.int 0) = .int c.toInt8.toInt32 ∧ ¬ (255 : Int32) < c) ∨ (cd = 1 ∧ (¬ ii < 0 ∧ ii < zz >>> ((1 : Int32) &&& 31)) ∧ own_u zz vl ii c)
def own_ln (cd zz nn : Int32) : Prop := (cd = 0 ∧ zz = nn) ∨ (cd = 1 ∧ zz >>> ((1 : Int32) &&& 31) = nn)
theorem d24_0 : decode jdk_52_method_6_code 0 = .ok (.aload_n 0, 1) := by decide +kernel
theorem d24_1 : decode jdk_52_method_6_code 1 = .ok (.arraylength, 1) := by decide +kernel
theorem d24_2 : decode jdk_52_method_6_code 2 = .ok (.iconst 1, 1) := by decide +kernel
theorem d24_3 : decode jdk_52_method_6_code 3 = .ok (.ishr, 1) := by decide +kernel
theorem d24_4 : decode jdk_52_method_6_code 4 = .ok (.ireturn, 1) := by decide +kernel
def own_ulQ (Z : State) (t : Addr) (kb : ClassId) (zz : Int32) (vl : List Value) (dd : Value) (h0 : Heap) (n0 : Nat) (v : Option Value) (h : Heap) (L : List Loc) : Prop := v = some (.int (zz >>> ((1 : Int32) &&& 31))) ∧ Fr n0 L ∧ h = h0
theorem own_pn3 : plainName "java/lang/StringUTF16" = true := by first | (simp [plainName, overriddenIn]; done) | decide +kernel
abbrev own_ulR : Room := { frames := 0, cells := 0, slots := 0, locals := 0 }
theorem own_ul (l : Launch) (Z : State) (a0 : Array Value) (hw : ∀ d ∈ tables_1, d.before a0 Z = true) (ws : List Jvm.Cond) (t : Addr) (kb : ClassId) (zz : Int32) (vl : List Value) (dd : Value) (h0 : Heap) (n0 : Nat) (Z0 : n0 ≤ h0.size) (pr1 : Arv Z h0 t kb .byte zz vl dd) :
    own_M l (⟨"java/lang/StringUTF16", "length", "([B)I"⟩ : MethodName) jdk_52_method_6_code 1 (some .int) ws own_ulR #[(.ref t)] Z h0 (own_ulQ Z t kb zz vl dd h0 n0) := by
  refine own_go (plainFor_of_name own_pn3) (fun m => own_ef3 m t ) ?_
  intro p e s m below meth c s₁ Bd hx hby hml hZ hh hown hnm X0 e0
  have N0 := Fr.nil n0
  refine own_st (T' := s₁) (g' := (mkF m 1 #[.val (.ref t)] [(.ref t)])) (fun _ kt => XS.aloadN X0.here hx rfl (hb hby d24_0) rfl rfl kt) ?_
  refine own_st (T' := s₁) (g' := (mkF m 2 #[.val (.ref t)] [(.int zz)])) (own_alen X0 hx hZ e0 pr1 (g := (mkF m 1 #[.val (.ref t)] [(.ref t)])) rfl rfl (hb hby d24_1)) ?_
  refine own_st (T' := s₁) (g' := (mkF m 4 #[.val (.ref t)] [(.int (zz >>> ((1 : Int32) &&& 31)))])) (fun _ kt => XS.iconst X0.here hx rfl (hb hby d24_2) (XT.ishr X0.here hx rfl (hb hby d24_3) rfl kt)) ?_
  obtain ⟨fs, hr, hrun, hended, hW, hsame⟩ := X0.leave (v := some (.int (zz >>> ((1 : Int32) &&& 31)))) (fun h => by rw [Bd.returns] at h; cases h)
  refine own_end (own_retI X0 hx Bd.returns (hb hby d24_4) hr) ⟨_, hrun, hended, _, _, rfl, ?_, ⟨_, rfl⟩, hW, hsame.mono (by decide) (by decide)⟩
  show own_ulQ Z _ _ _ _ _ h0 n0 _ s₁.heap _
  rw [e0]
  exact ⟨rfl, N0, rfl⟩
theorem d21_0 : decode jdk_52_method_5_code 0 = .ok (.getstatic 44, 3) := by decide +kernel
theorem d21_3 : decode jdk_52_method_5_code 3 = .ok (.ifCond .ne 25, 3) := by decide +kernel
theorem d21_28 : decode jdk_52_method_5_code 28 = .ok (.iload_n 1, 1) := by decide +kernel
theorem d21_29 : decode jdk_52_method_5_code 29 = .ok (.iconst 1, 1) := by decide +kernel
theorem d21_30 : decode jdk_52_method_5_code 30 = .ok (.ishl, 1) := by decide +kernel
theorem d21_31 : decode jdk_52_method_5_code 31 = .ok (.istore_n 1, 1) := by decide +kernel
theorem d21_32 : decode jdk_52_method_5_code 32 = .ok (.aload_n 0, 1) := by decide +kernel
theorem d21_33 : decode jdk_52_method_5_code 33 = .ok (.iload_n 1, 1) := by decide +kernel
theorem d21_34 : decode jdk_52_method_5_code 34 = .ok (.iinc 1 1, 3) := by decide +kernel
theorem d21_37 : decode jdk_52_method_5_code 37 = .ok (.baload, 1) := by decide +kernel
theorem d21_38 : decode jdk_52_method_5_code 38 = .ok (.sipush 255, 3) := by decide +kernel
theorem d21_41 : decode jdk_52_method_5_code 41 = .ok (.iand, 1) := by decide +kernel
theorem d21_42 : decode jdk_52_method_5_code 42 = .ok (.getstatic 59, 3) := by decide +kernel
theorem d21_45 : decode jdk_52_method_5_code 45 = .ok (.ishl, 1) := by decide +kernel
theorem d21_46 : decode jdk_52_method_5_code 46 = .ok (.aload_n 0, 1) := by decide +kernel
theorem d21_47 : decode jdk_52_method_5_code 47 = .ok (.iload_n 1, 1) := by decide +kernel
theorem d21_48 : decode jdk_52_method_5_code 48 = .ok (.baload, 1) := by decide +kernel
theorem d21_49 : decode jdk_52_method_5_code 49 = .ok (.sipush 255, 3) := by decide +kernel
theorem d21_52 : decode jdk_52_method_5_code 52 = .ok (.iand, 1) := by decide +kernel
theorem d21_53 : decode jdk_52_method_5_code 53 = .ok (.getstatic 63, 3) := by decide +kernel
theorem d21_56 : decode jdk_52_method_5_code 56 = .ok (.ishl, 1) := by decide +kernel
theorem d21_57 : decode jdk_52_method_5_code 57 = .ok (.ior, 1) := by decide +kernel
theorem d21_58 : decode jdk_52_method_5_code 58 = .ok (.i2c, 1) := by decide +kernel
theorem d21_59 : decode jdk_52_method_5_code 59 = .ok (.ireturn, 1) := by decide +kernel
theorem own_ef4 (m : MethodId) (x0 : Addr) (x1 : Int32) : entryFrame m #[(.ref x0), (.int x1)] 2 = mkF m 0 #[.val (.ref x0), .val (.int x1)] [] := by first | (simp [entryFrame, mkF, argsToLocals, Value.category]; done) | rfl
def own_gcQ (Z : State) (t : Addr) (ii : Int32) (kb : ClassId) (zz : Int32) (vl : List Value) (cc : Int32) (h0 : Heap) (n0 : Nat) (v : Option Value) (h : Heap) (L : List Loc) : Prop := v = some (.int cc) ∧ Fr n0 L ∧ h = h0
abbrev own_gcR : Room := { frames := 0, cells := 0, slots := 0, locals := 0 }
theorem own_gc (l : Launch) (Z : State) (a0 : Array Value) (hw : ∀ d ∈ tables_1, d.before a0 Z = true) (ws : List Jvm.Cond) (t : Addr) (ii : Int32) (kb : ClassId) (zz : Int32) (vl : List Value) (cc : Int32) (h0 : Heap) (n0 : Nat) (Z0 : n0 ≤ h0.size) (pr1 : Old Z n0 h0) (pr2 : Sta Z Z.heap "java/lang/StringUTF16" "$assertionsDisabled" "Z" (.int 1)) (pr3 : Sta Z Z.heap "java/lang/StringUTF16" "HI_BYTE_SHIFT" "I" (.int 0)) (pr4 : Sta Z Z.heap "java/lang/StringUTF16" "LO_BYTE_SHIFT" "I" (.int 8)) (pr5 : Arv Z h0 t kb .byte zz vl (.int 0)) (pr6 : own_c16 cc) (pr7 : own_u zz vl ii cc) :
    own_M l yN6 jdk_52_method_5_code 2 (some .char) ws own_gcR #[(.ref t), (.int ii)] Z h0 (own_gcQ Z t ii kb zz vl cc h0 n0) := by
  refine own_go (plainFor_of_name own_pn3) (fun m => own_ef4 m t ii ) ?_
  intro p e s m below meth c s₁ Bd hx hby hml hZ hh hown hnm X0 e0
  have N0 := Fr.nil n0
  obtain ⟨T12, X12, e12, st12⟩ := getS2 X0 hx hZ hown (host := "") (Or.inl (own_k hw 93 rfl)) Via.refl e0 (Sta.ext pr1.2 pr2) (g := (mkF m 0 #[.val (.ref t), .val (.int ii)] [])) rfl (hb hby d21_0)
  refine own_st (T' := T12) (g' := (mkF m 3 #[.val (.ref t), .val (.int ii)] [(.int 1)])) st12 ?_
  refine own_st (T' := T12) (g' := (mkF m 37 #[.val (.ref t), .val (.int ((ii <<< ((1 : Int32) &&& 31)) + (1 : Int32)))] [(.int (ii <<< ((1 : Int32) &&& 31))), (.ref t)])) (fun _ kt => XS.ifYes X12.here hx rfl (pc0 := 3) (pc' := 28) rfl (hb hby d21_3) rfl (XT.i0_ne_t (by decide)) (by decide) (by decide) (XS.iloadN X12.here hx rfl (hb hby d21_28) rfl (XS.iconst X12.here hx rfl (hb hby d21_29) (XT.ishl X12.here hx rfl (hb hby d21_30) rfl (XS.istoreN X12.here hx rfl (hb hby d21_31) rfl (l' := #[.val (.ref t), .val (.int (ii <<< ((1 : Int32) &&& 31)))]) rfl (XS.aloadN X12.here hx rfl (hb hby d21_32) rfl rfl (XS.iloadN X12.here hx rfl (hb hby d21_33) rfl (XS.iinc X12.here hx rfl (hb hby d21_34) rfl (l' := #[.val (.ref t), .val (.int ((ii <<< ((1 : Int32) &&& 31)) + (1 : Int32)))]) rfl kt)))))))) ?_
  refine own_st (T' := T12) (g' := (mkF m 38 #[.val (.ref t), .val (.int ((ii <<< ((1 : Int32) &&& 31)) + (1 : Int32)))] [(.int (own_lo cc))])) (own_bal X12 hx hZ e12 pr5 pr7.1 pr7.2.1 (g := (mkF m 37 #[.val (.ref t), .val (.int ((ii <<< ((1 : Int32) &&& 31)) + (1 : Int32)))] [(.int (ii <<< ((1 : Int32) &&& 31))), (.ref t)])) rfl rfl (hb hby d21_37)) ?_
  refine own_st (T' := T12) (g' := (mkF m 42 #[.val (.ref t), .val (.int ((ii <<< ((1 : Int32) &&& 31)) + (1 : Int32)))] [(.int ((own_lo cc) &&& (255 : Int32)))])) (fun _ kt => XS.sipush X12.here hx rfl (hb hby d21_38) (XS.iand X12.here hx rfl (hb hby d21_41) rfl kt)) ?_
  obtain ⟨T13, X13, e13, st13⟩ := getS2 X12 hx hZ hown (host := "") (Or.inl (own_k hw 94 rfl)) Via.refl e12 (Sta.ext pr1.2 pr3) (g := (mkF m 42 #[.val (.ref t), .val (.int ((ii <<< ((1 : Int32) &&& 31)) + (1 : Int32)))] [(.int ((own_lo cc) &&& (255 : Int32)))])) rfl (hb hby d21_42)
  refine own_st (T' := T13) (g' := (mkF m 45 #[.val (.ref t), .val (.int ((ii <<< ((1 : Int32) &&& 31)) + (1 : Int32)))] [(.int 0), (.int ((own_lo cc) &&& (255 : Int32)))])) st13 ?_
  refine own_st (T' := T13) (g' := (mkF m 48 #[.val (.ref t), .val (.int ((ii <<< ((1 : Int32) &&& 31)) + (1 : Int32)))] [(.int ((ii <<< ((1 : Int32) &&& 31)) + (1 : Int32))), (.ref t), (.int (((own_lo cc) &&& (255 : Int32)) <<< ((0 : Int32) &&& 31)))])) (fun _ kt => XT.ishl X13.here hx rfl (hb hby d21_45) rfl (XS.aloadN X13.here hx rfl (hb hby d21_46) rfl rfl (XS.iloadN X13.here hx rfl (hb hby d21_47) rfl kt))) ?_
  refine own_st (T' := T13) (g' := (mkF m 49 #[.val (.ref t), .val (.int ((ii <<< ((1 : Int32) &&& 31)) + (1 : Int32)))] [(.int (own_hi cc)), (.int (((own_lo cc) &&& (255 : Int32)) <<< ((0 : Int32) &&& 31)))])) (own_bal X13 hx hZ e13 pr5 pr7.2.2.1 pr7.2.2.2 (g := (mkF m 48 #[.val (.ref t), .val (.int ((ii <<< ((1 : Int32) &&& 31)) + (1 : Int32)))] [(.int ((ii <<< ((1 : Int32) &&& 31)) + (1 : Int32))), (.ref t), (.int (((own_lo cc) &&& (255 : Int32)) <<< ((0 : Int32) &&& 31)))])) rfl rfl (hb hby d21_48)) ?_
  refine own_st (T' := T13) (g' := (mkF m 53 #[.val (.ref t), .val (.int ((ii <<< ((1 : Int32) &&& 31)) + (1 : Int32)))] [(.int ((own_hi cc) &&& (255 : Int32))), (.int (((own_lo cc) &&& (255 : Int32)) <<< ((0 : Int32) &&& 31)))])) (fun _ kt => XS.sipush X13.here hx rfl (hb hby d21_49) (XS.iand X13.here hx rfl (hb hby d21_52) rfl kt)) ?_
  obtain ⟨T14, X14, e14, st14⟩ := getS2 X13 hx hZ hown (host := "") (Or.inl (own_k hw 95 rfl)) Via.refl e13 (Sta.ext pr1.2 pr4) (g := (mkF m 53 #[.val (.ref t), .val (.int ((ii <<< ((1 : Int32) &&& 31)) + (1 : Int32)))] [(.int ((own_hi cc) &&& (255 : Int32))), (.int (((own_lo cc) &&& (255 : Int32)) <<< ((0 : Int32) &&& 31)))])) rfl (hb hby d21_53)
  refine own_st (T' := T14) (g' := (mkF m 56 #[.val (.ref t), .val (.int ((ii <<< ((1 : Int32) &&& 31)) + (1 : Int32)))] [(.int 8), (.int ((own_hi cc) &&& (255 : Int32))), (.int (((own_lo cc) &&& (255 : Int32)) <<< ((0 : Int32) &&& 31)))])) st14 ?_
  refine own_st (T' := T14) (g' := (mkF m 59 #[.val (.ref t), .val (.int ((ii <<< ((1 : Int32) &&& 31)) + (1 : Int32)))] [(.int (((((own_lo cc) &&& (255 : Int32)) <<< ((0 : Int32) &&& 31)) ||| (((own_hi cc) &&& (255 : Int32)) <<< ((8 : Int32) &&& 31))).toUInt32.toUInt16.toUInt32.toInt32))])) (fun _ kt => XT.ishl X14.here hx rfl (hb hby d21_56) rfl (XT.ior X14.here hx rfl (hb hby d21_57) rfl (XT.i2c X14.here hx rfl (hb hby d21_58) rfl kt))) ?_
  obtain ⟨fs, hr, hrun, hended, hW, hsame⟩ := X14.leave (v := some (.int (nar .char (((((own_lo cc) &&& (255 : Int32)) <<< ((0 : Int32) &&& 31)) ||| (((own_hi cc) &&& (255 : Int32)) <<< ((8 : Int32) &&& 31))).toUInt32.toUInt16.toUInt32.toInt32)))) (fun h => by rw [Bd.returns] at h; cases h)
  refine own_end (retN X14 hx (t := .char) Bd.returns (by simp) (hb hby d21_59) hr) ⟨_, hrun, hended, _, _, rfl, ?_, ⟨_, rfl⟩, hW, hsame.mono (by decide) (by decide)⟩
  show own_gcQ Z _ _ _ _ _ _ h0 n0 _ T14.heap _
  rw [e14]
  exact ⟨(by rw [own_back16 pr6]), N0, rfl⟩
theorem d23_0 : decode jdk_52_method_91_code 0 = .ok (.iload_n 0, 1) := by decide +kernel
theorem d23_1 : decode jdk_52_method_91_code 1 = .ok (.aload_n 1, 1) := by decide +kernel
theorem d23_2 : decode jdk_52_method_91_code 2 = .ok (.invokestatic 48, 3) := by decide +kernel
theorem own_pd2 : parseMethodDescriptor "([B)I" = some ⟨[(.array .byte)], some .int⟩ := by decide +kernel
theorem d23_5 : decode jdk_52_method_91_code 5 = .ok (.invokestatic 414, 3) := by decide +kernel
theorem own_pd3 : parseMethodDescriptor "(II)V" = some ⟨[.int, .int], none⟩ := by decide +kernel
theorem d23_8 : decode jdk_52_method_91_code 8 = .ok (.return_, 1) := by decide +kernel
theorem own_ef5 (m : MethodId) (x0 : Int32) (x1 : Addr) : entryFrame m #[(.int x0), (.ref x1)] 2 = mkF m 0 #[.val (.int x0), .val (.ref x1)] [] := by first | (simp [entryFrame, mkF, argsToLocals, Value.category]; done) | rfl
def own_ukQ (Z : State) (ii : Int32) (t : Addr) (fmt : Value) (kb : ClassId) (zz : Int32) (vl : List Value) (dd : Value) (h0 : Heap) (n0 : Nat) (v : Option Value) (h : Heap) (L : List Loc) : Prop := v = none ∧ Fr n0 L ∧ h = h0
abbrev own_ukR : Room := { frames := 2, cells := 0, slots := 0, locals := 27 }
theorem own_uk (l : Launch) (Z : State) (a0 : Array Value) (hw : ∀ d ∈ tables_1, d.before a0 Z = true) (ws : List Jvm.Cond) (ii : Int32) (t : Addr) (fmt : Value) (kb : ClassId) (zz : Int32) (vl : List Value) (dd : Value) (h0 : Heap) (n0 : Nat) (Z0 : n0 ≤ h0.size) (pr1 : Old Z n0 h0) (pr2 : Sta Z Z.heap "jdk/internal/util/Preconditions" "SIOOBE_FORMATTER" "Ljava/util/function/BiFunction;" fmt) (pr3 : fmt.isRef = true) (pr4 : Arv Z h0 t kb .byte zz vl dd) (pr5 : ¬ ii < 0) (pr6 : ii < zz >>> ((1 : Int32) &&& 31)) :
    own_M l (⟨"java/lang/StringUTF16", "checkIndex", "(I[B)V"⟩ : MethodName) jdk_52_method_91_code 2 none ws own_ukR #[(.int ii), (.ref t)] Z h0 (own_ukQ Z ii t fmt kb zz vl dd h0 n0) := by
  refine own_go (plainFor_of_name own_pn3) (fun m => own_ef5 m ii t ) ?_
  intro p e s m below meth c s₁ Bd hx hby hml hZ hh hown hnm X0 e0
  have N0 := Fr.nil n0
  refine own_st (T' := s₁) (g' := (mkF m 2 #[.val (.int ii), .val (.ref t)] [(.ref t), (.int ii)])) (fun _ kt => XS.iloadN X0.here hx rfl (hb hby d23_0) rfl (XS.aloadN X0.here hx rfl (hb hby d23_1) rfl rfl kt)) ?_
  obtain ⟨_, _, ⟨T15, L15, k15, n15⟩, -, X15, ⟨Lc15, hQ15, l15, y15, z15⟩, st15⟩ := Jvm.LawKit.callS X0 hx (y := (⟨"java/lang/StringUTF16", "length", "([B)I"⟩ : MethodName)) hown (mvT hZ (own_k hw 105 rfl)) (mvT hZ (own_k hw 106 rfl)) (mvT hZ (own_k hw 36 rfl)) (mvT hZ (own_k hw 107 rfl)) (by decide) (backOf (W := 1) (own_ul l Z a0 hw [] t kb zz vl dd h0 n0 Z0 pr4) hZ (own_k hw 107 rfl) (own_k hw 36 rfl) (by decide) (by decide)) (g := (mkF m 2 #[.val (.int ii), .val (.ref t)] [(.ref t), (.int ii)])) rfl hml.symm  (argsL := [(.ref t)]) (rest := [(.int ii)]) (lenOf own_pd2 rfl) rfl (own_w0 rfl rfl) (hb hby d23_2) (fun _ _ => ⟨rfl, e0, (by decide : 0 + 0 ≤ 0), (by decide : 0 + 0 ≤ 0)⟩)
  dsimp only [Pt.U, Pt.locs, Pt.cells, Pt.slots] at X15 l15 y15 z15 st15 hQ15
  subst l15 y15 z15
  obtain ⟨rfl, N15, e15⟩ := hQ15
  have N16 := Fr.app N0 N15
  refine own_st (T' := T15) (g' := (mkF m 5 #[.val (.int ii), .val (.ref t)] [(.int (zz >>> ((1 : Int32) &&& 31))), (.int ii)])) st15 ?_
  obtain ⟨_, _, ⟨T17, L17, k17, n17⟩, -, X17, ⟨Lc17, hQ17, l17, y17, z17⟩, st17⟩ := Jvm.LawKit.callS X15 hx (y := (⟨"java/lang/String", "checkIndex", "(II)V"⟩ : MethodName)) hown (mvT hZ (own_k hw 108 rfl)) (mvT hZ (own_k hw 73 rfl)) (mvT hZ (own_k hw 4 rfl)) (mvT hZ (own_k hw 74 rfl)) (by decide) (backOf (W := 0) (own_ci l Z a0 hw [] ii (zz >>> ((1 : Int32) &&& 31)) fmt h0 n0 Z0 pr1 pr2 pr5 pr6 pr3) hZ (own_k hw 74 rfl) (own_k hw 4 rfl) (by decide) (by decide)) (g := (mkF m 5 #[.val (.int ii), .val (.ref t)] [(.int (zz >>> ((1 : Int32) &&& 31))), (.int ii)])) rfl hml.symm  (argsL := [(.int ii), (.int (zz >>> ((1 : Int32) &&& 31)))]) (rest := []) (lenOf own_pd3 rfl) rfl (own_w0 rfl rfl) (hb hby d23_5) (fun _ _ => ⟨rfl, e15, (by decide : 0 + 0 ≤ 0), (by decide : 0 + 0 ≤ 0)⟩)
  dsimp only [Pt.U, Pt.locs, Pt.cells, Pt.slots] at X17 l17 y17 z17 st17 hQ17
  subst l17 y17 z17
  obtain ⟨rfl, N17, e17⟩ := hQ17
  have N18 := Fr.app N16 N17
  refine own_st (T' := T17) (g' := (mkF m 8 #[.val (.int ii), .val (.ref t)] [])) st17 ?_
  obtain ⟨fs, hr, hrun, hended, hW, hsame⟩ := X17.leave (v := none) (fun _ => rfl)
  refine own_end (X17.returnOut hx Bd.returns (hb hby d23_8) hr) ⟨_, hrun, hended, _, _, rfl, ?_, ⟨_, rfl⟩, hW, hsame.mono (by decide) (by decide)⟩
  show own_ukQ Z _ _ _ _ _ _ _ h0 n0 _ T17.heap _
  rw [e17]
  exact ⟨rfl, N18, rfl⟩
theorem d22_0 : decode jdk_52_method_83_code 0 = .ok (.iload_n 1, 1) := by decide +kernel
theorem d22_1 : decode jdk_52_method_83_code 1 = .ok (.aload_n 0, 1) := by decide +kernel
theorem d22_2 : decode jdk_52_method_83_code 2 = .ok (.invokestatic 67, 3) := by decide +kernel
theorem own_pd4 : parseMethodDescriptor "(I[B)V" = some ⟨[.int, (.array .byte)], none⟩ := by decide +kernel
theorem d22_5 : decode jdk_52_method_83_code 5 = .ok (.aload_n 0, 1) := by decide +kernel
theorem d22_6 : decode jdk_52_method_83_code 6 = .ok (.iload_n 1, 1) := by decide +kernel
theorem d22_7 : decode jdk_52_method_83_code 7 = .ok (.invokestatic 71, 3) := by decide +kernel
theorem own_pd5 : parseMethodDescriptor "([BI)C" = some ⟨[(.array .byte), .int], some .char⟩ := by decide +kernel
theorem d22_10 : decode jdk_52_method_83_code 10 = .ok (.ireturn, 1) := by decide +kernel
def own_ucQ (Z : State) (t : Addr) (ii : Int32) (fmt : Value) (kb : ClassId) (zz : Int32) (vl : List Value) (cc : Int32) (h0 : Heap) (n0 : Nat) (v : Option Value) (h : Heap) (L : List Loc) : Prop := v = some (.int cc) ∧ Fr n0 L ∧ h = h0
abbrev own_ucR : Room := { frames := 3, cells := 0, slots := 0, locals := 40 }
theorem own_uc (l : Launch) (Z : State) (a0 : Array Value) (hw : ∀ d ∈ tables_1, d.before a0 Z = true) (ws : List Jvm.Cond) (t : Addr) (ii : Int32) (fmt : Value) (kb : ClassId) (zz : Int32) (vl : List Value) (cc : Int32) (h0 : Heap) (n0 : Nat) (Z0 : n0 ≤ h0.size) (pr1 : Old Z n0 h0) (pr2 : Sta Z Z.heap "jdk/internal/util/Preconditions" "SIOOBE_FORMATTER" "Ljava/util/function/BiFunction;" fmt) (pr3 : fmt.isRef = true) (pr4 : Sta Z Z.heap "java/lang/StringUTF16" "$assertionsDisabled" "Z" (.int 1)) (pr5 : Sta Z Z.heap "java/lang/StringUTF16" "HI_BYTE_SHIFT" "I" (.int 0)) (pr6 : Sta Z Z.heap "java/lang/StringUTF16" "LO_BYTE_SHIFT" "I" (.int 8)) (pr7 : Arv Z h0 t kb .byte zz vl (.int 0)) (pr8 : own_c16 cc) (pr9 : ¬ ii < 0 ∧ ii < zz >>> ((1 : Int32) &&& 31)) (pr10 : own_u zz vl ii cc) :
    own_M l (⟨"java/lang/StringUTF16", "charAt", "([BI)C"⟩ : MethodName) jdk_52_method_83_code 2 (some .char) ws own_ucR #[(.ref t), (.int ii)] Z h0 (own_ucQ Z t ii fmt kb zz vl cc h0 n0) := by
  refine own_go (plainFor_of_name own_pn3) (fun m => own_ef4 m t ii ) ?_
  intro p e s m below meth c s₁ Bd hx hby hml hZ hh hown hnm X0 e0
  have N0 := Fr.nil n0
  refine own_st (T' := s₁) (g' := (mkF m 2 #[.val (.ref t), .val (.int ii)] [(.ref t), (.int ii)])) (fun _ kt => XS.iloadN X0.here hx rfl (hb hby d22_0) rfl (XS.aloadN X0.here hx rfl (hb hby d22_1) rfl rfl kt)) ?_
  obtain ⟨_, _, ⟨T19, L19, k19, n19⟩, -, X19, ⟨Lc19, hQ19, l19, y19, z19⟩, st19⟩ := Jvm.LawKit.callS X0 hx (y := (⟨"java/lang/StringUTF16", "checkIndex", "(I[B)V"⟩ : MethodName)) hown (mvT hZ (own_k hw 102 rfl)) (mvT hZ (own_k hw 103 rfl)) (mvT hZ (own_k hw 36 rfl)) (mvT hZ (own_k hw 104 rfl)) (by decide) (backOf (W := 0) (own_uk l Z a0 hw [] ii t fmt kb zz vl (.int 0) h0 n0 Z0 pr1 pr2 pr3 pr7 (show ¬ ii < 0 from pr9.1) (show ii < zz >>> ((1 : Int32) &&& 31) from pr9.2)) hZ (own_k hw 104 rfl) (own_k hw 36 rfl) (by decide) (by decide)) (g := (mkF m 2 #[.val (.ref t), .val (.int ii)] [(.ref t), (.int ii)])) rfl hml.symm  (argsL := [(.int ii), (.ref t)]) (rest := []) (lenOf own_pd4 rfl) rfl (own_w0 rfl rfl) (hb hby d22_2) (fun _ _ => ⟨rfl, e0, (by decide : 0 + 0 ≤ 0), (by decide : 0 + 0 ≤ 0)⟩)
  dsimp only [Pt.U, Pt.locs, Pt.cells, Pt.slots] at X19 l19 y19 z19 st19 hQ19
  subst l19 y19 z19
  obtain ⟨rfl, N19, e19⟩ := hQ19
  have N20 := Fr.app N0 N19
  refine own_st (T' := T19) (g' := (mkF m 5 #[.val (.ref t), .val (.int ii)] [])) st19 ?_
  refine own_st (T' := T19) (g' := (mkF m 7 #[.val (.ref t), .val (.int ii)] [(.int ii), (.ref t)])) (fun _ kt => XS.aloadN X19.here hx rfl (hb hby d22_5) rfl rfl (XS.iloadN X19.here hx rfl (hb hby d22_6) rfl kt)) ?_
  obtain ⟨_, _, ⟨T21, L21, k21, n21⟩, -, X21, ⟨Lc21, hQ21, l21, y21, z21⟩, st21⟩ := Jvm.LawKit.callS X19 hx (y := yN6) hown (mvT hZ (own_k hw 96 rfl)) (mvT hZ (own_k hw 97 rfl)) (mvT hZ (own_k hw 36 rfl)) (mvT hZ (own_k hw 98 rfl)) (by decide) (backOf (W := 0) (own_gc l Z a0 hw [] t ii kb zz vl cc h0 n0 Z0 pr1 pr4 pr5 pr6 pr7 pr8 pr10) hZ (own_k hw 98 rfl) (own_k hw 36 rfl) (by decide) (by decide)) (g := (mkF m 7 #[.val (.ref t), .val (.int ii)] [(.int ii), (.ref t)])) rfl hml.symm  (argsL := [(.ref t), (.int ii)]) (rest := []) (lenOf own_pd5 rfl) rfl (own_w0 rfl rfl) (hb hby d22_7) (fun _ _ => ⟨rfl, e19, (by decide : 0 + 0 ≤ 0), (by decide : 0 + 0 ≤ 0)⟩)
  dsimp only [Pt.U, Pt.locs, Pt.cells, Pt.slots] at X21 l21 y21 z21 st21 hQ21
  subst l21 y21 z21
  obtain ⟨rfl, N21, e21⟩ := hQ21
  have N22 := Fr.app N20 N21
  refine own_st (T' := T21) (g' := (mkF m 10 #[.val (.ref t), .val (.int ii)] [(.int cc)])) st21 ?_
  obtain ⟨fs, hr, hrun, hended, hW, hsame⟩ := X21.leave (v := some (.int (nar .char cc))) (fun h => by rw [Bd.returns] at h; cases h)
  refine own_end (retN X21 hx (t := .char) Bd.returns (by simp) (hb hby d22_10) hr) ⟨_, hrun, hended, _, _, rfl, ?_, ⟨_, rfl⟩, hW, hsame.mono (by decide) (by decide)⟩
  show own_ucQ Z _ _ _ _ _ _ _ h0 n0 _ T21.heap _
  rw [e21]
  exact ⟨(by rw [own_narc pr8]), N22, rfl⟩
theorem d14_0 : decode jdk_43_method_2_code 0 = .ok (.iload_n 1, 1) := by decide +kernel
theorem d14_1 : decode jdk_43_method_2_code 1 = .ok (.aload_n 0, 1) := by decide +kernel
theorem d14_2 : decode jdk_43_method_2_code 2 = .ok (.arraylength, 1) := by decide +kernel
theorem d14_3 : decode jdk_43_method_2_code 3 = .ok (.invokestatic 9, 3) := by decide +kernel
theorem d14_6 : decode jdk_43_method_2_code 6 = .ok (.aload_n 0, 1) := by decide +kernel
theorem d14_7 : decode jdk_43_method_2_code 7 = .ok (.iload_n 1, 1) := by decide +kernel
theorem d14_8 : decode jdk_43_method_2_code 8 = .ok (.baload, 1) := by decide +kernel
theorem d14_9 : decode jdk_43_method_2_code 9 = .ok (.sipush 255, 3) := by decide +kernel
theorem d14_12 : decode jdk_43_method_2_code 12 = .ok (.iand, 1) := by decide +kernel
theorem d14_13 : decode jdk_43_method_2_code 13 = .ok (.i2c, 1) := by decide +kernel
theorem d14_14 : decode jdk_43_method_2_code 14 = .ok (.ireturn, 1) := by decide +kernel
def own_lcQ (Z : State) (t : Addr) (ii : Int32) (fmt : Value) (kb : ClassId) (zz : Int32) (vl : List Value) (cc : Int32) (h0 : Heap) (n0 : Nat) (v : Option Value) (h : Heap) (L : List Loc) : Prop := v = some (.int cc) ∧ Fr n0 L ∧ h = h0
theorem own_pn4 : plainName "java/lang/StringLatin1" = true := by first | (simp [plainName, overriddenIn]; done) | decide +kernel
abbrev own_lcR : Room := { frames := 2, cells := 0, slots := 0, locals := 27 }
theorem own_lc (l : Launch) (Z : State) (a0 : Array Value) (hw : ∀ d ∈ tables_1, d.before a0 Z = true) (ws : List Jvm.Cond) (t : Addr) (ii : Int32) (fmt : Value) (kb : ClassId) (zz : Int32) (vl : List Value) (cc : Int32) (h0 : Heap) (n0 : Nat) (Z0 : n0 ≤ h0.size) (pr1 : Old Z n0 h0) (pr2 : Sta Z Z.heap "jdk/internal/util/Preconditions" "SIOOBE_FORMATTER" "Ljava/util/function/BiFunction;" fmt) (pr3 : fmt.isRef = true) (pr4 : Arv Z h0 t kb .byte zz vl (.int 0)) (pr5 : own_c16 cc) (pr6 : ¬ (255 : Int32) < cc) (pr7 : ¬ ii < 0 ∧ ii < zz) (pr8 : vl.getD ii.toNatClampNeg (.int 0) = .int cc.toInt8.toInt32) :
    own_M l (⟨"java/lang/StringLatin1", "charAt", "([BI)C"⟩ : MethodName) jdk_43_method_2_code 2 (some .char) ws own_lcR #[(.ref t), (.int ii)] Z h0 (own_lcQ Z t ii fmt kb zz vl cc h0 n0) := by
  refine own_go (plainFor_of_name own_pn4) (fun m => own_ef4 m t ii ) ?_
  intro p e s m below meth c s₁ Bd hx hby hml hZ hh hown hnm X0 e0
  have N0 := Fr.nil n0
  refine own_st (T' := s₁) (g' := (mkF m 2 #[.val (.ref t), .val (.int ii)] [(.ref t), (.int ii)])) (fun _ kt => XS.iloadN X0.here hx rfl (hb hby d14_0) rfl (XS.aloadN X0.here hx rfl (hb hby d14_1) rfl rfl kt)) ?_
  refine own_st (T' := s₁) (g' := (mkF m 3 #[.val (.ref t), .val (.int ii)] [(.int zz), (.int ii)])) (own_alen X0 hx hZ e0 pr4 (g := (mkF m 2 #[.val (.ref t), .val (.int ii)] [(.ref t), (.int ii)])) rfl rfl (hb hby d14_2)) ?_
  obtain ⟨_, _, ⟨T23, L23, k23, n23⟩, -, X23, ⟨Lc23, hQ23, l23, y23, z23⟩, st23⟩ := Jvm.LawKit.callS X0 hx (y := (⟨"java/lang/String", "checkIndex", "(II)V"⟩ : MethodName)) hown (mvT hZ (own_k hw 72 rfl)) (mvT hZ (own_k hw 73 rfl)) (mvT hZ (own_k hw 4 rfl)) (mvT hZ (own_k hw 74 rfl)) (by decide) (backOf (W := 0) (own_ci l Z a0 hw [] ii zz fmt h0 n0 Z0 pr1 pr2 (show ¬ ii < 0 from pr7.1) (show ii < zz from pr7.2) pr3) hZ (own_k hw 74 rfl) (own_k hw 4 rfl) (by decide) (by decide)) (g := (mkF m 3 #[.val (.ref t), .val (.int ii)] [(.int zz), (.int ii)])) rfl hml.symm  (argsL := [(.int ii), (.int zz)]) (rest := []) (lenOf own_pd3 rfl) rfl (own_w0 rfl rfl) (hb hby d14_3) (fun _ _ => ⟨rfl, e0, (by decide : 0 + 0 ≤ 0), (by decide : 0 + 0 ≤ 0)⟩)
  dsimp only [Pt.U, Pt.locs, Pt.cells, Pt.slots] at X23 l23 y23 z23 st23 hQ23
  subst l23 y23 z23
  obtain ⟨rfl, N23, e23⟩ := hQ23
  have N24 := Fr.app N0 N23
  refine own_st (T' := T23) (g' := (mkF m 6 #[.val (.ref t), .val (.int ii)] [])) st23 ?_
  refine own_st (T' := T23) (g' := (mkF m 8 #[.val (.ref t), .val (.int ii)] [(.int ii), (.ref t)])) (fun _ kt => XS.aloadN X23.here hx rfl (hb hby d14_6) rfl rfl (XS.iloadN X23.here hx rfl (hb hby d14_7) rfl kt)) ?_
  refine own_st (T' := T23) (g' := (mkF m 9 #[.val (.ref t), .val (.int ii)] [(.int cc.toInt8.toInt32)])) (own_bal X23 hx hZ e23 pr4 pr7 pr8 (g := (mkF m 8 #[.val (.ref t), .val (.int ii)] [(.int ii), (.ref t)])) rfl rfl (hb hby d14_8)) ?_
  refine own_st (T' := T23) (g' := (mkF m 14 #[.val (.ref t), .val (.int ii)] [(.int ((cc.toInt8.toInt32 &&& (255 : Int32)).toUInt32.toUInt16.toUInt32.toInt32))])) (fun _ kt => XS.sipush X23.here hx rfl (hb hby d14_9) (XS.iand X23.here hx rfl (hb hby d14_12) rfl (XT.i2c X23.here hx rfl (hb hby d14_13) rfl kt))) ?_
  obtain ⟨fs, hr, hrun, hended, hW, hsame⟩ := X23.leave (v := some (.int (nar .char ((cc.toInt8.toInt32 &&& (255 : Int32)).toUInt32.toUInt16.toUInt32.toInt32)))) (fun h => by rw [Bd.returns] at h; cases h)
  refine own_end (retN X23 hx (t := .char) Bd.returns (by simp) (hb hby d14_14) hr) ⟨_, hrun, hended, _, _, rfl, ?_, ⟨_, rfl⟩, hW, hsame.mono (by decide) (by decide)⟩
  show own_lcQ Z _ _ _ _ _ _ _ h0 n0 _ T23.heap _
  rw [e23]
  exact ⟨(by rw [own_back8 pr5 pr6]), N24, rfl⟩
theorem d12_0 : decode jdk_42_method_56_code 0 = .ok (.aload_n 0, 1) := by decide +kernel
theorem d12_1 : decode jdk_42_method_56_code 1 = .ok (.invokevirtual 492, 3) := by decide +kernel
theorem own_pd6 : parseMethodDescriptor "()Z" = some ⟨[], some .boolean⟩ := by decide +kernel
theorem d12_4 : decode jdk_42_method_56_code 4 = .ok (.ifCond .eq 12, 3) := by decide +kernel
theorem d12_7 : decode jdk_42_method_56_code 7 = .ok (.aload_n 0, 1) := by decide +kernel
theorem d12_8 : decode jdk_42_method_56_code 8 = .ok (.getfield 9, 3) := by decide +kernel
theorem d12_11 : decode jdk_42_method_56_code 11 = .ok (.iload_n 1, 1) := by decide +kernel
theorem d12_12 : decode jdk_42_method_56_code 12 = .ok (.invokestatic 495, 3) := by decide +kernel
theorem d12_15 : decode jdk_42_method_56_code 15 = .ok (.ireturn, 1) := by decide +kernel
theorem d12_16 : decode jdk_42_method_56_code 16 = .ok (.aload_n 0, 1) := by decide +kernel
theorem d12_17 : decode jdk_42_method_56_code 17 = .ok (.getfield 9, 3) := by decide +kernel
theorem d12_20 : decode jdk_42_method_56_code 20 = .ok (.iload_n 1, 1) := by decide +kernel
theorem d12_21 : decode jdk_42_method_56_code 21 = .ok (.invokestatic 498, 3) := by decide +kernel
theorem d12_24 : decode jdk_42_method_56_code 24 = .ok (.ireturn, 1) := by decide +kernel
def own_caQ (Z : State) (x0 : Addr) (ii : Int32) (zc : Int32) (fmt : Value) (t : Addr) (kb : ClassId) (cd : Int32) (zz : Int32) (vl : List Value) (cc : Int32) (h0 : Heap) (n0 : Nat) (v : Option Value) (h : Heap) (L : List Loc) : Prop := v = some (.int cc) ∧ Fr n0 L ∧ h = h0
abbrev own_caR : Room := { frames := 4, cells := 0, slots := 0, locals := 53 }
theorem own_ca (l : Launch) (Z : State) (a0 : Array Value) (hw : ∀ d ∈ tables_1, d.before a0 Z = true) (ws : List Jvm.Cond) (x0 : Addr) (ii : Int32) (zc : Int32) (fmt : Value) (t : Addr) (kb : ClassId) (cd : Int32) (zz : Int32) (vl : List Value) (cc : Int32) (h0 : Heap) (n0 : Nat) (Z0 : n0 ≤ h0.size) (pr1 : Old Z n0 h0) (pr2 : Sta Z Z.heap "java/lang/String" "COMPACT_STRINGS" "Z" (.int zc)) (pr3 : ¬ zc = 0) (pr4 : Sta Z Z.heap "jdk/internal/util/Preconditions" "SIOOBE_FORMATTER" "Ljava/util/function/BiFunction;" fmt) (pr5 : fmt.isRef = true) (pr6 : Sta Z Z.heap "java/lang/StringUTF16" "$assertionsDisabled" "Z" (.int 1)) (pr7 : Sta Z Z.heap "java/lang/StringUTF16" "HI_BYTE_SHIFT" "I" (.int 0)) (pr8 : Sta Z Z.heap "java/lang/StringUTF16" "LO_BYTE_SHIFT" "I" (.int 8)) (pr9 : Exa Z h0 x0 "java/lang/String") (pr10 : Fld Z h0 x0 "java/lang/String" "coder" "B" (.int cd)) (pr11 : Fld Z h0 x0 "java/lang/String" "value" "[B" (.ref t)) (pr12 : Arv Z h0 t kb .byte zz vl (.int 0)) (pr13 : own_at cd zz vl ii cc) (pr14 : own_c16 cc) :
    own_M l yN4 jdk_42_method_56_code 2 (some .char) ws own_caR #[(.ref x0), (.int ii)] Z h0 (own_caQ Z x0 ii zc fmt t kb cd zz vl cc h0 n0) := by
  refine own_go (plainFor_of_name own_pn2) (fun m => own_ef4 m x0 ii ) ?_
  intro p e s m below meth c s₁ Bd hx hby hml hZ hh hown hnm X0 e0
  have N0 := Fr.nil n0
  rcases pr13 with ⟨rfl, ha1, ha2, ha3⟩ | ⟨rfl, hb1, hb2⟩
  ·
    refine own_st (T' := s₁) (g' := (mkF m 1 #[.val (.ref x0), .val (.int ii)] [(.ref x0)])) (fun _ kt => XS.aloadN X0.here hx rfl (hb hby d12_0) rfl rfl kt) ?_
    obtain ⟨cq26, kq26, qa26, qb26, qc26⟩ := isOf hZ e0 pr9
    obtain ⟨_, _, ⟨T25, L25, k25, n25⟩, -, X25, ⟨Lc25, hQ25, l25, y25, z25⟩, st25⟩ := X0.virtualBack hx (y := yN15) (z := yN15) hown (mvT hZ (own_k hw 63 rfl)) (mvT hZ (own_k hw 64 rfl)) (notFace_of_selects (args := #[]) (mvT hZ (own_k hw 66 rfl))) (mvT hZ (own_k hw 66 rfl)) (mvT hZ (own_k hw 65 rfl)) (by decide) (backOf (W := 0) (own_il0 l Z a0 hw [] x0 zc h0 n0 Z0 pr1 pr2 pr3 pr10) hZ (own_k hw 67 rfl) (own_k hw 4 rfl) (by decide) (by decide)) qa26 qc26 (g := (mkF m 1 #[.val (.ref x0), .val (.int ii)] [(.ref x0)])) rfl hml.symm (Steps.refl _) (argsL := []) (rest := []) (lenOf own_pd6 rfl) rfl (own_w0 rfl rfl) (hb hby d12_1) (fun _ _ => ⟨rfl, e0, (by decide : 0 + 0 ≤ 0), (by decide : 0 + 0 ≤ 0)⟩)
    dsimp only [Pt.U, Pt.locs, Pt.cells, Pt.slots] at X25 l25 y25 z25 st25 hQ25
    subst l25 y25 z25
    obtain ⟨rfl, N25, e25⟩ := hQ25
    have N27 := Fr.app N0 N25
    refine own_tr (T' := T25) (g' := (mkF m 4 #[.val (.ref x0), .val (.int ii)] [(.int 1)])) st25 ?_
    refine own_st (T' := T25) (g' := (mkF m 8 #[.val (.ref x0), .val (.int ii)] [(.ref x0)])) (fun _ kt => XS.ifNo X25.here hx rfl (hb hby d12_4) rfl (XT.i0_eq_f (by decide)) (XS.aloadN X25.here hx rfl (hb hby d12_7) rfl rfl kt)) ?_
    obtain ⟨T28, X28, e28, st28⟩ := getF X25 hx hZ hown (host := "") (Or.inl (own_k hw 22 rfl)) Via.refl e25 pr11 (g := (mkF m 8 #[.val (.ref x0), .val (.int ii)] [(.ref x0)])) rfl rfl (hb hby d12_8)
    refine own_st (T' := T28) (g' := (mkF m 11 #[.val (.ref x0), .val (.int ii)] [(.ref t)])) st28 ?_
    refine own_st (T' := T28) (g' := (mkF m 12 #[.val (.ref x0), .val (.int ii)] [(.int ii), (.ref t)])) (fun _ kt => XS.iloadN X28.here hx rfl (hb hby d12_11) rfl kt) ?_
    obtain ⟨_, _, ⟨T29, L29, k29, n29⟩, -, X29, ⟨Lc29, hQ29, l29, y29, z29⟩, st29⟩ := Jvm.LawKit.callS X28 hx (y := (⟨"java/lang/StringLatin1", "charAt", "([BI)C"⟩ : MethodName)) hown (mvT hZ (own_k hw 68 rfl)) (mvT hZ (own_k hw 69 rfl)) (mvT hZ (own_k hw 70 rfl)) (mvT hZ (own_k hw 71 rfl)) (by decide) (backOf (W := 0) (own_lc l Z a0 hw [] t ii fmt kb zz vl cc h0 n0 Z0 pr1 pr4 pr5 pr12 pr14 ha3 ha1 ha2) hZ (own_k hw 71 rfl) (own_k hw 70 rfl) (by decide) (by decide)) (g := (mkF m 12 #[.val (.ref x0), .val (.int ii)] [(.int ii), (.ref t)])) rfl hml.symm  (argsL := [(.ref t), (.int ii)]) (rest := []) (lenOf own_pd5 rfl) rfl (own_w0 rfl rfl) (hb hby d12_12) (fun _ _ => ⟨rfl, e28, (by decide : 0 + 0 ≤ 0), (by decide : 0 + 0 ≤ 0)⟩)
    dsimp only [Pt.U, Pt.locs, Pt.cells, Pt.slots] at X29 l29 y29 z29 st29 hQ29
    subst l29 y29 z29
    obtain ⟨rfl, N29, e29⟩ := hQ29
    have N30 := Fr.app N27 N29
    refine own_st (T' := T29) (g' := (mkF m 15 #[.val (.ref x0), .val (.int ii)] [(.int cc)])) st29 ?_
    obtain ⟨fs, hr, hrun, hended, hW, hsame⟩ := X29.leave (v := some (.int (nar .char cc))) (fun h => by rw [Bd.returns] at h; cases h)
    refine own_end (retN X29 hx (t := .char) Bd.returns (by simp) (hb hby d12_15) hr) ⟨_, hrun, hended, _, _, rfl, ?_, ⟨_, rfl⟩, hW, hsame.mono (by decide) (by decide)⟩
    show own_caQ Z _ _ _ _ _ _ _ _ _ _ h0 n0 _ T29.heap _
    rw [e29]
    exact ⟨(by rw [own_narc pr14]), N30, rfl⟩
  ·
    refine own_st (T' := s₁) (g' := (mkF m 1 #[.val (.ref x0), .val (.int ii)] [(.ref x0)])) (fun _ kt => XS.aloadN X0.here hx rfl (hb hby d12_0) rfl rfl kt) ?_
    obtain ⟨cq32, kq32, qa32, qb32, qc32⟩ := isOf hZ e0 pr9
    obtain ⟨_, _, ⟨T31, L31, k31, n31⟩, -, X31, ⟨Lc31, hQ31, l31, y31, z31⟩, st31⟩ := X0.virtualBack hx (y := yN15) (z := yN15) hown (mvT hZ (own_k hw 63 rfl)) (mvT hZ (own_k hw 64 rfl)) (notFace_of_selects (args := #[]) (mvT hZ (own_k hw 66 rfl))) (mvT hZ (own_k hw 66 rfl)) (mvT hZ (own_k hw 65 rfl)) (by decide) (backOf (W := 0) (own_il1 l Z a0 hw [] x0 zc h0 n0 Z0 pr1 pr2 pr3 pr10) hZ (own_k hw 67 rfl) (own_k hw 4 rfl) (by decide) (by decide)) qa32 qc32 (g := (mkF m 1 #[.val (.ref x0), .val (.int ii)] [(.ref x0)])) rfl hml.symm (Steps.refl _) (argsL := []) (rest := []) (lenOf own_pd6 rfl) rfl (own_w0 rfl rfl) (hb hby d12_1) (fun _ _ => ⟨rfl, e0, (by decide : 0 + 0 ≤ 0), (by decide : 0 + 0 ≤ 0)⟩)
    dsimp only [Pt.U, Pt.locs, Pt.cells, Pt.slots] at X31 l31 y31 z31 st31 hQ31
    subst l31 y31 z31
    obtain ⟨rfl, N31, e31⟩ := hQ31
    have N33 := Fr.app N0 N31
    refine own_tr (T' := T31) (g' := (mkF m 4 #[.val (.ref x0), .val (.int ii)] [(.int 0)])) st31 ?_
    refine own_st (T' := T31) (g' := (mkF m 17 #[.val (.ref x0), .val (.int ii)] [(.ref x0)])) (fun _ kt => XS.ifYes X31.here hx rfl (pc0 := 4) (pc' := 16) rfl (hb hby d12_4) rfl (XT.i0_eq_t (by decide)) (by decide) (by decide) (XS.aloadN X31.here hx rfl (hb hby d12_16) rfl rfl kt)) ?_
    obtain ⟨T34, X34, e34, st34⟩ := getF X31 hx hZ hown (host := "") (Or.inl (own_k hw 22 rfl)) Via.refl e31 pr11 (g := (mkF m 17 #[.val (.ref x0), .val (.int ii)] [(.ref x0)])) rfl rfl (hb hby d12_17)
    refine own_st (T' := T34) (g' := (mkF m 20 #[.val (.ref x0), .val (.int ii)] [(.ref t)])) st34 ?_
    refine own_st (T' := T34) (g' := (mkF m 21 #[.val (.ref x0), .val (.int ii)] [(.int ii), (.ref t)])) (fun _ kt => XS.iloadN X34.here hx rfl (hb hby d12_20) rfl kt) ?_
    obtain ⟨_, _, ⟨T35, L35, k35, n35⟩, -, X35, ⟨Lc35, hQ35, l35, y35, z35⟩, st35⟩ := Jvm.LawKit.callS X34 hx (y := (⟨"java/lang/StringUTF16", "charAt", "([BI)C"⟩ : MethodName)) hown (mvT hZ (own_k hw 99 rfl)) (mvT hZ (own_k hw 100 rfl)) (mvT hZ (own_k hw 36 rfl)) (mvT hZ (own_k hw 101 rfl)) (by decide) (backOf (W := 0) (own_uc l Z a0 hw [] t ii fmt kb zz vl cc h0 n0 Z0 pr1 pr4 pr5 pr6 pr7 pr8 pr12 pr14 hb1 hb2) hZ (own_k hw 101 rfl) (own_k hw 36 rfl) (by decide) (by decide)) (g := (mkF m 21 #[.val (.ref x0), .val (.int ii)] [(.int ii), (.ref t)])) rfl hml.symm  (argsL := [(.ref t), (.int ii)]) (rest := []) (lenOf own_pd5 rfl) rfl (own_w0 rfl rfl) (hb hby d12_21) (fun _ _ => ⟨rfl, e34, (by decide : 0 + 0 ≤ 0), (by decide : 0 + 0 ≤ 0)⟩)
    dsimp only [Pt.U, Pt.locs, Pt.cells, Pt.slots] at X35 l35 y35 z35 st35 hQ35
    subst l35 y35 z35
    obtain ⟨rfl, N35, e35⟩ := hQ35
    have N36 := Fr.app N33 N35
    refine own_st (T' := T35) (g' := (mkF m 24 #[.val (.ref x0), .val (.int ii)] [(.int cc)])) st35 ?_
    obtain ⟨fs, hr, hrun, hended, hW, hsame⟩ := X35.leave (v := some (.int (nar .char cc))) (fun h => by rw [Bd.returns] at h; cases h)
    refine own_end (retN X35 hx (t := .char) Bd.returns (by simp) (hb hby d12_24) hr) ⟨_, hrun, hended, _, _, rfl, ?_, ⟨_, rfl⟩, hW, hsame.mono (by decide) (by decide)⟩
    show own_caQ Z _ _ _ _ _ _ _ _ _ _ h0 n0 _ T35.heap _
    rw [e35]
    exact ⟨(by rw [own_narc pr14]), N36, rfl⟩
theorem d10_0 : decode jdk_42_method_54_code 0 = .ok (.aload_n 0, 1) := by decide +kernel
theorem d10_1 : decode jdk_42_method_54_code 1 = .ok (.getfield 9, 3) := by decide +kernel
theorem d10_4 : decode jdk_42_method_54_code 4 = .ok (.arraylength, 1) := by decide +kernel
theorem d10_5 : decode jdk_42_method_54_code 5 = .ok (.aload_n 0, 1) := by decide +kernel
theorem d10_6 : decode jdk_42_method_54_code 6 = .ok (.invokevirtual 335, 3) := by decide +kernel
theorem own_pd7 : parseMethodDescriptor "()B" = some ⟨[], some .byte⟩ := by decide +kernel
theorem d10_9 : decode jdk_42_method_54_code 9 = .ok (.ishr, 1) := by decide +kernel
theorem d10_10 : decode jdk_42_method_54_code 10 = .ok (.ireturn, 1) := by decide +kernel
def own_slQ (Z : State) (x0 : Addr) (zc : Int32) (fmt : Value) (t : Addr) (kb : ClassId) (cd : Int32) (zz : Int32) (vl : List Value) (nn : Int32) (h0 : Heap) (n0 : Nat) (v : Option Value) (h : Heap) (L : List Loc) : Prop := v = some (.int nn) ∧ Fr n0 L ∧ h = h0
abbrev own_slR : Room := { frames := 1, cells := 0, slots := 0, locals := 13 }
theorem own_sl (l : Launch) (Z : State) (a0 : Array Value) (hw : ∀ d ∈ tables_1, d.before a0 Z = true) (ws : List Jvm.Cond) (x0 : Addr) (zc : Int32) (fmt : Value) (t : Addr) (kb : ClassId) (cd : Int32) (zz : Int32) (vl : List Value) (nn : Int32) (h0 : Heap) (n0 : Nat) (Z0 : n0 ≤ h0.size) (pr1 : Old Z n0 h0) (pr2 : Sta Z Z.heap "java/lang/String" "COMPACT_STRINGS" "Z" (.int zc)) (pr3 : ¬ zc = 0) (pr4 : Sta Z Z.heap "jdk/internal/util/Preconditions" "SIOOBE_FORMATTER" "Ljava/util/function/BiFunction;" fmt) (pr5 : fmt.isRef = true) (pr6 : Sta Z Z.heap "java/lang/StringUTF16" "$assertionsDisabled" "Z" (.int 1)) (pr7 : Sta Z Z.heap "java/lang/StringUTF16" "HI_BYTE_SHIFT" "I" (.int 0)) (pr8 : Sta Z Z.heap "java/lang/StringUTF16" "LO_BYTE_SHIFT" "I" (.int 8)) (pr9 : Exa Z h0 x0 "java/lang/String") (pr10 : Fld Z h0 x0 "java/lang/String" "coder" "B" (.int cd)) (pr11 : Fld Z h0 x0 "java/lang/String" "value" "[B" (.ref t)) (pr12 : Arv Z h0 t kb .byte zz vl (.int 0)) (pr13 : own_ln cd zz nn) :
    own_M l yN0 jdk_42_method_54_code 1 (some .int) ws own_slR #[(.ref x0)] Z h0 (own_slQ Z x0 zc fmt t kb cd zz vl nn h0 n0) := by
  refine own_go (plainFor_of_name own_pn2) (fun m => own_ef3 m x0 ) ?_
  intro p e s m below meth c s₁ Bd hx hby hml hZ hh hown hnm X0 e0
  have N0 := Fr.nil n0
  rcases pr13 with ⟨rfl, rfl⟩ | ⟨rfl, rfl⟩
  ·
    refine own_st (T' := s₁) (g' := (mkF m 1 #[.val (.ref x0)] [(.ref x0)])) (fun _ kt => XS.aloadN X0.here hx rfl (hb hby d10_0) rfl rfl kt) ?_
    obtain ⟨T37, X37, e37, st37⟩ := getF X0 hx hZ hown (host := "") (Or.inl (own_k hw 22 rfl)) Via.refl e0 pr11 (g := (mkF m 1 #[.val (.ref x0)] [(.ref x0)])) rfl rfl (hb hby d10_1)
    refine own_st (T' := T37) (g' := (mkF m 4 #[.val (.ref x0)] [(.ref t)])) st37 ?_
    refine own_st (T' := T37) (g' := (mkF m 5 #[.val (.ref x0)] [(.int zz)])) (own_alen X37 hx hZ e37 pr12 (g := (mkF m 4 #[.val (.ref x0)] [(.ref t)])) rfl rfl (hb hby d10_4)) ?_
    refine own_st (T' := T37) (g' := (mkF m 6 #[.val (.ref x0)] [(.ref x0), (.int zz)])) (fun _ kt => XS.aloadN X37.here hx rfl (hb hby d10_5) rfl rfl kt) ?_
    obtain ⟨cq39, kq39, qa39, qb39, qc39⟩ := isOf hZ e37 pr9
    obtain ⟨_, _, ⟨T38, L38, k38, n38⟩, -, X38, ⟨Lc38, hQ38, l38, y38, z38⟩, st38⟩ := X37.virtualBack hx (y := yN16) (z := yN16) hown (mvT hZ (own_k hw 53 rfl)) (mvT hZ (own_k hw 54 rfl)) (notFace_of_selects (args := #[]) (mvT hZ (own_k hw 56 rfl))) (mvT hZ (own_k hw 56 rfl)) (mvT hZ (own_k hw 55 rfl)) (by decide) (backOf (W := 1) (own_cod0 l Z a0 hw [] x0 zc h0 n0 Z0 pr1 pr2 pr3 pr10) hZ (own_k hw 57 rfl) (own_k hw 4 rfl) (by decide) (by decide)) qa39 qc39 (g := (mkF m 6 #[.val (.ref x0)] [(.ref x0), (.int zz)])) rfl hml.symm (Steps.refl _) (argsL := []) (rest := [(.int zz)]) (lenOf own_pd7 rfl) rfl (own_w0 rfl rfl) (hb hby d10_6) (fun _ _ => ⟨rfl, e37, (by decide : 0 + 0 ≤ 0), (by decide : 0 + 0 ≤ 0)⟩)
    dsimp only [Pt.U, Pt.locs, Pt.cells, Pt.slots] at X38 l38 y38 z38 st38 hQ38
    subst l38 y38 z38
    obtain ⟨rfl, N38, e38⟩ := hQ38
    have N40 := Fr.app N0 N38
    refine own_tr (T' := T38) (g' := (mkF m 9 #[.val (.ref x0)] [(.int 0), (.int zz)])) st38 ?_
    refine own_st (T' := T38) (g' := (mkF m 10 #[.val (.ref x0)] [(.int (zz >>> ((0 : Int32) &&& 31)))])) (fun _ kt => XT.ishr X38.here hx rfl (hb hby d10_9) rfl kt) ?_
    obtain ⟨fs, hr, hrun, hended, hW, hsame⟩ := X38.leave (v := some (.int (zz >>> ((0 : Int32) &&& 31)))) (fun h => by rw [Bd.returns] at h; cases h)
    refine own_end (own_retI X38 hx Bd.returns (hb hby d10_10) hr) ⟨_, hrun, hended, _, _, rfl, ?_, ⟨_, rfl⟩, hW, hsame.mono (by decide) (by decide)⟩
    show own_slQ Z _ _ _ _ _ _ _ _ _ h0 n0 _ T38.heap _
    rw [e38]
    exact ⟨(by rw [own_sh0]), N40, rfl⟩
  ·
    refine own_st (T' := s₁) (g' := (mkF m 1 #[.val (.ref x0)] [(.ref x0)])) (fun _ kt => XS.aloadN X0.here hx rfl (hb hby d10_0) rfl rfl kt) ?_
    obtain ⟨T41, X41, e41, st41⟩ := getF X0 hx hZ hown (host := "") (Or.inl (own_k hw 22 rfl)) Via.refl e0 pr11 (g := (mkF m 1 #[.val (.ref x0)] [(.ref x0)])) rfl rfl (hb hby d10_1)
    refine own_st (T' := T41) (g' := (mkF m 4 #[.val (.ref x0)] [(.ref t)])) st41 ?_
    refine own_st (T' := T41) (g' := (mkF m 5 #[.val (.ref x0)] [(.int zz)])) (own_alen X41 hx hZ e41 pr12 (g := (mkF m 4 #[.val (.ref x0)] [(.ref t)])) rfl rfl (hb hby d10_4)) ?_
    refine own_st (T' := T41) (g' := (mkF m 6 #[.val (.ref x0)] [(.ref x0), (.int zz)])) (fun _ kt => XS.aloadN X41.here hx rfl (hb hby d10_5) rfl rfl kt) ?_
    obtain ⟨cq43, kq43, qa43, qb43, qc43⟩ := isOf hZ e41 pr9
    obtain ⟨_, _, ⟨T42, L42, k42, n42⟩, -, X42, ⟨Lc42, hQ42, l42, y42, z42⟩, st42⟩ := X41.virtualBack hx (y := yN16) (z := yN16) hown (mvT hZ (own_k hw 53 rfl)) (mvT hZ (own_k hw 54 rfl)) (notFace_of_selects (args := #[]) (mvT hZ (own_k hw 56 rfl))) (mvT hZ (own_k hw 56 rfl)) (mvT hZ (own_k hw 55 rfl)) (by decide) (backOf (W := 1) (own_cod1 l Z a0 hw [] x0 zc h0 n0 Z0 pr1 pr2 pr3 pr10) hZ (own_k hw 57 rfl) (own_k hw 4 rfl) (by decide) (by decide)) qa43 qc43 (g := (mkF m 6 #[.val (.ref x0)] [(.ref x0), (.int zz)])) rfl hml.symm (Steps.refl _) (argsL := []) (rest := [(.int zz)]) (lenOf own_pd7 rfl) rfl (own_w0 rfl rfl) (hb hby d10_6) (fun _ _ => ⟨rfl, e41, (by decide : 0 + 0 ≤ 0), (by decide : 0 + 0 ≤ 0)⟩)
    dsimp only [Pt.U, Pt.locs, Pt.cells, Pt.slots] at X42 l42 y42 z42 st42 hQ42
    subst l42 y42 z42
    obtain ⟨rfl, N42, e42⟩ := hQ42
    have N44 := Fr.app N0 N42
    refine own_tr (T' := T42) (g' := (mkF m 9 #[.val (.ref x0)] [(.int 1), (.int zz)])) st42 ?_
    refine own_st (T' := T42) (g' := (mkF m 10 #[.val (.ref x0)] [(.int (zz >>> ((1 : Int32) &&& 31)))])) (fun _ kt => XT.ishr X42.here hx rfl (hb hby d10_9) rfl kt) ?_
    obtain ⟨fs, hr, hrun, hended, hW, hsame⟩ := X42.leave (v := some (.int (zz >>> ((1 : Int32) &&& 31)))) (fun h => by rw [Bd.returns] at h; cases h)
    refine own_end (own_retI X42 hx Bd.returns (hb hby d10_10) hr) ⟨_, hrun, hended, _, _, rfl, ?_, ⟨_, rfl⟩, hW, hsame.mono (by decide) (by decide)⟩
    show own_slQ Z _ _ _ _ _ _ _ _ _ h0 n0 _ T42.heap _
    rw [e42]
    exact ⟨rfl, N44, rfl⟩
theorem d5_0 : decode jdk_42_method_55_code 0 = .ok (.aload_n 0, 1) := by decide +kernel
theorem d5_1 : decode jdk_42_method_55_code 1 = .ok (.getfield 9, 3) := by decide +kernel
theorem d5_4 : decode jdk_42_method_55_code 4 = .ok (.arraylength, 1) := by decide +kernel
theorem d5_5 : decode jdk_42_method_55_code 5 = .ok (.ifCond .ne 7, 3) := by decide +kernel
theorem d5_12 : decode jdk_42_method_55_code 12 = .ok (.iconst 0, 1) := by decide +kernel
theorem d5_13 : decode jdk_42_method_55_code 13 = .ok (.ireturn, 1) := by decide +kernel
def own_emQ (Z : State) (x0 : Addr) (t : Addr) (kb : ClassId) (zz : Int32) (vl : List Value) (h0 : Heap) (n0 : Nat) (v : Option Value) (h : Heap) (L : List Loc) : Prop := v = some (.int 0) ∧ Fr n0 L ∧ h = h0
abbrev own_emR : Room := { frames := 0, cells := 0, slots := 0, locals := 0 }
theorem own_em (l : Launch) (Z : State) (a0 : Array Value) (hw : ∀ d ∈ tables_1, d.before a0 Z = true) (ws : List Jvm.Cond) (x0 : Addr) (t : Addr) (kb : ClassId) (zz : Int32) (vl : List Value) (h0 : Heap) (n0 : Nat) (Z0 : n0 ≤ h0.size) (pr1 : Fld Z h0 x0 "java/lang/String" "value" "[B" (.ref t)) (pr2 : Arv Z h0 t kb .byte zz vl (.int 0)) (pr3 : ¬ zz = 0) :
    own_M l yN7 jdk_42_method_55_code 1 (some .boolean) ws own_emR #[(.ref x0)] Z h0 (own_emQ Z x0 t kb zz vl h0 n0) := by
  refine own_go (plainFor_of_name own_pn2) (fun m => own_ef3 m x0 ) ?_
  intro p e s m below meth c s₁ Bd hx hby hml hZ hh hown hnm X0 e0
  have N0 := Fr.nil n0
  refine own_st (T' := s₁) (g' := (mkF m 1 #[.val (.ref x0)] [(.ref x0)])) (fun _ kt => XS.aloadN X0.here hx rfl (hb hby d5_0) rfl rfl kt) ?_
  obtain ⟨T45, X45, e45, st45⟩ := getF X0 hx hZ hown (host := "") (Or.inl (own_k hw 22 rfl)) Via.refl e0 pr1 (g := (mkF m 1 #[.val (.ref x0)] [(.ref x0)])) rfl rfl (hb hby d5_1)
  refine own_st (T' := T45) (g' := (mkF m 4 #[.val (.ref x0)] [(.ref t)])) st45 ?_
  refine own_st (T' := T45) (g' := (mkF m 5 #[.val (.ref x0)] [(.int zz)])) (own_alen X45 hx hZ e45 pr2 (g := (mkF m 4 #[.val (.ref x0)] [(.ref t)])) rfl rfl (hb hby d5_4)) ?_
  refine own_st (T' := T45) (g' := (mkF m 13 #[.val (.ref x0)] [(.int 0)])) (fun _ kt => XS.ifYes X45.here hx rfl (pc0 := 5) (pc' := 12) rfl (hb hby d5_5) rfl (XT.i0_ne_t pr3) (by decide) (by decide) (XS.iconst X45.here hx rfl (hb hby d5_12) kt)) ?_
  obtain ⟨fs, hr, hrun, hended, hW, hsame⟩ := X45.leave (v := some (.int 0)) (fun h => by rw [Bd.returns] at h; cases h)
  refine own_end (retN X45 hx (t := .boolean) Bd.returns (by simp) (hb hby d5_13) hr) ⟨_, hrun, hended, _, _, rfl, ?_, ⟨_, rfl⟩, hW, hsame.mono (by decide) (by decide)⟩
  show own_emQ Z _ _ _ _ _ h0 n0 _ T45.heap _
  rw [e45]
  exact ⟨rfl, N0, rfl⟩
theorem d5_8 : decode jdk_42_method_55_code 8 = .ok (.iconst 1, 1) := by decide +kernel
theorem d5_9 : decode jdk_42_method_55_code 9 = .ok (.goto 4, 3) := by decide +kernel
def own_em0Q (Z : State) (x0 : Addr) (t : Addr) (kb : ClassId) (vl : List Value) (h0 : Heap) (n0 : Nat) (v : Option Value) (h : Heap) (L : List Loc) : Prop := v = some (.int 1) ∧ Fr n0 L ∧ h = h0
abbrev own_em0R : Room := { frames := 0, cells := 0, slots := 0, locals := 0 }
theorem own_em0 (l : Launch) (Z : State) (a0 : Array Value) (hw : ∀ d ∈ tables_1, d.before a0 Z = true) (ws : List Jvm.Cond) (x0 : Addr) (t : Addr) (kb : ClassId) (vl : List Value) (h0 : Heap) (n0 : Nat) (Z0 : n0 ≤ h0.size) (pr1 : Fld Z h0 x0 "java/lang/String" "value" "[B" (.ref t)) (pr2 : Arv Z h0 t kb .byte (0 : Int32) vl (.int 0)) :
    own_M l yN7 jdk_42_method_55_code 1 (some .boolean) ws own_em0R #[(.ref x0)] Z h0 (own_em0Q Z x0 t kb vl h0 n0) := by
  refine own_go (plainFor_of_name own_pn2) (fun m => own_ef3 m x0 ) ?_
  intro p e s m below meth c s₁ Bd hx hby hml hZ hh hown hnm X0 e0
  have N0 := Fr.nil n0
  refine own_st (T' := s₁) (g' := (mkF m 1 #[.val (.ref x0)] [(.ref x0)])) (fun _ kt => XS.aloadN X0.here hx rfl (hb hby d5_0) rfl rfl kt) ?_
  obtain ⟨T46, X46, e46, st46⟩ := getF X0 hx hZ hown (host := "") (Or.inl (own_k hw 22 rfl)) Via.refl e0 pr1 (g := (mkF m 1 #[.val (.ref x0)] [(.ref x0)])) rfl rfl (hb hby d5_1)
  refine own_st (T' := T46) (g' := (mkF m 4 #[.val (.ref x0)] [(.ref t)])) st46 ?_
  refine own_st (T' := T46) (g' := (mkF m 5 #[.val (.ref x0)] [(.int 0)])) (own_alen X46 hx hZ e46 pr2 (g := (mkF m 4 #[.val (.ref x0)] [(.ref t)])) rfl rfl (hb hby d5_4)) ?_
  refine own_st (T' := T46) (g' := (mkF m 13 #[.val (.ref x0)] [(.int 1)])) (fun _ kt => XS.ifNo X46.here hx rfl (hb hby d5_5) rfl (XT.i0_ne_f (by decide)) (XS.iconst X46.here hx rfl (hb hby d5_8) (XS.goto X46.here hx rfl (pc0 := 9) (pc' := 13) rfl (hb hby d5_9) (by decide) (by decide) kt))) ?_
  obtain ⟨fs, hr, hrun, hended, hW, hsame⟩ := X46.leave (v := some (.int 1)) (fun h => by rw [Bd.returns] at h; cases h)
  refine own_end (retN X46 hx (t := .boolean) Bd.returns (by simp) (hb hby d5_13) hr) ⟨_, hrun, hended, _, _, rfl, ?_, ⟨_, rfl⟩, hW, hsame.mono (by decide) (by decide)⟩
  show own_em0Q Z _ _ _ _ h0 n0 _ T46.heap _
  rw [e46]
  exact ⟨rfl, N0, rfl⟩
theorem d4_0 : decode prog_36_method_2_code 0 = .ok (.aload_n 0, 1) := by decide +kernel
theorem d4_1 : decode prog_36_method_2_code 1 = .ok (.invokevirtual 22, 3) := by decide +kernel
theorem d4_4 : decode prog_36_method_2_code 4 = .ok (.ifCond .eq 5, 3) := by decide +kernel
theorem d4_7 : decode prog_36_method_2_code 7 = .ok (.iconst 0, 1) := by decide +kernel
theorem d4_8 : decode prog_36_method_2_code 8 = .ok (.ireturn, 1) := by decide +kernel
theorem own_ef6 (m : MethodId) (x0 : Addr) : entryFrame m #[(.ref x0)] 3 = mkF m 0 #[.val (.ref x0), .unset, .unset] [] := by first | (simp [entryFrame, mkF, argsToLocals, Value.category]; done) | rfl
def own_is0Q (Z : State) (x0 : Addr) (t : Addr) (kb : ClassId) (vl : List Value) (h0 : Heap) (n0 : Nat) (v : Option Value) (h : Heap) (L : List Loc) : Prop := v = some (.int 0) ∧ Fr n0 L ∧ h = h0
theorem own_pn5 : plainName "com/example/tidelock/tidelock/protocol/RoutingTable$Shard" = true := by first | (simp [plainName, overriddenIn]; done) | decide +kernel
abbrev own_is0R : Room := { frames := 1, cells := 0, slots := 0, locals := 12 }
theorem own_is0 (l : Launch) (Z : State) (a0 : Array Value) (hw : ∀ d ∈ tables_1, d.before a0 Z = true) (ws : List Jvm.Cond) (x0 : Addr) (t : Addr) (kb : ClassId) (vl : List Value) (h0 : Heap) (n0 : Nat) (Z0 : n0 ≤ h0.size) (pr1 : Exa Z h0 x0 "java/lang/String") (pr2 : Fld Z h0 x0 "java/lang/String" "value" "[B" (.ref t)) (pr3 : Arv Z h0 t kb .byte (0 : Int32) vl (.int 0)) :
    own_M l yN10 prog_36_method_2_code 3 (some .boolean) ws own_is0R #[(.ref x0)] Z h0 (own_is0Q Z x0 t kb vl h0 n0) := by
  refine own_go (plainFor_of_name own_pn5) (fun m => own_ef6 m x0 ) ?_
  intro p e s m below meth c s₁ Bd hx hby hml hZ hh hown hnm X0 e0
  have N0 := Fr.nil n0
  refine own_st (T' := s₁) (g' := (mkF m 1 #[.val (.ref x0), .unset, .unset] [(.ref x0)])) (fun _ kt => XS.aloadN X0.here hx rfl (hb hby d4_0) rfl rfl kt) ?_
  obtain ⟨cq48, kq48, qa48, qb48, qc48⟩ := isOf hZ e0 pr1
  obtain ⟨_, _, ⟨T47, L47, k47, n47⟩, -, X47, ⟨Lc47, hQ47, l47, y47, z47⟩, st47⟩ := X0.virtualBack hx (y := yN7) (z := yN7) hown (mvT hZ (own_k hw 28 rfl)) (mvT hZ (own_k hw 29 rfl)) (notFace_of_selects (args := #[]) (mvT hZ (own_k hw 31 rfl))) (mvT hZ (own_k hw 31 rfl)) (mvT hZ (own_k hw 30 rfl)) (by decide) (backOf (W := 0) (own_em0 l Z a0 hw [] x0 t kb vl h0 n0 Z0 pr2 pr3) hZ (own_k hw 32 rfl) (own_k hw 4 rfl) (by decide) (by decide)) qa48 qc48 (g := (mkF m 1 #[.val (.ref x0), .unset, .unset] [(.ref x0)])) rfl hml.symm (Steps.refl _) (argsL := []) (rest := []) (lenOf own_pd6 rfl) rfl (own_w0 rfl rfl) (hb hby d4_1) (fun _ _ => ⟨rfl, e0, (by decide : 0 + 0 ≤ 0), (by decide : 0 + 0 ≤ 0)⟩)
  dsimp only [Pt.U, Pt.locs, Pt.cells, Pt.slots] at X47 l47 y47 z47 st47 hQ47
  subst l47 y47 z47
  obtain ⟨rfl, N47, e47⟩ := hQ47
  have N49 := Fr.app N0 N47
  refine own_tr (T' := T47) (g' := (mkF m 4 #[.val (.ref x0), .unset, .unset] [(.int 1)])) st47 ?_
  refine own_st (T' := T47) (g' := (mkF m 8 #[.val (.ref x0), .unset, .unset] [(.int 0)])) (fun _ kt => XS.ifNo X47.here hx rfl (hb hby d4_4) rfl (XT.i0_eq_f (by decide)) (XS.iconst X47.here hx rfl (hb hby d4_7) kt)) ?_
  obtain ⟨fs, hr, hrun, hended, hW, hsame⟩ := X47.leave (v := some (.int 0)) (fun h => by rw [Bd.returns] at h; cases h)
  refine own_end (retN X47 hx (t := .boolean) Bd.returns (by simp) (hb hby d4_8) hr) ⟨_, hrun, hended, _, _, rfl, ?_, ⟨_, rfl⟩, hW, hsame.mono (by decide) (by decide)⟩
  show own_is0Q Z _ _ _ _ h0 n0 _ T47.heap _
  rw [e47]
  exact ⟨rfl, N49, rfl⟩
theorem d4_9 : decode prog_36_method_2_code 9 = .ok (.iconst 0, 1) := by decide +kernel
theorem d4_10 : decode prog_36_method_2_code 10 = .ok (.istore_n 1, 1) := by decide +kernel
theorem d4_11 : decode prog_36_method_2_code 11 = .ok (.iload_n 1, 1) := by decide +kernel
theorem d4_12 : decode prog_36_method_2_code 12 = .ok (.aload_n 0, 1) := by decide +kernel
theorem d4_13 : decode prog_36_method_2_code 13 = .ok (.invokevirtual 43, 3) := by decide +kernel
theorem own_pd8 : parseMethodDescriptor "()I" = some ⟨[], some .int⟩ := by decide +kernel
theorem d4_16 : decode prog_36_method_2_code 16 = .ok (.if_icmp .ge 65, 3) := by decide +kernel
theorem d4_19 : decode prog_36_method_2_code 19 = .ok (.aload_n 0, 1) := by decide +kernel
theorem d4_20 : decode prog_36_method_2_code 20 = .ok (.iload_n 1, 1) := by decide +kernel
theorem d4_21 : decode prog_36_method_2_code 21 = .ok (.invokevirtual 47, 3) := by decide +kernel
theorem own_pd9 : parseMethodDescriptor "(I)C" = some ⟨[.int], some .char⟩ := by decide +kernel
theorem d4_24 : decode prog_36_method_2_code 24 = .ok (.istore_n 2, 1) := by decide +kernel
theorem d4_75 : decode prog_36_method_2_code 75 = .ok (.iinc 1 1, 3) := by decide +kernel
theorem d4_78 : decode prog_36_method_2_code 78 = .ok (.goto (-67), 3) := by decide +kernel
theorem d4_81 : decode prog_36_method_2_code 81 = .ok (.iconst 1, 1) := by decide +kernel
theorem d4_82 : decode prog_36_method_2_code 82 = .ok (.ireturn, 1) := by decide +kernel
theorem d4_61 : decode prog_36_method_2_code 61 = .ok (.iload_n 2, 1) := by decide +kernel
theorem d4_62 : decode prog_36_method_2_code 62 = .ok (.bipush 95, 2) := by decide +kernel
theorem d4_64 : decode prog_36_method_2_code 64 = .ok (.if_icmp .eq 11, 3) := by decide +kernel
theorem d4_67 : decode prog_36_method_2_code 67 = .ok (.iload_n 2, 1) := by decide +kernel
theorem d4_68 : decode prog_36_method_2_code 68 = .ok (.bipush 45, 2) := by decide +kernel
theorem d4_70 : decode prog_36_method_2_code 70 = .ok (.if_icmp .eq 5, 3) := by decide +kernel
theorem d4_73 : decode prog_36_method_2_code 73 = .ok (.iconst 0, 1) := by decide +kernel
theorem d4_74 : decode prog_36_method_2_code 74 = .ok (.ireturn, 1) := by decide +kernel
theorem d4_49 : decode prog_36_method_2_code 49 = .ok (.iload_n 2, 1) := by decide +kernel
theorem d4_50 : decode prog_36_method_2_code 50 = .ok (.bipush 48, 2) := by decide +kernel
theorem d4_52 : decode prog_36_method_2_code 52 = .ok (.if_icmp .lt 9, 3) := by decide +kernel
theorem d4_55 : decode prog_36_method_2_code 55 = .ok (.iload_n 2, 1) := by decide +kernel
theorem d4_56 : decode prog_36_method_2_code 56 = .ok (.bipush 57, 2) := by decide +kernel
theorem d4_58 : decode prog_36_method_2_code 58 = .ok (.if_icmp .le 17, 3) := by decide +kernel
theorem d4_37 : decode prog_36_method_2_code 37 = .ok (.iload_n 2, 1) := by decide +kernel
theorem d4_38 : decode prog_36_method_2_code 38 = .ok (.bipush 97, 2) := by decide +kernel
theorem d4_40 : decode prog_36_method_2_code 40 = .ok (.if_icmp .lt 9, 3) := by decide +kernel
theorem d4_43 : decode prog_36_method_2_code 43 = .ok (.iload_n 2, 1) := by decide +kernel
theorem d4_44 : decode prog_36_method_2_code 44 = .ok (.bipush 122, 2) := by decide +kernel
theorem d4_46 : decode prog_36_method_2_code 46 = .ok (.if_icmp .le 29, 3) := by decide +kernel
theorem d4_25 : decode prog_36_method_2_code 25 = .ok (.iload_n 2, 1) := by decide +kernel
theorem d4_26 : decode prog_36_method_2_code 26 = .ok (.bipush 65, 2) := by decide +kernel
theorem d4_28 : decode prog_36_method_2_code 28 = .ok (.if_icmp .lt 9, 3) := by decide +kernel
theorem d4_31 : decode prog_36_method_2_code 31 = .ok (.iload_n 2, 1) := by decide +kernel
theorem d4_32 : decode prog_36_method_2_code 32 = .ok (.bipush 90, 2) := by decide +kernel
theorem d4_34 : decode prog_36_method_2_code 34 = .ok (.if_icmp .le 41, 3) := by decide +kernel
def own_is1Q (Z : State) (x0 : Addr) (zc : Int32) (fmt : Value) (t : Addr) (kb : ClassId) (cd : Int32) (zz : Int32) (vl : List Value) (c0 : Int32) (h0 : Heap) (n0 : Nat) (v : Option Value) (h : Heap) (L : List Loc) : Prop := v = some (.int (if own_ok c0 then (1 : Int32) else 0)) ∧ Fr n0 L ∧ h = h0
abbrev own_is1R : Room := { frames := 5, cells := 0, slots := 0, locals := 66 }
theorem own_is1 (l : Launch) (Z : State) (a0 : Array Value) (hw : ∀ d ∈ tables_1, d.before a0 Z = true) (ws : List Jvm.Cond) (x0 : Addr) (zc : Int32) (fmt : Value) (t : Addr) (kb : ClassId) (cd : Int32) (zz : Int32) (vl : List Value) (c0 : Int32) (h0 : Heap) (n0 : Nat) (Z0 : n0 ≤ h0.size) (pr1 : Old Z n0 h0) (pr2 : Sta Z Z.heap "java/lang/String" "COMPACT_STRINGS" "Z" (.int zc)) (pr3 : ¬ zc = 0) (pr4 : Sta Z Z.heap "jdk/internal/util/Preconditions" "SIOOBE_FORMATTER" "Ljava/util/function/BiFunction;" fmt) (pr5 : fmt.isRef = true) (pr6 : Sta Z Z.heap "java/lang/StringUTF16" "$assertionsDisabled" "Z" (.int 1)) (pr7 : Sta Z Z.heap "java/lang/StringUTF16" "HI_BYTE_SHIFT" "I" (.int 0)) (pr8 : Sta Z Z.heap "java/lang/StringUTF16" "LO_BYTE_SHIFT" "I" (.int 8)) (pr9 : Exa Z h0 x0 "java/lang/String") (pr10 : Fld Z h0 x0 "java/lang/String" "coder" "B" (.int cd)) (pr11 : Fld Z h0 x0 "java/lang/String" "value" "[B" (.ref t)) (pr12 : Arv Z h0 t kb .byte zz vl (.int 0)) (pr13 : (cd = 0 ∧ zz = 1 ∧ vl = [(.int c0.toInt8.toInt32)] ∧ ¬ (255 : Int32) < c0) ∨ (cd = 1 ∧ zz = 2 ∧ vl = [(.int (own_lo c0)), (.int (own_hi c0))])) (pr14 : own_c16 c0) :
    own_M l yN10 prog_36_method_2_code 3 (some .boolean) ws own_is1R #[(.ref x0)] Z h0 (own_is1Q Z x0 zc fmt t kb cd zz vl c0 h0 n0) := by
  refine own_go (plainFor_of_name own_pn5) (fun m => own_ef6 m x0 ) ?_
  intro p e s m below meth c s₁ Bd hx hby hml hZ hh hown hnm X0 e0
  have N0 := Fr.nil n0
  refine own_st (T' := s₁) (g' := (mkF m 1 #[.val (.ref x0), .unset, .unset] [(.ref x0)])) (fun _ kt => XS.aloadN X0.here hx rfl (hb hby d4_0) rfl rfl kt) ?_
  obtain ⟨cq51, kq51, qa51, qb51, qc51⟩ := isOf hZ e0 pr9
  obtain ⟨_, _, ⟨T50, L50, k50, n50⟩, -, X50, ⟨Lc50, hQ50, l50, y50, z50⟩, st50⟩ := X0.virtualBack hx (y := yN7) (z := yN7) hown (mvT hZ (own_k hw 28 rfl)) (mvT hZ (own_k hw 29 rfl)) (notFace_of_selects (args := #[]) (mvT hZ (own_k hw 31 rfl))) (mvT hZ (own_k hw 31 rfl)) (mvT hZ (own_k hw 30 rfl)) (by decide) (backOf (W := 0) (own_em l Z a0 hw [] x0 t kb zz vl h0 n0 Z0 pr11 pr12 (show ¬ zz = 0 from (by rcases pr13 with ⟨-, rfl, -⟩ | ⟨-, rfl, -⟩ <;> decide))) hZ (own_k hw 32 rfl) (own_k hw 4 rfl) (by decide) (by decide)) qa51 qc51 (g := (mkF m 1 #[.val (.ref x0), .unset, .unset] [(.ref x0)])) rfl hml.symm (Steps.refl _) (argsL := []) (rest := []) (lenOf own_pd6 rfl) rfl (own_w0 rfl rfl) (hb hby d4_1) (fun _ _ => ⟨rfl, e0, (by decide : 0 + 0 ≤ 0), (by decide : 0 + 0 ≤ 0)⟩)
  dsimp only [Pt.U, Pt.locs, Pt.cells, Pt.slots] at X50 l50 y50 z50 st50 hQ50
  subst l50 y50 z50
  obtain ⟨rfl, N50, e50⟩ := hQ50
  have N52 := Fr.app N0 N50
  refine own_tr (T' := T50) (g' := (mkF m 4 #[.val (.ref x0), .unset, .unset] [(.int 0)])) st50 ?_
  refine own_st (T' := T50) (g' := (mkF m 13 #[.val (.ref x0), .val (.int 0), .unset] [(.ref x0), (.int 0)])) (fun _ kt => XS.ifYes X50.here hx rfl (pc0 := 4) (pc' := 9) rfl (hb hby d4_4) rfl (XT.i0_eq_t (by decide)) (by decide) (by decide) (XS.iconst X50.here hx rfl (hb hby d4_9) (XS.istoreN X50.here hx rfl (hb hby d4_10) rfl (l' := #[.val (.ref x0), .val (.int 0), .unset]) rfl (XS.iloadN X50.here hx rfl (hb hby d4_11) rfl (XS.aloadN X50.here hx rfl (hb hby d4_12) rfl rfl kt))))) ?_
  obtain ⟨cq54, kq54, qa54, qb54, qc54⟩ := isOf hZ e50 pr9
  obtain ⟨_, _, ⟨T53, L53, k53, n53⟩, -, X53, ⟨Lc53, hQ53, l53, y53, z53⟩, st53⟩ := X50.virtualBack hx (y := yN0) (z := yN0) hown (mvT hZ (own_k hw 48 rfl)) (mvT hZ (own_k hw 49 rfl)) (notFace_of_selects (args := #[]) (mvT hZ (own_k hw 51 rfl))) (mvT hZ (own_k hw 51 rfl)) (mvT hZ (own_k hw 50 rfl)) (by decide) (backOf (W := 1) (own_sl l Z a0 hw [] x0 zc fmt t kb cd zz vl (1 : Int32) h0 n0 Z0 pr1 pr2 pr3 pr4 pr5 pr6 pr7 pr8 pr9 pr10 pr11 pr12 (show own_ln cd zz (1 : Int32) from (by rcases pr13 with ⟨rfl, rfl, -⟩ | ⟨rfl, rfl, -⟩; exact Or.inl ⟨rfl, rfl⟩; exact Or.inr ⟨rfl, by decide⟩))) hZ (own_k hw 52 rfl) (own_k hw 4 rfl) (by decide) (by decide)) qa54 qc54 (g := (mkF m 13 #[.val (.ref x0), .val (.int 0), .unset] [(.ref x0), (.int 0)])) rfl hml.symm (Steps.refl _) (argsL := []) (rest := [(.int 0)]) (lenOf own_pd8 rfl) rfl (own_w0 rfl rfl) (hb hby d4_13) (fun _ _ => ⟨rfl, e50, (by decide : 0 + 0 ≤ 0), (by decide : 0 + 0 ≤ 0)⟩)
  dsimp only [Pt.U, Pt.locs, Pt.cells, Pt.slots] at X53 l53 y53 z53 st53 hQ53
  subst l53 y53 z53
  obtain ⟨rfl, N53, e53⟩ := hQ53
  have N55 := Fr.app N52 N53
  refine own_tr (T' := T53) (g' := (mkF m 16 #[.val (.ref x0), .val (.int 0), .unset] [(.int 1), (.int 0)])) st53 ?_
  refine own_st (T' := T53) (g' := (mkF m 21 #[.val (.ref x0), .val (.int 0), .unset] [(.int 0), (.ref x0)])) (fun _ kt => XS.icmpNo X53.here hx rfl (hb hby d4_16) rfl (XT.ii_ge_f (by decide)) (XS.aloadN X53.here hx rfl (hb hby d4_19) rfl rfl (XS.iloadN X53.here hx rfl (hb hby d4_20) rfl kt))) ?_
  obtain ⟨cq57, kq57, qa57, qb57, qc57⟩ := isOf hZ e53 pr9
  obtain ⟨_, _, ⟨T56, L56, k56, n56⟩, -, X56, ⟨Lc56, hQ56, l56, y56, z56⟩, st56⟩ := X53.virtualBack hx (y := yN4) (z := yN4) hown (mvT hZ (own_k hw 58 rfl)) (mvT hZ (own_k hw 59 rfl)) (notFace_of_selects (args := #[]) (mvT hZ (own_k hw 61 rfl))) (mvT hZ (own_k hw 61 rfl)) (mvT hZ (own_k hw 60 rfl)) (by decide) (backOf (W := 0) (own_ca l Z a0 hw [] x0 (0 : Int32) zc fmt t kb cd zz vl c0 h0 n0 Z0 pr1 pr2 pr3 pr4 pr5 pr6 pr7 pr8 pr9 pr10 pr11 pr12 (show own_at cd zz vl (0 : Int32) c0 from (by rcases pr13 with ⟨rfl, rfl, rfl, hl0⟩ | ⟨rfl, rfl, rfl⟩; exact Or.inl ⟨rfl, by decide, rfl, hl0⟩; exact Or.inr ⟨rfl, by decide, by decide, rfl, by decide, rfl⟩)) pr14) hZ (own_k hw 62 rfl) (own_k hw 4 rfl) (by decide) (by decide)) qa57 qc57 (g := (mkF m 21 #[.val (.ref x0), .val (.int 0), .unset] [(.int 0), (.ref x0)])) rfl hml.symm (Steps.refl _) (argsL := [(.int 0)]) (rest := []) (lenOf own_pd9 rfl) rfl (own_w0 rfl rfl) (hb hby d4_21) (fun _ _ => ⟨rfl, e53, (by decide : 0 + 0 ≤ 0), (by decide : 0 + 0 ≤ 0)⟩)
  dsimp only [Pt.U, Pt.locs, Pt.cells, Pt.slots] at X56 l56 y56 z56 st56 hQ56
  subst l56 y56 z56
  obtain ⟨rfl, N56, e56⟩ := hQ56
  have N58 := Fr.app N55 N56
  refine own_tr (T' := T56) (g' := (mkF m 24 #[.val (.ref x0), .val (.int 0), .unset] [(.int c0)])) st56 ?_
  refine own_st (T' := T56) (g' := (mkF m 25 #[.val (.ref x0), .val (.int 0), .val (.int c0)] [])) (fun _ kt => XS.istoreN X56.here hx rfl (hb hby d4_24) rfl (l' := #[.val (.ref x0), .val (.int 0), .val (.int c0)]) rfl kt) ?_
  refine own_join (α := Unit) (gj := fun q => (mkF m 75 #[.val (.ref x0), .val (.int 0), .val (.int c0)] [])) (P := fun q => own_ok c0) ?_ (fun J59 => ?_)
  · rintro _ hj59
    try dsimp only at hj59 ⊢
    refine own_st (T' := T56) (g' := (mkF m 13 #[.val (.ref x0), .val (.int 1), .val (.int c0)] [(.ref x0), (.int 1)])) (fun _ kt => XS.iinc X56.here hx rfl (hb hby d4_75) rfl (l' := #[.val (.ref x0), .val (.int 1), .val (.int c0)]) rfl (XS.goto X56.here hx rfl (pc0 := 78) (pc' := 11) rfl (hb hby d4_78) (by decide) (by decide) (XS.iloadN X56.here hx rfl (hb hby d4_11) rfl (XS.aloadN X56.here hx rfl (hb hby d4_12) rfl rfl kt)))) ?_
    obtain ⟨cq61, kq61, qa61, qb61, qc61⟩ := isOf hZ e56 pr9
    obtain ⟨_, _, ⟨T60, L60, k60, n60⟩, -, X60, ⟨Lc60, hQ60, l60, y60, z60⟩, st60⟩ := X56.virtualBack hx (y := yN0) (z := yN0) hown (mvT hZ (own_k hw 48 rfl)) (mvT hZ (own_k hw 49 rfl)) (notFace_of_selects (args := #[]) (mvT hZ (own_k hw 51 rfl))) (mvT hZ (own_k hw 51 rfl)) (mvT hZ (own_k hw 50 rfl)) (by decide) (backOf (W := 1) (own_sl l Z a0 hw [] x0 zc fmt t kb cd zz vl (1 : Int32) h0 n0 Z0 pr1 pr2 pr3 pr4 pr5 pr6 pr7 pr8 pr9 pr10 pr11 pr12 (show own_ln cd zz (1 : Int32) from (by rcases pr13 with ⟨rfl, rfl, -⟩ | ⟨rfl, rfl, -⟩; exact Or.inl ⟨rfl, rfl⟩; exact Or.inr ⟨rfl, by decide⟩))) hZ (own_k hw 52 rfl) (own_k hw 4 rfl) (by decide) (by decide)) qa61 qc61 (g := (mkF m 13 #[.val (.ref x0), .val (.int 1), .val (.int c0)] [(.ref x0), (.int 1)])) rfl hml.symm (Steps.refl _) (argsL := []) (rest := [(.int 1)]) (lenOf own_pd8 rfl) rfl (own_w0 rfl rfl) (hb hby d4_13) (fun _ _ => ⟨rfl, e56, (by decide : 0 + 0 ≤ 0), (by decide : 0 + 0 ≤ 0)⟩)
    dsimp only [Pt.U, Pt.locs, Pt.cells, Pt.slots] at X60 l60 y60 z60 st60 hQ60
    subst l60 y60 z60
    obtain ⟨rfl, N60, e60⟩ := hQ60
    have N62 := Fr.app N58 N60
    refine own_tr (T' := T60) (g' := (mkF m 16 #[.val (.ref x0), .val (.int 1), .val (.int c0)] [(.int 1), (.int 1)])) st60 ?_
    refine own_st (T' := T60) (g' := (mkF m 82 #[.val (.ref x0), .val (.int 1), .val (.int c0)] [(.int 1)])) (fun _ kt => XS.icmpYes X60.here hx rfl (pc0 := 16) (pc' := 81) rfl (hb hby d4_16) rfl (XT.ii_ge_t (by decide)) (by decide) (by decide) (XS.iconst X60.here hx rfl (hb hby d4_81) kt)) ?_
    obtain ⟨fs, hr, hrun, hended, hW, hsame⟩ := X60.leave (v := some (.int 1)) (fun h => by rw [Bd.returns] at h; cases h)
    refine own_end (retN X60 hx (t := .boolean) Bd.returns (by simp) (hb hby d4_82) hr) ⟨_, hrun, hended, _, _, rfl, ?_, ⟨_, rfl⟩, hW, hsame.mono (by decide) (by decide)⟩
    show own_is1Q Z _ _ _ _ _ _ _ _ _ h0 n0 _ T60.heap _
    rw [e60]
    exact ⟨(by rw [if_pos hj59]), N62, rfl⟩
  ·
    refine own_join (α := Unit) (gj := fun q => (mkF m 37 #[.val (.ref x0), .val (.int 0), .val (.int c0)] [])) (P := fun q => ¬ (¬ c0 < 65 ∧ ¬ (90 : Int32) < c0)) ?_ (fun J63 => ?_)
    · rintro _ hj63
      try dsimp only at hj63 ⊢
      refine own_join (α := Unit) (gj := fun q => (mkF m 49 #[.val (.ref x0), .val (.int 0), .val (.int c0)] [])) (P := fun q => ¬ (¬ c0 < 97 ∧ ¬ (122 : Int32) < c0)) ?_ (fun J64 => ?_)
      · rintro _ hj64
        try dsimp only at hj64 ⊢
        refine own_join (α := Unit) (gj := fun q => (mkF m 61 #[.val (.ref x0), .val (.int 0), .val (.int c0)] [])) (P := fun q => ¬ (¬ c0 < 48 ∧ ¬ (57 : Int32) < c0)) ?_ (fun J65 => ?_)
        · rintro _ hj65
          try dsimp only at hj65 ⊢
          refine own_st (T' := T56) (g' := (mkF m 64 #[.val (.ref x0), .val (.int 0), .val (.int c0)] [(.int 95), (.int c0)])) (fun _ kt => XS.iloadN X56.here hx rfl (hb hby d4_61) rfl (XS.bipush X56.here hx rfl (hb hby d4_62) kt)) ?_
          by_cases hc66 : c0 = (95 : Int32)
          ·
            refine own_st (T' := T56) (g' := (mkF m 75 #[.val (.ref x0), .val (.int 0), .val (.int c0)] [])) (fun _ kt => XS.icmpYes X56.here hx rfl (pc0 := 64) (pc' := 75) rfl (hb hby d4_64) rfl (XT.ii_eq_t hc66) (by decide) (by decide) kt) ?_
            exact J59 () (by unfold own_ok; revert hj63 hj64 hj65 hc66; simp only [Int32.lt_iff_toInt_lt, Int64.lt_iff_toInt_lt, ← Int32.toInt_inj, ← Int64.toInt_inj, Int32.toInt_toInt64, own_t0, own_t9, own_t45, own_t48, own_t57, own_t65, own_t90, own_t95, own_t97, own_t122, own_t255]; intros; omega)
          ·
            refine own_st (T' := T56) (g' := (mkF m 70 #[.val (.ref x0), .val (.int 0), .val (.int c0)] [(.int 45), (.int c0)])) (fun _ kt => XS.icmpNo X56.here hx rfl (hb hby d4_64) rfl (XT.ii_eq_f hc66) (XS.iloadN X56.here hx rfl (hb hby d4_67) rfl (XS.bipush X56.here hx rfl (hb hby d4_68) kt))) ?_
            by_cases hc67 : c0 = (45 : Int32)
            ·
              refine own_st (T' := T56) (g' := (mkF m 75 #[.val (.ref x0), .val (.int 0), .val (.int c0)] [])) (fun _ kt => XS.icmpYes X56.here hx rfl (pc0 := 70) (pc' := 75) rfl (hb hby d4_70) rfl (XT.ii_eq_t hc67) (by decide) (by decide) kt) ?_
              exact J59 () (by unfold own_ok; revert hj63 hj64 hj65 hc66 hc67; simp only [Int32.lt_iff_toInt_lt, Int64.lt_iff_toInt_lt, ← Int32.toInt_inj, ← Int64.toInt_inj, Int32.toInt_toInt64, own_t0, own_t9, own_t45, own_t48, own_t57, own_t65, own_t90, own_t95, own_t97, own_t122, own_t255]; intros; omega)
            ·
              refine own_st (T' := T56) (g' := (mkF m 74 #[.val (.ref x0), .val (.int 0), .val (.int c0)] [(.int 0)])) (fun _ kt => XS.icmpNo X56.here hx rfl (hb hby d4_70) rfl (XT.ii_eq_f hc67) (XS.iconst X56.here hx rfl (hb hby d4_73) kt)) ?_
              obtain ⟨fs, hr, hrun, hended, hW, hsame⟩ := X56.leave (v := some (.int 0)) (fun h => by rw [Bd.returns] at h; cases h)
              refine own_end (retN X56 hx (t := .boolean) Bd.returns (by simp) (hb hby d4_74) hr) ⟨_, hrun, hended, _, _, rfl, ?_, ⟨_, rfl⟩, hW, hsame.mono (by decide) (by decide)⟩
              show own_is1Q Z _ _ _ _ _ _ _ _ _ h0 n0 _ T56.heap _
              rw [e56]
              exact ⟨(by rw [if_neg (fun q => (show ¬ own_ok c0 from (by unfold own_ok; revert hj63 hj64 hj65 hc66 hc67; simp only [Int32.lt_iff_toInt_lt, Int64.lt_iff_toInt_lt, ← Int32.toInt_inj, ← Int64.toInt_inj, Int32.toInt_toInt64, own_t0, own_t9, own_t45, own_t48, own_t57, own_t65, own_t90, own_t95, own_t97, own_t122, own_t255]; intros; omega)) q)]), N58, rfl⟩
        ·
          refine own_st (T' := T56) (g' := (mkF m 52 #[.val (.ref x0), .val (.int 0), .val (.int c0)] [(.int 48), (.int c0)])) (fun _ kt => XS.iloadN X56.here hx rfl (hb hby d4_49) rfl (XS.bipush X56.here hx rfl (hb hby d4_50) kt)) ?_
          by_cases hc68 : c0 < (48 : Int32)
          ·
            refine own_st (T' := T56) (g' := (mkF m 61 #[.val (.ref x0), .val (.int 0), .val (.int c0)] [])) (fun _ kt => XS.icmpYes X56.here hx rfl (pc0 := 52) (pc' := 61) rfl (hb hby d4_52) rfl (XT.ii_lt_t hc68) (by decide) (by decide) kt) ?_
            exact J65 () (by revert hc68; simp only [Int32.lt_iff_toInt_lt, Int64.lt_iff_toInt_lt, ← Int32.toInt_inj, ← Int64.toInt_inj, Int32.toInt_toInt64, own_t0, own_t9, own_t45, own_t48, own_t57, own_t65, own_t90, own_t95, own_t97, own_t122, own_t255]; intros; omega)
          ·
            refine own_st (T' := T56) (g' := (mkF m 58 #[.val (.ref x0), .val (.int 0), .val (.int c0)] [(.int 57), (.int c0)])) (fun _ kt => XS.icmpNo X56.here hx rfl (hb hby d4_52) rfl (XT.ii_lt_f hc68) (XS.iloadN X56.here hx rfl (hb hby d4_55) rfl (XS.bipush X56.here hx rfl (hb hby d4_56) kt))) ?_
            by_cases hc69 : (57 : Int32) < c0
            ·
              refine own_st (T' := T56) (g' := (mkF m 61 #[.val (.ref x0), .val (.int 0), .val (.int c0)] [])) (fun _ kt => XS.icmpNo X56.here hx rfl (hb hby d4_58) rfl (XT.ii_le_f hc69) kt) ?_
              exact J65 () (by revert hc68 hc69; simp only [Int32.lt_iff_toInt_lt, Int64.lt_iff_toInt_lt, ← Int32.toInt_inj, ← Int64.toInt_inj, Int32.toInt_toInt64, own_t0, own_t9, own_t45, own_t48, own_t57, own_t65, own_t90, own_t95, own_t97, own_t122, own_t255]; intros; omega)
            ·
              refine own_st (T' := T56) (g' := (mkF m 75 #[.val (.ref x0), .val (.int 0), .val (.int c0)] [])) (fun _ kt => XS.icmpYes X56.here hx rfl (pc0 := 58) (pc' := 75) rfl (hb hby d4_58) rfl (XT.ii_le_t hc69) (by decide) (by decide) kt) ?_
              exact J59 () (by unfold own_ok; revert hj63 hj64 hc68 hc69; simp only [Int32.lt_iff_toInt_lt, Int64.lt_iff_toInt_lt, ← Int32.toInt_inj, ← Int64.toInt_inj, Int32.toInt_toInt64, own_t0, own_t9, own_t45, own_t48, own_t57, own_t65, own_t90, own_t95, own_t97, own_t122, own_t255]; intros; omega)
      ·
        refine own_st (T' := T56) (g' := (mkF m 40 #[.val (.ref x0), .val (.int 0), .val (.int c0)] [(.int 97), (.int c0)])) (fun _ kt => XS.iloadN X56.here hx rfl (hb hby d4_37) rfl (XS.bipush X56.here hx rfl (hb hby d4_38) kt)) ?_
        by_cases hc70 : c0 < (97 : Int32)
        ·
          refine own_st (T' := T56) (g' := (mkF m 49 #[.val (.ref x0), .val (.int 0), .val (.int c0)] [])) (fun _ kt => XS.icmpYes X56.here hx rfl (pc0 := 40) (pc' := 49) rfl (hb hby d4_40) rfl (XT.ii_lt_t hc70) (by decide) (by decide) kt) ?_
          exact J64 () (by revert hc70; simp only [Int32.lt_iff_toInt_lt, Int64.lt_iff_toInt_lt, ← Int32.toInt_inj, ← Int64.toInt_inj, Int32.toInt_toInt64, own_t0, own_t9, own_t45, own_t48, own_t57, own_t65, own_t90, own_t95, own_t97, own_t122, own_t255]; intros; omega)
        ·
          refine own_st (T' := T56) (g' := (mkF m 46 #[.val (.ref x0), .val (.int 0), .val (.int c0)] [(.int 122), (.int c0)])) (fun _ kt => XS.icmpNo X56.here hx rfl (hb hby d4_40) rfl (XT.ii_lt_f hc70) (XS.iloadN X56.here hx rfl (hb hby d4_43) rfl (XS.bipush X56.here hx rfl (hb hby d4_44) kt))) ?_
          by_cases hc71 : (122 : Int32) < c0
          ·
            refine own_st (T' := T56) (g' := (mkF m 49 #[.val (.ref x0), .val (.int 0), .val (.int c0)] [])) (fun _ kt => XS.icmpNo X56.here hx rfl (hb hby d4_46) rfl (XT.ii_le_f hc71) kt) ?_
            exact J64 () (by revert hc70 hc71; simp only [Int32.lt_iff_toInt_lt, Int64.lt_iff_toInt_lt, ← Int32.toInt_inj, ← Int64.toInt_inj, Int32.toInt_toInt64, own_t0, own_t9, own_t45, own_t48, own_t57, own_t65, own_t90, own_t95, own_t97, own_t122, own_t255]; intros; omega)
          ·
            refine own_st (T' := T56) (g' := (mkF m 75 #[.val (.ref x0), .val (.int 0), .val (.int c0)] [])) (fun _ kt => XS.icmpYes X56.here hx rfl (pc0 := 46) (pc' := 75) rfl (hb hby d4_46) rfl (XT.ii_le_t hc71) (by decide) (by decide) kt) ?_
            exact J59 () (by unfold own_ok; revert hj63 hc70 hc71; simp only [Int32.lt_iff_toInt_lt, Int64.lt_iff_toInt_lt, ← Int32.toInt_inj, ← Int64.toInt_inj, Int32.toInt_toInt64, own_t0, own_t9, own_t45, own_t48, own_t57, own_t65, own_t90, own_t95, own_t97, own_t122, own_t255]; intros; omega)
    ·
      refine own_st (T' := T56) (g' := (mkF m 28 #[.val (.ref x0), .val (.int 0), .val (.int c0)] [(.int 65), (.int c0)])) (fun _ kt => XS.iloadN X56.here hx rfl (hb hby d4_25) rfl (XS.bipush X56.here hx rfl (hb hby d4_26) kt)) ?_
      by_cases hc72 : c0 < (65 : Int32)
      ·
        refine own_st (T' := T56) (g' := (mkF m 37 #[.val (.ref x0), .val (.int 0), .val (.int c0)] [])) (fun _ kt => XS.icmpYes X56.here hx rfl (pc0 := 28) (pc' := 37) rfl (hb hby d4_28) rfl (XT.ii_lt_t hc72) (by decide) (by decide) kt) ?_
        exact J63 () (by revert hc72; simp only [Int32.lt_iff_toInt_lt, Int64.lt_iff_toInt_lt, ← Int32.toInt_inj, ← Int64.toInt_inj, Int32.toInt_toInt64, own_t0, own_t9, own_t45, own_t48, own_t57, own_t65, own_t90, own_t95, own_t97, own_t122, own_t255]; intros; omega)
      ·
        refine own_st (T' := T56) (g' := (mkF m 34 #[.val (.ref x0), .val (.int 0), .val (.int c0)] [(.int 90), (.int c0)])) (fun _ kt => XS.icmpNo X56.here hx rfl (hb hby d4_28) rfl (XT.ii_lt_f hc72) (XS.iloadN X56.here hx rfl (hb hby d4_31) rfl (XS.bipush X56.here hx rfl (hb hby d4_32) kt))) ?_
        by_cases hc73 : (90 : Int32) < c0
        ·
          refine own_st (T' := T56) (g' := (mkF m 37 #[.val (.ref x0), .val (.int 0), .val (.int c0)] [])) (fun _ kt => XS.icmpNo X56.here hx rfl (hb hby d4_34) rfl (XT.ii_le_f hc73) kt) ?_
          exact J63 () (by revert hc72 hc73; simp only [Int32.lt_iff_toInt_lt, Int64.lt_iff_toInt_lt, ← Int32.toInt_inj, ← Int64.toInt_inj, Int32.toInt_toInt64, own_t0, own_t9, own_t45, own_t48, own_t57, own_t65, own_t90, own_t95, own_t97, own_t122, own_t255]; intros; omega)
        ·
          refine own_st (T' := T56) (g' := (mkF m 75 #[.val (.ref x0), .val (.int 0), .val (.int c0)] [])) (fun _ kt => XS.icmpYes X56.here hx rfl (pc0 := 34) (pc' := 75) rfl (hb hby d4_34) rfl (XT.ii_le_t hc73) (by decide) (by decide) kt) ?_
          exact J59 () (by unfold own_ok; revert hc72 hc73; simp only [Int32.lt_iff_toInt_lt, Int64.lt_iff_toInt_lt, ← Int32.toInt_inj, ← Int64.toInt_inj, Int32.toInt_toInt64, own_t0, own_t9, own_t45, own_t48, own_t57, own_t65, own_t90, own_t95, own_t97, own_t122, own_t255]; intros; omega)
def own_is2Q (Z : State) (x0 : Addr) (zc : Int32) (fmt : Value) (t : Addr) (kb : ClassId) (cd : Int32) (zz : Int32) (vl : List Value) (c0 : Int32) (c1 : Int32) (h0 : Heap) (n0 : Nat) (v : Option Value) (h : Heap) (L : List Loc) : Prop := v = some (.int (if own_ok c0 ∧ own_ok c1 then (1 : Int32) else 0)) ∧ Fr n0 L ∧ h = h0
abbrev own_is2R : Room := { frames := 5, cells := 0, slots := 0, locals := 66 }
theorem own_is2 (l : Launch) (Z : State) (a0 : Array Value) (hw : ∀ d ∈ tables_1, d.before a0 Z = true) (ws : List Jvm.Cond) (x0 : Addr) (zc : Int32) (fmt : Value) (t : Addr) (kb : ClassId) (cd : Int32) (zz : Int32) (vl : List Value) (c0 : Int32) (c1 : Int32) (h0 : Heap) (n0 : Nat) (Z0 : n0 ≤ h0.size) (pr1 : Old Z n0 h0) (pr2 : Sta Z Z.heap "java/lang/String" "COMPACT_STRINGS" "Z" (.int zc)) (pr3 : ¬ zc = 0) (pr4 : Sta Z Z.heap "jdk/internal/util/Preconditions" "SIOOBE_FORMATTER" "Ljava/util/function/BiFunction;" fmt) (pr5 : fmt.isRef = true) (pr6 : Sta Z Z.heap "java/lang/StringUTF16" "$assertionsDisabled" "Z" (.int 1)) (pr7 : Sta Z Z.heap "java/lang/StringUTF16" "HI_BYTE_SHIFT" "I" (.int 0)) (pr8 : Sta Z Z.heap "java/lang/StringUTF16" "LO_BYTE_SHIFT" "I" (.int 8)) (pr9 : Exa Z h0 x0 "java/lang/String") (pr10 : Fld Z h0 x0 "java/lang/String" "coder" "B" (.int cd)) (pr11 : Fld Z h0 x0 "java/lang/String" "value" "[B" (.ref t)) (pr12 : Arv Z h0 t kb .byte zz vl (.int 0)) (pr13 : (cd = 0 ∧ zz = 2 ∧ vl = [(.int c0.toInt8.toInt32), (.int c1.toInt8.toInt32)] ∧ ¬ (255 : Int32) < c0 ∧ ¬ (255 : Int32) < c1) ∨ (cd = 1 ∧ zz = 4 ∧ vl = [(.int (own_lo c0)), (.int (own_hi c0)), (.int (own_lo c1)), (.int (own_hi c1))])) (pr14 : own_c16 c0) (pr15 : own_c16 c1) :
    own_M l yN10 prog_36_method_2_code 3 (some .boolean) ws own_is2R #[(.ref x0)] Z h0 (own_is2Q Z x0 zc fmt t kb cd zz vl c0 c1 h0 n0) := by
  refine own_go (plainFor_of_name own_pn5) (fun m => own_ef6 m x0 ) ?_
  intro p e s m below meth c s₁ Bd hx hby hml hZ hh hown hnm X0 e0
  have N0 := Fr.nil n0
  refine own_st (T' := s₁) (g' := (mkF m 1 #[.val (.ref x0), .unset, .unset] [(.ref x0)])) (fun _ kt => XS.aloadN X0.here hx rfl (hb hby d4_0) rfl rfl kt) ?_
  obtain ⟨cq75, kq75, qa75, qb75, qc75⟩ := isOf hZ e0 pr9
  obtain ⟨_, _, ⟨T74, L74, k74, n74⟩, -, X74, ⟨Lc74, hQ74, l74, y74, z74⟩, st74⟩ := X0.virtualBack hx (y := yN7) (z := yN7) hown (mvT hZ (own_k hw 28 rfl)) (mvT hZ (own_k hw 29 rfl)) (notFace_of_selects (args := #[]) (mvT hZ (own_k hw 31 rfl))) (mvT hZ (own_k hw 31 rfl)) (mvT hZ (own_k hw 30 rfl)) (by decide) (backOf (W := 0) (own_em l Z a0 hw [] x0 t kb zz vl h0 n0 Z0 pr11 pr12 (show ¬ zz = 0 from (by rcases pr13 with ⟨-, rfl, -⟩ | ⟨-, rfl, -⟩ <;> decide))) hZ (own_k hw 32 rfl) (own_k hw 4 rfl) (by decide) (by decide)) qa75 qc75 (g := (mkF m 1 #[.val (.ref x0), .unset, .unset] [(.ref x0)])) rfl hml.symm (Steps.refl _) (argsL := []) (rest := []) (lenOf own_pd6 rfl) rfl (own_w0 rfl rfl) (hb hby d4_1) (fun _ _ => ⟨rfl, e0, (by decide : 0 + 0 ≤ 0), (by decide : 0 + 0 ≤ 0)⟩)
  dsimp only [Pt.U, Pt.locs, Pt.cells, Pt.slots] at X74 l74 y74 z74 st74 hQ74
  subst l74 y74 z74
  obtain ⟨rfl, N74, e74⟩ := hQ74
  have N76 := Fr.app N0 N74
  refine own_tr (T' := T74) (g' := (mkF m 4 #[.val (.ref x0), .unset, .unset] [(.int 0)])) st74 ?_
  refine own_st (T' := T74) (g' := (mkF m 13 #[.val (.ref x0), .val (.int 0), .unset] [(.ref x0), (.int 0)])) (fun _ kt => XS.ifYes X74.here hx rfl (pc0 := 4) (pc' := 9) rfl (hb hby d4_4) rfl (XT.i0_eq_t (by decide)) (by decide) (by decide) (XS.iconst X74.here hx rfl (hb hby d4_9) (XS.istoreN X74.here hx rfl (hb hby d4_10) rfl (l' := #[.val (.ref x0), .val (.int 0), .unset]) rfl (XS.iloadN X74.here hx rfl (hb hby d4_11) rfl (XS.aloadN X74.here hx rfl (hb hby d4_12) rfl rfl kt))))) ?_
  obtain ⟨cq78, kq78, qa78, qb78, qc78⟩ := isOf hZ e74 pr9
  obtain ⟨_, _, ⟨T77, L77, k77, n77⟩, -, X77, ⟨Lc77, hQ77, l77, y77, z77⟩, st77⟩ := X74.virtualBack hx (y := yN0) (z := yN0) hown (mvT hZ (own_k hw 48 rfl)) (mvT hZ (own_k hw 49 rfl)) (notFace_of_selects (args := #[]) (mvT hZ (own_k hw 51 rfl))) (mvT hZ (own_k hw 51 rfl)) (mvT hZ (own_k hw 50 rfl)) (by decide) (backOf (W := 1) (own_sl l Z a0 hw [] x0 zc fmt t kb cd zz vl (2 : Int32) h0 n0 Z0 pr1 pr2 pr3 pr4 pr5 pr6 pr7 pr8 pr9 pr10 pr11 pr12 (show own_ln cd zz (2 : Int32) from (by rcases pr13 with ⟨rfl, rfl, -⟩ | ⟨rfl, rfl, -⟩; exact Or.inl ⟨rfl, rfl⟩; exact Or.inr ⟨rfl, by decide⟩))) hZ (own_k hw 52 rfl) (own_k hw 4 rfl) (by decide) (by decide)) qa78 qc78 (g := (mkF m 13 #[.val (.ref x0), .val (.int 0), .unset] [(.ref x0), (.int 0)])) rfl hml.symm (Steps.refl _) (argsL := []) (rest := [(.int 0)]) (lenOf own_pd8 rfl) rfl (own_w0 rfl rfl) (hb hby d4_13) (fun _ _ => ⟨rfl, e74, (by decide : 0 + 0 ≤ 0), (by decide : 0 + 0 ≤ 0)⟩)
  dsimp only [Pt.U, Pt.locs, Pt.cells, Pt.slots] at X77 l77 y77 z77 st77 hQ77
  subst l77 y77 z77
  obtain ⟨rfl, N77, e77⟩ := hQ77
  have N79 := Fr.app N76 N77
  refine own_tr (T' := T77) (g' := (mkF m 16 #[.val (.ref x0), .val (.int 0), .unset] [(.int 2), (.int 0)])) st77 ?_
  refine own_st (T' := T77) (g' := (mkF m 21 #[.val (.ref x0), .val (.int 0), .unset] [(.int 0), (.ref x0)])) (fun _ kt => XS.icmpNo X77.here hx rfl (hb hby d4_16) rfl (XT.ii_ge_f (by decide)) (XS.aloadN X77.here hx rfl (hb hby d4_19) rfl rfl (XS.iloadN X77.here hx rfl (hb hby d4_20) rfl kt))) ?_
  obtain ⟨cq81, kq81, qa81, qb81, qc81⟩ := isOf hZ e77 pr9
  obtain ⟨_, _, ⟨T80, L80, k80, n80⟩, -, X80, ⟨Lc80, hQ80, l80, y80, z80⟩, st80⟩ := X77.virtualBack hx (y := yN4) (z := yN4) hown (mvT hZ (own_k hw 58 rfl)) (mvT hZ (own_k hw 59 rfl)) (notFace_of_selects (args := #[]) (mvT hZ (own_k hw 61 rfl))) (mvT hZ (own_k hw 61 rfl)) (mvT hZ (own_k hw 60 rfl)) (by decide) (backOf (W := 0) (own_ca l Z a0 hw [] x0 (0 : Int32) zc fmt t kb cd zz vl c0 h0 n0 Z0 pr1 pr2 pr3 pr4 pr5 pr6 pr7 pr8 pr9 pr10 pr11 pr12 (show own_at cd zz vl (0 : Int32) c0 from (by rcases pr13 with ⟨rfl, rfl, rfl, hl0, hl1⟩ | ⟨rfl, rfl, rfl⟩; exact Or.inl ⟨rfl, by decide, rfl, hl0⟩; exact Or.inr ⟨rfl, by decide, by decide, rfl, by decide, rfl⟩)) pr14) hZ (own_k hw 62 rfl) (own_k hw 4 rfl) (by decide) (by decide)) qa81 qc81 (g := (mkF m 21 #[.val (.ref x0), .val (.int 0), .unset] [(.int 0), (.ref x0)])) rfl hml.symm (Steps.refl _) (argsL := [(.int 0)]) (rest := []) (lenOf own_pd9 rfl) rfl (own_w0 rfl rfl) (hb hby d4_21) (fun _ _ => ⟨rfl, e77, (by decide : 0 + 0 ≤ 0), (by decide : 0 + 0 ≤ 0)⟩)
  dsimp only [Pt.U, Pt.locs, Pt.cells, Pt.slots] at X80 l80 y80 z80 st80 hQ80
  subst l80 y80 z80
  obtain ⟨rfl, N80, e80⟩ := hQ80
  have N82 := Fr.app N79 N80
  refine own_tr (T' := T80) (g' := (mkF m 24 #[.val (.ref x0), .val (.int 0), .unset] [(.int c0)])) st80 ?_
  refine own_st (T' := T80) (g' := (mkF m 25 #[.val (.ref x0), .val (.int 0), .val (.int c0)] [])) (fun _ kt => XS.istoreN X80.here hx rfl (hb hby d4_24) rfl (l' := #[.val (.ref x0), .val (.int 0), .val (.int c0)]) rfl kt) ?_
  refine own_join (α := Unit) (gj := fun q => (mkF m 75 #[.val (.ref x0), .val (.int 0), .val (.int c0)] [])) (P := fun q => own_ok c0) ?_ (fun J83 => ?_)
  · rintro _ hj83
    try dsimp only at hj83 ⊢
    refine own_st (T' := T80) (g' := (mkF m 13 #[.val (.ref x0), .val (.int 1), .val (.int c0)] [(.ref x0), (.int 1)])) (fun _ kt => XS.iinc X80.here hx rfl (hb hby d4_75) rfl (l' := #[.val (.ref x0), .val (.int 1), .val (.int c0)]) rfl (XS.goto X80.here hx rfl (pc0 := 78) (pc' := 11) rfl (hb hby d4_78) (by decide) (by decide) (XS.iloadN X80.here hx rfl (hb hby d4_11) rfl (XS.aloadN X80.here hx rfl (hb hby d4_12) rfl rfl kt)))) ?_
    obtain ⟨cq85, kq85, qa85, qb85, qc85⟩ := isOf hZ e80 pr9
    obtain ⟨_, _, ⟨T84, L84, k84, n84⟩, -, X84, ⟨Lc84, hQ84, l84, y84, z84⟩, st84⟩ := X80.virtualBack hx (y := yN0) (z := yN0) hown (mvT hZ (own_k hw 48 rfl)) (mvT hZ (own_k hw 49 rfl)) (notFace_of_selects (args := #[]) (mvT hZ (own_k hw 51 rfl))) (mvT hZ (own_k hw 51 rfl)) (mvT hZ (own_k hw 50 rfl)) (by decide) (backOf (W := 1) (own_sl l Z a0 hw [] x0 zc fmt t kb cd zz vl (2 : Int32) h0 n0 Z0 pr1 pr2 pr3 pr4 pr5 pr6 pr7 pr8 pr9 pr10 pr11 pr12 (show own_ln cd zz (2 : Int32) from (by rcases pr13 with ⟨rfl, rfl, -⟩ | ⟨rfl, rfl, -⟩; exact Or.inl ⟨rfl, rfl⟩; exact Or.inr ⟨rfl, by decide⟩))) hZ (own_k hw 52 rfl) (own_k hw 4 rfl) (by decide) (by decide)) qa85 qc85 (g := (mkF m 13 #[.val (.ref x0), .val (.int 1), .val (.int c0)] [(.ref x0), (.int 1)])) rfl hml.symm (Steps.refl _) (argsL := []) (rest := [(.int 1)]) (lenOf own_pd8 rfl) rfl (own_w0 rfl rfl) (hb hby d4_13) (fun _ _ => ⟨rfl, e80, (by decide : 0 + 0 ≤ 0), (by decide : 0 + 0 ≤ 0)⟩)
    dsimp only [Pt.U, Pt.locs, Pt.cells, Pt.slots] at X84 l84 y84 z84 st84 hQ84
    subst l84 y84 z84
    obtain ⟨rfl, N84, e84⟩ := hQ84
    have N86 := Fr.app N82 N84
    refine own_tr (T' := T84) (g' := (mkF m 16 #[.val (.ref x0), .val (.int 1), .val (.int c0)] [(.int 2), (.int 1)])) st84 ?_
    refine own_st (T' := T84) (g' := (mkF m 21 #[.val (.ref x0), .val (.int 1), .val (.int c0)] [(.int 1), (.ref x0)])) (fun _ kt => XS.icmpNo X84.here hx rfl (hb hby d4_16) rfl (XT.ii_ge_f (by decide)) (XS.aloadN X84.here hx rfl (hb hby d4_19) rfl rfl (XS.iloadN X84.here hx rfl (hb hby d4_20) rfl kt))) ?_
    obtain ⟨cq88, kq88, qa88, qb88, qc88⟩ := isOf hZ e84 pr9
    obtain ⟨_, _, ⟨T87, L87, k87, n87⟩, -, X87, ⟨Lc87, hQ87, l87, y87, z87⟩, st87⟩ := X84.virtualBack hx (y := yN4) (z := yN4) hown (mvT hZ (own_k hw 58 rfl)) (mvT hZ (own_k hw 59 rfl)) (notFace_of_selects (args := #[]) (mvT hZ (own_k hw 61 rfl))) (mvT hZ (own_k hw 61 rfl)) (mvT hZ (own_k hw 60 rfl)) (by decide) (backOf (W := 0) (own_ca l Z a0 hw [] x0 (1 : Int32) zc fmt t kb cd zz vl c1 h0 n0 Z0 pr1 pr2 pr3 pr4 pr5 pr6 pr7 pr8 pr9 pr10 pr11 pr12 (show own_at cd zz vl (1 : Int32) c1 from (by rcases pr13 with ⟨rfl, rfl, rfl, hl0, hl1⟩ | ⟨rfl, rfl, rfl⟩; exact Or.inl ⟨rfl, by decide, rfl, hl1⟩; exact Or.inr ⟨rfl, by decide, by decide, rfl, by decide, rfl⟩)) pr15) hZ (own_k hw 62 rfl) (own_k hw 4 rfl) (by decide) (by decide)) qa88 qc88 (g := (mkF m 21 #[.val (.ref x0), .val (.int 1), .val (.int c0)] [(.int 1), (.ref x0)])) rfl hml.symm (Steps.refl _) (argsL := [(.int 1)]) (rest := []) (lenOf own_pd9 rfl) rfl (own_w0 rfl rfl) (hb hby d4_21) (fun _ _ => ⟨rfl, e84, (by decide : 0 + 0 ≤ 0), (by decide : 0 + 0 ≤ 0)⟩)
    dsimp only [Pt.U, Pt.locs, Pt.cells, Pt.slots] at X87 l87 y87 z87 st87 hQ87
    subst l87 y87 z87
    obtain ⟨rfl, N87, e87⟩ := hQ87
    have N89 := Fr.app N86 N87
    refine own_tr (T' := T87) (g' := (mkF m 24 #[.val (.ref x0), .val (.int 1), .val (.int c0)] [(.int c1)])) st87 ?_
    refine own_st (T' := T87) (g' := (mkF m 25 #[.val (.ref x0), .val (.int 1), .val (.int c1)] [])) (fun _ kt => XS.istoreN X87.here hx rfl (hb hby d4_24) rfl (l' := #[.val (.ref x0), .val (.int 1), .val (.int c1)]) rfl kt) ?_
    refine own_join (α := Unit) (gj := fun q => (mkF m 75 #[.val (.ref x0), .val (.int 1), .val (.int c1)] [])) (P := fun q => own_ok c1) ?_ (fun J90 => ?_)
    · rintro _ hj90
      try dsimp only at hj90 ⊢
      refine own_st (T' := T87) (g' := (mkF m 13 #[.val (.ref x0), .val (.int 2), .val (.int c1)] [(.ref x0), (.int 2)])) (fun _ kt => XS.iinc X87.here hx rfl (hb hby d4_75) rfl (l' := #[.val (.ref x0), .val (.int 2), .val (.int c1)]) rfl (XS.goto X87.here hx rfl (pc0 := 78) (pc' := 11) rfl (hb hby d4_78) (by decide) (by decide) (XS.iloadN X87.here hx rfl (hb hby d4_11) rfl (XS.aloadN X87.here hx rfl (hb hby d4_12) rfl rfl kt)))) ?_
      obtain ⟨cq92, kq92, qa92, qb92, qc92⟩ := isOf hZ e87 pr9
      obtain ⟨_, _, ⟨T91, L91, k91, n91⟩, -, X91, ⟨Lc91, hQ91, l91, y91, z91⟩, st91⟩ := X87.virtualBack hx (y := yN0) (z := yN0) hown (mvT hZ (own_k hw 48 rfl)) (mvT hZ (own_k hw 49 rfl)) (notFace_of_selects (args := #[]) (mvT hZ (own_k hw 51 rfl))) (mvT hZ (own_k hw 51 rfl)) (mvT hZ (own_k hw 50 rfl)) (by decide) (backOf (W := 1) (own_sl l Z a0 hw [] x0 zc fmt t kb cd zz vl (2 : Int32) h0 n0 Z0 pr1 pr2 pr3 pr4 pr5 pr6 pr7 pr8 pr9 pr10 pr11 pr12 (show own_ln cd zz (2 : Int32) from (by rcases pr13 with ⟨rfl, rfl, -⟩ | ⟨rfl, rfl, -⟩; exact Or.inl ⟨rfl, rfl⟩; exact Or.inr ⟨rfl, by decide⟩))) hZ (own_k hw 52 rfl) (own_k hw 4 rfl) (by decide) (by decide)) qa92 qc92 (g := (mkF m 13 #[.val (.ref x0), .val (.int 2), .val (.int c1)] [(.ref x0), (.int 2)])) rfl hml.symm (Steps.refl _) (argsL := []) (rest := [(.int 2)]) (lenOf own_pd8 rfl) rfl (own_w0 rfl rfl) (hb hby d4_13) (fun _ _ => ⟨rfl, e87, (by decide : 0 + 0 ≤ 0), (by decide : 0 + 0 ≤ 0)⟩)
      dsimp only [Pt.U, Pt.locs, Pt.cells, Pt.slots] at X91 l91 y91 z91 st91 hQ91
      subst l91 y91 z91
      obtain ⟨rfl, N91, e91⟩ := hQ91
      have N93 := Fr.app N89 N91
      refine own_tr (T' := T91) (g' := (mkF m 16 #[.val (.ref x0), .val (.int 2), .val (.int c1)] [(.int 2), (.int 2)])) st91 ?_
      refine own_st (T' := T91) (g' := (mkF m 82 #[.val (.ref x0), .val (.int 2), .val (.int c1)] [(.int 1)])) (fun _ kt => XS.icmpYes X91.here hx rfl (pc0 := 16) (pc' := 81) rfl (hb hby d4_16) rfl (XT.ii_ge_t (by decide)) (by decide) (by decide) (XS.iconst X91.here hx rfl (hb hby d4_81) kt)) ?_
      obtain ⟨fs, hr, hrun, hended, hW, hsame⟩ := X91.leave (v := some (.int 1)) (fun h => by rw [Bd.returns] at h; cases h)
      refine own_end (retN X91 hx (t := .boolean) Bd.returns (by simp) (hb hby d4_82) hr) ⟨_, hrun, hended, _, _, rfl, ?_, ⟨_, rfl⟩, hW, hsame.mono (by decide) (by decide)⟩
      show own_is2Q Z _ _ _ _ _ _ _ _ _ _ h0 n0 _ T91.heap _
      rw [e91]
      exact ⟨(by rw [if_pos ⟨hj83, hj90⟩]), N93, rfl⟩
    ·
      refine own_join (α := Unit) (gj := fun q => (mkF m 37 #[.val (.ref x0), .val (.int 1), .val (.int c1)] [])) (P := fun q => ¬ (¬ c1 < 65 ∧ ¬ (90 : Int32) < c1)) ?_ (fun J94 => ?_)
      · rintro _ hj94
        try dsimp only at hj94 ⊢
        refine own_join (α := Unit) (gj := fun q => (mkF m 49 #[.val (.ref x0), .val (.int 1), .val (.int c1)] [])) (P := fun q => ¬ (¬ c1 < 97 ∧ ¬ (122 : Int32) < c1)) ?_ (fun J95 => ?_)
        · rintro _ hj95
          try dsimp only at hj95 ⊢
          refine own_join (α := Unit) (gj := fun q => (mkF m 61 #[.val (.ref x0), .val (.int 1), .val (.int c1)] [])) (P := fun q => ¬ (¬ c1 < 48 ∧ ¬ (57 : Int32) < c1)) ?_ (fun J96 => ?_)
          · rintro _ hj96
            try dsimp only at hj96 ⊢
            refine own_st (T' := T87) (g' := (mkF m 64 #[.val (.ref x0), .val (.int 1), .val (.int c1)] [(.int 95), (.int c1)])) (fun _ kt => XS.iloadN X87.here hx rfl (hb hby d4_61) rfl (XS.bipush X87.here hx rfl (hb hby d4_62) kt)) ?_
            by_cases hc97 : c1 = (95 : Int32)
            ·
              refine own_st (T' := T87) (g' := (mkF m 75 #[.val (.ref x0), .val (.int 1), .val (.int c1)] [])) (fun _ kt => XS.icmpYes X87.here hx rfl (pc0 := 64) (pc' := 75) rfl (hb hby d4_64) rfl (XT.ii_eq_t hc97) (by decide) (by decide) kt) ?_
              exact J90 () (by unfold own_ok; revert hj94 hj95 hj96 hc97; simp only [Int32.lt_iff_toInt_lt, Int64.lt_iff_toInt_lt, ← Int32.toInt_inj, ← Int64.toInt_inj, Int32.toInt_toInt64, own_t0, own_t9, own_t45, own_t48, own_t57, own_t65, own_t90, own_t95, own_t97, own_t122, own_t255]; intros; omega)
            ·
              refine own_st (T' := T87) (g' := (mkF m 70 #[.val (.ref x0), .val (.int 1), .val (.int c1)] [(.int 45), (.int c1)])) (fun _ kt => XS.icmpNo X87.here hx rfl (hb hby d4_64) rfl (XT.ii_eq_f hc97) (XS.iloadN X87.here hx rfl (hb hby d4_67) rfl (XS.bipush X87.here hx rfl (hb hby d4_68) kt))) ?_
              by_cases hc98 : c1 = (45 : Int32)
              ·
                refine own_st (T' := T87) (g' := (mkF m 75 #[.val (.ref x0), .val (.int 1), .val (.int c1)] [])) (fun _ kt => XS.icmpYes X87.here hx rfl (pc0 := 70) (pc' := 75) rfl (hb hby d4_70) rfl (XT.ii_eq_t hc98) (by decide) (by decide) kt) ?_
                exact J90 () (by unfold own_ok; revert hj94 hj95 hj96 hc97 hc98; simp only [Int32.lt_iff_toInt_lt, Int64.lt_iff_toInt_lt, ← Int32.toInt_inj, ← Int64.toInt_inj, Int32.toInt_toInt64, own_t0, own_t9, own_t45, own_t48, own_t57, own_t65, own_t90, own_t95, own_t97, own_t122, own_t255]; intros; omega)
              ·
                refine own_st (T' := T87) (g' := (mkF m 74 #[.val (.ref x0), .val (.int 1), .val (.int c1)] [(.int 0)])) (fun _ kt => XS.icmpNo X87.here hx rfl (hb hby d4_70) rfl (XT.ii_eq_f hc98) (XS.iconst X87.here hx rfl (hb hby d4_73) kt)) ?_
                obtain ⟨fs, hr, hrun, hended, hW, hsame⟩ := X87.leave (v := some (.int 0)) (fun h => by rw [Bd.returns] at h; cases h)
                refine own_end (retN X87 hx (t := .boolean) Bd.returns (by simp) (hb hby d4_74) hr) ⟨_, hrun, hended, _, _, rfl, ?_, ⟨_, rfl⟩, hW, hsame.mono (by decide) (by decide)⟩
                show own_is2Q Z _ _ _ _ _ _ _ _ _ _ h0 n0 _ T87.heap _
                rw [e87]
                exact ⟨(by rw [if_neg (fun q => (show ¬ own_ok c1 from (by unfold own_ok; revert hj94 hj95 hj96 hc97 hc98; simp only [Int32.lt_iff_toInt_lt, Int64.lt_iff_toInt_lt, ← Int32.toInt_inj, ← Int64.toInt_inj, Int32.toInt_toInt64, own_t0, own_t9, own_t45, own_t48, own_t57, own_t65, own_t90, own_t95, own_t97, own_t122, own_t255]; intros; omega)) q.2)]), N89, rfl⟩
          ·
            refine own_st (T' := T87) (g' := (mkF m 52 #[.val (.ref x0), .val (.int 1), .val (.int c1)] [(.int 48), (.int c1)])) (fun _ kt => XS.iloadN X87.here hx rfl (hb hby d4_49) rfl (XS.bipush X87.here hx rfl (hb hby d4_50) kt)) ?_
            by_cases hc99 : c1 < (48 : Int32)
            ·
              refine own_st (T' := T87) (g' := (mkF m 61 #[.val (.ref x0), .val (.int 1), .val (.int c1)] [])) (fun _ kt => XS.icmpYes X87.here hx rfl (pc0 := 52) (pc' := 61) rfl (hb hby d4_52) rfl (XT.ii_lt_t hc99) (by decide) (by decide) kt) ?_
              exact J96 () (by revert hc99; simp only [Int32.lt_iff_toInt_lt, Int64.lt_iff_toInt_lt, ← Int32.toInt_inj, ← Int64.toInt_inj, Int32.toInt_toInt64, own_t0, own_t9, own_t45, own_t48, own_t57, own_t65, own_t90, own_t95, own_t97, own_t122, own_t255]; intros; omega)
            ·
              refine own_st (T' := T87) (g' := (mkF m 58 #[.val (.ref x0), .val (.int 1), .val (.int c1)] [(.int 57), (.int c1)])) (fun _ kt => XS.icmpNo X87.here hx rfl (hb hby d4_52) rfl (XT.ii_lt_f hc99) (XS.iloadN X87.here hx rfl (hb hby d4_55) rfl (XS.bipush X87.here hx rfl (hb hby d4_56) kt))) ?_
              by_cases hc100 : (57 : Int32) < c1
              ·
                refine own_st (T' := T87) (g' := (mkF m 61 #[.val (.ref x0), .val (.int 1), .val (.int c1)] [])) (fun _ kt => XS.icmpNo X87.here hx rfl (hb hby d4_58) rfl (XT.ii_le_f hc100) kt) ?_
                exact J96 () (by revert hc99 hc100; simp only [Int32.lt_iff_toInt_lt, Int64.lt_iff_toInt_lt, ← Int32.toInt_inj, ← Int64.toInt_inj, Int32.toInt_toInt64, own_t0, own_t9, own_t45, own_t48, own_t57, own_t65, own_t90, own_t95, own_t97, own_t122, own_t255]; intros; omega)
              ·
                refine own_st (T' := T87) (g' := (mkF m 75 #[.val (.ref x0), .val (.int 1), .val (.int c1)] [])) (fun _ kt => XS.icmpYes X87.here hx rfl (pc0 := 58) (pc' := 75) rfl (hb hby d4_58) rfl (XT.ii_le_t hc100) (by decide) (by decide) kt) ?_
                exact J90 () (by unfold own_ok; revert hj94 hj95 hc99 hc100; simp only [Int32.lt_iff_toInt_lt, Int64.lt_iff_toInt_lt, ← Int32.toInt_inj, ← Int64.toInt_inj, Int32.toInt_toInt64, own_t0, own_t9, own_t45, own_t48, own_t57, own_t65, own_t90, own_t95, own_t97, own_t122, own_t255]; intros; omega)
        ·
          refine own_st (T' := T87) (g' := (mkF m 40 #[.val (.ref x0), .val (.int 1), .val (.int c1)] [(.int 97), (.int c1)])) (fun _ kt => XS.iloadN X87.here hx rfl (hb hby d4_37) rfl (XS.bipush X87.here hx rfl (hb hby d4_38) kt)) ?_
          by_cases hc101 : c1 < (97 : Int32)
          ·
            refine own_st (T' := T87) (g' := (mkF m 49 #[.val (.ref x0), .val (.int 1), .val (.int c1)] [])) (fun _ kt => XS.icmpYes X87.here hx rfl (pc0 := 40) (pc' := 49) rfl (hb hby d4_40) rfl (XT.ii_lt_t hc101) (by decide) (by decide) kt) ?_
            exact J95 () (by revert hc101; simp only [Int32.lt_iff_toInt_lt, Int64.lt_iff_toInt_lt, ← Int32.toInt_inj, ← Int64.toInt_inj, Int32.toInt_toInt64, own_t0, own_t9, own_t45, own_t48, own_t57, own_t65, own_t90, own_t95, own_t97, own_t122, own_t255]; intros; omega)
          ·
            refine own_st (T' := T87) (g' := (mkF m 46 #[.val (.ref x0), .val (.int 1), .val (.int c1)] [(.int 122), (.int c1)])) (fun _ kt => XS.icmpNo X87.here hx rfl (hb hby d4_40) rfl (XT.ii_lt_f hc101) (XS.iloadN X87.here hx rfl (hb hby d4_43) rfl (XS.bipush X87.here hx rfl (hb hby d4_44) kt))) ?_
            by_cases hc102 : (122 : Int32) < c1
            ·
              refine own_st (T' := T87) (g' := (mkF m 49 #[.val (.ref x0), .val (.int 1), .val (.int c1)] [])) (fun _ kt => XS.icmpNo X87.here hx rfl (hb hby d4_46) rfl (XT.ii_le_f hc102) kt) ?_
              exact J95 () (by revert hc101 hc102; simp only [Int32.lt_iff_toInt_lt, Int64.lt_iff_toInt_lt, ← Int32.toInt_inj, ← Int64.toInt_inj, Int32.toInt_toInt64, own_t0, own_t9, own_t45, own_t48, own_t57, own_t65, own_t90, own_t95, own_t97, own_t122, own_t255]; intros; omega)
            ·
              refine own_st (T' := T87) (g' := (mkF m 75 #[.val (.ref x0), .val (.int 1), .val (.int c1)] [])) (fun _ kt => XS.icmpYes X87.here hx rfl (pc0 := 46) (pc' := 75) rfl (hb hby d4_46) rfl (XT.ii_le_t hc102) (by decide) (by decide) kt) ?_
              exact J90 () (by unfold own_ok; revert hj94 hc101 hc102; simp only [Int32.lt_iff_toInt_lt, Int64.lt_iff_toInt_lt, ← Int32.toInt_inj, ← Int64.toInt_inj, Int32.toInt_toInt64, own_t0, own_t9, own_t45, own_t48, own_t57, own_t65, own_t90, own_t95, own_t97, own_t122, own_t255]; intros; omega)
      ·
        refine own_st (T' := T87) (g' := (mkF m 28 #[.val (.ref x0), .val (.int 1), .val (.int c1)] [(.int 65), (.int c1)])) (fun _ kt => XS.iloadN X87.here hx rfl (hb hby d4_25) rfl (XS.bipush X87.here hx rfl (hb hby d4_26) kt)) ?_
        by_cases hc103 : c1 < (65 : Int32)
        ·
          refine own_st (T' := T87) (g' := (mkF m 37 #[.val (.ref x0), .val (.int 1), .val (.int c1)] [])) (fun _ kt => XS.icmpYes X87.here hx rfl (pc0 := 28) (pc' := 37) rfl (hb hby d4_28) rfl (XT.ii_lt_t hc103) (by decide) (by decide) kt) ?_
          exact J94 () (by revert hc103; simp only [Int32.lt_iff_toInt_lt, Int64.lt_iff_toInt_lt, ← Int32.toInt_inj, ← Int64.toInt_inj, Int32.toInt_toInt64, own_t0, own_t9, own_t45, own_t48, own_t57, own_t65, own_t90, own_t95, own_t97, own_t122, own_t255]; intros; omega)
        ·
          refine own_st (T' := T87) (g' := (mkF m 34 #[.val (.ref x0), .val (.int 1), .val (.int c1)] [(.int 90), (.int c1)])) (fun _ kt => XS.icmpNo X87.here hx rfl (hb hby d4_28) rfl (XT.ii_lt_f hc103) (XS.iloadN X87.here hx rfl (hb hby d4_31) rfl (XS.bipush X87.here hx rfl (hb hby d4_32) kt))) ?_
          by_cases hc104 : (90 : Int32) < c1
          ·
            refine own_st (T' := T87) (g' := (mkF m 37 #[.val (.ref x0), .val (.int 1), .val (.int c1)] [])) (fun _ kt => XS.icmpNo X87.here hx rfl (hb hby d4_34) rfl (XT.ii_le_f hc104) kt) ?_
            exact J94 () (by revert hc103 hc104; simp only [Int32.lt_iff_toInt_lt, Int64.lt_iff_toInt_lt, ← Int32.toInt_inj, ← Int64.toInt_inj, Int32.toInt_toInt64, own_t0, own_t9, own_t45, own_t48, own_t57, own_t65, own_t90, own_t95, own_t97, own_t122, own_t255]; intros; omega)
          ·
            refine own_st (T' := T87) (g' := (mkF m 75 #[.val (.ref x0), .val (.int 1), .val (.int c1)] [])) (fun _ kt => XS.icmpYes X87.here hx rfl (pc0 := 34) (pc' := 75) rfl (hb hby d4_34) rfl (XT.ii_le_t hc104) (by decide) (by decide) kt) ?_
            exact J90 () (by unfold own_ok; revert hc103 hc104; simp only [Int32.lt_iff_toInt_lt, Int64.lt_iff_toInt_lt, ← Int32.toInt_inj, ← Int64.toInt_inj, Int32.toInt_toInt64, own_t0, own_t9, own_t45, own_t48, own_t57, own_t65, own_t90, own_t95, own_t97, own_t122, own_t255]; intros; omega)
  ·
    refine own_join (α := Unit) (gj := fun q => (mkF m 37 #[.val (.ref x0), .val (.int 0), .val (.int c0)] [])) (P := fun q => ¬ (¬ c0 < 65 ∧ ¬ (90 : Int32) < c0)) ?_ (fun J105 => ?_)
    · rintro _ hj105
      try dsimp only at hj105 ⊢
      refine own_join (α := Unit) (gj := fun q => (mkF m 49 #[.val (.ref x0), .val (.int 0), .val (.int c0)] [])) (P := fun q => ¬ (¬ c0 < 97 ∧ ¬ (122 : Int32) < c0)) ?_ (fun J106 => ?_)
      · rintro _ hj106
        try dsimp only at hj106 ⊢
        refine own_join (α := Unit) (gj := fun q => (mkF m 61 #[.val (.ref x0), .val (.int 0), .val (.int c0)] [])) (P := fun q => ¬ (¬ c0 < 48 ∧ ¬ (57 : Int32) < c0)) ?_ (fun J107 => ?_)
        · rintro _ hj107
          try dsimp only at hj107 ⊢
          refine own_st (T' := T80) (g' := (mkF m 64 #[.val (.ref x0), .val (.int 0), .val (.int c0)] [(.int 95), (.int c0)])) (fun _ kt => XS.iloadN X80.here hx rfl (hb hby d4_61) rfl (XS.bipush X80.here hx rfl (hb hby d4_62) kt)) ?_
          by_cases hc108 : c0 = (95 : Int32)
          ·
            refine own_st (T' := T80) (g' := (mkF m 75 #[.val (.ref x0), .val (.int 0), .val (.int c0)] [])) (fun _ kt => XS.icmpYes X80.here hx rfl (pc0 := 64) (pc' := 75) rfl (hb hby d4_64) rfl (XT.ii_eq_t hc108) (by decide) (by decide) kt) ?_
            exact J83 () (by unfold own_ok; revert hj105 hj106 hj107 hc108; simp only [Int32.lt_iff_toInt_lt, Int64.lt_iff_toInt_lt, ← Int32.toInt_inj, ← Int64.toInt_inj, Int32.toInt_toInt64, own_t0, own_t9, own_t45, own_t48, own_t57, own_t65, own_t90, own_t95, own_t97, own_t122, own_t255]; intros; omega)
          ·
            refine own_st (T' := T80) (g' := (mkF m 70 #[.val (.ref x0), .val (.int 0), .val (.int c0)] [(.int 45), (.int c0)])) (fun _ kt => XS.icmpNo X80.here hx rfl (hb hby d4_64) rfl (XT.ii_eq_f hc108) (XS.iloadN X80.here hx rfl (hb hby d4_67) rfl (XS.bipush X80.here hx rfl (hb hby d4_68) kt))) ?_
            by_cases hc109 : c0 = (45 : Int32)
            ·
              refine own_st (T' := T80) (g' := (mkF m 75 #[.val (.ref x0), .val (.int 0), .val (.int c0)] [])) (fun _ kt => XS.icmpYes X80.here hx rfl (pc0 := 70) (pc' := 75) rfl (hb hby d4_70) rfl (XT.ii_eq_t hc109) (by decide) (by decide) kt) ?_
              exact J83 () (by unfold own_ok; revert hj105 hj106 hj107 hc108 hc109; simp only [Int32.lt_iff_toInt_lt, Int64.lt_iff_toInt_lt, ← Int32.toInt_inj, ← Int64.toInt_inj, Int32.toInt_toInt64, own_t0, own_t9, own_t45, own_t48, own_t57, own_t65, own_t90, own_t95, own_t97, own_t122, own_t255]; intros; omega)
            ·
              refine own_st (T' := T80) (g' := (mkF m 74 #[.val (.ref x0), .val (.int 0), .val (.int c0)] [(.int 0)])) (fun _ kt => XS.icmpNo X80.here hx rfl (hb hby d4_70) rfl (XT.ii_eq_f hc109) (XS.iconst X80.here hx rfl (hb hby d4_73) kt)) ?_
              obtain ⟨fs, hr, hrun, hended, hW, hsame⟩ := X80.leave (v := some (.int 0)) (fun h => by rw [Bd.returns] at h; cases h)
              refine own_end (retN X80 hx (t := .boolean) Bd.returns (by simp) (hb hby d4_74) hr) ⟨_, hrun, hended, _, _, rfl, ?_, ⟨_, rfl⟩, hW, hsame.mono (by decide) (by decide)⟩
              show own_is2Q Z _ _ _ _ _ _ _ _ _ _ h0 n0 _ T80.heap _
              rw [e80]
              exact ⟨(by rw [if_neg (fun q => (show ¬ own_ok c0 from (by unfold own_ok; revert hj105 hj106 hj107 hc108 hc109; simp only [Int32.lt_iff_toInt_lt, Int64.lt_iff_toInt_lt, ← Int32.toInt_inj, ← Int64.toInt_inj, Int32.toInt_toInt64, own_t0, own_t9, own_t45, own_t48, own_t57, own_t65, own_t90, own_t95, own_t97, own_t122, own_t255]; intros; omega)) q.1)]), N82, rfl⟩
        ·
          refine own_st (T' := T80) (g' := (mkF m 52 #[.val (.ref x0), .val (.int 0), .val (.int c0)] [(.int 48), (.int c0)])) (fun _ kt => XS.iloadN X80.here hx rfl (hb hby d4_49) rfl (XS.bipush X80.here hx rfl (hb hby d4_50) kt)) ?_
          by_cases hc110 : c0 < (48 : Int32)
          ·
            refine own_st (T' := T80) (g' := (mkF m 61 #[.val (.ref x0), .val (.int 0), .val (.int c0)] [])) (fun _ kt => XS.icmpYes X80.here hx rfl (pc0 := 52) (pc' := 61) rfl (hb hby d4_52) rfl (XT.ii_lt_t hc110) (by decide) (by decide) kt) ?_
            exact J107 () (by revert hc110; simp only [Int32.lt_iff_toInt_lt, Int64.lt_iff_toInt_lt, ← Int32.toInt_inj, ← Int64.toInt_inj, Int32.toInt_toInt64, own_t0, own_t9, own_t45, own_t48, own_t57, own_t65, own_t90, own_t95, own_t97, own_t122, own_t255]; intros; omega)
          ·
            refine own_st (T' := T80) (g' := (mkF m 58 #[.val (.ref x0), .val (.int 0), .val (.int c0)] [(.int 57), (.int c0)])) (fun _ kt => XS.icmpNo X80.here hx rfl (hb hby d4_52) rfl (XT.ii_lt_f hc110) (XS.iloadN X80.here hx rfl (hb hby d4_55) rfl (XS.bipush X80.here hx rfl (hb hby d4_56) kt))) ?_
            by_cases hc111 : (57 : Int32) < c0
            ·
              refine own_st (T' := T80) (g' := (mkF m 61 #[.val (.ref x0), .val (.int 0), .val (.int c0)] [])) (fun _ kt => XS.icmpNo X80.here hx rfl (hb hby d4_58) rfl (XT.ii_le_f hc111) kt) ?_
              exact J107 () (by revert hc110 hc111; simp only [Int32.lt_iff_toInt_lt, Int64.lt_iff_toInt_lt, ← Int32.toInt_inj, ← Int64.toInt_inj, Int32.toInt_toInt64, own_t0, own_t9, own_t45, own_t48, own_t57, own_t65, own_t90, own_t95, own_t97, own_t122, own_t255]; intros; omega)
            ·
              refine own_st (T' := T80) (g' := (mkF m 75 #[.val (.ref x0), .val (.int 0), .val (.int c0)] [])) (fun _ kt => XS.icmpYes X80.here hx rfl (pc0 := 58) (pc' := 75) rfl (hb hby d4_58) rfl (XT.ii_le_t hc111) (by decide) (by decide) kt) ?_
              exact J83 () (by unfold own_ok; revert hj105 hj106 hc110 hc111; simp only [Int32.lt_iff_toInt_lt, Int64.lt_iff_toInt_lt, ← Int32.toInt_inj, ← Int64.toInt_inj, Int32.toInt_toInt64, own_t0, own_t9, own_t45, own_t48, own_t57, own_t65, own_t90, own_t95, own_t97, own_t122, own_t255]; intros; omega)
      ·
        refine own_st (T' := T80) (g' := (mkF m 40 #[.val (.ref x0), .val (.int 0), .val (.int c0)] [(.int 97), (.int c0)])) (fun _ kt => XS.iloadN X80.here hx rfl (hb hby d4_37) rfl (XS.bipush X80.here hx rfl (hb hby d4_38) kt)) ?_
        by_cases hc112 : c0 < (97 : Int32)
        ·
          refine own_st (T' := T80) (g' := (mkF m 49 #[.val (.ref x0), .val (.int 0), .val (.int c0)] [])) (fun _ kt => XS.icmpYes X80.here hx rfl (pc0 := 40) (pc' := 49) rfl (hb hby d4_40) rfl (XT.ii_lt_t hc112) (by decide) (by decide) kt) ?_
          exact J106 () (by revert hc112; simp only [Int32.lt_iff_toInt_lt, Int64.lt_iff_toInt_lt, ← Int32.toInt_inj, ← Int64.toInt_inj, Int32.toInt_toInt64, own_t0, own_t9, own_t45, own_t48, own_t57, own_t65, own_t90, own_t95, own_t97, own_t122, own_t255]; intros; omega)
        ·
          refine own_st (T' := T80) (g' := (mkF m 46 #[.val (.ref x0), .val (.int 0), .val (.int c0)] [(.int 122), (.int c0)])) (fun _ kt => XS.icmpNo X80.here hx rfl (hb hby d4_40) rfl (XT.ii_lt_f hc112) (XS.iloadN X80.here hx rfl (hb hby d4_43) rfl (XS.bipush X80.here hx rfl (hb hby d4_44) kt))) ?_
          by_cases hc113 : (122 : Int32) < c0
          ·
            refine own_st (T' := T80) (g' := (mkF m 49 #[.val (.ref x0), .val (.int 0), .val (.int c0)] [])) (fun _ kt => XS.icmpNo X80.here hx rfl (hb hby d4_46) rfl (XT.ii_le_f hc113) kt) ?_
            exact J106 () (by revert hc112 hc113; simp only [Int32.lt_iff_toInt_lt, Int64.lt_iff_toInt_lt, ← Int32.toInt_inj, ← Int64.toInt_inj, Int32.toInt_toInt64, own_t0, own_t9, own_t45, own_t48, own_t57, own_t65, own_t90, own_t95, own_t97, own_t122, own_t255]; intros; omega)
          ·
            refine own_st (T' := T80) (g' := (mkF m 75 #[.val (.ref x0), .val (.int 0), .val (.int c0)] [])) (fun _ kt => XS.icmpYes X80.here hx rfl (pc0 := 46) (pc' := 75) rfl (hb hby d4_46) rfl (XT.ii_le_t hc113) (by decide) (by decide) kt) ?_
            exact J83 () (by unfold own_ok; revert hj105 hc112 hc113; simp only [Int32.lt_iff_toInt_lt, Int64.lt_iff_toInt_lt, ← Int32.toInt_inj, ← Int64.toInt_inj, Int32.toInt_toInt64, own_t0, own_t9, own_t45, own_t48, own_t57, own_t65, own_t90, own_t95, own_t97, own_t122, own_t255]; intros; omega)
    ·
      refine own_st (T' := T80) (g' := (mkF m 28 #[.val (.ref x0), .val (.int 0), .val (.int c0)] [(.int 65), (.int c0)])) (fun _ kt => XS.iloadN X80.here hx rfl (hb hby d4_25) rfl (XS.bipush X80.here hx rfl (hb hby d4_26) kt)) ?_
      by_cases hc114 : c0 < (65 : Int32)
      ·
        refine own_st (T' := T80) (g' := (mkF m 37 #[.val (.ref x0), .val (.int 0), .val (.int c0)] [])) (fun _ kt => XS.icmpYes X80.here hx rfl (pc0 := 28) (pc' := 37) rfl (hb hby d4_28) rfl (XT.ii_lt_t hc114) (by decide) (by decide) kt) ?_
        exact J105 () (by revert hc114; simp only [Int32.lt_iff_toInt_lt, Int64.lt_iff_toInt_lt, ← Int32.toInt_inj, ← Int64.toInt_inj, Int32.toInt_toInt64, own_t0, own_t9, own_t45, own_t48, own_t57, own_t65, own_t90, own_t95, own_t97, own_t122, own_t255]; intros; omega)
      ·
        refine own_st (T' := T80) (g' := (mkF m 34 #[.val (.ref x0), .val (.int 0), .val (.int c0)] [(.int 90), (.int c0)])) (fun _ kt => XS.icmpNo X80.here hx rfl (hb hby d4_28) rfl (XT.ii_lt_f hc114) (XS.iloadN X80.here hx rfl (hb hby d4_31) rfl (XS.bipush X80.here hx rfl (hb hby d4_32) kt))) ?_
        by_cases hc115 : (90 : Int32) < c0
        ·
          refine own_st (T' := T80) (g' := (mkF m 37 #[.val (.ref x0), .val (.int 0), .val (.int c0)] [])) (fun _ kt => XS.icmpNo X80.here hx rfl (hb hby d4_34) rfl (XT.ii_le_f hc115) kt) ?_
          exact J105 () (by revert hc114 hc115; simp only [Int32.lt_iff_toInt_lt, Int64.lt_iff_toInt_lt, ← Int32.toInt_inj, ← Int64.toInt_inj, Int32.toInt_toInt64, own_t0, own_t9, own_t45, own_t48, own_t57, own_t65, own_t90, own_t95, own_t97, own_t122, own_t255]; intros; omega)
        ·
          refine own_st (T' := T80) (g' := (mkF m 75 #[.val (.ref x0), .val (.int 0), .val (.int c0)] [])) (fun _ kt => XS.icmpYes X80.here hx rfl (pc0 := 34) (pc' := 75) rfl (hb hby d4_34) rfl (XT.ii_le_t hc115) (by decide) (by decide) kt) ?_
          exact J83 () (by unfold own_ok; revert hc114 hc115; simp only [Int32.lt_iff_toInt_lt, Int64.lt_iff_toInt_lt, ← Int32.toInt_inj, ← Int64.toInt_inj, Int32.toInt_toInt64, own_t0, own_t9, own_t45, own_t48, own_t57, own_t65, own_t90, own_t95, own_t97, own_t122, own_t255]; intros; omega)
def own_is3Q (Z : State) (x0 : Addr) (zc : Int32) (fmt : Value) (t : Addr) (kb : ClassId) (cd : Int32) (zz : Int32) (vl : List Value) (c0 : Int32) (c1 : Int32) (c2 : Int32) (h0 : Heap) (n0 : Nat) (v : Option Value) (h : Heap) (L : List Loc) : Prop := v = some (.int (if own_ok c0 ∧ own_ok c1 ∧ own_ok c2 then (1 : Int32) else 0)) ∧ Fr n0 L ∧ h = h0
abbrev own_is3R : Room := { frames := 5, cells := 0, slots := 0, locals := 66 }
theorem own_is3 (l : Launch) (Z : State) (a0 : Array Value) (hw : ∀ d ∈ tables_1, d.before a0 Z = true) (ws : List Jvm.Cond) (x0 : Addr) (zc : Int32) (fmt : Value) (t : Addr) (kb : ClassId) (cd : Int32) (zz : Int32) (vl : List Value) (c0 : Int32) (c1 : Int32) (c2 : Int32) (h0 : Heap) (n0 : Nat) (Z0 : n0 ≤ h0.size) (pr1 : Old Z n0 h0) (pr2 : Sta Z Z.heap "java/lang/String" "COMPACT_STRINGS" "Z" (.int zc)) (pr3 : ¬ zc = 0) (pr4 : Sta Z Z.heap "jdk/internal/util/Preconditions" "SIOOBE_FORMATTER" "Ljava/util/function/BiFunction;" fmt) (pr5 : fmt.isRef = true) (pr6 : Sta Z Z.heap "java/lang/StringUTF16" "$assertionsDisabled" "Z" (.int 1)) (pr7 : Sta Z Z.heap "java/lang/StringUTF16" "HI_BYTE_SHIFT" "I" (.int 0)) (pr8 : Sta Z Z.heap "java/lang/StringUTF16" "LO_BYTE_SHIFT" "I" (.int 8)) (pr9 : Exa Z h0 x0 "java/lang/String") (pr10 : Fld Z h0 x0 "java/lang/String" "coder" "B" (.int cd)) (pr11 : Fld Z h0 x0 "java/lang/String" "value" "[B" (.ref t)) (pr12 : Arv Z h0 t kb .byte zz vl (.int 0)) (pr13 : (cd = 0 ∧ zz = 3 ∧ vl = [(.int c0.toInt8.toInt32), (.int c1.toInt8.toInt32), (.int c2.toInt8.toInt32)] ∧ ¬ (255 : Int32) < c0 ∧ ¬ (255 : Int32) < c1 ∧ ¬ (255 : Int32) < c2) ∨ (cd = 1 ∧ zz = 6 ∧ vl = [(.int (own_lo c0)), (.int (own_hi c0)), (.int (own_lo c1)), (.int (own_hi c1)), (.int (own_lo c2)), (.int (own_hi c2))])) (pr14 : own_c16 c0) (pr15 : own_c16 c1) (pr16 : own_c16 c2) :
    own_M l yN10 prog_36_method_2_code 3 (some .boolean) ws own_is3R #[(.ref x0)] Z h0 (own_is3Q Z x0 zc fmt t kb cd zz vl c0 c1 c2 h0 n0) := by
  refine own_go (plainFor_of_name own_pn5) (fun m => own_ef6 m x0 ) ?_
  intro p e s m below meth c s₁ Bd hx hby hml hZ hh hown hnm X0 e0
  have N0 := Fr.nil n0
  refine own_st (T' := s₁) (g' := (mkF m 1 #[.val (.ref x0), .unset, .unset] [(.ref x0)])) (fun _ kt => XS.aloadN X0.here hx rfl (hb hby d4_0) rfl rfl kt) ?_
  obtain ⟨cq117, kq117, qa117, qb117, qc117⟩ := isOf hZ e0 pr9
  obtain ⟨_, _, ⟨T116, L116, k116, n116⟩, -, X116, ⟨Lc116, hQ116, l116, y116, z116⟩, st116⟩ := X0.virtualBack hx (y := yN7) (z := yN7) hown (mvT hZ (own_k hw 28 rfl)) (mvT hZ (own_k hw 29 rfl)) (notFace_of_selects (args := #[]) (mvT hZ (own_k hw 31 rfl))) (mvT hZ (own_k hw 31 rfl)) (mvT hZ (own_k hw 30 rfl)) (by decide) (backOf (W := 0) (own_em l Z a0 hw [] x0 t kb zz vl h0 n0 Z0 pr11 pr12 (show ¬ zz = 0 from (by rcases pr13 with ⟨-, rfl, -⟩ | ⟨-, rfl, -⟩ <;> decide))) hZ (own_k hw 32 rfl) (own_k hw 4 rfl) (by decide) (by decide)) qa117 qc117 (g := (mkF m 1 #[.val (.ref x0), .unset, .unset] [(.ref x0)])) rfl hml.symm (Steps.refl _) (argsL := []) (rest := []) (lenOf own_pd6 rfl) rfl (own_w0 rfl rfl) (hb hby d4_1) (fun _ _ => ⟨rfl, e0, (by decide : 0 + 0 ≤ 0), (by decide : 0 + 0 ≤ 0)⟩)
  dsimp only [Pt.U, Pt.locs, Pt.cells, Pt.slots] at X116 l116 y116 z116 st116 hQ116
  subst l116 y116 z116
  obtain ⟨rfl, N116, e116⟩ := hQ116
  have N118 := Fr.app N0 N116
  refine own_tr (T' := T116) (g' := (mkF m 4 #[.val (.ref x0), .unset, .unset] [(.int 0)])) st116 ?_
  refine own_st (T' := T116) (g' := (mkF m 13 #[.val (.ref x0), .val (.int 0), .unset] [(.ref x0), (.int 0)])) (fun _ kt => XS.ifYes X116.here hx rfl (pc0 := 4) (pc' := 9) rfl (hb hby d4_4) rfl (XT.i0_eq_t (by decide)) (by decide) (by decide) (XS.iconst X116.here hx rfl (hb hby d4_9) (XS.istoreN X116.here hx rfl (hb hby d4_10) rfl (l' := #[.val (.ref x0), .val (.int 0), .unset]) rfl (XS.iloadN X116.here hx rfl (hb hby d4_11) rfl (XS.aloadN X116.here hx rfl (hb hby d4_12) rfl rfl kt))))) ?_
  obtain ⟨cq120, kq120, qa120, qb120, qc120⟩ := isOf hZ e116 pr9
  obtain ⟨_, _, ⟨T119, L119, k119, n119⟩, -, X119, ⟨Lc119, hQ119, l119, y119, z119⟩, st119⟩ := X116.virtualBack hx (y := yN0) (z := yN0) hown (mvT hZ (own_k hw 48 rfl)) (mvT hZ (own_k hw 49 rfl)) (notFace_of_selects (args := #[]) (mvT hZ (own_k hw 51 rfl))) (mvT hZ (own_k hw 51 rfl)) (mvT hZ (own_k hw 50 rfl)) (by decide) (backOf (W := 1) (own_sl l Z a0 hw [] x0 zc fmt t kb cd zz vl (3 : Int32) h0 n0 Z0 pr1 pr2 pr3 pr4 pr5 pr6 pr7 pr8 pr9 pr10 pr11 pr12 (show own_ln cd zz (3 : Int32) from (by rcases pr13 with ⟨rfl, rfl, -⟩ | ⟨rfl, rfl, -⟩; exact Or.inl ⟨rfl, rfl⟩; exact Or.inr ⟨rfl, by decide⟩))) hZ (own_k hw 52 rfl) (own_k hw 4 rfl) (by decide) (by decide)) qa120 qc120 (g := (mkF m 13 #[.val (.ref x0), .val (.int 0), .unset] [(.ref x0), (.int 0)])) rfl hml.symm (Steps.refl _) (argsL := []) (rest := [(.int 0)]) (lenOf own_pd8 rfl) rfl (own_w0 rfl rfl) (hb hby d4_13) (fun _ _ => ⟨rfl, e116, (by decide : 0 + 0 ≤ 0), (by decide : 0 + 0 ≤ 0)⟩)
  dsimp only [Pt.U, Pt.locs, Pt.cells, Pt.slots] at X119 l119 y119 z119 st119 hQ119
  subst l119 y119 z119
  obtain ⟨rfl, N119, e119⟩ := hQ119
  have N121 := Fr.app N118 N119
  refine own_tr (T' := T119) (g' := (mkF m 16 #[.val (.ref x0), .val (.int 0), .unset] [(.int 3), (.int 0)])) st119 ?_
  refine own_st (T' := T119) (g' := (mkF m 21 #[.val (.ref x0), .val (.int 0), .unset] [(.int 0), (.ref x0)])) (fun _ kt => XS.icmpNo X119.here hx rfl (hb hby d4_16) rfl (XT.ii_ge_f (by decide)) (XS.aloadN X119.here hx rfl (hb hby d4_19) rfl rfl (XS.iloadN X119.here hx rfl (hb hby d4_20) rfl kt))) ?_
  obtain ⟨cq123, kq123, qa123, qb123, qc123⟩ := isOf hZ e119 pr9
  obtain ⟨_, _, ⟨T122, L122, k122, n122⟩, -, X122, ⟨Lc122, hQ122, l122, y122, z122⟩, st122⟩ := X119.virtualBack hx (y := yN4) (z := yN4) hown (mvT hZ (own_k hw 58 rfl)) (mvT hZ (own_k hw 59 rfl)) (notFace_of_selects (args := #[]) (mvT hZ (own_k hw 61 rfl))) (mvT hZ (own_k hw 61 rfl)) (mvT hZ (own_k hw 60 rfl)) (by decide) (backOf (W := 0) (own_ca l Z a0 hw [] x0 (0 : Int32) zc fmt t kb cd zz vl c0 h0 n0 Z0 pr1 pr2 pr3 pr4 pr5 pr6 pr7 pr8 pr9 pr10 pr11 pr12 (show own_at cd zz vl (0 : Int32) c0 from (by rcases pr13 with ⟨rfl, rfl, rfl, hl0, hl1, hl2⟩ | ⟨rfl, rfl, rfl⟩; exact Or.inl ⟨rfl, by decide, rfl, hl0⟩; exact Or.inr ⟨rfl, by decide, by decide, rfl, by decide, rfl⟩)) pr14) hZ (own_k hw 62 rfl) (own_k hw 4 rfl) (by decide) (by decide)) qa123 qc123 (g := (mkF m 21 #[.val (.ref x0), .val (.int 0), .unset] [(.int 0), (.ref x0)])) rfl hml.symm (Steps.refl _) (argsL := [(.int 0)]) (rest := []) (lenOf own_pd9 rfl) rfl (own_w0 rfl rfl) (hb hby d4_21) (fun _ _ => ⟨rfl, e119, (by decide : 0 + 0 ≤ 0), (by decide : 0 + 0 ≤ 0)⟩)
  dsimp only [Pt.U, Pt.locs, Pt.cells, Pt.slots] at X122 l122 y122 z122 st122 hQ122
  subst l122 y122 z122
  obtain ⟨rfl, N122, e122⟩ := hQ122
  have N124 := Fr.app N121 N122
  refine own_tr (T' := T122) (g' := (mkF m 24 #[.val (.ref x0), .val (.int 0), .unset] [(.int c0)])) st122 ?_
  refine own_st (T' := T122) (g' := (mkF m 25 #[.val (.ref x0), .val (.int 0), .val (.int c0)] [])) (fun _ kt => XS.istoreN X122.here hx rfl (hb hby d4_24) rfl (l' := #[.val (.ref x0), .val (.int 0), .val (.int c0)]) rfl kt) ?_
  refine own_join (α := Unit) (gj := fun q => (mkF m 75 #[.val (.ref x0), .val (.int 0), .val (.int c0)] [])) (P := fun q => own_ok c0) ?_ (fun J125 => ?_)
  · rintro _ hj125
    try dsimp only at hj125 ⊢
    refine own_st (T' := T122) (g' := (mkF m 13 #[.val (.ref x0), .val (.int 1), .val (.int c0)] [(.ref x0), (.int 1)])) (fun _ kt => XS.iinc X122.here hx rfl (hb hby d4_75) rfl (l' := #[.val (.ref x0), .val (.int 1), .val (.int c0)]) rfl (XS.goto X122.here hx rfl (pc0 := 78) (pc' := 11) rfl (hb hby d4_78) (by decide) (by decide) (XS.iloadN X122.here hx rfl (hb hby d4_11) rfl (XS.aloadN X122.here hx rfl (hb hby d4_12) rfl rfl kt)))) ?_
    obtain ⟨cq127, kq127, qa127, qb127, qc127⟩ := isOf hZ e122 pr9
    obtain ⟨_, _, ⟨T126, L126, k126, n126⟩, -, X126, ⟨Lc126, hQ126, l126, y126, z126⟩, st126⟩ := X122.virtualBack hx (y := yN0) (z := yN0) hown (mvT hZ (own_k hw 48 rfl)) (mvT hZ (own_k hw 49 rfl)) (notFace_of_selects (args := #[]) (mvT hZ (own_k hw 51 rfl))) (mvT hZ (own_k hw 51 rfl)) (mvT hZ (own_k hw 50 rfl)) (by decide) (backOf (W := 1) (own_sl l Z a0 hw [] x0 zc fmt t kb cd zz vl (3 : Int32) h0 n0 Z0 pr1 pr2 pr3 pr4 pr5 pr6 pr7 pr8 pr9 pr10 pr11 pr12 (show own_ln cd zz (3 : Int32) from (by rcases pr13 with ⟨rfl, rfl, -⟩ | ⟨rfl, rfl, -⟩; exact Or.inl ⟨rfl, rfl⟩; exact Or.inr ⟨rfl, by decide⟩))) hZ (own_k hw 52 rfl) (own_k hw 4 rfl) (by decide) (by decide)) qa127 qc127 (g := (mkF m 13 #[.val (.ref x0), .val (.int 1), .val (.int c0)] [(.ref x0), (.int 1)])) rfl hml.symm (Steps.refl _) (argsL := []) (rest := [(.int 1)]) (lenOf own_pd8 rfl) rfl (own_w0 rfl rfl) (hb hby d4_13) (fun _ _ => ⟨rfl, e122, (by decide : 0 + 0 ≤ 0), (by decide : 0 + 0 ≤ 0)⟩)
    dsimp only [Pt.U, Pt.locs, Pt.cells, Pt.slots] at X126 l126 y126 z126 st126 hQ126
    subst l126 y126 z126
    obtain ⟨rfl, N126, e126⟩ := hQ126
    have N128 := Fr.app N124 N126
    refine own_tr (T' := T126) (g' := (mkF m 16 #[.val (.ref x0), .val (.int 1), .val (.int c0)] [(.int 3), (.int 1)])) st126 ?_
    refine own_st (T' := T126) (g' := (mkF m 21 #[.val (.ref x0), .val (.int 1), .val (.int c0)] [(.int 1), (.ref x0)])) (fun _ kt => XS.icmpNo X126.here hx rfl (hb hby d4_16) rfl (XT.ii_ge_f (by decide)) (XS.aloadN X126.here hx rfl (hb hby d4_19) rfl rfl (XS.iloadN X126.here hx rfl (hb hby d4_20) rfl kt))) ?_
    obtain ⟨cq130, kq130, qa130, qb130, qc130⟩ := isOf hZ e126 pr9
    obtain ⟨_, _, ⟨T129, L129, k129, n129⟩, -, X129, ⟨Lc129, hQ129, l129, y129, z129⟩, st129⟩ := X126.virtualBack hx (y := yN4) (z := yN4) hown (mvT hZ (own_k hw 58 rfl)) (mvT hZ (own_k hw 59 rfl)) (notFace_of_selects (args := #[]) (mvT hZ (own_k hw 61 rfl))) (mvT hZ (own_k hw 61 rfl)) (mvT hZ (own_k hw 60 rfl)) (by decide) (backOf (W := 0) (own_ca l Z a0 hw [] x0 (1 : Int32) zc fmt t kb cd zz vl c1 h0 n0 Z0 pr1 pr2 pr3 pr4 pr5 pr6 pr7 pr8 pr9 pr10 pr11 pr12 (show own_at cd zz vl (1 : Int32) c1 from (by rcases pr13 with ⟨rfl, rfl, rfl, hl0, hl1, hl2⟩ | ⟨rfl, rfl, rfl⟩; exact Or.inl ⟨rfl, by decide, rfl, hl1⟩; exact Or.inr ⟨rfl, by decide, by decide, rfl, by decide, rfl⟩)) pr15) hZ (own_k hw 62 rfl) (own_k hw 4 rfl) (by decide) (by decide)) qa130 qc130 (g := (mkF m 21 #[.val (.ref x0), .val (.int 1), .val (.int c0)] [(.int 1), (.ref x0)])) rfl hml.symm (Steps.refl _) (argsL := [(.int 1)]) (rest := []) (lenOf own_pd9 rfl) rfl (own_w0 rfl rfl) (hb hby d4_21) (fun _ _ => ⟨rfl, e126, (by decide : 0 + 0 ≤ 0), (by decide : 0 + 0 ≤ 0)⟩)
    dsimp only [Pt.U, Pt.locs, Pt.cells, Pt.slots] at X129 l129 y129 z129 st129 hQ129
    subst l129 y129 z129
    obtain ⟨rfl, N129, e129⟩ := hQ129
    have N131 := Fr.app N128 N129
    refine own_tr (T' := T129) (g' := (mkF m 24 #[.val (.ref x0), .val (.int 1), .val (.int c0)] [(.int c1)])) st129 ?_
    refine own_st (T' := T129) (g' := (mkF m 25 #[.val (.ref x0), .val (.int 1), .val (.int c1)] [])) (fun _ kt => XS.istoreN X129.here hx rfl (hb hby d4_24) rfl (l' := #[.val (.ref x0), .val (.int 1), .val (.int c1)]) rfl kt) ?_
    refine own_join (α := Unit) (gj := fun q => (mkF m 75 #[.val (.ref x0), .val (.int 1), .val (.int c1)] [])) (P := fun q => own_ok c1) ?_ (fun J132 => ?_)
    · rintro _ hj132
      try dsimp only at hj132 ⊢
      refine own_st (T' := T129) (g' := (mkF m 13 #[.val (.ref x0), .val (.int 2), .val (.int c1)] [(.ref x0), (.int 2)])) (fun _ kt => XS.iinc X129.here hx rfl (hb hby d4_75) rfl (l' := #[.val (.ref x0), .val (.int 2), .val (.int c1)]) rfl (XS.goto X129.here hx rfl (pc0 := 78) (pc' := 11) rfl (hb hby d4_78) (by decide) (by decide) (XS.iloadN X129.here hx rfl (hb hby d4_11) rfl (XS.aloadN X129.here hx rfl (hb hby d4_12) rfl rfl kt)))) ?_
      obtain ⟨cq134, kq134, qa134, qb134, qc134⟩ := isOf hZ e129 pr9
      obtain ⟨_, _, ⟨T133, L133, k133, n133⟩, -, X133, ⟨Lc133, hQ133, l133, y133, z133⟩, st133⟩ := X129.virtualBack hx (y := yN0) (z := yN0) hown (mvT hZ (own_k hw 48 rfl)) (mvT hZ (own_k hw 49 rfl)) (notFace_of_selects (args := #[]) (mvT hZ (own_k hw 51 rfl))) (mvT hZ (own_k hw 51 rfl)) (mvT hZ (own_k hw 50 rfl)) (by decide) (backOf (W := 1) (own_sl l Z a0 hw [] x0 zc fmt t kb cd zz vl (3 : Int32) h0 n0 Z0 pr1 pr2 pr3 pr4 pr5 pr6 pr7 pr8 pr9 pr10 pr11 pr12 (show own_ln cd zz (3 : Int32) from (by rcases pr13 with ⟨rfl, rfl, -⟩ | ⟨rfl, rfl, -⟩; exact Or.inl ⟨rfl, rfl⟩; exact Or.inr ⟨rfl, by decide⟩))) hZ (own_k hw 52 rfl) (own_k hw 4 rfl) (by decide) (by decide)) qa134 qc134 (g := (mkF m 13 #[.val (.ref x0), .val (.int 2), .val (.int c1)] [(.ref x0), (.int 2)])) rfl hml.symm (Steps.refl _) (argsL := []) (rest := [(.int 2)]) (lenOf own_pd8 rfl) rfl (own_w0 rfl rfl) (hb hby d4_13) (fun _ _ => ⟨rfl, e129, (by decide : 0 + 0 ≤ 0), (by decide : 0 + 0 ≤ 0)⟩)
      dsimp only [Pt.U, Pt.locs, Pt.cells, Pt.slots] at X133 l133 y133 z133 st133 hQ133
      subst l133 y133 z133
      obtain ⟨rfl, N133, e133⟩ := hQ133
      have N135 := Fr.app N131 N133
      refine own_tr (T' := T133) (g' := (mkF m 16 #[.val (.ref x0), .val (.int 2), .val (.int c1)] [(.int 3), (.int 2)])) st133 ?_
      refine own_st (T' := T133) (g' := (mkF m 21 #[.val (.ref x0), .val (.int 2), .val (.int c1)] [(.int 2), (.ref x0)])) (fun _ kt => XS.icmpNo X133.here hx rfl (hb hby d4_16) rfl (XT.ii_ge_f (by decide)) (XS.aloadN X133.here hx rfl (hb hby d4_19) rfl rfl (XS.iloadN X133.here hx rfl (hb hby d4_20) rfl kt))) ?_
      obtain ⟨cq137, kq137, qa137, qb137, qc137⟩ := isOf hZ e133 pr9
      obtain ⟨_, _, ⟨T136, L136, k136, n136⟩, -, X136, ⟨Lc136, hQ136, l136, y136, z136⟩, st136⟩ := X133.virtualBack hx (y := yN4) (z := yN4) hown (mvT hZ (own_k hw 58 rfl)) (mvT hZ (own_k hw 59 rfl)) (notFace_of_selects (args := #[]) (mvT hZ (own_k hw 61 rfl))) (mvT hZ (own_k hw 61 rfl)) (mvT hZ (own_k hw 60 rfl)) (by decide) (backOf (W := 0) (own_ca l Z a0 hw [] x0 (2 : Int32) zc fmt t kb cd zz vl c2 h0 n0 Z0 pr1 pr2 pr3 pr4 pr5 pr6 pr7 pr8 pr9 pr10 pr11 pr12 (show own_at cd zz vl (2 : Int32) c2 from (by rcases pr13 with ⟨rfl, rfl, rfl, hl0, hl1, hl2⟩ | ⟨rfl, rfl, rfl⟩; exact Or.inl ⟨rfl, by decide, rfl, hl2⟩; exact Or.inr ⟨rfl, by decide, by decide, rfl, by decide, rfl⟩)) pr16) hZ (own_k hw 62 rfl) (own_k hw 4 rfl) (by decide) (by decide)) qa137 qc137 (g := (mkF m 21 #[.val (.ref x0), .val (.int 2), .val (.int c1)] [(.int 2), (.ref x0)])) rfl hml.symm (Steps.refl _) (argsL := [(.int 2)]) (rest := []) (lenOf own_pd9 rfl) rfl (own_w0 rfl rfl) (hb hby d4_21) (fun _ _ => ⟨rfl, e133, (by decide : 0 + 0 ≤ 0), (by decide : 0 + 0 ≤ 0)⟩)
      dsimp only [Pt.U, Pt.locs, Pt.cells, Pt.slots] at X136 l136 y136 z136 st136 hQ136
      subst l136 y136 z136
      obtain ⟨rfl, N136, e136⟩ := hQ136
      have N138 := Fr.app N135 N136
      refine own_tr (T' := T136) (g' := (mkF m 24 #[.val (.ref x0), .val (.int 2), .val (.int c1)] [(.int c2)])) st136 ?_
      refine own_st (T' := T136) (g' := (mkF m 25 #[.val (.ref x0), .val (.int 2), .val (.int c2)] [])) (fun _ kt => XS.istoreN X136.here hx rfl (hb hby d4_24) rfl (l' := #[.val (.ref x0), .val (.int 2), .val (.int c2)]) rfl kt) ?_
      refine own_join (α := Unit) (gj := fun q => (mkF m 75 #[.val (.ref x0), .val (.int 2), .val (.int c2)] [])) (P := fun q => own_ok c2) ?_ (fun J139 => ?_)
      · rintro _ hj139
        try dsimp only at hj139 ⊢
        refine own_st (T' := T136) (g' := (mkF m 13 #[.val (.ref x0), .val (.int 3), .val (.int c2)] [(.ref x0), (.int 3)])) (fun _ kt => XS.iinc X136.here hx rfl (hb hby d4_75) rfl (l' := #[.val (.ref x0), .val (.int 3), .val (.int c2)]) rfl (XS.goto X136.here hx rfl (pc0 := 78) (pc' := 11) rfl (hb hby d4_78) (by decide) (by decide) (XS.iloadN X136.here hx rfl (hb hby d4_11) rfl (XS.aloadN X136.here hx rfl (hb hby d4_12) rfl rfl kt)))) ?_
        obtain ⟨cq141, kq141, qa141, qb141, qc141⟩ := isOf hZ e136 pr9
        obtain ⟨_, _, ⟨T140, L140, k140, n140⟩, -, X140, ⟨Lc140, hQ140, l140, y140, z140⟩, st140⟩ := X136.virtualBack hx (y := yN0) (z := yN0) hown (mvT hZ (own_k hw 48 rfl)) (mvT hZ (own_k hw 49 rfl)) (notFace_of_selects (args := #[]) (mvT hZ (own_k hw 51 rfl))) (mvT hZ (own_k hw 51 rfl)) (mvT hZ (own_k hw 50 rfl)) (by decide) (backOf (W := 1) (own_sl l Z a0 hw [] x0 zc fmt t kb cd zz vl (3 : Int32) h0 n0 Z0 pr1 pr2 pr3 pr4 pr5 pr6 pr7 pr8 pr9 pr10 pr11 pr12 (show own_ln cd zz (3 : Int32) from (by rcases pr13 with ⟨rfl, rfl, -⟩ | ⟨rfl, rfl, -⟩; exact Or.inl ⟨rfl, rfl⟩; exact Or.inr ⟨rfl, by decide⟩))) hZ (own_k hw 52 rfl) (own_k hw 4 rfl) (by decide) (by decide)) qa141 qc141 (g := (mkF m 13 #[.val (.ref x0), .val (.int 3), .val (.int c2)] [(.ref x0), (.int 3)])) rfl hml.symm (Steps.refl _) (argsL := []) (rest := [(.int 3)]) (lenOf own_pd8 rfl) rfl (own_w0 rfl rfl) (hb hby d4_13) (fun _ _ => ⟨rfl, e136, (by decide : 0 + 0 ≤ 0), (by decide : 0 + 0 ≤ 0)⟩)
        dsimp only [Pt.U, Pt.locs, Pt.cells, Pt.slots] at X140 l140 y140 z140 st140 hQ140
        subst l140 y140 z140
        obtain ⟨rfl, N140, e140⟩ := hQ140
        have N142 := Fr.app N138 N140
        refine own_tr (T' := T140) (g' := (mkF m 16 #[.val (.ref x0), .val (.int 3), .val (.int c2)] [(.int 3), (.int 3)])) st140 ?_
        refine own_st (T' := T140) (g' := (mkF m 82 #[.val (.ref x0), .val (.int 3), .val (.int c2)] [(.int 1)])) (fun _ kt => XS.icmpYes X140.here hx rfl (pc0 := 16) (pc' := 81) rfl (hb hby d4_16) rfl (XT.ii_ge_t (by decide)) (by decide) (by decide) (XS.iconst X140.here hx rfl (hb hby d4_81) kt)) ?_
        obtain ⟨fs, hr, hrun, hended, hW, hsame⟩ := X140.leave (v := some (.int 1)) (fun h => by rw [Bd.returns] at h; cases h)
        refine own_end (retN X140 hx (t := .boolean) Bd.returns (by simp) (hb hby d4_82) hr) ⟨_, hrun, hended, _, _, rfl, ?_, ⟨_, rfl⟩, hW, hsame.mono (by decide) (by decide)⟩
        show own_is3Q Z _ _ _ _ _ _ _ _ _ _ _ h0 n0 _ T140.heap _
        rw [e140]
        exact ⟨(by rw [if_pos ⟨hj125, hj132, hj139⟩]), N142, rfl⟩
      ·
        refine own_join (α := Unit) (gj := fun q => (mkF m 37 #[.val (.ref x0), .val (.int 2), .val (.int c2)] [])) (P := fun q => ¬ (¬ c2 < 65 ∧ ¬ (90 : Int32) < c2)) ?_ (fun J143 => ?_)
        · rintro _ hj143
          try dsimp only at hj143 ⊢
          refine own_join (α := Unit) (gj := fun q => (mkF m 49 #[.val (.ref x0), .val (.int 2), .val (.int c2)] [])) (P := fun q => ¬ (¬ c2 < 97 ∧ ¬ (122 : Int32) < c2)) ?_ (fun J144 => ?_)
          · rintro _ hj144
            try dsimp only at hj144 ⊢
            refine own_join (α := Unit) (gj := fun q => (mkF m 61 #[.val (.ref x0), .val (.int 2), .val (.int c2)] [])) (P := fun q => ¬ (¬ c2 < 48 ∧ ¬ (57 : Int32) < c2)) ?_ (fun J145 => ?_)
            · rintro _ hj145
              try dsimp only at hj145 ⊢
              refine own_st (T' := T136) (g' := (mkF m 64 #[.val (.ref x0), .val (.int 2), .val (.int c2)] [(.int 95), (.int c2)])) (fun _ kt => XS.iloadN X136.here hx rfl (hb hby d4_61) rfl (XS.bipush X136.here hx rfl (hb hby d4_62) kt)) ?_
              by_cases hc146 : c2 = (95 : Int32)
              ·
                refine own_st (T' := T136) (g' := (mkF m 75 #[.val (.ref x0), .val (.int 2), .val (.int c2)] [])) (fun _ kt => XS.icmpYes X136.here hx rfl (pc0 := 64) (pc' := 75) rfl (hb hby d4_64) rfl (XT.ii_eq_t hc146) (by decide) (by decide) kt) ?_
                exact J139 () (by unfold own_ok; revert hj143 hj144 hj145 hc146; simp only [Int32.lt_iff_toInt_lt, Int64.lt_iff_toInt_lt, ← Int32.toInt_inj, ← Int64.toInt_inj, Int32.toInt_toInt64, own_t0, own_t9, own_t45, own_t48, own_t57, own_t65, own_t90, own_t95, own_t97, own_t122, own_t255]; intros; omega)
              ·
                refine own_st (T' := T136) (g' := (mkF m 70 #[.val (.ref x0), .val (.int 2), .val (.int c2)] [(.int 45), (.int c2)])) (fun _ kt => XS.icmpNo X136.here hx rfl (hb hby d4_64) rfl (XT.ii_eq_f hc146) (XS.iloadN X136.here hx rfl (hb hby d4_67) rfl (XS.bipush X136.here hx rfl (hb hby d4_68) kt))) ?_
                by_cases hc147 : c2 = (45 : Int32)
                ·
                  refine own_st (T' := T136) (g' := (mkF m 75 #[.val (.ref x0), .val (.int 2), .val (.int c2)] [])) (fun _ kt => XS.icmpYes X136.here hx rfl (pc0 := 70) (pc' := 75) rfl (hb hby d4_70) rfl (XT.ii_eq_t hc147) (by decide) (by decide) kt) ?_
                  exact J139 () (by unfold own_ok; revert hj143 hj144 hj145 hc146 hc147; simp only [Int32.lt_iff_toInt_lt, Int64.lt_iff_toInt_lt, ← Int32.toInt_inj, ← Int64.toInt_inj, Int32.toInt_toInt64, own_t0, own_t9, own_t45, own_t48, own_t57, own_t65, own_t90, own_t95, own_t97, own_t122, own_t255]; intros; omega)
                ·
                  refine own_st (T' := T136) (g' := (mkF m 74 #[.val (.ref x0), .val (.int 2), .val (.int c2)] [(.int 0)])) (fun _ kt => XS.icmpNo X136.here hx rfl (hb hby d4_70) rfl (XT.ii_eq_f hc147) (XS.iconst X136.here hx rfl (hb hby d4_73) kt)) ?_
                  obtain ⟨fs, hr, hrun, hended, hW, hsame⟩ := X136.leave (v := some (.int 0)) (fun h => by rw [Bd.returns] at h; cases h)
                  refine own_end (retN X136 hx (t := .boolean) Bd.returns (by simp) (hb hby d4_74) hr) ⟨_, hrun, hended, _, _, rfl, ?_, ⟨_, rfl⟩, hW, hsame.mono (by decide) (by decide)⟩
                  show own_is3Q Z _ _ _ _ _ _ _ _ _ _ _ h0 n0 _ T136.heap _
                  rw [e136]
                  exact ⟨(by rw [if_neg (fun q => (show ¬ own_ok c2 from (by unfold own_ok; revert hj143 hj144 hj145 hc146 hc147; simp only [Int32.lt_iff_toInt_lt, Int64.lt_iff_toInt_lt, ← Int32.toInt_inj, ← Int64.toInt_inj, Int32.toInt_toInt64, own_t0, own_t9, own_t45, own_t48, own_t57, own_t65, own_t90, own_t95, own_t97, own_t122, own_t255]; intros; omega)) q.2.2)]), N138, rfl⟩
            ·
              refine own_st (T' := T136) (g' := (mkF m 52 #[.val (.ref x0), .val (.int 2), .val (.int c2)] [(.int 48), (.int c2)])) (fun _ kt => XS.iloadN X136.here hx rfl (hb hby d4_49) rfl (XS.bipush X136.here hx rfl (hb hby d4_50) kt)) ?_
              by_cases hc148 : c2 < (48 : Int32)
              ·
                refine own_st (T' := T136) (g' := (mkF m 61 #[.val (.ref x0), .val (.int 2), .val (.int c2)] [])) (fun _ kt => XS.icmpYes X136.here hx rfl (pc0 := 52) (pc' := 61) rfl (hb hby d4_52) rfl (XT.ii_lt_t hc148) (by decide) (by decide) kt) ?_
                exact J145 () (by revert hc148; simp only [Int32.lt_iff_toInt_lt, Int64.lt_iff_toInt_lt, ← Int32.toInt_inj, ← Int64.toInt_inj, Int32.toInt_toInt64, own_t0, own_t9, own_t45, own_t48, own_t57, own_t65, own_t90, own_t95, own_t97, own_t122, own_t255]; intros; omega)
              ·
                refine own_st (T' := T136) (g' := (mkF m 58 #[.val (.ref x0), .val (.int 2), .val (.int c2)] [(.int 57), (.int c2)])) (fun _ kt => XS.icmpNo X136.here hx rfl (hb hby d4_52) rfl (XT.ii_lt_f hc148) (XS.iloadN X136.here hx rfl (hb hby d4_55) rfl (XS.bipush X136.here hx rfl (hb hby d4_56) kt))) ?_
                by_cases hc149 : (57 : Int32) < c2
                ·
                  refine own_st (T' := T136) (g' := (mkF m 61 #[.val (.ref x0), .val (.int 2), .val (.int c2)] [])) (fun _ kt => XS.icmpNo X136.here hx rfl (hb hby d4_58) rfl (XT.ii_le_f hc149) kt) ?_
                  exact J145 () (by revert hc148 hc149; simp only [Int32.lt_iff_toInt_lt, Int64.lt_iff_toInt_lt, ← Int32.toInt_inj, ← Int64.toInt_inj, Int32.toInt_toInt64, own_t0, own_t9, own_t45, own_t48, own_t57, own_t65, own_t90, own_t95, own_t97, own_t122, own_t255]; intros; omega)
                ·
                  refine own_st (T' := T136) (g' := (mkF m 75 #[.val (.ref x0), .val (.int 2), .val (.int c2)] [])) (fun _ kt => XS.icmpYes X136.here hx rfl (pc0 := 58) (pc' := 75) rfl (hb hby d4_58) rfl (XT.ii_le_t hc149) (by decide) (by decide) kt) ?_
                  exact J139 () (by unfold own_ok; revert hj143 hj144 hc148 hc149; simp only [Int32.lt_iff_toInt_lt, Int64.lt_iff_toInt_lt, ← Int32.toInt_inj, ← Int64.toInt_inj, Int32.toInt_toInt64, own_t0, own_t9, own_t45, own_t48, own_t57, own_t65, own_t90, own_t95, own_t97, own_t122, own_t255]; intros; omega)
          ·
            refine own_st (T' := T136) (g' := (mkF m 40 #[.val (.ref x0), .val (.int 2), .val (.int c2)] [(.int 97), (.int c2)])) (fun _ kt => XS.iloadN X136.here hx rfl (hb hby d4_37) rfl (XS.bipush X136.here hx rfl (hb hby d4_38) kt)) ?_
            by_cases hc150 : c2 < (97 : Int32)
            ·
              refine own_st (T' := T136) (g' := (mkF m 49 #[.val (.ref x0), .val (.int 2), .val (.int c2)] [])) (fun _ kt => XS.icmpYes X136.here hx rfl (pc0 := 40) (pc' := 49) rfl (hb hby d4_40) rfl (XT.ii_lt_t hc150) (by decide) (by decide) kt) ?_
              exact J144 () (by revert hc150; simp only [Int32.lt_iff_toInt_lt, Int64.lt_iff_toInt_lt, ← Int32.toInt_inj, ← Int64.toInt_inj, Int32.toInt_toInt64, own_t0, own_t9, own_t45, own_t48, own_t57, own_t65, own_t90, own_t95, own_t97, own_t122, own_t255]; intros; omega)
            ·
              refine own_st (T' := T136) (g' := (mkF m 46 #[.val (.ref x0), .val (.int 2), .val (.int c2)] [(.int 122), (.int c2)])) (fun _ kt => XS.icmpNo X136.here hx rfl (hb hby d4_40) rfl (XT.ii_lt_f hc150) (XS.iloadN X136.here hx rfl (hb hby d4_43) rfl (XS.bipush X136.here hx rfl (hb hby d4_44) kt))) ?_
              by_cases hc151 : (122 : Int32) < c2
              ·
                refine own_st (T' := T136) (g' := (mkF m 49 #[.val (.ref x0), .val (.int 2), .val (.int c2)] [])) (fun _ kt => XS.icmpNo X136.here hx rfl (hb hby d4_46) rfl (XT.ii_le_f hc151) kt) ?_
                exact J144 () (by revert hc150 hc151; simp only [Int32.lt_iff_toInt_lt, Int64.lt_iff_toInt_lt, ← Int32.toInt_inj, ← Int64.toInt_inj, Int32.toInt_toInt64, own_t0, own_t9, own_t45, own_t48, own_t57, own_t65, own_t90, own_t95, own_t97, own_t122, own_t255]; intros; omega)
              ·
                refine own_st (T' := T136) (g' := (mkF m 75 #[.val (.ref x0), .val (.int 2), .val (.int c2)] [])) (fun _ kt => XS.icmpYes X136.here hx rfl (pc0 := 46) (pc' := 75) rfl (hb hby d4_46) rfl (XT.ii_le_t hc151) (by decide) (by decide) kt) ?_
                exact J139 () (by unfold own_ok; revert hj143 hc150 hc151; simp only [Int32.lt_iff_toInt_lt, Int64.lt_iff_toInt_lt, ← Int32.toInt_inj, ← Int64.toInt_inj, Int32.toInt_toInt64, own_t0, own_t9, own_t45, own_t48, own_t57, own_t65, own_t90, own_t95, own_t97, own_t122, own_t255]; intros; omega)
        ·
          refine own_st (T' := T136) (g' := (mkF m 28 #[.val (.ref x0), .val (.int 2), .val (.int c2)] [(.int 65), (.int c2)])) (fun _ kt => XS.iloadN X136.here hx rfl (hb hby d4_25) rfl (XS.bipush X136.here hx rfl (hb hby d4_26) kt)) ?_
          by_cases hc152 : c2 < (65 : Int32)
          ·
            refine own_st (T' := T136) (g' := (mkF m 37 #[.val (.ref x0), .val (.int 2), .val (.int c2)] [])) (fun _ kt => XS.icmpYes X136.here hx rfl (pc0 := 28) (pc' := 37) rfl (hb hby d4_28) rfl (XT.ii_lt_t hc152) (by decide) (by decide) kt) ?_
            exact J143 () (by revert hc152; simp only [Int32.lt_iff_toInt_lt, Int64.lt_iff_toInt_lt, ← Int32.toInt_inj, ← Int64.toInt_inj, Int32.toInt_toInt64, own_t0, own_t9, own_t45, own_t48, own_t57, own_t65, own_t90, own_t95, own_t97, own_t122, own_t255]; intros; omega)
          ·
            refine own_st (T' := T136) (g' := (mkF m 34 #[.val (.ref x0), .val (.int 2), .val (.int c2)] [(.int 90), (.int c2)])) (fun _ kt => XS.icmpNo X136.here hx rfl (hb hby d4_28) rfl (XT.ii_lt_f hc152) (XS.iloadN X136.here hx rfl (hb hby d4_31) rfl (XS.bipush X136.here hx rfl (hb hby d4_32) kt))) ?_
            by_cases hc153 : (90 : Int32) < c2
            ·
              refine own_st (T' := T136) (g' := (mkF m 37 #[.val (.ref x0), .val (.int 2), .val (.int c2)] [])) (fun _ kt => XS.icmpNo X136.here hx rfl (hb hby d4_34) rfl (XT.ii_le_f hc153) kt) ?_
              exact J143 () (by revert hc152 hc153; simp only [Int32.lt_iff_toInt_lt, Int64.lt_iff_toInt_lt, ← Int32.toInt_inj, ← Int64.toInt_inj, Int32.toInt_toInt64, own_t0, own_t9, own_t45, own_t48, own_t57, own_t65, own_t90, own_t95, own_t97, own_t122, own_t255]; intros; omega)
            ·
              refine own_st (T' := T136) (g' := (mkF m 75 #[.val (.ref x0), .val (.int 2), .val (.int c2)] [])) (fun _ kt => XS.icmpYes X136.here hx rfl (pc0 := 34) (pc' := 75) rfl (hb hby d4_34) rfl (XT.ii_le_t hc153) (by decide) (by decide) kt) ?_
              exact J139 () (by unfold own_ok; revert hc152 hc153; simp only [Int32.lt_iff_toInt_lt, Int64.lt_iff_toInt_lt, ← Int32.toInt_inj, ← Int64.toInt_inj, Int32.toInt_toInt64, own_t0, own_t9, own_t45, own_t48, own_t57, own_t65, own_t90, own_t95, own_t97, own_t122, own_t255]; intros; omega)
    ·
      refine own_join (α := Unit) (gj := fun q => (mkF m 37 #[.val (.ref x0), .val (.int 1), .val (.int c1)] [])) (P := fun q => ¬ (¬ c1 < 65 ∧ ¬ (90 : Int32) < c1)) ?_ (fun J154 => ?_)
      · rintro _ hj154
        try dsimp only at hj154 ⊢
        refine own_join (α := Unit) (gj := fun q => (mkF m 49 #[.val (.ref x0), .val (.int 1), .val (.int c1)] [])) (P := fun q => ¬ (¬ c1 < 97 ∧ ¬ (122 : Int32) < c1)) ?_ (fun J155 => ?_)
        · rintro _ hj155
          try dsimp only at hj155 ⊢
          refine own_join (α := Unit) (gj := fun q => (mkF m 61 #[.val (.ref x0), .val (.int 1), .val (.int c1)] [])) (P := fun q => ¬ (¬ c1 < 48 ∧ ¬ (57 : Int32) < c1)) ?_ (fun J156 => ?_)
          · rintro _ hj156
            try dsimp only at hj156 ⊢
            refine own_st (T' := T129) (g' := (mkF m 64 #[.val (.ref x0), .val (.int 1), .val (.int c1)] [(.int 95), (.int c1)])) (fun _ kt => XS.iloadN X129.here hx rfl (hb hby d4_61) rfl (XS.bipush X129.here hx rfl (hb hby d4_62) kt)) ?_
            by_cases hc157 : c1 = (95 : Int32)
            ·
              refine own_st (T' := T129) (g' := (mkF m 75 #[.val (.ref x0), .val (.int 1), .val (.int c1)] [])) (fun _ kt => XS.icmpYes X129.here hx rfl (pc0 := 64) (pc' := 75) rfl (hb hby d4_64) rfl (XT.ii_eq_t hc157) (by decide) (by decide) kt) ?_
              exact J132 () (by unfold own_ok; revert hj154 hj155 hj156 hc157; simp only [Int32.lt_iff_toInt_lt, Int64.lt_iff_toInt_lt, ← Int32.toInt_inj, ← Int64.toInt_inj, Int32.toInt_toInt64, own_t0, own_t9, own_t45, own_t48, own_t57, own_t65, own_t90, own_t95, own_t97, own_t122, own_t255]; intros; omega)
            ·
              refine own_st (T' := T129) (g' := (mkF m 70 #[.val (.ref x0), .val (.int 1), .val (.int c1)] [(.int 45), (.int c1)])) (fun _ kt => XS.icmpNo X129.here hx rfl (hb hby d4_64) rfl (XT.ii_eq_f hc157) (XS.iloadN X129.here hx rfl (hb hby d4_67) rfl (XS.bipush X129.here hx rfl (hb hby d4_68) kt))) ?_
              by_cases hc158 : c1 = (45 : Int32)
              ·
                refine own_st (T' := T129) (g' := (mkF m 75 #[.val (.ref x0), .val (.int 1), .val (.int c1)] [])) (fun _ kt => XS.icmpYes X129.here hx rfl (pc0 := 70) (pc' := 75) rfl (hb hby d4_70) rfl (XT.ii_eq_t hc158) (by decide) (by decide) kt) ?_
                exact J132 () (by unfold own_ok; revert hj154 hj155 hj156 hc157 hc158; simp only [Int32.lt_iff_toInt_lt, Int64.lt_iff_toInt_lt, ← Int32.toInt_inj, ← Int64.toInt_inj, Int32.toInt_toInt64, own_t0, own_t9, own_t45, own_t48, own_t57, own_t65, own_t90, own_t95, own_t97, own_t122, own_t255]; intros; omega)
              ·
                refine own_st (T' := T129) (g' := (mkF m 74 #[.val (.ref x0), .val (.int 1), .val (.int c1)] [(.int 0)])) (fun _ kt => XS.icmpNo X129.here hx rfl (hb hby d4_70) rfl (XT.ii_eq_f hc158) (XS.iconst X129.here hx rfl (hb hby d4_73) kt)) ?_
                obtain ⟨fs, hr, hrun, hended, hW, hsame⟩ := X129.leave (v := some (.int 0)) (fun h => by rw [Bd.returns] at h; cases h)
                refine own_end (retN X129 hx (t := .boolean) Bd.returns (by simp) (hb hby d4_74) hr) ⟨_, hrun, hended, _, _, rfl, ?_, ⟨_, rfl⟩, hW, hsame.mono (by decide) (by decide)⟩
                show own_is3Q Z _ _ _ _ _ _ _ _ _ _ _ h0 n0 _ T129.heap _
                rw [e129]
                exact ⟨(by rw [if_neg (fun q => (show ¬ own_ok c1 from (by unfold own_ok; revert hj154 hj155 hj156 hc157 hc158; simp only [Int32.lt_iff_toInt_lt, Int64.lt_iff_toInt_lt, ← Int32.toInt_inj, ← Int64.toInt_inj, Int32.toInt_toInt64, own_t0, own_t9, own_t45, own_t48, own_t57, own_t65, own_t90, own_t95, own_t97, own_t122, own_t255]; intros; omega)) q.2.1)]), N131, rfl⟩
          ·
            refine own_st (T' := T129) (g' := (mkF m 52 #[.val (.ref x0), .val (.int 1), .val (.int c1)] [(.int 48), (.int c1)])) (fun _ kt => XS.iloadN X129.here hx rfl (hb hby d4_49) rfl (XS.bipush X129.here hx rfl (hb hby d4_50) kt)) ?_
            by_cases hc159 : c1 < (48 : Int32)
            ·
              refine own_st (T' := T129) (g' := (mkF m 61 #[.val (.ref x0), .val (.int 1), .val (.int c1)] [])) (fun _ kt => XS.icmpYes X129.here hx rfl (pc0 := 52) (pc' := 61) rfl (hb hby d4_52) rfl (XT.ii_lt_t hc159) (by decide) (by decide) kt) ?_
              exact J156 () (by revert hc159; simp only [Int32.lt_iff_toInt_lt, Int64.lt_iff_toInt_lt, ← Int32.toInt_inj, ← Int64.toInt_inj, Int32.toInt_toInt64, own_t0, own_t9, own_t45, own_t48, own_t57, own_t65, own_t90, own_t95, own_t97, own_t122, own_t255]; intros; omega)
            ·
              refine own_st (T' := T129) (g' := (mkF m 58 #[.val (.ref x0), .val (.int 1), .val (.int c1)] [(.int 57), (.int c1)])) (fun _ kt => XS.icmpNo X129.here hx rfl (hb hby d4_52) rfl (XT.ii_lt_f hc159) (XS.iloadN X129.here hx rfl (hb hby d4_55) rfl (XS.bipush X129.here hx rfl (hb hby d4_56) kt))) ?_
              by_cases hc160 : (57 : Int32) < c1
              ·
                refine own_st (T' := T129) (g' := (mkF m 61 #[.val (.ref x0), .val (.int 1), .val (.int c1)] [])) (fun _ kt => XS.icmpNo X129.here hx rfl (hb hby d4_58) rfl (XT.ii_le_f hc160) kt) ?_
                exact J156 () (by revert hc159 hc160; simp only [Int32.lt_iff_toInt_lt, Int64.lt_iff_toInt_lt, ← Int32.toInt_inj, ← Int64.toInt_inj, Int32.toInt_toInt64, own_t0, own_t9, own_t45, own_t48, own_t57, own_t65, own_t90, own_t95, own_t97, own_t122, own_t255]; intros; omega)
              ·
                refine own_st (T' := T129) (g' := (mkF m 75 #[.val (.ref x0), .val (.int 1), .val (.int c1)] [])) (fun _ kt => XS.icmpYes X129.here hx rfl (pc0 := 58) (pc' := 75) rfl (hb hby d4_58) rfl (XT.ii_le_t hc160) (by decide) (by decide) kt) ?_
                exact J132 () (by unfold own_ok; revert hj154 hj155 hc159 hc160; simp only [Int32.lt_iff_toInt_lt, Int64.lt_iff_toInt_lt, ← Int32.toInt_inj, ← Int64.toInt_inj, Int32.toInt_toInt64, own_t0, own_t9, own_t45, own_t48, own_t57, own_t65, own_t90, own_t95, own_t97, own_t122, own_t255]; intros; omega)
        ·
          refine own_st (T' := T129) (g' := (mkF m 40 #[.val (.ref x0), .val (.int 1), .val (.int c1)] [(.int 97), (.int c1)])) (fun _ kt => XS.iloadN X129.here hx rfl (hb hby d4_37) rfl (XS.bipush X129.here hx rfl (hb hby d4_38) kt)) ?_
          by_cases hc161 : c1 < (97 : Int32)
          ·
            refine own_st (T' := T129) (g' := (mkF m 49 #[.val (.ref x0), .val (.int 1), .val (.int c1)] [])) (fun _ kt => XS.icmpYes X129.here hx rfl (pc0 := 40) (pc' := 49) rfl (hb hby d4_40) rfl (XT.ii_lt_t hc161) (by decide) (by decide) kt) ?_
            exact J155 () (by revert hc161; simp only [Int32.lt_iff_toInt_lt, Int64.lt_iff_toInt_lt, ← Int32.toInt_inj, ← Int64.toInt_inj, Int32.toInt_toInt64, own_t0, own_t9, own_t45, own_t48, own_t57, own_t65, own_t90, own_t95, own_t97, own_t122, own_t255]; intros; omega)
          ·
            refine own_st (T' := T129) (g' := (mkF m 46 #[.val (.ref x0), .val (.int 1), .val (.int c1)] [(.int 122), (.int c1)])) (fun _ kt => XS.icmpNo X129.here hx rfl (hb hby d4_40) rfl (XT.ii_lt_f hc161) (XS.iloadN X129.here hx rfl (hb hby d4_43) rfl (XS.bipush X129.here hx rfl (hb hby d4_44) kt))) ?_
            by_cases hc162 : (122 : Int32) < c1
            ·
              refine own_st (T' := T129) (g' := (mkF m 49 #[.val (.ref x0), .val (.int 1), .val (.int c1)] [])) (fun _ kt => XS.icmpNo X129.here hx rfl (hb hby d4_46) rfl (XT.ii_le_f hc162) kt) ?_
              exact J155 () (by revert hc161 hc162; simp only [Int32.lt_iff_toInt_lt, Int64.lt_iff_toInt_lt, ← Int32.toInt_inj, ← Int64.toInt_inj, Int32.toInt_toInt64, own_t0, own_t9, own_t45, own_t48, own_t57, own_t65, own_t90, own_t95, own_t97, own_t122, own_t255]; intros; omega)
            ·
              refine own_st (T' := T129) (g' := (mkF m 75 #[.val (.ref x0), .val (.int 1), .val (.int c1)] [])) (fun _ kt => XS.icmpYes X129.here hx rfl (pc0 := 46) (pc' := 75) rfl (hb hby d4_46) rfl (XT.ii_le_t hc162) (by decide) (by decide) kt) ?_
              exact J132 () (by unfold own_ok; revert hj154 hc161 hc162; simp only [Int32.lt_iff_toInt_lt, Int64.lt_iff_toInt_lt, ← Int32.toInt_inj, ← Int64.toInt_inj, Int32.toInt_toInt64, own_t0, own_t9, own_t45, own_t48, own_t57, own_t65, own_t90, own_t95, own_t97, own_t122, own_t255]; intros; omega)
      ·
        refine own_st (T' := T129) (g' := (mkF m 28 #[.val (.ref x0), .val (.int 1), .val (.int c1)] [(.int 65), (.int c1)])) (fun _ kt => XS.iloadN X129.here hx rfl (hb hby d4_25) rfl (XS.bipush X129.here hx rfl (hb hby d4_26) kt)) ?_
        by_cases hc163 : c1 < (65 : Int32)
        ·
          refine own_st (T' := T129) (g' := (mkF m 37 #[.val (.ref x0), .val (.int 1), .val (.int c1)] [])) (fun _ kt => XS.icmpYes X129.here hx rfl (pc0 := 28) (pc' := 37) rfl (hb hby d4_28) rfl (XT.ii_lt_t hc163) (by decide) (by decide) kt) ?_
          exact J154 () (by revert hc163; simp only [Int32.lt_iff_toInt_lt, Int64.lt_iff_toInt_lt, ← Int32.toInt_inj, ← Int64.toInt_inj, Int32.toInt_toInt64, own_t0, own_t9, own_t45, own_t48, own_t57, own_t65, own_t90, own_t95, own_t97, own_t122, own_t255]; intros; omega)
        ·
          refine own_st (T' := T129) (g' := (mkF m 34 #[.val (.ref x0), .val (.int 1), .val (.int c1)] [(.int 90), (.int c1)])) (fun _ kt => XS.icmpNo X129.here hx rfl (hb hby d4_28) rfl (XT.ii_lt_f hc163) (XS.iloadN X129.here hx rfl (hb hby d4_31) rfl (XS.bipush X129.here hx rfl (hb hby d4_32) kt))) ?_
          by_cases hc164 : (90 : Int32) < c1
          ·
            refine own_st (T' := T129) (g' := (mkF m 37 #[.val (.ref x0), .val (.int 1), .val (.int c1)] [])) (fun _ kt => XS.icmpNo X129.here hx rfl (hb hby d4_34) rfl (XT.ii_le_f hc164) kt) ?_
            exact J154 () (by revert hc163 hc164; simp only [Int32.lt_iff_toInt_lt, Int64.lt_iff_toInt_lt, ← Int32.toInt_inj, ← Int64.toInt_inj, Int32.toInt_toInt64, own_t0, own_t9, own_t45, own_t48, own_t57, own_t65, own_t90, own_t95, own_t97, own_t122, own_t255]; intros; omega)
          ·
            refine own_st (T' := T129) (g' := (mkF m 75 #[.val (.ref x0), .val (.int 1), .val (.int c1)] [])) (fun _ kt => XS.icmpYes X129.here hx rfl (pc0 := 34) (pc' := 75) rfl (hb hby d4_34) rfl (XT.ii_le_t hc164) (by decide) (by decide) kt) ?_
            exact J132 () (by unfold own_ok; revert hc163 hc164; simp only [Int32.lt_iff_toInt_lt, Int64.lt_iff_toInt_lt, ← Int32.toInt_inj, ← Int64.toInt_inj, Int32.toInt_toInt64, own_t0, own_t9, own_t45, own_t48, own_t57, own_t65, own_t90, own_t95, own_t97, own_t122, own_t255]; intros; omega)
  ·
    refine own_join (α := Unit) (gj := fun q => (mkF m 37 #[.val (.ref x0), .val (.int 0), .val (.int c0)] [])) (P := fun q => ¬ (¬ c0 < 65 ∧ ¬ (90 : Int32) < c0)) ?_ (fun J165 => ?_)
    · rintro _ hj165
      try dsimp only at hj165 ⊢
      refine own_join (α := Unit) (gj := fun q => (mkF m 49 #[.val (.ref x0), .val (.int 0), .val (.int c0)] [])) (P := fun q => ¬ (¬ c0 < 97 ∧ ¬ (122 : Int32) < c0)) ?_ (fun J166 => ?_)
      · rintro _ hj166
        try dsimp only at hj166 ⊢
        refine own_join (α := Unit) (gj := fun q => (mkF m 61 #[.val (.ref x0), .val (.int 0), .val (.int c0)] [])) (P := fun q => ¬ (¬ c0 < 48 ∧ ¬ (57 : Int32) < c0)) ?_ (fun J167 => ?_)
        · rintro _ hj167
          try dsimp only at hj167 ⊢
          refine own_st (T' := T122) (g' := (mkF m 64 #[.val (.ref x0), .val (.int 0), .val (.int c0)] [(.int 95), (.int c0)])) (fun _ kt => XS.iloadN X122.here hx rfl (hb hby d4_61) rfl (XS.bipush X122.here hx rfl (hb hby d4_62) kt)) ?_
          by_cases hc168 : c0 = (95 : Int32)
          ·
            refine own_st (T' := T122) (g' := (mkF m 75 #[.val (.ref x0), .val (.int 0), .val (.int c0)] [])) (fun _ kt => XS.icmpYes X122.here hx rfl (pc0 := 64) (pc' := 75) rfl (hb hby d4_64) rfl (XT.ii_eq_t hc168) (by decide) (by decide) kt) ?_
            exact J125 () (by unfold own_ok; revert hj165 hj166 hj167 hc168; simp only [Int32.lt_iff_toInt_lt, Int64.lt_iff_toInt_lt, ← Int32.toInt_inj, ← Int64.toInt_inj, Int32.toInt_toInt64, own_t0, own_t9, own_t45, own_t48, own_t57, own_t65, own_t90, own_t95, own_t97, own_t122, own_t255]; intros; omega)
          ·
            refine own_st (T' := T122) (g' := (mkF m 70 #[.val (.ref x0), .val (.int 0), .val (.int c0)] [(.int 45), (.int c0)])) (fun _ kt => XS.icmpNo X122.here hx rfl (hb hby d4_64) rfl (XT.ii_eq_f hc168) (XS.iloadN X122.here hx rfl (hb hby d4_67) rfl (XS.bipush X122.here hx rfl (hb hby d4_68) kt))) ?_
            by_cases hc169 : c0 = (45 : Int32)
            ·
              refine own_st (T' := T122) (g' := (mkF m 75 #[.val (.ref x0), .val (.int 0), .val (.int c0)] [])) (fun _ kt => XS.icmpYes X122.here hx rfl (pc0 := 70) (pc' := 75) rfl (hb hby d4_70) rfl (XT.ii_eq_t hc169) (by decide) (by decide) kt) ?_
              exact J125 () (by unfold own_ok; revert hj165 hj166 hj167 hc168 hc169; simp only [Int32.lt_iff_toInt_lt, Int64.lt_iff_toInt_lt, ← Int32.toInt_inj, ← Int64.toInt_inj, Int32.toInt_toInt64, own_t0, own_t9, own_t45, own_t48, own_t57, own_t65, own_t90, own_t95, own_t97, own_t122, own_t255]; intros; omega)
            ·
              refine own_st (T' := T122) (g' := (mkF m 74 #[.val (.ref x0), .val (.int 0), .val (.int c0)] [(.int 0)])) (fun _ kt => XS.icmpNo X122.here hx rfl (hb hby d4_70) rfl (XT.ii_eq_f hc169) (XS.iconst X122.here hx rfl (hb hby d4_73) kt)) ?_
              obtain ⟨fs, hr, hrun, hended, hW, hsame⟩ := X122.leave (v := some (.int 0)) (fun h => by rw [Bd.returns] at h; cases h)
              refine own_end (retN X122 hx (t := .boolean) Bd.returns (by simp) (hb hby d4_74) hr) ⟨_, hrun, hended, _, _, rfl, ?_, ⟨_, rfl⟩, hW, hsame.mono (by decide) (by decide)⟩
              show own_is3Q Z _ _ _ _ _ _ _ _ _ _ _ h0 n0 _ T122.heap _
              rw [e122]
              exact ⟨(by rw [if_neg (fun q => (show ¬ own_ok c0 from (by unfold own_ok; revert hj165 hj166 hj167 hc168 hc169; simp only [Int32.lt_iff_toInt_lt, Int64.lt_iff_toInt_lt, ← Int32.toInt_inj, ← Int64.toInt_inj, Int32.toInt_toInt64, own_t0, own_t9, own_t45, own_t48, own_t57, own_t65, own_t90, own_t95, own_t97, own_t122, own_t255]; intros; omega)) q.1)]), N124, rfl⟩
        ·
          refine own_st (T' := T122) (g' := (mkF m 52 #[.val (.ref x0), .val (.int 0), .val (.int c0)] [(.int 48), (.int c0)])) (fun _ kt => XS.iloadN X122.here hx rfl (hb hby d4_49) rfl (XS.bipush X122.here hx rfl (hb hby d4_50) kt)) ?_
          by_cases hc170 : c0 < (48 : Int32)
          ·
            refine own_st (T' := T122) (g' := (mkF m 61 #[.val (.ref x0), .val (.int 0), .val (.int c0)] [])) (fun _ kt => XS.icmpYes X122.here hx rfl (pc0 := 52) (pc' := 61) rfl (hb hby d4_52) rfl (XT.ii_lt_t hc170) (by decide) (by decide) kt) ?_
            exact J167 () (by revert hc170; simp only [Int32.lt_iff_toInt_lt, Int64.lt_iff_toInt_lt, ← Int32.toInt_inj, ← Int64.toInt_inj, Int32.toInt_toInt64, own_t0, own_t9, own_t45, own_t48, own_t57, own_t65, own_t90, own_t95, own_t97, own_t122, own_t255]; intros; omega)
          ·
            refine own_st (T' := T122) (g' := (mkF m 58 #[.val (.ref x0), .val (.int 0), .val (.int c0)] [(.int 57), (.int c0)])) (fun _ kt => XS.icmpNo X122.here hx rfl (hb hby d4_52) rfl (XT.ii_lt_f hc170) (XS.iloadN X122.here hx rfl (hb hby d4_55) rfl (XS.bipush X122.here hx rfl (hb hby d4_56) kt))) ?_
            by_cases hc171 : (57 : Int32) < c0
            ·
              refine own_st (T' := T122) (g' := (mkF m 61 #[.val (.ref x0), .val (.int 0), .val (.int c0)] [])) (fun _ kt => XS.icmpNo X122.here hx rfl (hb hby d4_58) rfl (XT.ii_le_f hc171) kt) ?_
              exact J167 () (by revert hc170 hc171; simp only [Int32.lt_iff_toInt_lt, Int64.lt_iff_toInt_lt, ← Int32.toInt_inj, ← Int64.toInt_inj, Int32.toInt_toInt64, own_t0, own_t9, own_t45, own_t48, own_t57, own_t65, own_t90, own_t95, own_t97, own_t122, own_t255]; intros; omega)
            ·
              refine own_st (T' := T122) (g' := (mkF m 75 #[.val (.ref x0), .val (.int 0), .val (.int c0)] [])) (fun _ kt => XS.icmpYes X122.here hx rfl (pc0 := 58) (pc' := 75) rfl (hb hby d4_58) rfl (XT.ii_le_t hc171) (by decide) (by decide) kt) ?_
              exact J125 () (by unfold own_ok; revert hj165 hj166 hc170 hc171; simp only [Int32.lt_iff_toInt_lt, Int64.lt_iff_toInt_lt, ← Int32.toInt_inj, ← Int64.toInt_inj, Int32.toInt_toInt64, own_t0, own_t9, own_t45, own_t48, own_t57, own_t65, own_t90, own_t95, own_t97, own_t122, own_t255]; intros; omega)
      ·
        refine own_st (T' := T122) (g' := (mkF m 40 #[.val (.ref x0), .val (.int 0), .val (.int c0)] [(.int 97), (.int c0)])) (fun _ kt => XS.iloadN X122.here hx rfl (hb hby d4_37) rfl (XS.bipush X122.here hx rfl (hb hby d4_38) kt)) ?_
        by_cases hc172 : c0 < (97 : Int32)
        ·
          refine own_st (T' := T122) (g' := (mkF m 49 #[.val (.ref x0), .val (.int 0), .val (.int c0)] [])) (fun _ kt => XS.icmpYes X122.here hx rfl (pc0 := 40) (pc' := 49) rfl (hb hby d4_40) rfl (XT.ii_lt_t hc172) (by decide) (by decide) kt) ?_
          exact J166 () (by revert hc172; simp only [Int32.lt_iff_toInt_lt, Int64.lt_iff_toInt_lt, ← Int32.toInt_inj, ← Int64.toInt_inj, Int32.toInt_toInt64, own_t0, own_t9, own_t45, own_t48, own_t57, own_t65, own_t90, own_t95, own_t97, own_t122, own_t255]; intros; omega)
        ·
          refine own_st (T' := T122) (g' := (mkF m 46 #[.val (.ref x0), .val (.int 0), .val (.int c0)] [(.int 122), (.int c0)])) (fun _ kt => XS.icmpNo X122.here hx rfl (hb hby d4_40) rfl (XT.ii_lt_f hc172) (XS.iloadN X122.here hx rfl (hb hby d4_43) rfl (XS.bipush X122.here hx rfl (hb hby d4_44) kt))) ?_
          by_cases hc173 : (122 : Int32) < c0
          ·
            refine own_st (T' := T122) (g' := (mkF m 49 #[.val (.ref x0), .val (.int 0), .val (.int c0)] [])) (fun _ kt => XS.icmpNo X122.here hx rfl (hb hby d4_46) rfl (XT.ii_le_f hc173) kt) ?_
            exact J166 () (by revert hc172 hc173; simp only [Int32.lt_iff_toInt_lt, Int64.lt_iff_toInt_lt, ← Int32.toInt_inj, ← Int64.toInt_inj, Int32.toInt_toInt64, own_t0, own_t9, own_t45, own_t48, own_t57, own_t65, own_t90, own_t95, own_t97, own_t122, own_t255]; intros; omega)
          ·
            refine own_st (T' := T122) (g' := (mkF m 75 #[.val (.ref x0), .val (.int 0), .val (.int c0)] [])) (fun _ kt => XS.icmpYes X122.here hx rfl (pc0 := 46) (pc' := 75) rfl (hb hby d4_46) rfl (XT.ii_le_t hc173) (by decide) (by decide) kt) ?_
            exact J125 () (by unfold own_ok; revert hj165 hc172 hc173; simp only [Int32.lt_iff_toInt_lt, Int64.lt_iff_toInt_lt, ← Int32.toInt_inj, ← Int64.toInt_inj, Int32.toInt_toInt64, own_t0, own_t9, own_t45, own_t48, own_t57, own_t65, own_t90, own_t95, own_t97, own_t122, own_t255]; intros; omega)
    ·
      refine own_st (T' := T122) (g' := (mkF m 28 #[.val (.ref x0), .val (.int 0), .val (.int c0)] [(.int 65), (.int c0)])) (fun _ kt => XS.iloadN X122.here hx rfl (hb hby d4_25) rfl (XS.bipush X122.here hx rfl (hb hby d4_26) kt)) ?_
      by_cases hc174 : c0 < (65 : Int32)
      ·
        refine own_st (T' := T122) (g' := (mkF m 37 #[.val (.ref x0), .val (.int 0), .val (.int c0)] [])) (fun _ kt => XS.icmpYes X122.here hx rfl (pc0 := 28) (pc' := 37) rfl (hb hby d4_28) rfl (XT.ii_lt_t hc174) (by decide) (by decide) kt) ?_
        exact J165 () (by revert hc174; simp only [Int32.lt_iff_toInt_lt, Int64.lt_iff_toInt_lt, ← Int32.toInt_inj, ← Int64.toInt_inj, Int32.toInt_toInt64, own_t0, own_t9, own_t45, own_t48, own_t57, own_t65, own_t90, own_t95, own_t97, own_t122, own_t255]; intros; omega)
      ·
        refine own_st (T' := T122) (g' := (mkF m 34 #[.val (.ref x0), .val (.int 0), .val (.int c0)] [(.int 90), (.int c0)])) (fun _ kt => XS.icmpNo X122.here hx rfl (hb hby d4_28) rfl (XT.ii_lt_f hc174) (XS.iloadN X122.here hx rfl (hb hby d4_31) rfl (XS.bipush X122.here hx rfl (hb hby d4_32) kt))) ?_
        by_cases hc175 : (90 : Int32) < c0
        ·
          refine own_st (T' := T122) (g' := (mkF m 37 #[.val (.ref x0), .val (.int 0), .val (.int c0)] [])) (fun _ kt => XS.icmpNo X122.here hx rfl (hb hby d4_34) rfl (XT.ii_le_f hc175) kt) ?_
          exact J165 () (by revert hc174 hc175; simp only [Int32.lt_iff_toInt_lt, Int64.lt_iff_toInt_lt, ← Int32.toInt_inj, ← Int64.toInt_inj, Int32.toInt_toInt64, own_t0, own_t9, own_t45, own_t48, own_t57, own_t65, own_t90, own_t95, own_t97, own_t122, own_t255]; intros; omega)
        ·
          refine own_st (T' := T122) (g' := (mkF m 75 #[.val (.ref x0), .val (.int 0), .val (.int c0)] [])) (fun _ kt => XS.icmpYes X122.here hx rfl (pc0 := 34) (pc' := 75) rfl (hb hby d4_34) rfl (XT.ii_le_t hc175) (by decide) (by decide) kt) ?_
          exact J125 () (by unfold own_ok; revert hc174 hc175; simp only [Int32.lt_iff_toInt_lt, Int64.lt_iff_toInt_lt, ← Int32.toInt_inj, ← Int64.toInt_inj, Int32.toInt_toInt64, own_t0, own_t9, own_t45, own_t48, own_t57, own_t65, own_t90, own_t95, own_t97, own_t122, own_t255]; intros; omega)
def own_is4Q (Z : State) (x0 : Addr) (zc : Int32) (fmt : Value) (t : Addr) (kb : ClassId) (cd : Int32) (zz : Int32) (vl : List Value) (c0 : Int32) (c1 : Int32) (c2 : Int32) (c3 : Int32) (h0 : Heap) (n0 : Nat) (v : Option Value) (h : Heap) (L : List Loc) : Prop := v = some (.int (if own_ok c0 ∧ own_ok c1 ∧ own_ok c2 ∧ own_ok c3 then (1 : Int32) else 0)) ∧ Fr n0 L ∧ h = h0
abbrev own_is4R : Room := { frames := 5, cells := 0, slots := 0, locals := 66 }
theorem own_is4 (l : Launch) (Z : State) (a0 : Array Value) (hw : ∀ d ∈ tables_1, d.before a0 Z = true) (ws : List Jvm.Cond) (x0 : Addr) (zc : Int32) (fmt : Value) (t : Addr) (kb : ClassId) (cd : Int32) (zz : Int32) (vl : List Value) (c0 : Int32) (c1 : Int32) (c2 : Int32) (c3 : Int32) (h0 : Heap) (n0 : Nat) (Z0 : n0 ≤ h0.size) (pr1 : Old Z n0 h0) (pr2 : Sta Z Z.heap "java/lang/String" "COMPACT_STRINGS" "Z" (.int zc)) (pr3 : ¬ zc = 0) (pr4 : Sta Z Z.heap "jdk/internal/util/Preconditions" "SIOOBE_FORMATTER" "Ljava/util/function/BiFunction;" fmt) (pr5 : fmt.isRef = true) (pr6 : Sta Z Z.heap "java/lang/StringUTF16" "$assertionsDisabled" "Z" (.int 1)) (pr7 : Sta Z Z.heap "java/lang/StringUTF16" "HI_BYTE_SHIFT" "I" (.int 0)) (pr8 : Sta Z Z.heap "java/lang/StringUTF16" "LO_BYTE_SHIFT" "I" (.int 8)) (pr9 : Exa Z h0 x0 "java/lang/String") (pr10 : Fld Z h0 x0 "java/lang/String" "coder" "B" (.int cd)) (pr11 : Fld Z h0 x0 "java/lang/String" "value" "[B" (.ref t)) (pr12 : Arv Z h0 t kb .byte zz vl (.int 0)) (pr13 : (cd = 0 ∧ zz = 4 ∧ vl = [(.int c0.toInt8.toInt32), (.int c1.toInt8.toInt32), (.int c2.toInt8.toInt32), (.int c3.toInt8.toInt32)] ∧ ¬ (255 : Int32) < c0 ∧ ¬ (255 : Int32) < c1 ∧ ¬ (255 : Int32) < c2 ∧ ¬ (255 : Int32) < c3) ∨ (cd = 1 ∧ zz = 8 ∧ vl = [(.int (own_lo c0)), (.int (own_hi c0)), (.int (own_lo c1)), (.int (own_hi c1)), (.int (own_lo c2)), (.int (own_hi c2)), (.int (own_lo c3)), (.int (own_hi c3))])) (pr14 : own_c16 c0) (pr15 : own_c16 c1) (pr16 : own_c16 c2) (pr17 : own_c16 c3) :
    own_M l yN10 prog_36_method_2_code 3 (some .boolean) ws own_is4R #[(.ref x0)] Z h0 (own_is4Q Z x0 zc fmt t kb cd zz vl c0 c1 c2 c3 h0 n0) := by
  refine own_go (plainFor_of_name own_pn5) (fun m => own_ef6 m x0 ) ?_
  intro p e s m below meth c s₁ Bd hx hby hml hZ hh hown hnm X0 e0
  have N0 := Fr.nil n0
  refine own_st (T' := s₁) (g' := (mkF m 1 #[.val (.ref x0), .unset, .unset] [(.ref x0)])) (fun _ kt => XS.aloadN X0.here hx rfl (hb hby d4_0) rfl rfl kt) ?_
  obtain ⟨cq177, kq177, qa177, qb177, qc177⟩ := isOf hZ e0 pr9
  obtain ⟨_, _, ⟨T176, L176, k176, n176⟩, -, X176, ⟨Lc176, hQ176, l176, y176, z176⟩, st176⟩ := X0.virtualBack hx (y := yN7) (z := yN7) hown (mvT hZ (own_k hw 28 rfl)) (mvT hZ (own_k hw 29 rfl)) (notFace_of_selects (args := #[]) (mvT hZ (own_k hw 31 rfl))) (mvT hZ (own_k hw 31 rfl)) (mvT hZ (own_k hw 30 rfl)) (by decide) (backOf (W := 0) (own_em l Z a0 hw [] x0 t kb zz vl h0 n0 Z0 pr11 pr12 (show ¬ zz = 0 from (by rcases pr13 with ⟨-, rfl, -⟩ | ⟨-, rfl, -⟩ <;> decide))) hZ (own_k hw 32 rfl) (own_k hw 4 rfl) (by decide) (by decide)) qa177 qc177 (g := (mkF m 1 #[.val (.ref x0), .unset, .unset] [(.ref x0)])) rfl hml.symm (Steps.refl _) (argsL := []) (rest := []) (lenOf own_pd6 rfl) rfl (own_w0 rfl rfl) (hb hby d4_1) (fun _ _ => ⟨rfl, e0, (by decide : 0 + 0 ≤ 0), (by decide : 0 + 0 ≤ 0)⟩)
  dsimp only [Pt.U, Pt.locs, Pt.cells, Pt.slots] at X176 l176 y176 z176 st176 hQ176
  subst l176 y176 z176
  obtain ⟨rfl, N176, e176⟩ := hQ176
  have N178 := Fr.app N0 N176
  refine own_tr (T' := T176) (g' := (mkF m 4 #[.val (.ref x0), .unset, .unset] [(.int 0)])) st176 ?_
  refine own_st (T' := T176) (g' := (mkF m 13 #[.val (.ref x0), .val (.int 0), .unset] [(.ref x0), (.int 0)])) (fun _ kt => XS.ifYes X176.here hx rfl (pc0 := 4) (pc' := 9) rfl (hb hby d4_4) rfl (XT.i0_eq_t (by decide)) (by decide) (by decide) (XS.iconst X176.here hx rfl (hb hby d4_9) (XS.istoreN X176.here hx rfl (hb hby d4_10) rfl (l' := #[.val (.ref x0), .val (.int 0), .unset]) rfl (XS.iloadN X176.here hx rfl (hb hby d4_11) rfl (XS.aloadN X176.here hx rfl (hb hby d4_12) rfl rfl kt))))) ?_
  obtain ⟨cq180, kq180, qa180, qb180, qc180⟩ := isOf hZ e176 pr9
  obtain ⟨_, _, ⟨T179, L179, k179, n179⟩, -, X179, ⟨Lc179, hQ179, l179, y179, z179⟩, st179⟩ := X176.virtualBack hx (y := yN0) (z := yN0) hown (mvT hZ (own_k hw 48 rfl)) (mvT hZ (own_k hw 49 rfl)) (notFace_of_selects (args := #[]) (mvT hZ (own_k hw 51 rfl))) (mvT hZ (own_k hw 51 rfl)) (mvT hZ (own_k hw 50 rfl)) (by decide) (backOf (W := 1) (own_sl l Z a0 hw [] x0 zc fmt t kb cd zz vl (4 : Int32) h0 n0 Z0 pr1 pr2 pr3 pr4 pr5 pr6 pr7 pr8 pr9 pr10 pr11 pr12 (show own_ln cd zz (4 : Int32) from (by rcases pr13 with ⟨rfl, rfl, -⟩ | ⟨rfl, rfl, -⟩; exact Or.inl ⟨rfl, rfl⟩; exact Or.inr ⟨rfl, by decide⟩))) hZ (own_k hw 52 rfl) (own_k hw 4 rfl) (by decide) (by decide)) qa180 qc180 (g := (mkF m 13 #[.val (.ref x0), .val (.int 0), .unset] [(.ref x0), (.int 0)])) rfl hml.symm (Steps.refl _) (argsL := []) (rest := [(.int 0)]) (lenOf own_pd8 rfl) rfl (own_w0 rfl rfl) (hb hby d4_13) (fun _ _ => ⟨rfl, e176, (by decide : 0 + 0 ≤ 0), (by decide : 0 + 0 ≤ 0)⟩)
  dsimp only [Pt.U, Pt.locs, Pt.cells, Pt.slots] at X179 l179 y179 z179 st179 hQ179
  subst l179 y179 z179
  obtain ⟨rfl, N179, e179⟩ := hQ179
  have N181 := Fr.app N178 N179
  refine own_tr (T' := T179) (g' := (mkF m 16 #[.val (.ref x0), .val (.int 0), .unset] [(.int 4), (.int 0)])) st179 ?_
  refine own_st (T' := T179) (g' := (mkF m 21 #[.val (.ref x0), .val (.int 0), .unset] [(.int 0), (.ref x0)])) (fun _ kt => XS.icmpNo X179.here hx rfl (hb hby d4_16) rfl (XT.ii_ge_f (by decide)) (XS.aloadN X179.here hx rfl (hb hby d4_19) rfl rfl (XS.iloadN X179.here hx rfl (hb hby d4_20) rfl kt))) ?_
  obtain ⟨cq183, kq183, qa183, qb183, qc183⟩ := isOf hZ e179 pr9
  obtain ⟨_, _, ⟨T182, L182, k182, n182⟩, -, X182, ⟨Lc182, hQ182, l182, y182, z182⟩, st182⟩ := X179.virtualBack hx (y := yN4) (z := yN4) hown (mvT hZ (own_k hw 58 rfl)) (mvT hZ (own_k hw 59 rfl)) (notFace_of_selects (args := #[]) (mvT hZ (own_k hw 61 rfl))) (mvT hZ (own_k hw 61 rfl)) (mvT hZ (own_k hw 60 rfl)) (by decide) (backOf (W := 0) (own_ca l Z a0 hw [] x0 (0 : Int32) zc fmt t kb cd zz vl c0 h0 n0 Z0 pr1 pr2 pr3 pr4 pr5 pr6 pr7 pr8 pr9 pr10 pr11 pr12 (show own_at cd zz vl (0 : Int32) c0 from (by rcases pr13 with ⟨rfl, rfl, rfl, hl0, hl1, hl2, hl3⟩ | ⟨rfl, rfl, rfl⟩; exact Or.inl ⟨rfl, by decide, rfl, hl0⟩; exact Or.inr ⟨rfl, by decide, by decide, rfl, by decide, rfl⟩)) pr14) hZ (own_k hw 62 rfl) (own_k hw 4 rfl) (by decide) (by decide)) qa183 qc183 (g := (mkF m 21 #[.val (.ref x0), .val (.int 0), .unset] [(.int 0), (.ref x0)])) rfl hml.symm (Steps.refl _) (argsL := [(.int 0)]) (rest := []) (lenOf own_pd9 rfl) rfl (own_w0 rfl rfl) (hb hby d4_21) (fun _ _ => ⟨rfl, e179, (by decide : 0 + 0 ≤ 0), (by decide : 0 + 0 ≤ 0)⟩)
  dsimp only [Pt.U, Pt.locs, Pt.cells, Pt.slots] at X182 l182 y182 z182 st182 hQ182
  subst l182 y182 z182
  obtain ⟨rfl, N182, e182⟩ := hQ182
  have N184 := Fr.app N181 N182
  refine own_tr (T' := T182) (g' := (mkF m 24 #[.val (.ref x0), .val (.int 0), .unset] [(.int c0)])) st182 ?_
  refine own_st (T' := T182) (g' := (mkF m 25 #[.val (.ref x0), .val (.int 0), .val (.int c0)] [])) (fun _ kt => XS.istoreN X182.here hx rfl (hb hby d4_24) rfl (l' := #[.val (.ref x0), .val (.int 0), .val (.int c0)]) rfl kt) ?_
  refine own_join (α := Unit) (gj := fun q => (mkF m 75 #[.val (.ref x0), .val (.int 0), .val (.int c0)] [])) (P := fun q => own_ok c0) ?_ (fun J185 => ?_)
  · rintro _ hj185
    try dsimp only at hj185 ⊢
    refine own_st (T' := T182) (g' := (mkF m 13 #[.val (.ref x0), .val (.int 1), .val (.int c0)] [(.ref x0), (.int 1)])) (fun _ kt => XS.iinc X182.here hx rfl (hb hby d4_75) rfl (l' := #[.val (.ref x0), .val (.int 1), .val (.int c0)]) rfl (XS.goto X182.here hx rfl (pc0 := 78) (pc' := 11) rfl (hb hby d4_78) (by decide) (by decide) (XS.iloadN X182.here hx rfl (hb hby d4_11) rfl (XS.aloadN X182.here hx rfl (hb hby d4_12) rfl rfl kt)))) ?_
    obtain ⟨cq187, kq187, qa187, qb187, qc187⟩ := isOf hZ e182 pr9
    obtain ⟨_, _, ⟨T186, L186, k186, n186⟩, -, X186, ⟨Lc186, hQ186, l186, y186, z186⟩, st186⟩ := X182.virtualBack hx (y := yN0) (z := yN0) hown (mvT hZ (own_k hw 48 rfl)) (mvT hZ (own_k hw 49 rfl)) (notFace_of_selects (args := #[]) (mvT hZ (own_k hw 51 rfl))) (mvT hZ (own_k hw 51 rfl)) (mvT hZ (own_k hw 50 rfl)) (by decide) (backOf (W := 1) (own_sl l Z a0 hw [] x0 zc fmt t kb cd zz vl (4 : Int32) h0 n0 Z0 pr1 pr2 pr3 pr4 pr5 pr6 pr7 pr8 pr9 pr10 pr11 pr12 (show own_ln cd zz (4 : Int32) from (by rcases pr13 with ⟨rfl, rfl, -⟩ | ⟨rfl, rfl, -⟩; exact Or.inl ⟨rfl, rfl⟩; exact Or.inr ⟨rfl, by decide⟩))) hZ (own_k hw 52 rfl) (own_k hw 4 rfl) (by decide) (by decide)) qa187 qc187 (g := (mkF m 13 #[.val (.ref x0), .val (.int 1), .val (.int c0)] [(.ref x0), (.int 1)])) rfl hml.symm (Steps.refl _) (argsL := []) (rest := [(.int 1)]) (lenOf own_pd8 rfl) rfl (own_w0 rfl rfl) (hb hby d4_13) (fun _ _ => ⟨rfl, e182, (by decide : 0 + 0 ≤ 0), (by decide : 0 + 0 ≤ 0)⟩)
    dsimp only [Pt.U, Pt.locs, Pt.cells, Pt.slots] at X186 l186 y186 z186 st186 hQ186
    subst l186 y186 z186
    obtain ⟨rfl, N186, e186⟩ := hQ186
    have N188 := Fr.app N184 N186
    refine own_tr (T' := T186) (g' := (mkF m 16 #[.val (.ref x0), .val (.int 1), .val (.int c0)] [(.int 4), (.int 1)])) st186 ?_
    refine own_st (T' := T186) (g' := (mkF m 21 #[.val (.ref x0), .val (.int 1), .val (.int c0)] [(.int 1), (.ref x0)])) (fun _ kt => XS.icmpNo X186.here hx rfl (hb hby d4_16) rfl (XT.ii_ge_f (by decide)) (XS.aloadN X186.here hx rfl (hb hby d4_19) rfl rfl (XS.iloadN X186.here hx rfl (hb hby d4_20) rfl kt))) ?_
    obtain ⟨cq190, kq190, qa190, qb190, qc190⟩ := isOf hZ e186 pr9
    obtain ⟨_, _, ⟨T189, L189, k189, n189⟩, -, X189, ⟨Lc189, hQ189, l189, y189, z189⟩, st189⟩ := X186.virtualBack hx (y := yN4) (z := yN4) hown (mvT hZ (own_k hw 58 rfl)) (mvT hZ (own_k hw 59 rfl)) (notFace_of_selects (args := #[]) (mvT hZ (own_k hw 61 rfl))) (mvT hZ (own_k hw 61 rfl)) (mvT hZ (own_k hw 60 rfl)) (by decide) (backOf (W := 0) (own_ca l Z a0 hw [] x0 (1 : Int32) zc fmt t kb cd zz vl c1 h0 n0 Z0 pr1 pr2 pr3 pr4 pr5 pr6 pr7 pr8 pr9 pr10 pr11 pr12 (show own_at cd zz vl (1 : Int32) c1 from (by rcases pr13 with ⟨rfl, rfl, rfl, hl0, hl1, hl2, hl3⟩ | ⟨rfl, rfl, rfl⟩; exact Or.inl ⟨rfl, by decide, rfl, hl1⟩; exact Or.inr ⟨rfl, by decide, by decide, rfl, by decide, rfl⟩)) pr15) hZ (own_k hw 62 rfl) (own_k hw 4 rfl) (by decide) (by decide)) qa190 qc190 (g := (mkF m 21 #[.val (.ref x0), .val (.int 1), .val (.int c0)] [(.int 1), (.ref x0)])) rfl hml.symm (Steps.refl _) (argsL := [(.int 1)]) (rest := []) (lenOf own_pd9 rfl) rfl (own_w0 rfl rfl) (hb hby d4_21) (fun _ _ => ⟨rfl, e186, (by decide : 0 + 0 ≤ 0), (by decide : 0 + 0 ≤ 0)⟩)
    dsimp only [Pt.U, Pt.locs, Pt.cells, Pt.slots] at X189 l189 y189 z189 st189 hQ189
    subst l189 y189 z189
    obtain ⟨rfl, N189, e189⟩ := hQ189
    have N191 := Fr.app N188 N189
    refine own_tr (T' := T189) (g' := (mkF m 24 #[.val (.ref x0), .val (.int 1), .val (.int c0)] [(.int c1)])) st189 ?_
    refine own_st (T' := T189) (g' := (mkF m 25 #[.val (.ref x0), .val (.int 1), .val (.int c1)] [])) (fun _ kt => XS.istoreN X189.here hx rfl (hb hby d4_24) rfl (l' := #[.val (.ref x0), .val (.int 1), .val (.int c1)]) rfl kt) ?_
    refine own_join (α := Unit) (gj := fun q => (mkF m 75 #[.val (.ref x0), .val (.int 1), .val (.int c1)] [])) (P := fun q => own_ok c1) ?_ (fun J192 => ?_)
    · rintro _ hj192
      try dsimp only at hj192 ⊢
      refine own_st (T' := T189) (g' := (mkF m 13 #[.val (.ref x0), .val (.int 2), .val (.int c1)] [(.ref x0), (.int 2)])) (fun _ kt => XS.iinc X189.here hx rfl (hb hby d4_75) rfl (l' := #[.val (.ref x0), .val (.int 2), .val (.int c1)]) rfl (XS.goto X189.here hx rfl (pc0 := 78) (pc' := 11) rfl (hb hby d4_78) (by decide) (by decide) (XS.iloadN X189.here hx rfl (hb hby d4_11) rfl (XS.aloadN X189.here hx rfl (hb hby d4_12) rfl rfl kt)))) ?_
      obtain ⟨cq194, kq194, qa194, qb194, qc194⟩ := isOf hZ e189 pr9
      obtain ⟨_, _, ⟨T193, L193, k193, n193⟩, -, X193, ⟨Lc193, hQ193, l193, y193, z193⟩, st193⟩ := X189.virtualBack hx (y := yN0) (z := yN0) hown (mvT hZ (own_k hw 48 rfl)) (mvT hZ (own_k hw 49 rfl)) (notFace_of_selects (args := #[]) (mvT hZ (own_k hw 51 rfl))) (mvT hZ (own_k hw 51 rfl)) (mvT hZ (own_k hw 50 rfl)) (by decide) (backOf (W := 1) (own_sl l Z a0 hw [] x0 zc fmt t kb cd zz vl (4 : Int32) h0 n0 Z0 pr1 pr2 pr3 pr4 pr5 pr6 pr7 pr8 pr9 pr10 pr11 pr12 (show own_ln cd zz (4 : Int32) from (by rcases pr13 with ⟨rfl, rfl, -⟩ | ⟨rfl, rfl, -⟩; exact Or.inl ⟨rfl, rfl⟩; exact Or.inr ⟨rfl, by decide⟩))) hZ (own_k hw 52 rfl) (own_k hw 4 rfl) (by decide) (by decide)) qa194 qc194 (g := (mkF m 13 #[.val (.ref x0), .val (.int 2), .val (.int c1)] [(.ref x0), (.int 2)])) rfl hml.symm (Steps.refl _) (argsL := []) (rest := [(.int 2)]) (lenOf own_pd8 rfl) rfl (own_w0 rfl rfl) (hb hby d4_13) (fun _ _ => ⟨rfl, e189, (by decide : 0 + 0 ≤ 0), (by decide : 0 + 0 ≤ 0)⟩)
      dsimp only [Pt.U, Pt.locs, Pt.cells, Pt.slots] at X193 l193 y193 z193 st193 hQ193
      subst l193 y193 z193
      obtain ⟨rfl, N193, e193⟩ := hQ193
      have N195 := Fr.app N191 N193
      refine own_tr (T' := T193) (g' := (mkF m 16 #[.val (.ref x0), .val (.int 2), .val (.int c1)] [(.int 4), (.int 2)])) st193 ?_
      refine own_st (T' := T193) (g' := (mkF m 21 #[.val (.ref x0), .val (.int 2), .val (.int c1)] [(.int 2), (.ref x0)])) (fun _ kt => XS.icmpNo X193.here hx rfl (hb hby d4_16) rfl (XT.ii_ge_f (by decide)) (XS.aloadN X193.here hx rfl (hb hby d4_19) rfl rfl (XS.iloadN X193.here hx rfl (hb hby d4_20) rfl kt))) ?_
      obtain ⟨cq197, kq197, qa197, qb197, qc197⟩ := isOf hZ e193 pr9
      obtain ⟨_, _, ⟨T196, L196, k196, n196⟩, -, X196, ⟨Lc196, hQ196, l196, y196, z196⟩, st196⟩ := X193.virtualBack hx (y := yN4) (z := yN4) hown (mvT hZ (own_k hw 58 rfl)) (mvT hZ (own_k hw 59 rfl)) (notFace_of_selects (args := #[]) (mvT hZ (own_k hw 61 rfl))) (mvT hZ (own_k hw 61 rfl)) (mvT hZ (own_k hw 60 rfl)) (by decide) (backOf (W := 0) (own_ca l Z a0 hw [] x0 (2 : Int32) zc fmt t kb cd zz vl c2 h0 n0 Z0 pr1 pr2 pr3 pr4 pr5 pr6 pr7 pr8 pr9 pr10 pr11 pr12 (show own_at cd zz vl (2 : Int32) c2 from (by rcases pr13 with ⟨rfl, rfl, rfl, hl0, hl1, hl2, hl3⟩ | ⟨rfl, rfl, rfl⟩; exact Or.inl ⟨rfl, by decide, rfl, hl2⟩; exact Or.inr ⟨rfl, by decide, by decide, rfl, by decide, rfl⟩)) pr16) hZ (own_k hw 62 rfl) (own_k hw 4 rfl) (by decide) (by decide)) qa197 qc197 (g := (mkF m 21 #[.val (.ref x0), .val (.int 2), .val (.int c1)] [(.int 2), (.ref x0)])) rfl hml.symm (Steps.refl _) (argsL := [(.int 2)]) (rest := []) (lenOf own_pd9 rfl) rfl (own_w0 rfl rfl) (hb hby d4_21) (fun _ _ => ⟨rfl, e193, (by decide : 0 + 0 ≤ 0), (by decide : 0 + 0 ≤ 0)⟩)
      dsimp only [Pt.U, Pt.locs, Pt.cells, Pt.slots] at X196 l196 y196 z196 st196 hQ196
      subst l196 y196 z196
      obtain ⟨rfl, N196, e196⟩ := hQ196
      have N198 := Fr.app N195 N196
      refine own_tr (T' := T196) (g' := (mkF m 24 #[.val (.ref x0), .val (.int 2), .val (.int c1)] [(.int c2)])) st196 ?_
      refine own_st (T' := T196) (g' := (mkF m 25 #[.val (.ref x0), .val (.int 2), .val (.int c2)] [])) (fun _ kt => XS.istoreN X196.here hx rfl (hb hby d4_24) rfl (l' := #[.val (.ref x0), .val (.int 2), .val (.int c2)]) rfl kt) ?_
      refine own_join (α := Unit) (gj := fun q => (mkF m 75 #[.val (.ref x0), .val (.int 2), .val (.int c2)] [])) (P := fun q => own_ok c2) ?_ (fun J199 => ?_)
      · rintro _ hj199
        try dsimp only at hj199 ⊢
        refine own_st (T' := T196) (g' := (mkF m 13 #[.val (.ref x0), .val (.int 3), .val (.int c2)] [(.ref x0), (.int 3)])) (fun _ kt => XS.iinc X196.here hx rfl (hb hby d4_75) rfl (l' := #[.val (.ref x0), .val (.int 3), .val (.int c2)]) rfl (XS.goto X196.here hx rfl (pc0 := 78) (pc' := 11) rfl (hb hby d4_78) (by decide) (by decide) (XS.iloadN X196.here hx rfl (hb hby d4_11) rfl (XS.aloadN X196.here hx rfl (hb hby d4_12) rfl rfl kt)))) ?_
        obtain ⟨cq201, kq201, qa201, qb201, qc201⟩ := isOf hZ e196 pr9
        obtain ⟨_, _, ⟨T200, L200, k200, n200⟩, -, X200, ⟨Lc200, hQ200, l200, y200, z200⟩, st200⟩ := X196.virtualBack hx (y := yN0) (z := yN0) hown (mvT hZ (own_k hw 48 rfl)) (mvT hZ (own_k hw 49 rfl)) (notFace_of_selects (args := #[]) (mvT hZ (own_k hw 51 rfl))) (mvT hZ (own_k hw 51 rfl)) (mvT hZ (own_k hw 50 rfl)) (by decide) (backOf (W := 1) (own_sl l Z a0 hw [] x0 zc fmt t kb cd zz vl (4 : Int32) h0 n0 Z0 pr1 pr2 pr3 pr4 pr5 pr6 pr7 pr8 pr9 pr10 pr11 pr12 (show own_ln cd zz (4 : Int32) from (by rcases pr13 with ⟨rfl, rfl, -⟩ | ⟨rfl, rfl, -⟩; exact Or.inl ⟨rfl, rfl⟩; exact Or.inr ⟨rfl, by decide⟩))) hZ (own_k hw 52 rfl) (own_k hw 4 rfl) (by decide) (by decide)) qa201 qc201 (g := (mkF m 13 #[.val (.ref x0), .val (.int 3), .val (.int c2)] [(.ref x0), (.int 3)])) rfl hml.symm (Steps.refl _) (argsL := []) (rest := [(.int 3)]) (lenOf own_pd8 rfl) rfl (own_w0 rfl rfl) (hb hby d4_13) (fun _ _ => ⟨rfl, e196, (by decide : 0 + 0 ≤ 0), (by decide : 0 + 0 ≤ 0)⟩)
        dsimp only [Pt.U, Pt.locs, Pt.cells, Pt.slots] at X200 l200 y200 z200 st200 hQ200
        subst l200 y200 z200
        obtain ⟨rfl, N200, e200⟩ := hQ200
        have N202 := Fr.app N198 N200
        refine own_tr (T' := T200) (g' := (mkF m 16 #[.val (.ref x0), .val (.int 3), .val (.int c2)] [(.int 4), (.int 3)])) st200 ?_
        refine own_st (T' := T200) (g' := (mkF m 21 #[.val (.ref x0), .val (.int 3), .val (.int c2)] [(.int 3), (.ref x0)])) (fun _ kt => XS.icmpNo X200.here hx rfl (hb hby d4_16) rfl (XT.ii_ge_f (by decide)) (XS.aloadN X200.here hx rfl (hb hby d4_19) rfl rfl (XS.iloadN X200.here hx rfl (hb hby d4_20) rfl kt))) ?_
        obtain ⟨cq204, kq204, qa204, qb204, qc204⟩ := isOf hZ e200 pr9
        obtain ⟨_, _, ⟨T203, L203, k203, n203⟩, -, X203, ⟨Lc203, hQ203, l203, y203, z203⟩, st203⟩ := X200.virtualBack hx (y := yN4) (z := yN4) hown (mvT hZ (own_k hw 58 rfl)) (mvT hZ (own_k hw 59 rfl)) (notFace_of_selects (args := #[]) (mvT hZ (own_k hw 61 rfl))) (mvT hZ (own_k hw 61 rfl)) (mvT hZ (own_k hw 60 rfl)) (by decide) (backOf (W := 0) (own_ca l Z a0 hw [] x0 (3 : Int32) zc fmt t kb cd zz vl c3 h0 n0 Z0 pr1 pr2 pr3 pr4 pr5 pr6 pr7 pr8 pr9 pr10 pr11 pr12 (show own_at cd zz vl (3 : Int32) c3 from (by rcases pr13 with ⟨rfl, rfl, rfl, hl0, hl1, hl2, hl3⟩ | ⟨rfl, rfl, rfl⟩; exact Or.inl ⟨rfl, by decide, rfl, hl3⟩; exact Or.inr ⟨rfl, by decide, by decide, rfl, by decide, rfl⟩)) pr17) hZ (own_k hw 62 rfl) (own_k hw 4 rfl) (by decide) (by decide)) qa204 qc204 (g := (mkF m 21 #[.val (.ref x0), .val (.int 3), .val (.int c2)] [(.int 3), (.ref x0)])) rfl hml.symm (Steps.refl _) (argsL := [(.int 3)]) (rest := []) (lenOf own_pd9 rfl) rfl (own_w0 rfl rfl) (hb hby d4_21) (fun _ _ => ⟨rfl, e200, (by decide : 0 + 0 ≤ 0), (by decide : 0 + 0 ≤ 0)⟩)
        dsimp only [Pt.U, Pt.locs, Pt.cells, Pt.slots] at X203 l203 y203 z203 st203 hQ203
        subst l203 y203 z203
        obtain ⟨rfl, N203, e203⟩ := hQ203
        have N205 := Fr.app N202 N203
        refine own_tr (T' := T203) (g' := (mkF m 24 #[.val (.ref x0), .val (.int 3), .val (.int c2)] [(.int c3)])) st203 ?_
        refine own_st (T' := T203) (g' := (mkF m 25 #[.val (.ref x0), .val (.int 3), .val (.int c3)] [])) (fun _ kt => XS.istoreN X203.here hx rfl (hb hby d4_24) rfl (l' := #[.val (.ref x0), .val (.int 3), .val (.int c3)]) rfl kt) ?_
        refine own_join (α := Unit) (gj := fun q => (mkF m 75 #[.val (.ref x0), .val (.int 3), .val (.int c3)] [])) (P := fun q => own_ok c3) ?_ (fun J206 => ?_)
        · rintro _ hj206
          try dsimp only at hj206 ⊢
          refine own_st (T' := T203) (g' := (mkF m 13 #[.val (.ref x0), .val (.int 4), .val (.int c3)] [(.ref x0), (.int 4)])) (fun _ kt => XS.iinc X203.here hx rfl (hb hby d4_75) rfl (l' := #[.val (.ref x0), .val (.int 4), .val (.int c3)]) rfl (XS.goto X203.here hx rfl (pc0 := 78) (pc' := 11) rfl (hb hby d4_78) (by decide) (by decide) (XS.iloadN X203.here hx rfl (hb hby d4_11) rfl (XS.aloadN X203.here hx rfl (hb hby d4_12) rfl rfl kt)))) ?_
          obtain ⟨cq208, kq208, qa208, qb208, qc208⟩ := isOf hZ e203 pr9
          obtain ⟨_, _, ⟨T207, L207, k207, n207⟩, -, X207, ⟨Lc207, hQ207, l207, y207, z207⟩, st207⟩ := X203.virtualBack hx (y := yN0) (z := yN0) hown (mvT hZ (own_k hw 48 rfl)) (mvT hZ (own_k hw 49 rfl)) (notFace_of_selects (args := #[]) (mvT hZ (own_k hw 51 rfl))) (mvT hZ (own_k hw 51 rfl)) (mvT hZ (own_k hw 50 rfl)) (by decide) (backOf (W := 1) (own_sl l Z a0 hw [] x0 zc fmt t kb cd zz vl (4 : Int32) h0 n0 Z0 pr1 pr2 pr3 pr4 pr5 pr6 pr7 pr8 pr9 pr10 pr11 pr12 (show own_ln cd zz (4 : Int32) from (by rcases pr13 with ⟨rfl, rfl, -⟩ | ⟨rfl, rfl, -⟩; exact Or.inl ⟨rfl, rfl⟩; exact Or.inr ⟨rfl, by decide⟩))) hZ (own_k hw 52 rfl) (own_k hw 4 rfl) (by decide) (by decide)) qa208 qc208 (g := (mkF m 13 #[.val (.ref x0), .val (.int 4), .val (.int c3)] [(.ref x0), (.int 4)])) rfl hml.symm (Steps.refl _) (argsL := []) (rest := [(.int 4)]) (lenOf own_pd8 rfl) rfl (own_w0 rfl rfl) (hb hby d4_13) (fun _ _ => ⟨rfl, e203, (by decide : 0 + 0 ≤ 0), (by decide : 0 + 0 ≤ 0)⟩)
          dsimp only [Pt.U, Pt.locs, Pt.cells, Pt.slots] at X207 l207 y207 z207 st207 hQ207
          subst l207 y207 z207
          obtain ⟨rfl, N207, e207⟩ := hQ207
          have N209 := Fr.app N205 N207
          refine own_tr (T' := T207) (g' := (mkF m 16 #[.val (.ref x0), .val (.int 4), .val (.int c3)] [(.int 4), (.int 4)])) st207 ?_
          refine own_st (T' := T207) (g' := (mkF m 82 #[.val (.ref x0), .val (.int 4), .val (.int c3)] [(.int 1)])) (fun _ kt => XS.icmpYes X207.here hx rfl (pc0 := 16) (pc' := 81) rfl (hb hby d4_16) rfl (XT.ii_ge_t (by decide)) (by decide) (by decide) (XS.iconst X207.here hx rfl (hb hby d4_81) kt)) ?_
          obtain ⟨fs, hr, hrun, hended, hW, hsame⟩ := X207.leave (v := some (.int 1)) (fun h => by rw [Bd.returns] at h; cases h)
          refine own_end (retN X207 hx (t := .boolean) Bd.returns (by simp) (hb hby d4_82) hr) ⟨_, hrun, hended, _, _, rfl, ?_, ⟨_, rfl⟩, hW, hsame.mono (by decide) (by decide)⟩
          show own_is4Q Z _ _ _ _ _ _ _ _ _ _ _ _ h0 n0 _ T207.heap _
          rw [e207]
          exact ⟨(by rw [if_pos ⟨hj185, hj192, hj199, hj206⟩]), N209, rfl⟩
        ·
          refine own_join (α := Unit) (gj := fun q => (mkF m 37 #[.val (.ref x0), .val (.int 3), .val (.int c3)] [])) (P := fun q => ¬ (¬ c3 < 65 ∧ ¬ (90 : Int32) < c3)) ?_ (fun J210 => ?_)
          · rintro _ hj210
            try dsimp only at hj210 ⊢
            refine own_join (α := Unit) (gj := fun q => (mkF m 49 #[.val (.ref x0), .val (.int 3), .val (.int c3)] [])) (P := fun q => ¬ (¬ c3 < 97 ∧ ¬ (122 : Int32) < c3)) ?_ (fun J211 => ?_)
            · rintro _ hj211
              try dsimp only at hj211 ⊢
              refine own_join (α := Unit) (gj := fun q => (mkF m 61 #[.val (.ref x0), .val (.int 3), .val (.int c3)] [])) (P := fun q => ¬ (¬ c3 < 48 ∧ ¬ (57 : Int32) < c3)) ?_ (fun J212 => ?_)
              · rintro _ hj212
                try dsimp only at hj212 ⊢
                refine own_st (T' := T203) (g' := (mkF m 64 #[.val (.ref x0), .val (.int 3), .val (.int c3)] [(.int 95), (.int c3)])) (fun _ kt => XS.iloadN X203.here hx rfl (hb hby d4_61) rfl (XS.bipush X203.here hx rfl (hb hby d4_62) kt)) ?_
                by_cases hc213 : c3 = (95 : Int32)
                ·
                  refine own_st (T' := T203) (g' := (mkF m 75 #[.val (.ref x0), .val (.int 3), .val (.int c3)] [])) (fun _ kt => XS.icmpYes X203.here hx rfl (pc0 := 64) (pc' := 75) rfl (hb hby d4_64) rfl (XT.ii_eq_t hc213) (by decide) (by decide) kt) ?_
                  exact J206 () (by unfold own_ok; revert hj210 hj211 hj212 hc213; simp only [Int32.lt_iff_toInt_lt, Int64.lt_iff_toInt_lt, ← Int32.toInt_inj, ← Int64.toInt_inj, Int32.toInt_toInt64, own_t0, own_t9, own_t45, own_t48, own_t57, own_t65, own_t90, own_t95, own_t97, own_t122, own_t255]; intros; omega)
                ·
                  refine own_st (T' := T203) (g' := (mkF m 70 #[.val (.ref x0), .val (.int 3), .val (.int c3)] [(.int 45), (.int c3)])) (fun _ kt => XS.icmpNo X203.here hx rfl (hb hby d4_64) rfl (XT.ii_eq_f hc213) (XS.iloadN X203.here hx rfl (hb hby d4_67) rfl (XS.bipush X203.here hx rfl (hb hby d4_68) kt))) ?_
                  by_cases hc214 : c3 = (45 : Int32)
                  ·
                    refine own_st (T' := T203) (g' := (mkF m 75 #[.val (.ref x0), .val (.int 3), .val (.int c3)] [])) (fun _ kt => XS.icmpYes X203.here hx rfl (pc0 := 70) (pc' := 75) rfl (hb hby d4_70) rfl (XT.ii_eq_t hc214) (by decide) (by decide) kt) ?_
                    exact J206 () (by unfold own_ok; revert hj210 hj211 hj212 hc213 hc214; simp only [Int32.lt_iff_toInt_lt, Int64.lt_iff_toInt_lt, ← Int32.toInt_inj, ← Int64.toInt_inj, Int32.toInt_toInt64, own_t0, own_t9, own_t45, own_t48, own_t57, own_t65, own_t90, own_t95, own_t97, own_t122, own_t255]; intros; omega)
                  ·
                    refine own_st (T' := T203) (g' := (mkF m 74 #[.val (.ref x0), .val (.int 3), .val (.int c3)] [(.int 0)])) (fun _ kt => XS.icmpNo X203.here hx rfl (hb hby d4_70) rfl (XT.ii_eq_f hc214) (XS.iconst X203.here hx rfl (hb hby d4_73) kt)) ?_
                    obtain ⟨fs, hr, hrun, hended, hW, hsame⟩ := X203.leave (v := some (.int 0)) (fun h => by rw [Bd.returns] at h; cases h)
                    refine own_end (retN X203 hx (t := .boolean) Bd.returns (by simp) (hb hby d4_74) hr) ⟨_, hrun, hended, _, _, rfl, ?_, ⟨_, rfl⟩, hW, hsame.mono (by decide) (by decide)⟩
                    show own_is4Q Z _ _ _ _ _ _ _ _ _ _ _ _ h0 n0 _ T203.heap _
                    rw [e203]
                    exact ⟨(by rw [if_neg (fun q => (show ¬ own_ok c3 from (by unfold own_ok; revert hj210 hj211 hj212 hc213 hc214; simp only [Int32.lt_iff_toInt_lt, Int64.lt_iff_toInt_lt, ← Int32.toInt_inj, ← Int64.toInt_inj, Int32.toInt_toInt64, own_t0, own_t9, own_t45, own_t48, own_t57, own_t65, own_t90, own_t95, own_t97, own_t122, own_t255]; intros; omega)) q.2.2.2)]), N205, rfl⟩
              ·
                refine own_st (T' := T203) (g' := (mkF m 52 #[.val (.ref x0), .val (.int 3), .val (.int c3)] [(.int 48), (.int c3)])) (fun _ kt => XS.iloadN X203.here hx rfl (hb hby d4_49) rfl (XS.bipush X203.here hx rfl (hb hby d4_50) kt)) ?_
                by_cases hc215 : c3 < (48 : Int32)
                ·
                  refine own_st (T' := T203) (g' := (mkF m 61 #[.val (.ref x0), .val (.int 3), .val (.int c3)] [])) (fun _ kt => XS.icmpYes X203.here hx rfl (pc0 := 52) (pc' := 61) rfl (hb hby d4_52) rfl (XT.ii_lt_t hc215) (by decide) (by decide) kt) ?_
                  exact J212 () (by revert hc215; simp only [Int32.lt_iff_toInt_lt, Int64.lt_iff_toInt_lt, ← Int32.toInt_inj, ← Int64.toInt_inj, Int32.toInt_toInt64, own_t0, own_t9, own_t45, own_t48, own_t57, own_t65, own_t90, own_t95, own_t97, own_t122, own_t255]; intros; omega)
                ·
                  refine own_st (T' := T203) (g' := (mkF m 58 #[.val (.ref x0), .val (.int 3), .val (.int c3)] [(.int 57), (.int c3)])) (fun _ kt => XS.icmpNo X203.here hx rfl (hb hby d4_52) rfl (XT.ii_lt_f hc215) (XS.iloadN X203.here hx rfl (hb hby d4_55) rfl (XS.bipush X203.here hx rfl (hb hby d4_56) kt))) ?_
                  by_cases hc216 : (57 : Int32) < c3
                  ·
                    refine own_st (T' := T203) (g' := (mkF m 61 #[.val (.ref x0), .val (.int 3), .val (.int c3)] [])) (fun _ kt => XS.icmpNo X203.here hx rfl (hb hby d4_58) rfl (XT.ii_le_f hc216) kt) ?_
                    exact J212 () (by revert hc215 hc216; simp only [Int32.lt_iff_toInt_lt, Int64.lt_iff_toInt_lt, ← Int32.toInt_inj, ← Int64.toInt_inj, Int32.toInt_toInt64, own_t0, own_t9, own_t45, own_t48, own_t57, own_t65, own_t90, own_t95, own_t97, own_t122, own_t255]; intros; omega)
                  ·
                    refine own_st (T' := T203) (g' := (mkF m 75 #[.val (.ref x0), .val (.int 3), .val (.int c3)] [])) (fun _ kt => XS.icmpYes X203.here hx rfl (pc0 := 58) (pc' := 75) rfl (hb hby d4_58) rfl (XT.ii_le_t hc216) (by decide) (by decide) kt) ?_
                    exact J206 () (by unfold own_ok; revert hj210 hj211 hc215 hc216; simp only [Int32.lt_iff_toInt_lt, Int64.lt_iff_toInt_lt, ← Int32.toInt_inj, ← Int64.toInt_inj, Int32.toInt_toInt64, own_t0, own_t9, own_t45, own_t48, own_t57, own_t65, own_t90, own_t95, own_t97, own_t122, own_t255]; intros; omega)
            ·
              refine own_st (T' := T203) (g' := (mkF m 40 #[.val (.ref x0), .val (.int 3), .val (.int c3)] [(.int 97), (.int c3)])) (fun _ kt => XS.iloadN X203.here hx rfl (hb hby d4_37) rfl (XS.bipush X203.here hx rfl (hb hby d4_38) kt)) ?_
              by_cases hc217 : c3 < (97 : Int32)
              ·
                refine own_st (T' := T203) (g' := (mkF m 49 #[.val (.ref x0), .val (.int 3), .val (.int c3)] [])) (fun _ kt => XS.icmpYes X203.here hx rfl (pc0 := 40) (pc' := 49) rfl (hb hby d4_40) rfl (XT.ii_lt_t hc217) (by decide) (by decide) kt) ?_
                exact J211 () (by revert hc217; simp only [Int32.lt_iff_toInt_lt, Int64.lt_iff_toInt_lt, ← Int32.toInt_inj, ← Int64.toInt_inj, Int32.toInt_toInt64, own_t0, own_t9, own_t45, own_t48, own_t57, own_t65, own_t90, own_t95, own_t97, own_t122, own_t255]; intros; omega)
              ·
                refine own_st (T' := T203) (g' := (mkF m 46 #[.val (.ref x0), .val (.int 3), .val (.int c3)] [(.int 122), (.int c3)])) (fun _ kt => XS.icmpNo X203.here hx rfl (hb hby d4_40) rfl (XT.ii_lt_f hc217) (XS.iloadN X203.here hx rfl (hb hby d4_43) rfl (XS.bipush X203.here hx rfl (hb hby d4_44) kt))) ?_
                by_cases hc218 : (122 : Int32) < c3
                ·
                  refine own_st (T' := T203) (g' := (mkF m 49 #[.val (.ref x0), .val (.int 3), .val (.int c3)] [])) (fun _ kt => XS.icmpNo X203.here hx rfl (hb hby d4_46) rfl (XT.ii_le_f hc218) kt) ?_
                  exact J211 () (by revert hc217 hc218; simp only [Int32.lt_iff_toInt_lt, Int64.lt_iff_toInt_lt, ← Int32.toInt_inj, ← Int64.toInt_inj, Int32.toInt_toInt64, own_t0, own_t9, own_t45, own_t48, own_t57, own_t65, own_t90, own_t95, own_t97, own_t122, own_t255]; intros; omega)
                ·
                  refine own_st (T' := T203) (g' := (mkF m 75 #[.val (.ref x0), .val (.int 3), .val (.int c3)] [])) (fun _ kt => XS.icmpYes X203.here hx rfl (pc0 := 46) (pc' := 75) rfl (hb hby d4_46) rfl (XT.ii_le_t hc218) (by decide) (by decide) kt) ?_
                  exact J206 () (by unfold own_ok; revert hj210 hc217 hc218; simp only [Int32.lt_iff_toInt_lt, Int64.lt_iff_toInt_lt, ← Int32.toInt_inj, ← Int64.toInt_inj, Int32.toInt_toInt64, own_t0, own_t9, own_t45, own_t48, own_t57, own_t65, own_t90, own_t95, own_t97, own_t122, own_t255]; intros; omega)
          ·
            refine own_st (T' := T203) (g' := (mkF m 28 #[.val (.ref x0), .val (.int 3), .val (.int c3)] [(.int 65), (.int c3)])) (fun _ kt => XS.iloadN X203.here hx rfl (hb hby d4_25) rfl (XS.bipush X203.here hx rfl (hb hby d4_26) kt)) ?_
            by_cases hc219 : c3 < (65 : Int32)
            ·
              refine own_st (T' := T203) (g' := (mkF m 37 #[.val (.ref x0), .val (.int 3), .val (.int c3)] [])) (fun _ kt => XS.icmpYes X203.here hx rfl (pc0 := 28) (pc' := 37) rfl (hb hby d4_28) rfl (XT.ii_lt_t hc219) (by decide) (by decide) kt) ?_
              exact J210 () (by revert hc219; simp only [Int32.lt_iff_toInt_lt, Int64.lt_iff_toInt_lt, ← Int32.toInt_inj, ← Int64.toInt_inj, Int32.toInt_toInt64, own_t0, own_t9, own_t45, own_t48, own_t57, own_t65, own_t90, own_t95, own_t97, own_t122, own_t255]; intros; omega)
            ·
              refine own_st (T' := T203) (g' := (mkF m 34 #[.val (.ref x0), .val (.int 3), .val (.int c3)] [(.int 90), (.int c3)])) (fun _ kt => XS.icmpNo X203.here hx rfl (hb hby d4_28) rfl (XT.ii_lt_f hc219) (XS.iloadN X203.here hx rfl (hb hby d4_31) rfl (XS.bipush X203.here hx rfl (hb hby d4_32) kt))) ?_
              by_cases hc220 : (90 : Int32) < c3
              ·
                refine own_st (T' := T203) (g' := (mkF m 37 #[.val (.ref x0), .val (.int 3), .val (.int c3)] [])) (fun _ kt => XS.icmpNo X203.here hx rfl (hb hby d4_34) rfl (XT.ii_le_f hc220) kt) ?_
                exact J210 () (by revert hc219 hc220; simp only [Int32.lt_iff_toInt_lt, Int64.lt_iff_toInt_lt, ← Int32.toInt_inj, ← Int64.toInt_inj, Int32.toInt_toInt64, own_t0, own_t9, own_t45, own_t48, own_t57, own_t65, own_t90, own_t95, own_t97, own_t122, own_t255]; intros; omega)
              ·
                refine own_st (T' := T203) (g' := (mkF m 75 #[.val (.ref x0), .val (.int 3), .val (.int c3)] [])) (fun _ kt => XS.icmpYes X203.here hx rfl (pc0 := 34) (pc' := 75) rfl (hb hby d4_34) rfl (XT.ii_le_t hc220) (by decide) (by decide) kt) ?_
                exact J206 () (by unfold own_ok; revert hc219 hc220; simp only [Int32.lt_iff_toInt_lt, Int64.lt_iff_toInt_lt, ← Int32.toInt_inj, ← Int64.toInt_inj, Int32.toInt_toInt64, own_t0, own_t9, own_t45, own_t48, own_t57, own_t65, own_t90, own_t95, own_t97, own_t122, own_t255]; intros; omega)
      ·
        refine own_join (α := Unit) (gj := fun q => (mkF m 37 #[.val (.ref x0), .val (.int 2), .val (.int c2)] [])) (P := fun q => ¬ (¬ c2 < 65 ∧ ¬ (90 : Int32) < c2)) ?_ (fun J221 => ?_)
        · rintro _ hj221
          try dsimp only at hj221 ⊢
          refine own_join (α := Unit) (gj := fun q => (mkF m 49 #[.val (.ref x0), .val (.int 2), .val (.int c2)] [])) (P := fun q => ¬ (¬ c2 < 97 ∧ ¬ (122 : Int32) < c2)) ?_ (fun J222 => ?_)
          · rintro _ hj222
            try dsimp only at hj222 ⊢
            refine own_join (α := Unit) (gj := fun q => (mkF m 61 #[.val (.ref x0), .val (.int 2), .val (.int c2)] [])) (P := fun q => ¬ (¬ c2 < 48 ∧ ¬ (57 : Int32) < c2)) ?_ (fun J223 => ?_)
            · rintro _ hj223
              try dsimp only at hj223 ⊢
              refine own_st (T' := T196) (g' := (mkF m 64 #[.val (.ref x0), .val (.int 2), .val (.int c2)] [(.int 95), (.int c2)])) (fun _ kt => XS.iloadN X196.here hx rfl (hb hby d4_61) rfl (XS.bipush X196.here hx rfl (hb hby d4_62) kt)) ?_
              by_cases hc224 : c2 = (95 : Int32)
              ·
                refine own_st (T' := T196) (g' := (mkF m 75 #[.val (.ref x0), .val (.int 2), .val (.int c2)] [])) (fun _ kt => XS.icmpYes X196.here hx rfl (pc0 := 64) (pc' := 75) rfl (hb hby d4_64) rfl (XT.ii_eq_t hc224) (by decide) (by decide) kt) ?_
                exact J199 () (by unfold own_ok; revert hj221 hj222 hj223 hc224; simp only [Int32.lt_iff_toInt_lt, Int64.lt_iff_toInt_lt, ← Int32.toInt_inj, ← Int64.toInt_inj, Int32.toInt_toInt64, own_t0, own_t9, own_t45, own_t48, own_t57, own_t65, own_t90, own_t95, own_t97, own_t122, own_t255]; intros; omega)
              ·
                refine own_st (T' := T196) (g' := (mkF m 70 #[.val (.ref x0), .val (.int 2), .val (.int c2)] [(.int 45), (.int c2)])) (fun _ kt => XS.icmpNo X196.here hx rfl (hb hby d4_64) rfl (XT.ii_eq_f hc224) (XS.iloadN X196.here hx rfl (hb hby d4_67) rfl (XS.bipush X196.here hx rfl (hb hby d4_68) kt))) ?_
                by_cases hc225 : c2 = (45 : Int32)
                ·
                  refine own_st (T' := T196) (g' := (mkF m 75 #[.val (.ref x0), .val (.int 2), .val (.int c2)] [])) (fun _ kt => XS.icmpYes X196.here hx rfl (pc0 := 70) (pc' := 75) rfl (hb hby d4_70) rfl (XT.ii_eq_t hc225) (by decide) (by decide) kt) ?_
                  exact J199 () (by unfold own_ok; revert hj221 hj222 hj223 hc224 hc225; simp only [Int32.lt_iff_toInt_lt, Int64.lt_iff_toInt_lt, ← Int32.toInt_inj, ← Int64.toInt_inj, Int32.toInt_toInt64, own_t0, own_t9, own_t45, own_t48, own_t57, own_t65, own_t90, own_t95, own_t97, own_t122, own_t255]; intros; omega)
                ·
                  refine own_st (T' := T196) (g' := (mkF m 74 #[.val (.ref x0), .val (.int 2), .val (.int c2)] [(.int 0)])) (fun _ kt => XS.icmpNo X196.here hx rfl (hb hby d4_70) rfl (XT.ii_eq_f hc225) (XS.iconst X196.here hx rfl (hb hby d4_73) kt)) ?_
                  obtain ⟨fs, hr, hrun, hended, hW, hsame⟩ := X196.leave (v := some (.int 0)) (fun h => by rw [Bd.returns] at h; cases h)
                  refine own_end (retN X196 hx (t := .boolean) Bd.returns (by simp) (hb hby d4_74) hr) ⟨_, hrun, hended, _, _, rfl, ?_, ⟨_, rfl⟩, hW, hsame.mono (by decide) (by decide)⟩
                  show own_is4Q Z _ _ _ _ _ _ _ _ _ _ _ _ h0 n0 _ T196.heap _
                  rw [e196]
                  exact ⟨(by rw [if_neg (fun q => (show ¬ own_ok c2 from (by unfold own_ok; revert hj221 hj222 hj223 hc224 hc225; simp only [Int32.lt_iff_toInt_lt, Int64.lt_iff_toInt_lt, ← Int32.toInt_inj, ← Int64.toInt_inj, Int32.toInt_toInt64, own_t0, own_t9, own_t45, own_t48, own_t57, own_t65, own_t90, own_t95, own_t97, own_t122, own_t255]; intros; omega)) q.2.2.1)]), N198, rfl⟩
            ·
              refine own_st (T' := T196) (g' := (mkF m 52 #[.val (.ref x0), .val (.int 2), .val (.int c2)] [(.int 48), (.int c2)])) (fun _ kt => XS.iloadN X196.here hx rfl (hb hby d4_49) rfl (XS.bipush X196.here hx rfl (hb hby d4_50) kt)) ?_
              by_cases hc226 : c2 < (48 : Int32)
              ·
                refine own_st (T' := T196) (g' := (mkF m 61 #[.val (.ref x0), .val (.int 2), .val (.int c2)] [])) (fun _ kt => XS.icmpYes X196.here hx rfl (pc0 := 52) (pc' := 61) rfl (hb hby d4_52) rfl (XT.ii_lt_t hc226) (by decide) (by decide) kt) ?_
                exact J223 () (by revert hc226; simp only [Int32.lt_iff_toInt_lt, Int64.lt_iff_toInt_lt, ← Int32.toInt_inj, ← Int64.toInt_inj, Int32.toInt_toInt64, own_t0, own_t9, own_t45, own_t48, own_t57, own_t65, own_t90, own_t95, own_t97, own_t122, own_t255]; intros; omega)
              ·
                refine own_st (T' := T196) (g' := (mkF m 58 #[.val (.ref x0), .val (.int 2), .val (.int c2)] [(.int 57), (.int c2)])) (fun _ kt => XS.icmpNo X196.here hx rfl (hb hby d4_52) rfl (XT.ii_lt_f hc226) (XS.iloadN X196.here hx rfl (hb hby d4_55) rfl (XS.bipush X196.here hx rfl (hb hby d4_56) kt))) ?_
                by_cases hc227 : (57 : Int32) < c2
                ·
                  refine own_st (T' := T196) (g' := (mkF m 61 #[.val (.ref x0), .val (.int 2), .val (.int c2)] [])) (fun _ kt => XS.icmpNo X196.here hx rfl (hb hby d4_58) rfl (XT.ii_le_f hc227) kt) ?_
                  exact J223 () (by revert hc226 hc227; simp only [Int32.lt_iff_toInt_lt, Int64.lt_iff_toInt_lt, ← Int32.toInt_inj, ← Int64.toInt_inj, Int32.toInt_toInt64, own_t0, own_t9, own_t45, own_t48, own_t57, own_t65, own_t90, own_t95, own_t97, own_t122, own_t255]; intros; omega)
                ·
                  refine own_st (T' := T196) (g' := (mkF m 75 #[.val (.ref x0), .val (.int 2), .val (.int c2)] [])) (fun _ kt => XS.icmpYes X196.here hx rfl (pc0 := 58) (pc' := 75) rfl (hb hby d4_58) rfl (XT.ii_le_t hc227) (by decide) (by decide) kt) ?_
                  exact J199 () (by unfold own_ok; revert hj221 hj222 hc226 hc227; simp only [Int32.lt_iff_toInt_lt, Int64.lt_iff_toInt_lt, ← Int32.toInt_inj, ← Int64.toInt_inj, Int32.toInt_toInt64, own_t0, own_t9, own_t45, own_t48, own_t57, own_t65, own_t90, own_t95, own_t97, own_t122, own_t255]; intros; omega)
          ·
            refine own_st (T' := T196) (g' := (mkF m 40 #[.val (.ref x0), .val (.int 2), .val (.int c2)] [(.int 97), (.int c2)])) (fun _ kt => XS.iloadN X196.here hx rfl (hb hby d4_37) rfl (XS.bipush X196.here hx rfl (hb hby d4_38) kt)) ?_
            by_cases hc228 : c2 < (97 : Int32)
            ·
              refine own_st (T' := T196) (g' := (mkF m 49 #[.val (.ref x0), .val (.int 2), .val (.int c2)] [])) (fun _ kt => XS.icmpYes X196.here hx rfl (pc0 := 40) (pc' := 49) rfl (hb hby d4_40) rfl (XT.ii_lt_t hc228) (by decide) (by decide) kt) ?_
              exact J222 () (by revert hc228; simp only [Int32.lt_iff_toInt_lt, Int64.lt_iff_toInt_lt, ← Int32.toInt_inj, ← Int64.toInt_inj, Int32.toInt_toInt64, own_t0, own_t9, own_t45, own_t48, own_t57, own_t65, own_t90, own_t95, own_t97, own_t122, own_t255]; intros; omega)
            ·
              refine own_st (T' := T196) (g' := (mkF m 46 #[.val (.ref x0), .val (.int 2), .val (.int c2)] [(.int 122), (.int c2)])) (fun _ kt => XS.icmpNo X196.here hx rfl (hb hby d4_40) rfl (XT.ii_lt_f hc228) (XS.iloadN X196.here hx rfl (hb hby d4_43) rfl (XS.bipush X196.here hx rfl (hb hby d4_44) kt))) ?_
              by_cases hc229 : (122 : Int32) < c2
              ·
                refine own_st (T' := T196) (g' := (mkF m 49 #[.val (.ref x0), .val (.int 2), .val (.int c2)] [])) (fun _ kt => XS.icmpNo X196.here hx rfl (hb hby d4_46) rfl (XT.ii_le_f hc229) kt) ?_
                exact J222 () (by revert hc228 hc229; simp only [Int32.lt_iff_toInt_lt, Int64.lt_iff_toInt_lt, ← Int32.toInt_inj, ← Int64.toInt_inj, Int32.toInt_toInt64, own_t0, own_t9, own_t45, own_t48, own_t57, own_t65, own_t90, own_t95, own_t97, own_t122, own_t255]; intros; omega)
              ·
                refine own_st (T' := T196) (g' := (mkF m 75 #[.val (.ref x0), .val (.int 2), .val (.int c2)] [])) (fun _ kt => XS.icmpYes X196.here hx rfl (pc0 := 46) (pc' := 75) rfl (hb hby d4_46) rfl (XT.ii_le_t hc229) (by decide) (by decide) kt) ?_
                exact J199 () (by unfold own_ok; revert hj221 hc228 hc229; simp only [Int32.lt_iff_toInt_lt, Int64.lt_iff_toInt_lt, ← Int32.toInt_inj, ← Int64.toInt_inj, Int32.toInt_toInt64, own_t0, own_t9, own_t45, own_t48, own_t57, own_t65, own_t90, own_t95, own_t97, own_t122, own_t255]; intros; omega)
        ·
          refine own_st (T' := T196) (g' := (mkF m 28 #[.val (.ref x0), .val (.int 2), .val (.int c2)] [(.int 65), (.int c2)])) (fun _ kt => XS.iloadN X196.here hx rfl (hb hby d4_25) rfl (XS.bipush X196.here hx rfl (hb hby d4_26) kt)) ?_
          by_cases hc230 : c2 < (65 : Int32)
          ·
            refine own_st (T' := T196) (g' := (mkF m 37 #[.val (.ref x0), .val (.int 2), .val (.int c2)] [])) (fun _ kt => XS.icmpYes X196.here hx rfl (pc0 := 28) (pc' := 37) rfl (hb hby d4_28) rfl (XT.ii_lt_t hc230) (by decide) (by decide) kt) ?_
            exact J221 () (by revert hc230; simp only [Int32.lt_iff_toInt_lt, Int64.lt_iff_toInt_lt, ← Int32.toInt_inj, ← Int64.toInt_inj, Int32.toInt_toInt64, own_t0, own_t9, own_t45, own_t48, own_t57, own_t65, own_t90, own_t95, own_t97, own_t122, own_t255]; intros; omega)
          ·
            refine own_st (T' := T196) (g' := (mkF m 34 #[.val (.ref x0), .val (.int 2), .val (.int c2)] [(.int 90), (.int c2)])) (fun _ kt => XS.icmpNo X196.here hx rfl (hb hby d4_28) rfl (XT.ii_lt_f hc230) (XS.iloadN X196.here hx rfl (hb hby d4_31) rfl (XS.bipush X196.here hx rfl (hb hby d4_32) kt))) ?_
            by_cases hc231 : (90 : Int32) < c2
            ·
              refine own_st (T' := T196) (g' := (mkF m 37 #[.val (.ref x0), .val (.int 2), .val (.int c2)] [])) (fun _ kt => XS.icmpNo X196.here hx rfl (hb hby d4_34) rfl (XT.ii_le_f hc231) kt) ?_
              exact J221 () (by revert hc230 hc231; simp only [Int32.lt_iff_toInt_lt, Int64.lt_iff_toInt_lt, ← Int32.toInt_inj, ← Int64.toInt_inj, Int32.toInt_toInt64, own_t0, own_t9, own_t45, own_t48, own_t57, own_t65, own_t90, own_t95, own_t97, own_t122, own_t255]; intros; omega)
            ·
              refine own_st (T' := T196) (g' := (mkF m 75 #[.val (.ref x0), .val (.int 2), .val (.int c2)] [])) (fun _ kt => XS.icmpYes X196.here hx rfl (pc0 := 34) (pc' := 75) rfl (hb hby d4_34) rfl (XT.ii_le_t hc231) (by decide) (by decide) kt) ?_
              exact J199 () (by unfold own_ok; revert hc230 hc231; simp only [Int32.lt_iff_toInt_lt, Int64.lt_iff_toInt_lt, ← Int32.toInt_inj, ← Int64.toInt_inj, Int32.toInt_toInt64, own_t0, own_t9, own_t45, own_t48, own_t57, own_t65, own_t90, own_t95, own_t97, own_t122, own_t255]; intros; omega)
    ·
      refine own_join (α := Unit) (gj := fun q => (mkF m 37 #[.val (.ref x0), .val (.int 1), .val (.int c1)] [])) (P := fun q => ¬ (¬ c1 < 65 ∧ ¬ (90 : Int32) < c1)) ?_ (fun J232 => ?_)
      · rintro _ hj232
        try dsimp only at hj232 ⊢
        refine own_join (α := Unit) (gj := fun q => (mkF m 49 #[.val (.ref x0), .val (.int 1), .val (.int c1)] [])) (P := fun q => ¬ (¬ c1 < 97 ∧ ¬ (122 : Int32) < c1)) ?_ (fun J233 => ?_)
        · rintro _ hj233
          try dsimp only at hj233 ⊢
          refine own_join (α := Unit) (gj := fun q => (mkF m 61 #[.val (.ref x0), .val (.int 1), .val (.int c1)] [])) (P := fun q => ¬ (¬ c1 < 48 ∧ ¬ (57 : Int32) < c1)) ?_ (fun J234 => ?_)
          · rintro _ hj234
            try dsimp only at hj234 ⊢
            refine own_st (T' := T189) (g' := (mkF m 64 #[.val (.ref x0), .val (.int 1), .val (.int c1)] [(.int 95), (.int c1)])) (fun _ kt => XS.iloadN X189.here hx rfl (hb hby d4_61) rfl (XS.bipush X189.here hx rfl (hb hby d4_62) kt)) ?_
            by_cases hc235 : c1 = (95 : Int32)
            ·
              refine own_st (T' := T189) (g' := (mkF m 75 #[.val (.ref x0), .val (.int 1), .val (.int c1)] [])) (fun _ kt => XS.icmpYes X189.here hx rfl (pc0 := 64) (pc' := 75) rfl (hb hby d4_64) rfl (XT.ii_eq_t hc235) (by decide) (by decide) kt) ?_
              exact J192 () (by unfold own_ok; revert hj232 hj233 hj234 hc235; simp only [Int32.lt_iff_toInt_lt, Int64.lt_iff_toInt_lt, ← Int32.toInt_inj, ← Int64.toInt_inj, Int32.toInt_toInt64, own_t0, own_t9, own_t45, own_t48, own_t57, own_t65, own_t90, own_t95, own_t97, own_t122, own_t255]; intros; omega)
            ·
              refine own_st (T' := T189) (g' := (mkF m 70 #[.val (.ref x0), .val (.int 1), .val (.int c1)] [(.int 45), (.int c1)])) (fun _ kt => XS.icmpNo X189.here hx rfl (hb hby d4_64) rfl (XT.ii_eq_f hc235) (XS.iloadN X189.here hx rfl (hb hby d4_67) rfl (XS.bipush X189.here hx rfl (hb hby d4_68) kt))) ?_
              by_cases hc236 : c1 = (45 : Int32)
              ·
                refine own_st (T' := T189) (g' := (mkF m 75 #[.val (.ref x0), .val (.int 1), .val (.int c1)] [])) (fun _ kt => XS.icmpYes X189.here hx rfl (pc0 := 70) (pc' := 75) rfl (hb hby d4_70) rfl (XT.ii_eq_t hc236) (by decide) (by decide) kt) ?_
                exact J192 () (by unfold own_ok; revert hj232 hj233 hj234 hc235 hc236; simp only [Int32.lt_iff_toInt_lt, Int64.lt_iff_toInt_lt, ← Int32.toInt_inj, ← Int64.toInt_inj, Int32.toInt_toInt64, own_t0, own_t9, own_t45, own_t48, own_t57, own_t65, own_t90, own_t95, own_t97, own_t122, own_t255]; intros; omega)
              ·
                refine own_st (T' := T189) (g' := (mkF m 74 #[.val (.ref x0), .val (.int 1), .val (.int c1)] [(.int 0)])) (fun _ kt => XS.icmpNo X189.here hx rfl (hb hby d4_70) rfl (XT.ii_eq_f hc236) (XS.iconst X189.here hx rfl (hb hby d4_73) kt)) ?_
                obtain ⟨fs, hr, hrun, hended, hW, hsame⟩ := X189.leave (v := some (.int 0)) (fun h => by rw [Bd.returns] at h; cases h)
                refine own_end (retN X189 hx (t := .boolean) Bd.returns (by simp) (hb hby d4_74) hr) ⟨_, hrun, hended, _, _, rfl, ?_, ⟨_, rfl⟩, hW, hsame.mono (by decide) (by decide)⟩
                show own_is4Q Z _ _ _ _ _ _ _ _ _ _ _ _ h0 n0 _ T189.heap _
                rw [e189]
                exact ⟨(by rw [if_neg (fun q => (show ¬ own_ok c1 from (by unfold own_ok; revert hj232 hj233 hj234 hc235 hc236; simp only [Int32.lt_iff_toInt_lt, Int64.lt_iff_toInt_lt, ← Int32.toInt_inj, ← Int64.toInt_inj, Int32.toInt_toInt64, own_t0, own_t9, own_t45, own_t48, own_t57, own_t65, own_t90, own_t95, own_t97, own_t122, own_t255]; intros; omega)) q.2.1)]), N191, rfl⟩
          ·
            refine own_st (T' := T189) (g' := (mkF m 52 #[.val (.ref x0), .val (.int 1), .val (.int c1)] [(.int 48), (.int c1)])) (fun _ kt => XS.iloadN X189.here hx rfl (hb hby d4_49) rfl (XS.bipush X189.here hx rfl (hb hby d4_50) kt)) ?_
            by_cases hc237 : c1 < (48 : Int32)
            ·
              refine own_st (T' := T189) (g' := (mkF m 61 #[.val (.ref x0), .val (.int 1), .val (.int c1)] [])) (fun _ kt => XS.icmpYes X189.here hx rfl (pc0 := 52) (pc' := 61) rfl (hb hby d4_52) rfl (XT.ii_lt_t hc237) (by decide) (by decide) kt) ?_
              exact J234 () (by revert hc237; simp only [Int32.lt_iff_toInt_lt, Int64.lt_iff_toInt_lt, ← Int32.toInt_inj, ← Int64.toInt_inj, Int32.toInt_toInt64, own_t0, own_t9, own_t45, own_t48, own_t57, own_t65, own_t90, own_t95, own_t97, own_t122, own_t255]; intros; omega)
            ·
              refine own_st (T' := T189) (g' := (mkF m 58 #[.val (.ref x0), .val (.int 1), .val (.int c1)] [(.int 57), (.int c1)])) (fun _ kt => XS.icmpNo X189.here hx rfl (hb hby d4_52) rfl (XT.ii_lt_f hc237) (XS.iloadN X189.here hx rfl (hb hby d4_55) rfl (XS.bipush X189.here hx rfl (hb hby d4_56) kt))) ?_
              by_cases hc238 : (57 : Int32) < c1
              ·
                refine own_st (T' := T189) (g' := (mkF m 61 #[.val (.ref x0), .val (.int 1), .val (.int c1)] [])) (fun _ kt => XS.icmpNo X189.here hx rfl (hb hby d4_58) rfl (XT.ii_le_f hc238) kt) ?_
                exact J234 () (by revert hc237 hc238; simp only [Int32.lt_iff_toInt_lt, Int64.lt_iff_toInt_lt, ← Int32.toInt_inj, ← Int64.toInt_inj, Int32.toInt_toInt64, own_t0, own_t9, own_t45, own_t48, own_t57, own_t65, own_t90, own_t95, own_t97, own_t122, own_t255]; intros; omega)
              ·
                refine own_st (T' := T189) (g' := (mkF m 75 #[.val (.ref x0), .val (.int 1), .val (.int c1)] [])) (fun _ kt => XS.icmpYes X189.here hx rfl (pc0 := 58) (pc' := 75) rfl (hb hby d4_58) rfl (XT.ii_le_t hc238) (by decide) (by decide) kt) ?_
                exact J192 () (by unfold own_ok; revert hj232 hj233 hc237 hc238; simp only [Int32.lt_iff_toInt_lt, Int64.lt_iff_toInt_lt, ← Int32.toInt_inj, ← Int64.toInt_inj, Int32.toInt_toInt64, own_t0, own_t9, own_t45, own_t48, own_t57, own_t65, own_t90, own_t95, own_t97, own_t122, own_t255]; intros; omega)
        ·
          refine own_st (T' := T189) (g' := (mkF m 40 #[.val (.ref x0), .val (.int 1), .val (.int c1)] [(.int 97), (.int c1)])) (fun _ kt => XS.iloadN X189.here hx rfl (hb hby d4_37) rfl (XS.bipush X189.here hx rfl (hb hby d4_38) kt)) ?_
          by_cases hc239 : c1 < (97 : Int32)
          ·
            refine own_st (T' := T189) (g' := (mkF m 49 #[.val (.ref x0), .val (.int 1), .val (.int c1)] [])) (fun _ kt => XS.icmpYes X189.here hx rfl (pc0 := 40) (pc' := 49) rfl (hb hby d4_40) rfl (XT.ii_lt_t hc239) (by decide) (by decide) kt) ?_
            exact J233 () (by revert hc239; simp only [Int32.lt_iff_toInt_lt, Int64.lt_iff_toInt_lt, ← Int32.toInt_inj, ← Int64.toInt_inj, Int32.toInt_toInt64, own_t0, own_t9, own_t45, own_t48, own_t57, own_t65, own_t90, own_t95, own_t97, own_t122, own_t255]; intros; omega)
          ·
            refine own_st (T' := T189) (g' := (mkF m 46 #[.val (.ref x0), .val (.int 1), .val (.int c1)] [(.int 122), (.int c1)])) (fun _ kt => XS.icmpNo X189.here hx rfl (hb hby d4_40) rfl (XT.ii_lt_f hc239) (XS.iloadN X189.here hx rfl (hb hby d4_43) rfl (XS.bipush X189.here hx rfl (hb hby d4_44) kt))) ?_
            by_cases hc240 : (122 : Int32) < c1
            ·
              refine own_st (T' := T189) (g' := (mkF m 49 #[.val (.ref x0), .val (.int 1), .val (.int c1)] [])) (fun _ kt => XS.icmpNo X189.here hx rfl (hb hby d4_46) rfl (XT.ii_le_f hc240) kt) ?_
              exact J233 () (by revert hc239 hc240; simp only [Int32.lt_iff_toInt_lt, Int64.lt_iff_toInt_lt, ← Int32.toInt_inj, ← Int64.toInt_inj, Int32.toInt_toInt64, own_t0, own_t9, own_t45, own_t48, own_t57, own_t65, own_t90, own_t95, own_t97, own_t122, own_t255]; intros; omega)
            ·
              refine own_st (T' := T189) (g' := (mkF m 75 #[.val (.ref x0), .val (.int 1), .val (.int c1)] [])) (fun _ kt => XS.icmpYes X189.here hx rfl (pc0 := 46) (pc' := 75) rfl (hb hby d4_46) rfl (XT.ii_le_t hc240) (by decide) (by decide) kt) ?_
              exact J192 () (by unfold own_ok; revert hj232 hc239 hc240; simp only [Int32.lt_iff_toInt_lt, Int64.lt_iff_toInt_lt, ← Int32.toInt_inj, ← Int64.toInt_inj, Int32.toInt_toInt64, own_t0, own_t9, own_t45, own_t48, own_t57, own_t65, own_t90, own_t95, own_t97, own_t122, own_t255]; intros; omega)
      ·
        refine own_st (T' := T189) (g' := (mkF m 28 #[.val (.ref x0), .val (.int 1), .val (.int c1)] [(.int 65), (.int c1)])) (fun _ kt => XS.iloadN X189.here hx rfl (hb hby d4_25) rfl (XS.bipush X189.here hx rfl (hb hby d4_26) kt)) ?_
        by_cases hc241 : c1 < (65 : Int32)
        ·
          refine own_st (T' := T189) (g' := (mkF m 37 #[.val (.ref x0), .val (.int 1), .val (.int c1)] [])) (fun _ kt => XS.icmpYes X189.here hx rfl (pc0 := 28) (pc' := 37) rfl (hb hby d4_28) rfl (XT.ii_lt_t hc241) (by decide) (by decide) kt) ?_
          exact J232 () (by revert hc241; simp only [Int32.lt_iff_toInt_lt, Int64.lt_iff_toInt_lt, ← Int32.toInt_inj, ← Int64.toInt_inj, Int32.toInt_toInt64, own_t0, own_t9, own_t45, own_t48, own_t57, own_t65, own_t90, own_t95, own_t97, own_t122, own_t255]; intros; omega)
        ·
          refine own_st (T' := T189) (g' := (mkF m 34 #[.val (.ref x0), .val (.int 1), .val (.int c1)] [(.int 90), (.int c1)])) (fun _ kt => XS.icmpNo X189.here hx rfl (hb hby d4_28) rfl (XT.ii_lt_f hc241) (XS.iloadN X189.here hx rfl (hb hby d4_31) rfl (XS.bipush X189.here hx rfl (hb hby d4_32) kt))) ?_
          by_cases hc242 : (90 : Int32) < c1
          ·
            refine own_st (T' := T189) (g' := (mkF m 37 #[.val (.ref x0), .val (.int 1), .val (.int c1)] [])) (fun _ kt => XS.icmpNo X189.here hx rfl (hb hby d4_34) rfl (XT.ii_le_f hc242) kt) ?_
            exact J232 () (by revert hc241 hc242; simp only [Int32.lt_iff_toInt_lt, Int64.lt_iff_toInt_lt, ← Int32.toInt_inj, ← Int64.toInt_inj, Int32.toInt_toInt64, own_t0, own_t9, own_t45, own_t48, own_t57, own_t65, own_t90, own_t95, own_t97, own_t122, own_t255]; intros; omega)
          ·
            refine own_st (T' := T189) (g' := (mkF m 75 #[.val (.ref x0), .val (.int 1), .val (.int c1)] [])) (fun _ kt => XS.icmpYes X189.here hx rfl (pc0 := 34) (pc' := 75) rfl (hb hby d4_34) rfl (XT.ii_le_t hc242) (by decide) (by decide) kt) ?_
            exact J192 () (by unfold own_ok; revert hc241 hc242; simp only [Int32.lt_iff_toInt_lt, Int64.lt_iff_toInt_lt, ← Int32.toInt_inj, ← Int64.toInt_inj, Int32.toInt_toInt64, own_t0, own_t9, own_t45, own_t48, own_t57, own_t65, own_t90, own_t95, own_t97, own_t122, own_t255]; intros; omega)
  ·
    refine own_join (α := Unit) (gj := fun q => (mkF m 37 #[.val (.ref x0), .val (.int 0), .val (.int c0)] [])) (P := fun q => ¬ (¬ c0 < 65 ∧ ¬ (90 : Int32) < c0)) ?_ (fun J243 => ?_)
    · rintro _ hj243
      try dsimp only at hj243 ⊢
      refine own_join (α := Unit) (gj := fun q => (mkF m 49 #[.val (.ref x0), .val (.int 0), .val (.int c0)] [])) (P := fun q => ¬ (¬ c0 < 97 ∧ ¬ (122 : Int32) < c0)) ?_ (fun J244 => ?_)
      · rintro _ hj244
        try dsimp only at hj244 ⊢
        refine own_join (α := Unit) (gj := fun q => (mkF m 61 #[.val (.ref x0), .val (.int 0), .val (.int c0)] [])) (P := fun q => ¬ (¬ c0 < 48 ∧ ¬ (57 : Int32) < c0)) ?_ (fun J245 => ?_)
        · rintro _ hj245
          try dsimp only at hj245 ⊢
          refine own_st (T' := T182) (g' := (mkF m 64 #[.val (.ref x0), .val (.int 0), .val (.int c0)] [(.int 95), (.int c0)])) (fun _ kt => XS.iloadN X182.here hx rfl (hb hby d4_61) rfl (XS.bipush X182.here hx rfl (hb hby d4_62) kt)) ?_
          by_cases hc246 : c0 = (95 : Int32)
          ·
            refine own_st (T' := T182) (g' := (mkF m 75 #[.val (.ref x0), .val (.int 0), .val (.int c0)] [])) (fun _ kt => XS.icmpYes X182.here hx rfl (pc0 := 64) (pc' := 75) rfl (hb hby d4_64) rfl (XT.ii_eq_t hc246) (by decide) (by decide) kt) ?_
            exact J185 () (by unfold own_ok; revert hj243 hj244 hj245 hc246; simp only [Int32.lt_iff_toInt_lt, Int64.lt_iff_toInt_lt, ← Int32.toInt_inj, ← Int64.toInt_inj, Int32.toInt_toInt64, own_t0, own_t9, own_t45, own_t48, own_t57, own_t65, own_t90, own_t95, own_t97, own_t122, own_t255]; intros; omega)
          ·
            refine own_st (T' := T182) (g' := (mkF m 70 #[.val (.ref x0), .val (.int 0), .val (.int c0)] [(.int 45), (.int c0)])) (fun _ kt => XS.icmpNo X182.here hx rfl (hb hby d4_64) rfl (XT.ii_eq_f hc246) (XS.iloadN X182.here hx rfl (hb hby d4_67) rfl (XS.bipush X182.here hx rfl (hb hby d4_68) kt))) ?_
            by_cases hc247 : c0 = (45 : Int32)
            ·
              refine own_st (T' := T182) (g' := (mkF m 75 #[.val (.ref x0), .val (.int 0), .val (.int c0)] [])) (fun _ kt => XS.icmpYes X182.here hx rfl (pc0 := 70) (pc' := 75) rfl (hb hby d4_70) rfl (XT.ii_eq_t hc247) (by decide) (by decide) kt) ?_
              exact J185 () (by unfold own_ok; revert hj243 hj244 hj245 hc246 hc247; simp only [Int32.lt_iff_toInt_lt, Int64.lt_iff_toInt_lt, ← Int32.toInt_inj, ← Int64.toInt_inj, Int32.toInt_toInt64, own_t0, own_t9, own_t45, own_t48, own_t57, own_t65, own_t90, own_t95, own_t97, own_t122, own_t255]; intros; omega)
            ·
              refine own_st (T' := T182) (g' := (mkF m 74 #[.val (.ref x0), .val (.int 0), .val (.int c0)] [(.int 0)])) (fun _ kt => XS.icmpNo X182.here hx rfl (hb hby d4_70) rfl (XT.ii_eq_f hc247) (XS.iconst X182.here hx rfl (hb hby d4_73) kt)) ?_
              obtain ⟨fs, hr, hrun, hended, hW, hsame⟩ := X182.leave (v := some (.int 0)) (fun h => by rw [Bd.returns] at h; cases h)
              refine own_end (retN X182 hx (t := .boolean) Bd.returns (by simp) (hb hby d4_74) hr) ⟨_, hrun, hended, _, _, rfl, ?_, ⟨_, rfl⟩, hW, hsame.mono (by decide) (by decide)⟩
              show own_is4Q Z _ _ _ _ _ _ _ _ _ _ _ _ h0 n0 _ T182.heap _
              rw [e182]
              exact ⟨(by rw [if_neg (fun q => (show ¬ own_ok c0 from (by unfold own_ok; revert hj243 hj244 hj245 hc246 hc247; simp only [Int32.lt_iff_toInt_lt, Int64.lt_iff_toInt_lt, ← Int32.toInt_inj, ← Int64.toInt_inj, Int32.toInt_toInt64, own_t0, own_t9, own_t45, own_t48, own_t57, own_t65, own_t90, own_t95, own_t97, own_t122, own_t255]; intros; omega)) q.1)]), N184, rfl⟩
        ·
          refine own_st (T' := T182) (g' := (mkF m 52 #[.val (.ref x0), .val (.int 0), .val (.int c0)] [(.int 48), (.int c0)])) (fun _ kt => XS.iloadN X182.here hx rfl (hb hby d4_49) rfl (XS.bipush X182.here hx rfl (hb hby d4_50) kt)) ?_
          by_cases hc248 : c0 < (48 : Int32)
          ·
            refine own_st (T' := T182) (g' := (mkF m 61 #[.val (.ref x0), .val (.int 0), .val (.int c0)] [])) (fun _ kt => XS.icmpYes X182.here hx rfl (pc0 := 52) (pc' := 61) rfl (hb hby d4_52) rfl (XT.ii_lt_t hc248) (by decide) (by decide) kt) ?_
            exact J245 () (by revert hc248; simp only [Int32.lt_iff_toInt_lt, Int64.lt_iff_toInt_lt, ← Int32.toInt_inj, ← Int64.toInt_inj, Int32.toInt_toInt64, own_t0, own_t9, own_t45, own_t48, own_t57, own_t65, own_t90, own_t95, own_t97, own_t122, own_t255]; intros; omega)
          ·
            refine own_st (T' := T182) (g' := (mkF m 58 #[.val (.ref x0), .val (.int 0), .val (.int c0)] [(.int 57), (.int c0)])) (fun _ kt => XS.icmpNo X182.here hx rfl (hb hby d4_52) rfl (XT.ii_lt_f hc248) (XS.iloadN X182.here hx rfl (hb hby d4_55) rfl (XS.bipush X182.here hx rfl (hb hby d4_56) kt))) ?_
            by_cases hc249 : (57 : Int32) < c0
            ·
              refine own_st (T' := T182) (g' := (mkF m 61 #[.val (.ref x0), .val (.int 0), .val (.int c0)] [])) (fun _ kt => XS.icmpNo X182.here hx rfl (hb hby d4_58) rfl (XT.ii_le_f hc249) kt) ?_
              exact J245 () (by revert hc248 hc249; simp only [Int32.lt_iff_toInt_lt, Int64.lt_iff_toInt_lt, ← Int32.toInt_inj, ← Int64.toInt_inj, Int32.toInt_toInt64, own_t0, own_t9, own_t45, own_t48, own_t57, own_t65, own_t90, own_t95, own_t97, own_t122, own_t255]; intros; omega)
            ·
              refine own_st (T' := T182) (g' := (mkF m 75 #[.val (.ref x0), .val (.int 0), .val (.int c0)] [])) (fun _ kt => XS.icmpYes X182.here hx rfl (pc0 := 58) (pc' := 75) rfl (hb hby d4_58) rfl (XT.ii_le_t hc249) (by decide) (by decide) kt) ?_
              exact J185 () (by unfold own_ok; revert hj243 hj244 hc248 hc249; simp only [Int32.lt_iff_toInt_lt, Int64.lt_iff_toInt_lt, ← Int32.toInt_inj, ← Int64.toInt_inj, Int32.toInt_toInt64, own_t0, own_t9, own_t45, own_t48, own_t57, own_t65, own_t90, own_t95, own_t97, own_t122, own_t255]; intros; omega)
      ·
        refine own_st (T' := T182) (g' := (mkF m 40 #[.val (.ref x0), .val (.int 0), .val (.int c0)] [(.int 97), (.int c0)])) (fun _ kt => XS.iloadN X182.here hx rfl (hb hby d4_37) rfl (XS.bipush X182.here hx rfl (hb hby d4_38) kt)) ?_
        by_cases hc250 : c0 < (97 : Int32)
        ·
          refine own_st (T' := T182) (g' := (mkF m 49 #[.val (.ref x0), .val (.int 0), .val (.int c0)] [])) (fun _ kt => XS.icmpYes X182.here hx rfl (pc0 := 40) (pc' := 49) rfl (hb hby d4_40) rfl (XT.ii_lt_t hc250) (by decide) (by decide) kt) ?_
          exact J244 () (by revert hc250; simp only [Int32.lt_iff_toInt_lt, Int64.lt_iff_toInt_lt, ← Int32.toInt_inj, ← Int64.toInt_inj, Int32.toInt_toInt64, own_t0, own_t9, own_t45, own_t48, own_t57, own_t65, own_t90, own_t95, own_t97, own_t122, own_t255]; intros; omega)
        ·
          refine own_st (T' := T182) (g' := (mkF m 46 #[.val (.ref x0), .val (.int 0), .val (.int c0)] [(.int 122), (.int c0)])) (fun _ kt => XS.icmpNo X182.here hx rfl (hb hby d4_40) rfl (XT.ii_lt_f hc250) (XS.iloadN X182.here hx rfl (hb hby d4_43) rfl (XS.bipush X182.here hx rfl (hb hby d4_44) kt))) ?_
          by_cases hc251 : (122 : Int32) < c0
          ·
            refine own_st (T' := T182) (g' := (mkF m 49 #[.val (.ref x0), .val (.int 0), .val (.int c0)] [])) (fun _ kt => XS.icmpNo X182.here hx rfl (hb hby d4_46) rfl (XT.ii_le_f hc251) kt) ?_
            exact J244 () (by revert hc250 hc251; simp only [Int32.lt_iff_toInt_lt, Int64.lt_iff_toInt_lt, ← Int32.toInt_inj, ← Int64.toInt_inj, Int32.toInt_toInt64, own_t0, own_t9, own_t45, own_t48, own_t57, own_t65, own_t90, own_t95, own_t97, own_t122, own_t255]; intros; omega)
          ·
            refine own_st (T' := T182) (g' := (mkF m 75 #[.val (.ref x0), .val (.int 0), .val (.int c0)] [])) (fun _ kt => XS.icmpYes X182.here hx rfl (pc0 := 46) (pc' := 75) rfl (hb hby d4_46) rfl (XT.ii_le_t hc251) (by decide) (by decide) kt) ?_
            exact J185 () (by unfold own_ok; revert hj243 hc250 hc251; simp only [Int32.lt_iff_toInt_lt, Int64.lt_iff_toInt_lt, ← Int32.toInt_inj, ← Int64.toInt_inj, Int32.toInt_toInt64, own_t0, own_t9, own_t45, own_t48, own_t57, own_t65, own_t90, own_t95, own_t97, own_t122, own_t255]; intros; omega)
    ·
      refine own_st (T' := T182) (g' := (mkF m 28 #[.val (.ref x0), .val (.int 0), .val (.int c0)] [(.int 65), (.int c0)])) (fun _ kt => XS.iloadN X182.here hx rfl (hb hby d4_25) rfl (XS.bipush X182.here hx rfl (hb hby d4_26) kt)) ?_
      by_cases hc252 : c0 < (65 : Int32)
      ·
        refine own_st (T' := T182) (g' := (mkF m 37 #[.val (.ref x0), .val (.int 0), .val (.int c0)] [])) (fun _ kt => XS.icmpYes X182.here hx rfl (pc0 := 28) (pc' := 37) rfl (hb hby d4_28) rfl (XT.ii_lt_t hc252) (by decide) (by decide) kt) ?_
        exact J243 () (by revert hc252; simp only [Int32.lt_iff_toInt_lt, Int64.lt_iff_toInt_lt, ← Int32.toInt_inj, ← Int64.toInt_inj, Int32.toInt_toInt64, own_t0, own_t9, own_t45, own_t48, own_t57, own_t65, own_t90, own_t95, own_t97, own_t122, own_t255]; intros; omega)
      ·
        refine own_st (T' := T182) (g' := (mkF m 34 #[.val (.ref x0), .val (.int 0), .val (.int c0)] [(.int 90), (.int c0)])) (fun _ kt => XS.icmpNo X182.here hx rfl (hb hby d4_28) rfl (XT.ii_lt_f hc252) (XS.iloadN X182.here hx rfl (hb hby d4_31) rfl (XS.bipush X182.here hx rfl (hb hby d4_32) kt))) ?_
        by_cases hc253 : (90 : Int32) < c0
        ·
          refine own_st (T' := T182) (g' := (mkF m 37 #[.val (.ref x0), .val (.int 0), .val (.int c0)] [])) (fun _ kt => XS.icmpNo X182.here hx rfl (hb hby d4_34) rfl (XT.ii_le_f hc253) kt) ?_
          exact J243 () (by revert hc252 hc253; simp only [Int32.lt_iff_toInt_lt, Int64.lt_iff_toInt_lt, ← Int32.toInt_inj, ← Int64.toInt_inj, Int32.toInt_toInt64, own_t0, own_t9, own_t45, own_t48, own_t57, own_t65, own_t90, own_t95, own_t97, own_t122, own_t255]; intros; omega)
        ·
          refine own_st (T' := T182) (g' := (mkF m 75 #[.val (.ref x0), .val (.int 0), .val (.int c0)] [])) (fun _ kt => XS.icmpYes X182.here hx rfl (pc0 := 34) (pc' := 75) rfl (hb hby d4_34) rfl (XT.ii_le_t hc253) (by decide) (by decide) kt) ?_
          exact J185 () (by unfold own_ok; revert hc252 hc253; simp only [Int32.lt_iff_toInt_lt, Int64.lt_iff_toInt_lt, ← Int32.toInt_inj, ← Int64.toInt_inj, Int32.toInt_toInt64, own_t0, own_t9, own_t45, own_t48, own_t57, own_t65, own_t90, own_t95, own_t97, own_t122, own_t255]; intros; omega)
theorem own_narb (x : Int32) : nar .byte x.toInt8.toInt32 = x.toInt8.toInt32 := by
  show x.toInt8.toInt32.toInt8.toInt32 = x.toInt8.toInt32
  simp
theorem d20_0 : decode jdk_52_method_4_code 0 = .ok (.getstatic 44, 3) := by decide +kernel
theorem d20_3 : decode jdk_52_method_4_code 3 = .ok (.ifCond .ne 25, 3) := by decide +kernel
theorem d20_28 : decode jdk_52_method_4_code 28 = .ok (.iload_n 1, 1) := by decide +kernel
theorem d20_29 : decode jdk_52_method_4_code 29 = .ok (.iconst 1, 1) := by decide +kernel
theorem d20_30 : decode jdk_52_method_4_code 30 = .ok (.ishl, 1) := by decide +kernel
theorem d20_31 : decode jdk_52_method_4_code 31 = .ok (.istore_n 1, 1) := by decide +kernel
theorem d20_32 : decode jdk_52_method_4_code 32 = .ok (.aload_n 0, 1) := by decide +kernel
theorem d20_33 : decode jdk_52_method_4_code 33 = .ok (.iload_n 1, 1) := by decide +kernel
theorem d20_34 : decode jdk_52_method_4_code 34 = .ok (.iinc 1 1, 3) := by decide +kernel
theorem d20_37 : decode jdk_52_method_4_code 37 = .ok (.iload_n 2, 1) := by decide +kernel
theorem d20_38 : decode jdk_52_method_4_code 38 = .ok (.getstatic 59, 3) := by decide +kernel
theorem d20_41 : decode jdk_52_method_4_code 41 = .ok (.ishr, 1) := by decide +kernel
theorem d20_42 : decode jdk_52_method_4_code 42 = .ok (.i2b, 1) := by decide +kernel
theorem d20_43 : decode jdk_52_method_4_code 43 = .ok (.bastore, 1) := by decide +kernel
theorem d20_44 : decode jdk_52_method_4_code 44 = .ok (.aload_n 0, 1) := by decide +kernel
theorem d20_45 : decode jdk_52_method_4_code 45 = .ok (.iload_n 1, 1) := by decide +kernel
theorem d20_46 : decode jdk_52_method_4_code 46 = .ok (.iload_n 2, 1) := by decide +kernel
theorem d20_47 : decode jdk_52_method_4_code 47 = .ok (.getstatic 63, 3) := by decide +kernel
theorem d20_50 : decode jdk_52_method_4_code 50 = .ok (.ishr, 1) := by decide +kernel
theorem d20_51 : decode jdk_52_method_4_code 51 = .ok (.i2b, 1) := by decide +kernel
theorem d20_52 : decode jdk_52_method_4_code 52 = .ok (.bastore, 1) := by decide +kernel
theorem d20_53 : decode jdk_52_method_4_code 53 = .ok (.return_, 1) := by decide +kernel
theorem own_ef7 (m : MethodId) (x0 : Addr) (x1 : Int32) (x2 : Int32) : entryFrame m #[(.ref x0), (.int x1), (.int x2)] 3 = mkF m 0 #[.val (.ref x0), .val (.int x1), .val (.int x2)] [] := by first | (simp [entryFrame, mkF, argsToLocals, Value.category]; done) | rfl
def own_pcQ (Z : State) (t : Addr) (ii : Int32) (cc : Int32) (kb : ClassId) (zz : Int32) (vl : List Value) (h0 : Heap) (n0 : Nat) (v : Option Value) (h : Heap) (L : List Loc) : Prop := v = none ∧ Fr n0 L ∧ Keep h0 h [t] ∧ (Arv Z h t kb .byte zz ((vl.set (ii <<< ((1 : Int32) &&& 31)).toNatClampNeg (.int (own_lo cc))).set ((ii <<< ((1 : Int32) &&& 31)) + (1 : Int32)).toNatClampNeg (.int (own_hi cc))) (.int 0))
abbrev own_pcR : Room := { frames := 0, cells := 0, slots := 0, locals := 0 }
theorem own_pc (l : Launch) (Z : State) (a0 : Array Value) (hw : ∀ d ∈ tables_1, d.before a0 Z = true) (ws : List Jvm.Cond) (t : Addr) (ii : Int32) (cc : Int32) (kb : ClassId) (zz : Int32) (vl : List Value) (h0 : Heap) (n0 : Nat) (Z0 : n0 ≤ h0.size) (pr1 : Old Z n0 h0) (pr2 : Sta Z Z.heap "java/lang/StringUTF16" "$assertionsDisabled" "Z" (.int 1)) (pr3 : Sta Z Z.heap "java/lang/StringUTF16" "HI_BYTE_SHIFT" "I" (.int 0)) (pr4 : Sta Z Z.heap "java/lang/StringUTF16" "LO_BYTE_SHIFT" "I" (.int 8)) (pr5 : n0 ≤ t) (pr6 : Arv Z h0 t kb .byte zz vl (.int 0)) (pr7 : ¬ (ii <<< ((1 : Int32) &&& 31)) < 0 ∧ (ii <<< ((1 : Int32) &&& 31)) < zz) (pr8 : ¬ ((ii <<< ((1 : Int32) &&& 31)) + (1 : Int32)) < 0 ∧ ((ii <<< ((1 : Int32) &&& 31)) + (1 : Int32)) < zz) (pr9 : (ii <<< ((1 : Int32) &&& 31)).toNatClampNeg < vl.length) (pr10 : ((ii <<< ((1 : Int32) &&& 31)) + (1 : Int32)).toNatClampNeg < vl.length) :
    own_M l yN8 jdk_52_method_4_code 3 none ws own_pcR #[(.ref t), (.int ii), (.int cc)] Z h0 (own_pcQ Z t ii cc kb zz vl h0 n0) := by
  refine own_go (plainFor_of_name own_pn3) (fun m => own_ef7 m t ii cc ) ?_
  intro p e s m below meth c s₁ Bd hx hby hml hZ hh hown hnm X0 e0
  have N0 := Fr.nil n0
  have K0 : Keep h0 h0 [t] := Keep.refl h0 _
  obtain ⟨T254, X254, e254, st254⟩ := getS2 X0 hx hZ hown (host := "") (Or.inl (own_k hw 93 rfl)) Via.refl e0 (Sta.ext pr1.2 pr2) (g := (mkF m 0 #[.val (.ref t), .val (.int ii), .val (.int cc)] [])) rfl (hb hby d20_0)
  refine own_st (T' := T254) (g' := (mkF m 3 #[.val (.ref t), .val (.int ii), .val (.int cc)] [(.int 1)])) st254 ?_
  refine own_st (T' := T254) (g' := (mkF m 38 #[.val (.ref t), .val (.int ((ii <<< ((1 : Int32) &&& 31)) + (1 : Int32))), .val (.int cc)] [(.int cc), (.int (ii <<< ((1 : Int32) &&& 31))), (.ref t)])) (fun _ kt => XS.ifYes X254.here hx rfl (pc0 := 3) (pc' := 28) rfl (hb hby d20_3) rfl (XT.i0_ne_t (by decide)) (by decide) (by decide) (XS.iloadN X254.here hx rfl (hb hby d20_28) rfl (XS.iconst X254.here hx rfl (hb hby d20_29) (XT.ishl X254.here hx rfl (hb hby d20_30) rfl (XS.istoreN X254.here hx rfl (hb hby d20_31) rfl (l' := #[.val (.ref t), .val (.int (ii <<< ((1 : Int32) &&& 31))), .val (.int cc)]) rfl (XS.aloadN X254.here hx rfl (hb hby d20_32) rfl rfl (XS.iloadN X254.here hx rfl (hb hby d20_33) rfl (XS.iinc X254.here hx rfl (hb hby d20_34) rfl (l' := #[.val (.ref t), .val (.int ((ii <<< ((1 : Int32) &&& 31)) + (1 : Int32))), .val (.int cc)]) rfl (XS.iloadN X254.here hx rfl (hb hby d20_37) rfl kt))))))))) ?_
  obtain ⟨T255, X255, e255, st255⟩ := getS2 X254 hx hZ hown (host := "") (Or.inl (own_k hw 94 rfl)) Via.refl e254 (Sta.ext pr1.2 pr3) (g := (mkF m 38 #[.val (.ref t), .val (.int ((ii <<< ((1 : Int32) &&& 31)) + (1 : Int32))), .val (.int cc)] [(.int cc), (.int (ii <<< ((1 : Int32) &&& 31))), (.ref t)])) rfl (hb hby d20_38)
  refine own_st (T' := T255) (g' := (mkF m 41 #[.val (.ref t), .val (.int ((ii <<< ((1 : Int32) &&& 31)) + (1 : Int32))), .val (.int cc)] [(.int 0), (.int cc), (.int (ii <<< ((1 : Int32) &&& 31))), (.ref t)])) st255 ?_
  refine own_st (T' := T255) (g' := (mkF m 43 #[.val (.ref t), .val (.int ((ii <<< ((1 : Int32) &&& 31)) + (1 : Int32))), .val (.int cc)] [(.int ((cc >>> ((0 : Int32) &&& 31)).toInt8.toInt32)), (.int (ii <<< ((1 : Int32) &&& 31))), (.ref t)])) (fun _ kt => XT.ishr X255.here hx rfl (hb hby d20_41) rfl (XT.i2b X255.here hx rfl (hb hby d20_42) rfl kt)) ?_
  obtain ⟨T256, h256, X256, e256, W256, V256, st256⟩ := own_bst X255 hx hZ e255 pr6 pr7 (i := (ii <<< ((1 : Int32) &&& 31)).toNatClampNeg) rfl pr9 (y := (own_lo cc)) (own_narb _) (g := (mkF m 43 #[.val (.ref t), .val (.int ((ii <<< ((1 : Int32) &&& 31)) + (1 : Int32))), .val (.int cc)] [(.int ((cc >>> ((0 : Int32) &&& 31)).toInt8.toInt32)), (.int (ii <<< ((1 : Int32) &&& 31))), (.ref t)])) rfl rfl (hb hby d20_43)
  have N256 := Fr.snoc X256 N0 pr5
  have Z257 : n0 ≤ h256.size := Nat.le_trans Z0 (Nat.le_of_eq (Wr.size W256).symm)
  have K257 : Keep h0 h256 [t] := (Keep.wr K0 W256 (Or.inl (List.mem_of_getElem? (i := 0) rfl)))
  have F258 : Arv Z h256 t kb .byte zz (vl.set (ii <<< ((1 : Int32) &&& 31)).toNatClampNeg (.int (own_lo cc))) (.int 0) := V256
  refine own_st (T' := T256) (g' := (mkF m 44 #[.val (.ref t), .val (.int ((ii <<< ((1 : Int32) &&& 31)) + (1 : Int32))), .val (.int cc)] [])) st256 ?_
  refine own_st (T' := T256) (g' := (mkF m 47 #[.val (.ref t), .val (.int ((ii <<< ((1 : Int32) &&& 31)) + (1 : Int32))), .val (.int cc)] [(.int cc), (.int ((ii <<< ((1 : Int32) &&& 31)) + (1 : Int32))), (.ref t)])) (fun _ kt => XS.aloadN X256.here hx rfl (hb hby d20_44) rfl rfl (XS.iloadN X256.here hx rfl (hb hby d20_45) rfl (XS.iloadN X256.here hx rfl (hb hby d20_46) rfl kt))) ?_
  have F259 : Old Z n0 h256 := (Old.wr pr1 W256 pr5)
  obtain ⟨T260, X260, e260, st260⟩ := getS2 X256 hx hZ hown (host := "") (Or.inl (own_k hw 95 rfl)) Via.refl e256 (Sta.ext F259.2 pr4) (g := (mkF m 47 #[.val (.ref t), .val (.int ((ii <<< ((1 : Int32) &&& 31)) + (1 : Int32))), .val (.int cc)] [(.int cc), (.int ((ii <<< ((1 : Int32) &&& 31)) + (1 : Int32))), (.ref t)])) rfl (hb hby d20_47)
  refine own_st (T' := T260) (g' := (mkF m 50 #[.val (.ref t), .val (.int ((ii <<< ((1 : Int32) &&& 31)) + (1 : Int32))), .val (.int cc)] [(.int 8), (.int cc), (.int ((ii <<< ((1 : Int32) &&& 31)) + (1 : Int32))), (.ref t)])) st260 ?_
  refine own_st (T' := T260) (g' := (mkF m 52 #[.val (.ref t), .val (.int ((ii <<< ((1 : Int32) &&& 31)) + (1 : Int32))), .val (.int cc)] [(.int ((cc >>> ((8 : Int32) &&& 31)).toInt8.toInt32)), (.int ((ii <<< ((1 : Int32) &&& 31)) + (1 : Int32))), (.ref t)])) (fun _ kt => XT.ishr X260.here hx rfl (hb hby d20_50) rfl (XT.i2b X260.here hx rfl (hb hby d20_51) rfl kt)) ?_
  obtain ⟨T261, h261, X261, e261, W261, V261, st261⟩ := own_bst X260 hx hZ e260 F258 pr8 (i := ((ii <<< ((1 : Int32) &&& 31)) + (1 : Int32)).toNatClampNeg) rfl (by rw [List.length_set]; exact pr10) (y := (own_hi cc)) (own_narb _) (g := (mkF m 52 #[.val (.ref t), .val (.int ((ii <<< ((1 : Int32) &&& 31)) + (1 : Int32))), .val (.int cc)] [(.int ((cc >>> ((8 : Int32) &&& 31)).toInt8.toInt32)), (.int ((ii <<< ((1 : Int32) &&& 31)) + (1 : Int32))), (.ref t)])) rfl rfl (hb hby d20_52)
  have N261 := Fr.snoc X261 N256 pr5
  have Z262 : n0 ≤ h261.size := Nat.le_trans Z257 (Nat.le_of_eq (Wr.size W261).symm)
  have K262 : Keep h0 h261 [t] := (Keep.wr K257 W261 (Or.inl (List.mem_of_getElem? (i := 0) rfl)))
  have F263 : Arv Z h261 t kb .byte zz ((vl.set (ii <<< ((1 : Int32) &&& 31)).toNatClampNeg (.int (own_lo cc))).set ((ii <<< ((1 : Int32) &&& 31)) + (1 : Int32)).toNatClampNeg (.int (own_hi cc))) (.int 0) := V261
  refine own_st (T' := T261) (g' := (mkF m 53 #[.val (.ref t), .val (.int ((ii <<< ((1 : Int32) &&& 31)) + (1 : Int32))), .val (.int cc)] [])) st261 ?_
  obtain ⟨fs, hr, hrun, hended, hW, hsame⟩ := X261.leave (v := none) (fun _ => rfl)
  refine own_end (X261.returnOut hx Bd.returns (hb hby d20_53) hr) ⟨_, hrun, hended, _, _, rfl, ?_, ⟨_, rfl⟩, hW, hsame.mono (by decide) (by decide)⟩
  show own_pcQ Z _ _ _ _ _ _ h0 n0 _ T261.heap _
  rw [e261]
  exact ⟨rfl, N261, K262, F263⟩
theorem d19_0 : decode jdk_52_method_3_code 0 = .ok (.iload_n 0, 1) := by decide +kernel
theorem d19_1 : decode jdk_52_method_3_code 1 = .ok (.ifCond .ge 11, 3) := by decide +kernel
theorem d19_12 : decode jdk_52_method_3_code 12 = .ok (.iload_n 0, 1) := by decide +kernel
theorem d19_13 : decode jdk_52_method_3_code 13 = .ok (.ldc 20, 2) := by decide +kernel
theorem d19_15 : decode jdk_52_method_3_code 15 = .ok (.if_icmp .lt 40, 3) := by decide +kernel
theorem d19_55 : decode jdk_52_method_3_code 55 = .ok (.iload_n 0, 1) := by decide +kernel
theorem d19_56 : decode jdk_52_method_3_code 56 = .ok (.iconst 1, 1) := by decide +kernel
theorem d19_57 : decode jdk_52_method_3_code 57 = .ok (.ishl, 1) := by decide +kernel
theorem d19_58 : decode jdk_52_method_3_code 58 = .ok (.ireturn, 1) := by decide +kernel
theorem own_ef8 (m : MethodId) (x0 : Int32) : entryFrame m #[(.int x0)] 1 = mkF m 0 #[.val (.int x0)] [] := by first | (simp [entryFrame, mkF, argsToLocals, Value.category]; done) | rfl
def own_nl1Q (Z : State)  (h0 : Heap) (n0 : Nat) (v : Option Value) (h : Heap) (L : List Loc) : Prop := v = some (.int 2) ∧ Fr n0 L ∧ h = h0
abbrev own_nl1R : Room := { frames := 0, cells := 0, slots := 0, locals := 0 }
theorem own_nl1 (l : Launch) (Z : State) (a0 : Array Value) (hw : ∀ d ∈ tables_1, d.before a0 Z = true) (ws : List Jvm.Cond)  (h0 : Heap) (n0 : Nat) (Z0 : n0 ≤ h0.size)  :
    own_M l yN13 jdk_52_method_3_code 1 (some .int) ws own_nl1R #[(.int 1)] Z h0 (own_nl1Q Z  h0 n0) := by
  refine own_go (plainFor_of_name own_pn3) (fun m => own_ef8 m (1 : Int32) ) ?_
  intro p e s m below meth c s₁ Bd hx hby hml hZ hh hown hnm X0 e0
  have N0 := Fr.nil n0
  refine own_st (T' := s₁) (g' := (mkF m 13 #[.val (.int 1)] [(.int 1)])) (fun _ kt => XS.iloadN X0.here hx rfl (hb hby d19_0) rfl (XS.ifYes X0.here hx rfl (pc0 := 1) (pc' := 12) rfl (hb hby d19_1) rfl (XT.i0_ge_t (by decide)) (by decide) (by decide) (XS.iloadN X0.here hx rfl (hb hby d19_12) rfl kt))) ?_
  refine own_st (T' := s₁) (g' := (mkF m 15 #[.val (.int 1)] [(.int 1073741823), (.int 1)])) (Stand.ldcInt X0 hx hown (mvT hZ (own_k hw 89 rfl)) (g := (mkF m 13 #[.val (.int 1)] [(.int 1)])) rfl (hb hby d19_13)) ?_
  refine own_st (T' := s₁) (g' := (mkF m 58 #[.val (.int 1)] [(.int 2)])) (fun _ kt => XS.icmpYes X0.here hx rfl (pc0 := 15) (pc' := 55) rfl (hb hby d19_15) rfl (XT.ii_lt_t (by decide)) (by decide) (by decide) (XS.iloadN X0.here hx rfl (hb hby d19_55) rfl (XS.iconst X0.here hx rfl (hb hby d19_56) (XT.ishl X0.here hx rfl (hb hby d19_57) rfl kt)))) ?_
  obtain ⟨fs, hr, hrun, hended, hW, hsame⟩ := X0.leave (v := some (.int 2)) (fun h => by rw [Bd.returns] at h; cases h)
  refine own_end (own_retI X0 hx Bd.returns (hb hby d19_58) hr) ⟨_, hrun, hended, _, _, rfl, ?_, ⟨_, rfl⟩, hW, hsame.mono (by decide) (by decide)⟩
  show own_nl1Q Z  h0 n0 _ s₁.heap _
  rw [e0]
  exact ⟨rfl, N0, rfl⟩
theorem d18_0 : decode jdk_52_method_2_code 0 = .ok (.iload_n 0, 1) := by decide +kernel
theorem d18_1 : decode jdk_52_method_2_code 1 = .ok (.invokestatic 11, 3) := by decide +kernel
theorem own_pd10 : parseMethodDescriptor "(I)I" = some ⟨[.int], some .int⟩ := by decide +kernel
theorem d18_4 : decode jdk_52_method_2_code 4 = .ok (.newarray .byte, 2) := by decide +kernel
theorem d18_6 : decode jdk_52_method_2_code 6 = .ok (.areturn, 1) := by decide +kernel
def own_nf1Q (Z : State)  (h0 : Heap) (n0 : Nat) (v : Option Value) (h : Heap) (L : List Loc) : Prop := ∃ (b : Addr), ∃ (kb : ClassId), v = some (.ref b) ∧ Fr n0 L ∧ Keep h0 h [] ∧ (Arv Z h b kb .byte (2 : Int32) [(.int 0), (.int 0)] (.int 0)) ∧ (h0.size ≤ b)
abbrev own_nf1R : Room := { frames := 1, cells := 1, slots := 2, locals := 12 }
theorem own_nf1 (l : Launch) (Z : State) (a0 : Array Value) (hw : ∀ d ∈ tables_1, d.before a0 Z = true) (ws : List Jvm.Cond)  (h0 : Heap) (n0 : Nat) (Z0 : n0 ≤ h0.size)  :
    own_M l yN14 jdk_52_method_2_code 1 (some (.array .byte)) ws own_nf1R #[(.int 1)] Z h0 (own_nf1Q Z  h0 n0) := by
  refine own_go (plainFor_of_name own_pn3) (fun m => own_ef8 m (1 : Int32) ) ?_
  intro p e s m below meth c s₁ Bd hx hby hml hZ hh hown hnm X0 e0
  have N0 := Fr.nil n0
  have K0 : Keep h0 h0 [] := Keep.refl h0 _
  refine own_st (T' := s₁) (g' := (mkF m 1 #[.val (.int 1)] [(.int 1)])) (fun _ kt => XS.iloadN X0.here hx rfl (hb hby d18_0) rfl kt) ?_
  obtain ⟨_, _, ⟨T264, L264, k264, n264⟩, -, X264, ⟨Lc264, hQ264, l264, y264, z264⟩, st264⟩ := Jvm.LawKit.callS X0 hx (y := yN13) hown (mvT hZ (own_k hw 86 rfl)) (mvT hZ (own_k hw 87 rfl)) (mvT hZ (own_k hw 36 rfl)) (mvT hZ (own_k hw 88 rfl)) (by decide) (backOf (W := 0) (own_nl1 l Z a0 hw []  h0 n0 Z0 ) hZ (own_k hw 88 rfl) (own_k hw 36 rfl) (by decide) (by decide)) (g := (mkF m 1 #[.val (.int 1)] [(.int 1)])) rfl hml.symm  (argsL := [(.int 1)]) (rest := []) (lenOf own_pd10 rfl) rfl (own_w0 rfl rfl) (hb hby d18_1) (fun _ _ => ⟨rfl, e0, (by decide : 0 + 0 ≤ 1), (by decide : 0 + 0 ≤ 2)⟩)
  dsimp only [Pt.U, Pt.locs, Pt.cells, Pt.slots] at X264 l264 y264 z264 st264 hQ264
  subst l264 y264 z264
  obtain ⟨rfl, N264, e264⟩ := hQ264
  have N265 := Fr.app N0 N264
  refine own_st (T' := T264) (g' := (mkF m 4 #[.val (.int 1)] [(.int 2)])) st264 ?_
  obtain ⟨T266, h266, k266, X266, e266, E266, A266, st266⟩ := newP X264 hx hZ (aty := .byte) (own_k hw 17 rfl) e264 (g := (mkF m 4 #[.val (.int 1)] [(.int 2)])) rfl (hb hby d18_4) rfl (by decide) (cap := 2) (by decide) (by decide) (by decide) (by decide)
  obtain ⟨b266, g266⟩ : ∃ z, z = h0.size := ⟨_, rfl⟩
  rw [← g266] at A266 st266
  have Z267 : n0 ≤ h266.size := Nat.le_trans Z0 E266.1
  have K267 : Keep h0 h266 [] := (Keep.ext K0 E266)
  have ge_b266 : n0 ≤ b266 := Nat.le_trans Z0 (Nat.le_of_eq g266.symm)
  have F268 : Arv Z h266 b266 k266 .byte (2 : Int32) [(.int 0), (.int 0)] (.int 0) := (Arv.new A266 (by decide)).pad (pad_rep [] (.int 0) 2)
  refine own_st (T' := T266) (g' := (mkF m 6 #[.val (.int 1)] [(.ref b266)])) st266 ?_
  obtain ⟨fs, hr, hrun, hended, hW, hsame⟩ := X266.leave (v := some (.ref b266)) (fun h => by rw [Bd.returns] at h; cases h)
  refine own_end (own_retA X266 hx Bd.returns rfl rfl rfl (hb hby d18_6) hr) ⟨_, hrun, hended, _, _, rfl, ?_, ⟨_, rfl⟩, hW, hsame.mono (by decide) (by decide)⟩
  show own_nf1Q Z  h0 n0 _ T266.heap _
  rw [e266]
  exact ⟨b266, k266, rfl, N265, K267, F268, (Nat.le_trans K0.1 (Nat.le_of_eq g266.symm))⟩
theorem d17_0 : decode jdk_52_method_14_code 0 = .ok (.iload_n 2, 1) := by decide +kernel
theorem d17_1 : decode jdk_52_method_14_code 1 = .ok (.invokestatic 107, 3) := by decide +kernel
theorem own_pd11 : parseMethodDescriptor "(I)[B" = some ⟨[.int], some (.array .byte)⟩ := by decide +kernel
theorem d17_4 : decode jdk_52_method_14_code 4 = .ok (.astore_n 3, 1) := by decide +kernel
theorem d17_5 : decode jdk_52_method_14_code 5 = .ok (.iconst 0, 1) := by decide +kernel
theorem d17_6 : decode jdk_52_method_14_code 6 = .ok (.istore 4, 2) := by decide +kernel
theorem d17_8 : decode jdk_52_method_14_code 8 = .ok (.iload 4, 2) := by decide +kernel
theorem d17_10 : decode jdk_52_method_14_code 10 = .ok (.iload_n 2, 1) := by decide +kernel
theorem d17_11 : decode jdk_52_method_14_code 11 = .ok (.if_icmp .ge 21, 3) := by decide +kernel
theorem d17_14 : decode jdk_52_method_14_code 14 = .ok (.aload_n 3, 1) := by decide +kernel
theorem d17_15 : decode jdk_52_method_14_code 15 = .ok (.iload 4, 2) := by decide +kernel
theorem d17_17 : decode jdk_52_method_14_code 17 = .ok (.aload_n 0, 1) := by decide +kernel
theorem d17_18 : decode jdk_52_method_14_code 18 = .ok (.iload_n 1, 1) := by decide +kernel
theorem d17_19 : decode jdk_52_method_14_code 19 = .ok (.caload, 1) := by decide +kernel
theorem d17_20 : decode jdk_52_method_14_code 20 = .ok (.invokestatic 111, 3) := by decide +kernel
theorem own_pd12 : parseMethodDescriptor "([BII)V" = some ⟨[(.array .byte), .int, .int], none⟩ := by decide +kernel
theorem d17_23 : decode jdk_52_method_14_code 23 = .ok (.iinc 1 1, 3) := by decide +kernel
theorem d17_26 : decode jdk_52_method_14_code 26 = .ok (.iinc 4 1, 3) := by decide +kernel
theorem d17_29 : decode jdk_52_method_14_code 29 = .ok (.goto (-21), 3) := by decide +kernel
theorem d17_32 : decode jdk_52_method_14_code 32 = .ok (.aload_n 3, 1) := by decide +kernel
theorem d17_33 : decode jdk_52_method_14_code 33 = .ok (.areturn, 1) := by decide +kernel
theorem own_ef9 (m : MethodId) (x0 : Addr) (x1 : Int32) (x2 : Int32) : entryFrame m #[(.ref x0), (.int x1), (.int x2)] 5 = mkF m 0 #[.val (.ref x0), .val (.int x1), .val (.int x2), .unset, .unset] [] := by first | (simp [entryFrame, mkF, argsToLocals, Value.category]; done) | rfl
def own_tb1Q (Z : State) (x0 : Addr) (kc : ClassId) (c0 : Int32) (h0 : Heap) (n0 : Nat) (v : Option Value) (h : Heap) (L : List Loc) : Prop := ∃ (b : Addr), ∃ (kb : ClassId), v = some (.ref b) ∧ Fr n0 L ∧ Keep h0 h [] ∧ (Arv Z h b kb .byte (2 : Int32) [(.int (own_lo c0)), (.int (own_hi c0))] (.int 0)) ∧ (h0.size ≤ b)
abbrev own_tb1R : Room := { frames := 2, cells := 1, slots := 2, locals := 24 }
theorem own_tb1 (l : Launch) (Z : State) (a0 : Array Value) (hw : ∀ d ∈ tables_1, d.before a0 Z = true) (ws : List Jvm.Cond) (x0 : Addr) (kc : ClassId) (c0 : Int32) (h0 : Heap) (n0 : Nat) (Z0 : n0 ≤ h0.size) (pr1 : Old Z n0 h0) (pr2 : Sta Z Z.heap "java/lang/StringUTF16" "$assertionsDisabled" "Z" (.int 1)) (pr3 : Sta Z Z.heap "java/lang/StringUTF16" "HI_BYTE_SHIFT" "I" (.int 0)) (pr4 : Sta Z Z.heap "java/lang/StringUTF16" "LO_BYTE_SHIFT" "I" (.int 8)) (pr5 : Arv Z h0 x0 kc .char (1 : Int32) [(.int c0)] (.int 0)) :
    own_M l yN5 jdk_52_method_14_code 5 (some (.array .byte)) ws own_tb1R #[(.ref x0), (.int 0), (.int 1)] Z h0 (own_tb1Q Z x0 kc c0 h0 n0) := by
  refine own_go (plainFor_of_name own_pn3) (fun m => own_ef9 m x0 (0 : Int32) (1 : Int32) ) ?_
  intro p e s m below meth c s₁ Bd hx hby hml hZ hh hown hnm X0 e0
  have N0 := Fr.nil n0
  have K0 : Keep h0 h0 [] := Keep.refl h0 _
  refine own_st (T' := s₁) (g' := (mkF m 1 #[.val (.ref x0), .val (.int 0), .val (.int 1), .unset, .unset] [(.int 1)])) (fun _ kt => XS.iloadN X0.here hx rfl (hb hby d17_0) rfl kt) ?_
  obtain ⟨_, _, ⟨T269, L269, k269, n269⟩, -, X269, ⟨Lc269, hQ269, l269, y269, z269⟩, st269⟩ := Jvm.LawKit.callS X0 hx (y := yN14) hown (mvT hZ (own_k hw 83 rfl)) (mvT hZ (own_k hw 84 rfl)) (mvT hZ (own_k hw 36 rfl)) (mvT hZ (own_k hw 85 rfl)) (by decide) (backOf (W := 0) (own_nf1 l Z a0 hw []  h0 n0 Z0 ) hZ (own_k hw 85 rfl) (own_k hw 36 rfl) (by decide) (by decide)) (g := (mkF m 1 #[.val (.ref x0), .val (.int 0), .val (.int 1), .unset, .unset] [(.int 1)])) rfl hml.symm  (argsL := [(.int 1)]) (rest := []) (lenOf own_pd11 rfl) rfl (own_w0 rfl rfl) (hb hby d17_1) (fun _ _ => ⟨rfl, e0, (by decide : 0 + 1 ≤ 1), (by decide : 0 + 2 ≤ 2)⟩)
  dsimp only [Pt.U, Pt.locs, Pt.cells, Pt.slots] at X269 l269 y269 z269 st269 hQ269
  subst l269 y269 z269
  obtain ⟨b_269, kb_269, rfl, N269, K269_, P270, P271⟩ := hQ269
  have N272 := Fr.app N0 N269
  have Z273 : n0 ≤ T269.heap.size := Nat.le_trans Z0 K269_.1
  have K273 : Keep h0 T269.heap [] := (Keep.trans K0 K269_ all0)
  have ne274 : x0 ≠ b_269 := Nat.ne_of_lt (Nat.lt_of_lt_of_le pr5.lt P271)
  have ge275 : n0 ≤ b_269 := Nat.le_trans Z0 P271
  refine own_st (T' := T269) (g' := (mkF m 4 #[.val (.ref x0), .val (.int 0), .val (.int 1), .unset, .unset] [(.ref b_269)])) st269 ?_
  refine own_st (T' := T269) (g' := (mkF m 19 #[.val (.ref x0), .val (.int 0), .val (.int 1), .val (.ref b_269), .val (.int 0)] [(.int 0), (.ref x0), (.int 0), (.ref b_269)])) (fun _ kt => XS.astoreN X269.here hx rfl (hb hby d17_4) rfl rfl (l' := #[.val (.ref x0), .val (.int 0), .val (.int 1), .val (.ref b_269), .unset]) rfl (XS.iconst X269.here hx rfl (hb hby d17_5) (XS.istore X269.here hx rfl (hb hby d17_6) rfl (l' := #[.val (.ref x0), .val (.int 0), .val (.int 1), .val (.ref b_269), .val (.int 0)]) rfl (XS.iload X269.here hx rfl (hb hby d17_8) rfl (XS.iloadN X269.here hx rfl (hb hby d17_10) rfl (XS.icmpNo X269.here hx rfl (hb hby d17_11) rfl (XT.ii_ge_f (by decide)) (XS.aloadN X269.here hx rfl (hb hby d17_14) rfl rfl (XS.iload X269.here hx rfl (hb hby d17_15) rfl (XS.aloadN X269.here hx rfl (hb hby d17_17) rfl rfl (XS.iloadN X269.here hx rfl (hb hby d17_18) rfl kt)))))))))) ?_
  have F276 : Arv Z T269.heap x0 kc .char (1 : Int32) [(.int c0)] (.int 0) := (Arv.keep pr5 K269_ nin0)
  refine own_st (T' := T269) (g' := (mkF m 20 #[.val (.ref x0), .val (.int 0), .val (.int 1), .val (.ref b_269), .val (.int 0)] [(.int c0), (.int 0), (.ref b_269)])) (own_cal X269 hx hZ rfl F276 ⟨by decide, by decide⟩ rfl (g := (mkF m 19 #[.val (.ref x0), .val (.int 0), .val (.int 1), .val (.ref b_269), .val (.int 0)] [(.int 0), (.ref x0), (.int 0), (.ref b_269)])) rfl rfl (hb hby d17_19)) ?_
  have F277 : Old Z n0 T269.heap := (Old.keep pr1 K269_ all0)
  obtain ⟨_, _, ⟨T278, L278, k278, n278⟩, -, X278, ⟨Lc278, hQ278, l278, y278, z278⟩, st278⟩ := Jvm.LawKit.callS X269 hx (y := yN8) hown (mvT hZ (own_k hw 90 rfl)) (mvT hZ (own_k hw 91 rfl)) (mvT hZ (own_k hw 36 rfl)) (mvT hZ (own_k hw 92 rfl)) (by decide) (backOf (W := 0) (own_pc l Z a0 hw [] b_269 (0 : Int32) c0 kb_269 (2 : Int32) [(.int 0), (.int 0)] T269.heap n0 Z273 F277 pr2 pr3 pr4 ge275 P270 (show ¬ ((0 : Int32) <<< ((1 : Int32) &&& 31)) < 0 ∧ ((0 : Int32) <<< ((1 : Int32) &&& 31)) < (2 : Int32) from (by decide)) (show ¬ (((0 : Int32) <<< ((1 : Int32) &&& 31)) + (1 : Int32)) < 0 ∧ (((0 : Int32) <<< ((1 : Int32) &&& 31)) + (1 : Int32)) < (2 : Int32) from (by decide)) (show ((0 : Int32) <<< ((1 : Int32) &&& 31)).toNatClampNeg < [(.int 0), (.int 0)].length from (show _ < 2 from by decide)) (show (((0 : Int32) <<< ((1 : Int32) &&& 31)) + (1 : Int32)).toNatClampNeg < [(.int 0), (.int 0)].length from (show _ < 2 from by decide))) hZ (own_k hw 92 rfl) (own_k hw 36 rfl) (by decide) (by decide)) (g := (mkF m 20 #[.val (.ref x0), .val (.int 0), .val (.int 1), .val (.ref b_269), .val (.int 0)] [(.int c0), (.int 0), (.ref b_269)])) rfl hml.symm  (argsL := [(.ref b_269), (.int 0), (.int c0)]) (rest := []) (lenOf own_pd12 rfl) rfl (own_w0 rfl rfl) (hb hby d17_20) (fun _ _ => ⟨rfl, rfl, (by decide : 1 + 0 ≤ 1), (by decide : 2 + 0 ≤ 2)⟩)
  dsimp only [Pt.U, Pt.locs, Pt.cells, Pt.slots] at X278 l278 y278 z278 st278 hQ278
  subst l278 y278 z278
  obtain ⟨rfl, N278, K278_, P279⟩ := hQ278
  have N280 := Fr.app N272 N278
  have Z281 : n0 ≤ T278.heap.size := Nat.le_trans Z273 K278_.1
  have K281 : Keep h0 T278.heap [] := (Keep.trans K273 K278_ (allS (Or.inr (Nat.le_trans K0.1 P271)) all0))
  have F282 : Arv Z T278.heap b_269 kb_269 .byte (2 : Int32) [(.int (own_lo c0)), (.int (own_hi c0))] (.int 0) := P279
  refine own_st (T' := T278) (g' := (mkF m 23 #[.val (.ref x0), .val (.int 0), .val (.int 1), .val (.ref b_269), .val (.int 0)] [])) st278 ?_
  refine own_st (T' := T278) (g' := (mkF m 33 #[.val (.ref x0), .val (.int 1), .val (.int 1), .val (.ref b_269), .val (.int 1)] [(.ref b_269)])) (fun _ kt => XS.iinc X278.here hx rfl (hb hby d17_23) rfl (l' := #[.val (.ref x0), .val (.int 1), .val (.int 1), .val (.ref b_269), .val (.int 0)]) rfl (XS.iinc X278.here hx rfl (hb hby d17_26) rfl (l' := #[.val (.ref x0), .val (.int 1), .val (.int 1), .val (.ref b_269), .val (.int 1)]) rfl (XS.goto X278.here hx rfl (pc0 := 29) (pc' := 8) rfl (hb hby d17_29) (by decide) (by decide) (XS.iload X278.here hx rfl (hb hby d17_8) rfl (XS.iloadN X278.here hx rfl (hb hby d17_10) rfl (XS.icmpYes X278.here hx rfl (pc0 := 11) (pc' := 32) rfl (hb hby d17_11) rfl (XT.ii_ge_t (by decide)) (by decide) (by decide) (XS.aloadN X278.here hx rfl (hb hby d17_32) rfl rfl kt))))))) ?_
  obtain ⟨fs, hr, hrun, hended, hW, hsame⟩ := X278.leave (v := some (.ref b_269)) (fun h => by rw [Bd.returns] at h; cases h)
  refine own_end (own_retA X278 hx Bd.returns rfl rfl rfl (hb hby d17_33) hr) ⟨_, hrun, hended, _, _, rfl, ?_, ⟨_, rfl⟩, hW, hsame.mono (by decide) (by decide)⟩
  show own_tb1Q Z _ _ _ h0 n0 _ T278.heap _
  show own_tb1Q Z _ _ _ h0 n0 _ T278.heap _
  exact ⟨b_269, kb_269, rfl, N280, K281, F282, (Nat.le_trans K0.1 P271)⟩
theorem d8_0 : decode jdk_52_method_15_code 0 = .ok (.iload_n 1, 1) := by decide +kernel
theorem d8_1 : decode jdk_52_method_15_code 1 = .ok (.aload_n 0, 1) := by decide +kernel
theorem d8_2 : decode jdk_52_method_15_code 2 = .ok (.arraylength, 1) := by decide +kernel
theorem d8_3 : decode jdk_52_method_15_code 3 = .ok (.isub, 1) := by decide +kernel
theorem d8_4 : decode jdk_52_method_15_code 4 = .ok (.bipush 31, 2) := by decide +kernel
theorem d8_6 : decode jdk_52_method_15_code 6 = .ok (.iushr, 1) := by decide +kernel
theorem d8_7 : decode jdk_52_method_15_code 7 = .ok (.i2b, 1) := by decide +kernel
theorem d8_8 : decode jdk_52_method_15_code 8 = .ok (.ireturn, 1) := by decide +kernel
def own_cf1_0Q (Z : State) (t : Addr) (kb : ClassId) (vl : List Value) (h0 : Heap) (n0 : Nat) (v : Option Value) (h : Heap) (L : List Loc) : Prop := v = some (.int 0) ∧ Fr n0 L ∧ h = h0
abbrev own_cf1_0R : Room := { frames := 0, cells := 0, slots := 0, locals := 0 }
theorem own_cf1_0 (l : Launch) (Z : State) (a0 : Array Value) (hw : ∀ d ∈ tables_1, d.before a0 Z = true) (ws : List Jvm.Cond) (t : Addr) (kb : ClassId) (vl : List Value) (h0 : Heap) (n0 : Nat) (Z0 : n0 ≤ h0.size) (pr1 : Arv Z h0 t kb .byte (1 : Int32) vl (.int 0)) :
    own_M l yN3 jdk_52_method_15_code 2 (some .byte) ws own_cf1_0R #[(.ref t), (.int 1)] Z h0 (own_cf1_0Q Z t kb vl h0 n0) := by
  refine own_go (plainFor_of_name own_pn3) (fun m => own_ef4 m t (1 : Int32) ) ?_
  intro p e s m below meth c s₁ Bd hx hby hml hZ hh hown hnm X0 e0
  have N0 := Fr.nil n0
  refine own_st (T' := s₁) (g' := (mkF m 2 #[.val (.ref t), .val (.int 1)] [(.ref t), (.int 1)])) (fun _ kt => XS.iloadN X0.here hx rfl (hb hby d8_0) rfl (XS.aloadN X0.here hx rfl (hb hby d8_1) rfl rfl kt)) ?_
  refine own_st (T' := s₁) (g' := (mkF m 3 #[.val (.ref t), .val (.int 1)] [(.int 1), (.int 1)])) (own_alen X0 hx hZ e0 pr1 (g := (mkF m 2 #[.val (.ref t), .val (.int 1)] [(.ref t), (.int 1)])) rfl rfl (hb hby d8_2)) ?_
  refine own_st (T' := s₁) (g' := (mkF m 8 #[.val (.ref t), .val (.int 1)] [(.int ((XT.ushr (0 : Int32) (31 : Int32)).toInt8.toInt32))])) (fun _ kt => XS.isub X0.here hx rfl (hb hby d8_3) rfl (XS.bipush X0.here hx rfl (hb hby d8_4) (XT.iushr X0.here hx rfl (hb hby d8_6) rfl (XT.i2b X0.here hx rfl (hb hby d8_7) rfl kt)))) ?_
  obtain ⟨fs, hr, hrun, hended, hW, hsame⟩ := X0.leave (v := some (.int (nar .byte ((XT.ushr (0 : Int32) (31 : Int32)).toInt8.toInt32)))) (fun h => by rw [Bd.returns] at h; cases h)
  refine own_end (retN X0 hx (t := .byte) Bd.returns (by simp) (hb hby d8_8) hr) ⟨_, hrun, hended, _, _, rfl, ?_, ⟨_, rfl⟩, hW, hsame.mono (by decide) (by decide)⟩
  show own_cf1_0Q Z _ _ _ h0 n0 _ s₁.heap _
  rw [e0]
  exact ⟨(congrArg (fun z => some (Value.int z)) (by decide)), N0, rfl⟩
def own_cf1_1Q (Z : State) (t : Addr) (kb : ClassId) (vl : List Value) (h0 : Heap) (n0 : Nat) (v : Option Value) (h : Heap) (L : List Loc) : Prop := v = some (.int 1) ∧ Fr n0 L ∧ h = h0
abbrev own_cf1_1R : Room := { frames := 0, cells := 0, slots := 0, locals := 0 }
theorem own_cf1_1 (l : Launch) (Z : State) (a0 : Array Value) (hw : ∀ d ∈ tables_1, d.before a0 Z = true) (ws : List Jvm.Cond) (t : Addr) (kb : ClassId) (vl : List Value) (h0 : Heap) (n0 : Nat) (Z0 : n0 ≤ h0.size) (pr1 : Arv Z h0 t kb .byte (2 : Int32) vl (.int 0)) :
    own_M l yN3 jdk_52_method_15_code 2 (some .byte) ws own_cf1_1R #[(.ref t), (.int 1)] Z h0 (own_cf1_1Q Z t kb vl h0 n0) := by
  refine own_go (plainFor_of_name own_pn3) (fun m => own_ef4 m t (1 : Int32) ) ?_
  intro p e s m below meth c s₁ Bd hx hby hml hZ hh hown hnm X0 e0
  have N0 := Fr.nil n0
  refine own_st (T' := s₁) (g' := (mkF m 2 #[.val (.ref t), .val (.int 1)] [(.ref t), (.int 1)])) (fun _ kt => XS.iloadN X0.here hx rfl (hb hby d8_0) rfl (XS.aloadN X0.here hx rfl (hb hby d8_1) rfl rfl kt)) ?_
  refine own_st (T' := s₁) (g' := (mkF m 3 #[.val (.ref t), .val (.int 1)] [(.int 2), (.int 1)])) (own_alen X0 hx hZ e0 pr1 (g := (mkF m 2 #[.val (.ref t), .val (.int 1)] [(.ref t), (.int 1)])) rfl rfl (hb hby d8_2)) ?_
  refine own_st (T' := s₁) (g' := (mkF m 8 #[.val (.ref t), .val (.int 1)] [(.int ((XT.ushr (-1 : Int32) (31 : Int32)).toInt8.toInt32))])) (fun _ kt => XS.isub X0.here hx rfl (hb hby d8_3) rfl (XS.bipush X0.here hx rfl (hb hby d8_4) (XT.iushr X0.here hx rfl (hb hby d8_6) rfl (XT.i2b X0.here hx rfl (hb hby d8_7) rfl kt)))) ?_
  obtain ⟨fs, hr, hrun, hended, hW, hsame⟩ := X0.leave (v := some (.int (nar .byte ((XT.ushr (-1 : Int32) (31 : Int32)).toInt8.toInt32)))) (fun h => by rw [Bd.returns] at h; cases h)
  refine own_end (retN X0 hx (t := .byte) Bd.returns (by simp) (hb hby d8_8) hr) ⟨_, hrun, hended, _, _, rfl, ?_, ⟨_, rfl⟩, hW, hsame.mono (by decide) (by decide)⟩
  show own_cf1_1Q Z _ _ _ h0 n0 _ s₁.heap _
  rw [e0]
  exact ⟨(congrArg (fun z => some (Value.int z)) (by decide)), N0, rfl⟩
theorem d7_0 : decode jdk_52_method_21_code 0 = .ok (.iconst 0, 1) := by decide +kernel
theorem d7_1 : decode jdk_52_method_21_code 1 = .ok (.istore 5, 2) := by decide +kernel
theorem d7_3 : decode jdk_52_method_21_code 3 = .ok (.iload 5, 2) := by decide +kernel
theorem d7_5 : decode jdk_52_method_21_code 5 = .ok (.iload 4, 2) := by decide +kernel
theorem d7_7 : decode jdk_52_method_21_code 7 = .ok (.if_icmp .ge 37, 3) := by decide +kernel
theorem d7_10 : decode jdk_52_method_21_code 10 = .ok (.aload_n 0, 1) := by decide +kernel
theorem d7_11 : decode jdk_52_method_21_code 11 = .ok (.iload_n 1, 1) := by decide +kernel
theorem d7_12 : decode jdk_52_method_21_code 12 = .ok (.caload, 1) := by decide +kernel
theorem d7_13 : decode jdk_52_method_21_code 13 = .ok (.istore 6, 2) := by decide +kernel
theorem d7_15 : decode jdk_52_method_21_code 15 = .ok (.iload 6, 2) := by decide +kernel
theorem d7_17 : decode jdk_52_method_21_code 17 = .ok (.sipush 255, 3) := by decide +kernel
theorem d7_20 : decode jdk_52_method_21_code 20 = .ok (.if_icmp .le 6, 3) := by decide +kernel
theorem d7_23 : decode jdk_52_method_21_code 23 = .ok (.iload 5, 2) := by decide +kernel
theorem d7_25 : decode jdk_52_method_21_code 25 = .ok (.ireturn, 1) := by decide +kernel
theorem own_ef10 (m : MethodId) (x0 : Addr) (x1 : Int32) (x2 : Addr) (x3 : Int32) (x4 : Int32) : entryFrame m #[(.ref x0), (.int x1), (.ref x2), (.int x3), (.int x4)] 7 = mkF m 0 #[.val (.ref x0), .val (.int x1), .val (.ref x2), .val (.int x3), .val (.int x4), .unset, .unset] [] := by first | (simp [entryFrame, mkF, argsToLocals, Value.category]; done) | rfl
def own_k5_1_0Q (Z : State) (x0 : Addr) (kc : ClassId) (d0 : Addr) (kd : ClassId) (c0 : Int32) (h0 : Heap) (n0 : Nat) (v : Option Value) (h : Heap) (L : List Loc) : Prop := v = some (.int 0) ∧ Fr n0 L ∧ Keep h0 h [d0] ∧ (Arv Z h d0 kd .byte (1 : Int32) [(.int 0)] (.int 0))
abbrev own_k5_1_0R : Room := { frames := 0, cells := 0, slots := 0, locals := 0 }
theorem own_k5_1_0 (l : Launch) (Z : State) (a0 : Array Value) (hw : ∀ d ∈ tables_1, d.before a0 Z = true) (ws : List Jvm.Cond) (x0 : Addr) (kc : ClassId) (d0 : Addr) (kd : ClassId) (c0 : Int32) (h0 : Heap) (n0 : Nat) (Z0 : n0 ≤ h0.size) (pr1 : Arv Z h0 x0 kc .char (1 : Int32) [(.int c0)] (.int 0)) (pr2 : Arv Z h0 d0 kd .byte (1 : Int32) [(.int 0)] (.int 0)) (pr3 : n0 ≤ d0) (pr4 : x0 ≠ d0) (pr5 : (255 : Int32) < c0) :
    own_M l yN1 jdk_52_method_21_code 7 (some .int) ws own_k5_1_0R #[(.ref x0), (.int 0), (.ref d0), (.int 0), (.int 1)] Z h0 (own_k5_1_0Q Z x0 kc d0 kd c0 h0 n0) := by
  refine own_go (plainFor_of_name own_pn3) (fun m => own_ef10 m x0 (0 : Int32) d0 (0 : Int32) (1 : Int32) ) ?_
  intro p e s m below meth c s₁ Bd hx hby hml hZ hh hown hnm X0 e0
  have N0 := Fr.nil n0
  have K0 : Keep h0 h0 [d0] := Keep.refl h0 _
  refine own_st (T' := s₁) (g' := (mkF m 12 #[.val (.ref x0), .val (.int 0), .val (.ref d0), .val (.int 0), .val (.int 1), .val (.int 0), .unset] [(.int 0), (.ref x0)])) (fun _ kt => XS.iconst X0.here hx rfl (hb hby d7_0) (XS.istore X0.here hx rfl (hb hby d7_1) rfl (l' := #[.val (.ref x0), .val (.int 0), .val (.ref d0), .val (.int 0), .val (.int 1), .val (.int 0), .unset]) rfl (XS.iload X0.here hx rfl (hb hby d7_3) rfl (XS.iload X0.here hx rfl (hb hby d7_5) rfl (XS.icmpNo X0.here hx rfl (hb hby d7_7) rfl (XT.ii_ge_f (by decide)) (XS.aloadN X0.here hx rfl (hb hby d7_10) rfl rfl (XS.iloadN X0.here hx rfl (hb hby d7_11) rfl kt))))))) ?_
  refine own_st (T' := s₁) (g' := (mkF m 13 #[.val (.ref x0), .val (.int 0), .val (.ref d0), .val (.int 0), .val (.int 1), .val (.int 0), .unset] [(.int c0)])) (own_cal X0 hx hZ e0 pr1 ⟨by decide, by decide⟩ rfl (g := (mkF m 12 #[.val (.ref x0), .val (.int 0), .val (.ref d0), .val (.int 0), .val (.int 1), .val (.int 0), .unset] [(.int 0), (.ref x0)])) rfl rfl (hb hby d7_12)) ?_
  refine own_st (T' := s₁) (g' := (mkF m 25 #[.val (.ref x0), .val (.int 0), .val (.ref d0), .val (.int 0), .val (.int 1), .val (.int 0), .val (.int c0)] [(.int 0)])) (fun _ kt => XS.istore X0.here hx rfl (hb hby d7_13) rfl (l' := #[.val (.ref x0), .val (.int 0), .val (.ref d0), .val (.int 0), .val (.int 1), .val (.int 0), .val (.int c0)]) rfl (XS.iload X0.here hx rfl (hb hby d7_15) rfl (XS.sipush X0.here hx rfl (hb hby d7_17) (XS.icmpNo X0.here hx rfl (hb hby d7_20) rfl (XT.ii_le_f pr5) (XS.iload X0.here hx rfl (hb hby d7_23) rfl kt))))) ?_
  obtain ⟨fs, hr, hrun, hended, hW, hsame⟩ := X0.leave (v := some (.int 0)) (fun h => by rw [Bd.returns] at h; cases h)
  refine own_end (own_retI X0 hx Bd.returns (hb hby d7_25) hr) ⟨_, hrun, hended, _, _, rfl, ?_, ⟨_, rfl⟩, hW, hsame.mono (by decide) (by decide)⟩
  show own_k5_1_0Q Z _ _ _ _ _ h0 n0 _ s₁.heap _
  rw [e0]
  exact ⟨rfl, N0, K0, pr2⟩
theorem d6_0 : decode jdk_52_method_16_code 0 = .ok (.iload_n 2, 1) := by decide +kernel
theorem d6_1 : decode jdk_52_method_16_code 1 = .ok (.newarray .byte, 2) := by decide +kernel
theorem d6_3 : decode jdk_52_method_16_code 3 = .ok (.astore_n 3, 1) := by decide +kernel
theorem d6_4 : decode jdk_52_method_16_code 4 = .ok (.aload_n 0, 1) := by decide +kernel
theorem d6_5 : decode jdk_52_method_16_code 5 = .ok (.iload_n 1, 1) := by decide +kernel
theorem d6_6 : decode jdk_52_method_16_code 6 = .ok (.aload_n 3, 1) := by decide +kernel
theorem d6_7 : decode jdk_52_method_16_code 7 = .ok (.iconst 0, 1) := by decide +kernel
theorem d6_8 : decode jdk_52_method_16_code 8 = .ok (.iload_n 2, 1) := by decide +kernel
theorem d6_9 : decode jdk_52_method_16_code 9 = .ok (.invokestatic 115, 3) := by decide +kernel
theorem own_pd13 : parseMethodDescriptor "([CI[BII)I" = some ⟨[(.array .char), .int, (.array .byte), .int, .int], some .int⟩ := by decide +kernel
theorem d6_12 : decode jdk_52_method_16_code 12 = .ok (.istore 4, 2) := by decide +kernel
theorem d6_14 : decode jdk_52_method_16_code 14 = .ok (.iload 4, 2) := by decide +kernel
theorem d6_16 : decode jdk_52_method_16_code 16 = .ok (.iload_n 2, 1) := by decide +kernel
theorem d6_17 : decode jdk_52_method_16_code 17 = .ok (.if_icmp .eq 40, 3) := by decide +kernel
theorem d6_20 : decode jdk_52_method_16_code 20 = .ok (.aload_n 0, 1) := by decide +kernel
theorem d6_21 : decode jdk_52_method_16_code 21 = .ok (.iload_n 1, 1) := by decide +kernel
theorem d6_22 : decode jdk_52_method_16_code 22 = .ok (.iload_n 2, 1) := by decide +kernel
theorem d6_23 : decode jdk_52_method_16_code 23 = .ok (.invokestatic 119, 3) := by decide +kernel
theorem own_pd14 : parseMethodDescriptor "([CII)[B" = some ⟨[(.array .char), .int, .int], some (.array .byte)⟩ := by decide +kernel
theorem d6_26 : decode jdk_52_method_16_code 26 = .ok (.astore 5, 2) := by decide +kernel
theorem d6_28 : decode jdk_52_method_16_code 28 = .ok (.aload 5, 2) := by decide +kernel
theorem d6_30 : decode jdk_52_method_16_code 30 = .ok (.iload 4, 2) := by decide +kernel
theorem d6_32 : decode jdk_52_method_16_code 32 = .ok (.invokestatic 71, 3) := by decide +kernel
theorem d6_35 : decode jdk_52_method_16_code 35 = .ok (.sipush 255, 3) := by decide +kernel
theorem d6_38 : decode jdk_52_method_16_code 38 = .ok (.if_icmp .gt 16, 3) := by decide +kernel
theorem d6_54 : decode jdk_52_method_16_code 54 = .ok (.aload 5, 2) := by decide +kernel
theorem d6_56 : decode jdk_52_method_16_code 56 = .ok (.areturn, 1) := by decide +kernel
theorem own_ef11 (m : MethodId) (x0 : Addr) (x1 : Int32) (x2 : Int32) : entryFrame m #[(.ref x0), (.int x1), (.int x2)] 6 = mkF m 0 #[.val (.ref x0), .val (.int x1), .val (.int x2), .unset, .unset, .unset] [] := by first | (simp [entryFrame, mkF, argsToLocals, Value.category]; done) | rfl
def own_k3_1_0Q (Z : State) (x0 : Addr) (kc : ClassId) (c0 : Int32) (h0 : Heap) (n0 : Nat) (v : Option Value) (h : Heap) (L : List Loc) : Prop := ∃ (b : Addr), ∃ (kb : ClassId), v = some (.ref b) ∧ Fr n0 L ∧ Keep h0 h [] ∧ (Arv Z h b kb .byte (2 : Int32) [(.int (own_lo c0)), (.int (own_hi c0))] (.int 0)) ∧ (h0.size ≤ b)
abbrev own_k3_1_0R : Room := { frames := 3, cells := 2, slots := 3, locals := 40 }
theorem own_k3_1_0 (l : Launch) (Z : State) (a0 : Array Value) (hw : ∀ d ∈ tables_1, d.before a0 Z = true) (ws : List Jvm.Cond) (x0 : Addr) (kc : ClassId) (c0 : Int32) (h0 : Heap) (n0 : Nat) (Z0 : n0 ≤ h0.size) (pr1 : Old Z n0 h0) (pr2 : Sta Z Z.heap "java/lang/StringUTF16" "$assertionsDisabled" "Z" (.int 1)) (pr3 : Sta Z Z.heap "java/lang/StringUTF16" "HI_BYTE_SHIFT" "I" (.int 0)) (pr4 : Sta Z Z.heap "java/lang/StringUTF16" "LO_BYTE_SHIFT" "I" (.int 8)) (pr5 : Arv Z h0 x0 kc .char (1 : Int32) [(.int c0)] (.int 0)) (pr6 : own_c16 c0) (pr7 : (255 : Int32) < c0) :
    own_M l yN2 jdk_52_method_16_code 6 (some (.array .byte)) ws own_k3_1_0R #[(.ref x0), (.int 0), (.int 1)] Z h0 (own_k3_1_0Q Z x0 kc c0 h0 n0) := by
  refine own_go (plainFor_of_name own_pn3) (fun m => own_ef11 m x0 (0 : Int32) (1 : Int32) ) ?_
  intro p e s m below meth c s₁ Bd hx hby hml hZ hh hown hnm X0 e0
  have N0 := Fr.nil n0
  have K0 : Keep h0 h0 [] := Keep.refl h0 _
  refine own_st (T' := s₁) (g' := (mkF m 1 #[.val (.ref x0), .val (.int 0), .val (.int 1), .unset, .unset, .unset] [(.int 1)])) (fun _ kt => XS.iloadN X0.here hx rfl (hb hby d6_0) rfl kt) ?_
  obtain ⟨T283, h283, k283, X283, e283, E283, A283, st283⟩ := newP X0 hx hZ (aty := .byte) (own_k hw 17 rfl) e0 (g := (mkF m 1 #[.val (.ref x0), .val (.int 0), .val (.int 1), .unset, .unset, .unset] [(.int 1)])) rfl (hb hby d6_1) rfl (by decide) (cap := 1) (by decide) (by decide) (by decide) (by decide)
  obtain ⟨b283, g283⟩ : ∃ z, z = h0.size := ⟨_, rfl⟩
  rw [← g283] at A283 st283
  have ne284 : x0 ≠ b283 := by rw [g283]; exact Nat.ne_of_lt pr5.lt
  have Z285 : n0 ≤ h283.size := Nat.le_trans Z0 E283.1
  have K285 : Keep h0 h283 [] := (Keep.ext K0 E283)
  have ge_b283 : n0 ≤ b283 := Nat.le_trans Z0 (Nat.le_of_eq g283.symm)
  have F286 : Arv Z h283 b283 k283 .byte (1 : Int32) [(.int 0)] (.int 0) := (Arv.new A283 (by decide)).pad (pad_rep [] (.int 0) 1)
  refine own_st (T' := T283) (g' := (mkF m 3 #[.val (.ref x0), .val (.int 0), .val (.int 1), .unset, .unset, .unset] [(.ref b283)])) st283 ?_
  refine own_st (T' := T283) (g' := (mkF m 9 #[.val (.ref x0), .val (.int 0), .val (.int 1), .val (.ref b283), .unset, .unset] [(.int 1), (.int 0), (.ref b283), (.int 0), (.ref x0)])) (fun _ kt => XS.astoreN X283.here hx rfl (hb hby d6_3) rfl rfl (l' := #[.val (.ref x0), .val (.int 0), .val (.int 1), .val (.ref b283), .unset, .unset]) rfl (XS.aloadN X283.here hx rfl (hb hby d6_4) rfl rfl (XS.iloadN X283.here hx rfl (hb hby d6_5) rfl (XS.aloadN X283.here hx rfl (hb hby d6_6) rfl rfl (XS.iconst X283.here hx rfl (hb hby d6_7) (XS.iloadN X283.here hx rfl (hb hby d6_8) rfl kt)))))) ?_
  have F287 : Arv Z h283 x0 kc .char (1 : Int32) [(.int c0)] (.int 0) := (pr5.ext E283)
  obtain ⟨_, _, ⟨T288, L288, k288, n288⟩, -, X288, ⟨Lc288, hQ288, l288, y288, z288⟩, st288⟩ := Jvm.LawKit.callS X283 hx (y := yN1) hown (mvT hZ (own_k hw 38 rfl)) (mvT hZ (own_k hw 39 rfl)) (mvT hZ (own_k hw 36 rfl)) (mvT hZ (own_k hw 40 rfl)) (by decide) (backOf (W := 0) (own_k5_1_0 l Z a0 hw [] x0 kc b283 k283 c0 h283 n0 Z285 F287 F286 ge_b283 ne284 pr7) hZ (own_k hw 40 rfl) (own_k hw 36 rfl) (by decide) (by decide)) (g := (mkF m 9 #[.val (.ref x0), .val (.int 0), .val (.int 1), .val (.ref b283), .unset, .unset] [(.int 1), (.int 0), (.ref b283), (.int 0), (.ref x0)])) rfl hml.symm  (argsL := [(.ref x0), (.int 0), (.ref b283), (.int 0), (.int 1)]) (rest := []) (lenOf own_pd13 rfl) rfl (own_w0 rfl rfl) (hb hby d6_9) (fun _ _ => ⟨rfl, e283, (by decide : 1 + 0 ≤ 2), (by decide : 1 + 0 ≤ 3)⟩)
  dsimp only [Pt.U, Pt.locs, Pt.cells, Pt.slots] at X288 l288 y288 z288 st288 hQ288
  subst l288 y288 z288
  obtain ⟨rfl, N288, K288_, P289⟩ := hQ288
  have N290 := Fr.app N0 N288
  have Z291 : n0 ≤ T288.heap.size := Nat.le_trans Z285 K288_.1
  have K291 : Keep h0 T288.heap [] := (Keep.trans K285 K288_ (allS (Or.inr (Nat.le_trans K0.1 (Nat.le_of_eq g283.symm))) all0))
  refine own_st (T' := T288) (g' := (mkF m 12 #[.val (.ref x0), .val (.int 0), .val (.int 1), .val (.ref b283), .unset, .unset] [(.int 0)])) st288 ?_
  refine own_st (T' := T288) (g' := (mkF m 23 #[.val (.ref x0), .val (.int 0), .val (.int 1), .val (.ref b283), .val (.int 0), .unset] [(.int 1), (.int 0), (.ref x0)])) (fun _ kt => XS.istore X288.here hx rfl (hb hby d6_12) rfl (l' := #[.val (.ref x0), .val (.int 0), .val (.int 1), .val (.ref b283), .val (.int 0), .unset]) rfl (XS.iload X288.here hx rfl (hb hby d6_14) rfl (XS.iloadN X288.here hx rfl (hb hby d6_16) rfl (XS.icmpNo X288.here hx rfl (hb hby d6_17) rfl (XT.ii_eq_f (by decide)) (XS.aloadN X288.here hx rfl (hb hby d6_20) rfl rfl (XS.iloadN X288.here hx rfl (hb hby d6_21) rfl (XS.iloadN X288.here hx rfl (hb hby d6_22) rfl kt))))))) ?_
  have F292 : Old Z n0 T288.heap := (Old.keep (Old.ext pr1 E283) K288_ (allS ge_b283 all0))
  have F293 : Arv Z T288.heap x0 kc .char (1 : Int32) [(.int c0)] (.int 0) := (Arv.keep F287 K288_ (ninS ne284 nin0))
  obtain ⟨_, _, ⟨T294, L294, k294, n294⟩, -, X294, ⟨Lc294, hQ294, l294, y294, z294⟩, st294⟩ := Jvm.LawKit.callS X288 hx (y := yN5) hown (mvT hZ (own_k hw 80 rfl)) (mvT hZ (own_k hw 81 rfl)) (mvT hZ (own_k hw 36 rfl)) (mvT hZ (own_k hw 82 rfl)) (by decide) (backOf (W := 0) (own_tb1 l Z a0 hw [] x0 kc c0 T288.heap n0 Z291 F292 pr2 pr3 pr4 F293) hZ (own_k hw 82 rfl) (own_k hw 36 rfl) (by decide) (by decide)) (g := (mkF m 23 #[.val (.ref x0), .val (.int 0), .val (.int 1), .val (.ref b283), .val (.int 0), .unset] [(.int 1), (.int 0), (.ref x0)])) rfl hml.symm  (argsL := [(.ref x0), (.int 0), (.int 1)]) (rest := []) (lenOf own_pd14 rfl) rfl (own_w0 rfl rfl) (hb hby d6_23) (fun _ _ => ⟨rfl, rfl, (by decide : 1 + 1 ≤ 2), (by decide : 1 + 2 ≤ 3)⟩)
  dsimp only [Pt.U, Pt.locs, Pt.cells, Pt.slots] at X294 l294 y294 z294 st294 hQ294
  subst l294 y294 z294
  obtain ⟨b_294, kb_294, rfl, N294, K294_, P295, P296⟩ := hQ294
  have N297 := Fr.app N290 N294
  have Z298 : n0 ≤ T294.heap.size := Nat.le_trans Z291 K294_.1
  have K298 : Keep h0 T294.heap [] := (Keep.trans K291 K294_ all0)
  have ne299 : x0 ≠ b_294 := Nat.ne_of_lt (Nat.lt_of_lt_of_le F293.lt P296)
  have ne300 : b283 ≠ b_294 := Nat.ne_of_lt (Nat.lt_of_lt_of_le P289.lt P296)
  have ge301 : n0 ≤ b_294 := Nat.le_trans Z291 P296
  refine own_st (T' := T294) (g' := (mkF m 26 #[.val (.ref x0), .val (.int 0), .val (.int 1), .val (.ref b283), .val (.int 0), .unset] [(.ref b_294)])) st294 ?_
  refine own_st (T' := T294) (g' := (mkF m 32 #[.val (.ref x0), .val (.int 0), .val (.int 1), .val (.ref b283), .val (.int 0), .val (.ref b_294)] [(.int 0), (.ref b_294)])) (fun _ kt => XS.astore X294.here hx rfl (hb hby d6_26) rfl rfl (l' := #[.val (.ref x0), .val (.int 0), .val (.int 1), .val (.ref b283), .val (.int 0), .val (.ref b_294)]) rfl (XS.aload X294.here hx rfl (hb hby d6_28) rfl rfl (XS.iload X294.here hx rfl (hb hby d6_30) rfl kt))) ?_
  have F302 : Old Z n0 T294.heap := (Old.keep F292 K294_ all0)
  obtain ⟨_, _, ⟨T303, L303, k303, n303⟩, -, X303, ⟨Lc303, hQ303, l303, y303, z303⟩, st303⟩ := Jvm.LawKit.callS X294 hx (y := yN6) hown (mvT hZ (own_k hw 96 rfl)) (mvT hZ (own_k hw 97 rfl)) (mvT hZ (own_k hw 36 rfl)) (mvT hZ (own_k hw 98 rfl)) (by decide) (backOf (W := 0) (own_gc l Z a0 hw [] b_294 (0 : Int32) kb_294 (2 : Int32) [(.int (own_lo c0)), (.int (own_hi c0))] c0 T294.heap n0 Z298 F302 pr2 pr3 pr4 P295 pr6 (show own_u (2 : Int32) [(.int (own_lo c0)), (.int (own_hi c0))] (0 : Int32) c0 from ⟨by decide, rfl, by decide, rfl⟩)) hZ (own_k hw 98 rfl) (own_k hw 36 rfl) (by decide) (by decide)) (g := (mkF m 32 #[.val (.ref x0), .val (.int 0), .val (.int 1), .val (.ref b283), .val (.int 0), .val (.ref b_294)] [(.int 0), (.ref b_294)])) rfl hml.symm  (argsL := [(.ref b_294), (.int 0)]) (rest := []) (lenOf own_pd5 rfl) rfl (own_w0 rfl rfl) (hb hby d6_32) (fun _ _ => ⟨rfl, rfl, (by decide : 2 + 0 ≤ 2), (by decide : 3 + 0 ≤ 3)⟩)
  dsimp only [Pt.U, Pt.locs, Pt.cells, Pt.slots] at X303 l303 y303 z303 st303 hQ303
  subst l303 y303 z303
  obtain ⟨rfl, N303, e303⟩ := hQ303
  have N304 := Fr.app N297 N303
  refine own_st (T' := T303) (g' := (mkF m 35 #[.val (.ref x0), .val (.int 0), .val (.int 1), .val (.ref b283), .val (.int 0), .val (.ref b_294)] [(.int c0)])) st303 ?_
  refine own_st (T' := T303) (g' := (mkF m 56 #[.val (.ref x0), .val (.int 0), .val (.int 1), .val (.ref b283), .val (.int 0), .val (.ref b_294)] [(.ref b_294)])) (fun _ kt => XS.sipush X303.here hx rfl (hb hby d6_35) (XS.icmpYes X303.here hx rfl (pc0 := 38) (pc' := 54) rfl (hb hby d6_38) rfl (XT.ii_gt_t pr7) (by decide) (by decide) (XS.aload X303.here hx rfl (hb hby d6_54) rfl rfl kt))) ?_
  obtain ⟨fs, hr, hrun, hended, hW, hsame⟩ := X303.leave (v := some (.ref b_294)) (fun h => by rw [Bd.returns] at h; cases h)
  refine own_end (own_retA X303 hx Bd.returns rfl rfl rfl (hb hby d6_56) hr) ⟨_, hrun, hended, _, _, rfl, ?_, ⟨_, rfl⟩, hW, hsame.mono (by decide) (by decide)⟩
  show own_k3_1_0Q Z _ _ _ h0 n0 _ T303.heap _
  rw [e303]
  exact ⟨b_294, kb_294, rfl, N304, K298, P295, (Nat.le_trans K291.1 P296)⟩
theorem d7_26 : decode jdk_52_method_21_code 26 = .ok (.aload_n 2, 1) := by decide +kernel
theorem d7_27 : decode jdk_52_method_21_code 27 = .ok (.iload_n 3, 1) := by decide +kernel
theorem d7_28 : decode jdk_52_method_21_code 28 = .ok (.iload 6, 2) := by decide +kernel
theorem d7_30 : decode jdk_52_method_21_code 30 = .ok (.i2b, 1) := by decide +kernel
theorem d7_31 : decode jdk_52_method_21_code 31 = .ok (.bastore, 1) := by decide +kernel
theorem d7_32 : decode jdk_52_method_21_code 32 = .ok (.iinc 1 1, 3) := by decide +kernel
theorem d7_35 : decode jdk_52_method_21_code 35 = .ok (.iinc 3 1, 3) := by decide +kernel
theorem d7_38 : decode jdk_52_method_21_code 38 = .ok (.iinc 5 1, 3) := by decide +kernel
theorem d7_41 : decode jdk_52_method_21_code 41 = .ok (.goto (-38), 3) := by decide +kernel
theorem d7_44 : decode jdk_52_method_21_code 44 = .ok (.iload 4, 2) := by decide +kernel
theorem d7_46 : decode jdk_52_method_21_code 46 = .ok (.ireturn, 1) := by decide +kernel
def own_k5_1_1Q (Z : State) (x0 : Addr) (kc : ClassId) (d0 : Addr) (kd : ClassId) (c0 : Int32) (h0 : Heap) (n0 : Nat) (v : Option Value) (h : Heap) (L : List Loc) : Prop := v = some (.int 1) ∧ Fr n0 L ∧ Keep h0 h [d0] ∧ (Arv Z h d0 kd .byte (1 : Int32) [(.int c0.toInt8.toInt32)] (.int 0))
abbrev own_k5_1_1R : Room := { frames := 0, cells := 0, slots := 0, locals := 0 }
theorem own_k5_1_1 (l : Launch) (Z : State) (a0 : Array Value) (hw : ∀ d ∈ tables_1, d.before a0 Z = true) (ws : List Jvm.Cond) (x0 : Addr) (kc : ClassId) (d0 : Addr) (kd : ClassId) (c0 : Int32) (h0 : Heap) (n0 : Nat) (Z0 : n0 ≤ h0.size) (pr1 : Arv Z h0 x0 kc .char (1 : Int32) [(.int c0)] (.int 0)) (pr2 : Arv Z h0 d0 kd .byte (1 : Int32) [(.int 0)] (.int 0)) (pr3 : n0 ≤ d0) (pr4 : x0 ≠ d0) (pr5 : ¬ (255 : Int32) < c0) :
    own_M l yN1 jdk_52_method_21_code 7 (some .int) ws own_k5_1_1R #[(.ref x0), (.int 0), (.ref d0), (.int 0), (.int 1)] Z h0 (own_k5_1_1Q Z x0 kc d0 kd c0 h0 n0) := by
  refine own_go (plainFor_of_name own_pn3) (fun m => own_ef10 m x0 (0 : Int32) d0 (0 : Int32) (1 : Int32) ) ?_
  intro p e s m below meth c s₁ Bd hx hby hml hZ hh hown hnm X0 e0
  have N0 := Fr.nil n0
  have K0 : Keep h0 h0 [d0] := Keep.refl h0 _
  refine own_st (T' := s₁) (g' := (mkF m 12 #[.val (.ref x0), .val (.int 0), .val (.ref d0), .val (.int 0), .val (.int 1), .val (.int 0), .unset] [(.int 0), (.ref x0)])) (fun _ kt => XS.iconst X0.here hx rfl (hb hby d7_0) (XS.istore X0.here hx rfl (hb hby d7_1) rfl (l' := #[.val (.ref x0), .val (.int 0), .val (.ref d0), .val (.int 0), .val (.int 1), .val (.int 0), .unset]) rfl (XS.iload X0.here hx rfl (hb hby d7_3) rfl (XS.iload X0.here hx rfl (hb hby d7_5) rfl (XS.icmpNo X0.here hx rfl (hb hby d7_7) rfl (XT.ii_ge_f (by decide)) (XS.aloadN X0.here hx rfl (hb hby d7_10) rfl rfl (XS.iloadN X0.here hx rfl (hb hby d7_11) rfl kt))))))) ?_
  refine own_st (T' := s₁) (g' := (mkF m 13 #[.val (.ref x0), .val (.int 0), .val (.ref d0), .val (.int 0), .val (.int 1), .val (.int 0), .unset] [(.int c0)])) (own_cal X0 hx hZ e0 pr1 ⟨by decide, by decide⟩ rfl (g := (mkF m 12 #[.val (.ref x0), .val (.int 0), .val (.ref d0), .val (.int 0), .val (.int 1), .val (.int 0), .unset] [(.int 0), (.ref x0)])) rfl rfl (hb hby d7_12)) ?_
  refine own_st (T' := s₁) (g' := (mkF m 31 #[.val (.ref x0), .val (.int 0), .val (.ref d0), .val (.int 0), .val (.int 1), .val (.int 0), .val (.int c0)] [(.int (c0.toInt8.toInt32)), (.int 0), (.ref d0)])) (fun _ kt => XS.istore X0.here hx rfl (hb hby d7_13) rfl (l' := #[.val (.ref x0), .val (.int 0), .val (.ref d0), .val (.int 0), .val (.int 1), .val (.int 0), .val (.int c0)]) rfl (XS.iload X0.here hx rfl (hb hby d7_15) rfl (XS.sipush X0.here hx rfl (hb hby d7_17) (XS.icmpYes X0.here hx rfl (pc0 := 20) (pc' := 26) rfl (hb hby d7_20) rfl (XT.ii_le_t pr5) (by decide) (by decide) (XS.aloadN X0.here hx rfl (hb hby d7_26) rfl rfl (XS.iloadN X0.here hx rfl (hb hby d7_27) rfl (XS.iload X0.here hx rfl (hb hby d7_28) rfl (XT.i2b X0.here hx rfl (hb hby d7_30) rfl kt)))))))) ?_
  obtain ⟨T305, h305, X305, e305, W305, V305, st305⟩ := own_bst X0 hx hZ e0 pr2 ⟨by decide, by decide⟩ (i := 0) rfl (by simp) (y := (c0.toInt8.toInt32)) (own_narb _) (g := (mkF m 31 #[.val (.ref x0), .val (.int 0), .val (.ref d0), .val (.int 0), .val (.int 1), .val (.int 0), .val (.int c0)] [(.int (c0.toInt8.toInt32)), (.int 0), (.ref d0)])) rfl rfl (hb hby d7_31)
  have N305 := Fr.snoc X305 N0 pr3
  have Z306 : n0 ≤ h305.size := Nat.le_trans Z0 (Nat.le_of_eq (Wr.size W305).symm)
  have K306 : Keep h0 h305 [d0] := (Keep.wr K0 W305 (Or.inl (List.mem_of_getElem? (i := 0) rfl)))
  have F307 : Arv Z h305 d0 kd .byte (1 : Int32) [(.int (c0.toInt8.toInt32))] (.int 0) := V305
  refine own_st (T' := T305) (g' := (mkF m 32 #[.val (.ref x0), .val (.int 0), .val (.ref d0), .val (.int 0), .val (.int 1), .val (.int 0), .val (.int c0)] [])) st305 ?_
  refine own_st (T' := T305) (g' := (mkF m 46 #[.val (.ref x0), .val (.int 1), .val (.ref d0), .val (.int 1), .val (.int 1), .val (.int 1), .val (.int c0)] [(.int 1)])) (fun _ kt => XS.iinc X305.here hx rfl (hb hby d7_32) rfl (l' := #[.val (.ref x0), .val (.int 1), .val (.ref d0), .val (.int 0), .val (.int 1), .val (.int 0), .val (.int c0)]) rfl (XS.iinc X305.here hx rfl (hb hby d7_35) rfl (l' := #[.val (.ref x0), .val (.int 1), .val (.ref d0), .val (.int 1), .val (.int 1), .val (.int 0), .val (.int c0)]) rfl (XS.iinc X305.here hx rfl (hb hby d7_38) rfl (l' := #[.val (.ref x0), .val (.int 1), .val (.ref d0), .val (.int 1), .val (.int 1), .val (.int 1), .val (.int c0)]) rfl (XS.goto X305.here hx rfl (pc0 := 41) (pc' := 3) rfl (hb hby d7_41) (by decide) (by decide) (XS.iload X305.here hx rfl (hb hby d7_3) rfl (XS.iload X305.here hx rfl (hb hby d7_5) rfl (XS.icmpYes X305.here hx rfl (pc0 := 7) (pc' := 44) rfl (hb hby d7_7) rfl (XT.ii_ge_t (by decide)) (by decide) (by decide) (XS.iload X305.here hx rfl (hb hby d7_44) rfl kt)))))))) ?_
  obtain ⟨fs, hr, hrun, hended, hW, hsame⟩ := X305.leave (v := some (.int 1)) (fun h => by rw [Bd.returns] at h; cases h)
  refine own_end (own_retI X305 hx Bd.returns (hb hby d7_46) hr) ⟨_, hrun, hended, _, _, rfl, ?_, ⟨_, rfl⟩, hW, hsame.mono (by decide) (by decide)⟩
  show own_k5_1_1Q Z _ _ _ _ _ h0 n0 _ T305.heap _
  rw [e305]
  exact ⟨rfl, N305, K306, F307⟩
theorem d6_57 : decode jdk_52_method_16_code 57 = .ok (.aload_n 3, 1) := by decide +kernel
theorem d6_58 : decode jdk_52_method_16_code 58 = .ok (.areturn, 1) := by decide +kernel
def own_k3_1_1Q (Z : State) (x0 : Addr) (kc : ClassId) (c0 : Int32) (h0 : Heap) (n0 : Nat) (v : Option Value) (h : Heap) (L : List Loc) : Prop := ∃ (b : Addr), ∃ (kb : ClassId), v = some (.ref b) ∧ Fr n0 L ∧ Keep h0 h [] ∧ (Arv Z h b kb .byte (1 : Int32) [(.int c0.toInt8.toInt32)] (.int 0)) ∧ (h0.size ≤ b)
abbrev own_k3_1_1R : Room := { frames := 1, cells := 1, slots := 1, locals := 18 }
theorem own_k3_1_1 (l : Launch) (Z : State) (a0 : Array Value) (hw : ∀ d ∈ tables_1, d.before a0 Z = true) (ws : List Jvm.Cond) (x0 : Addr) (kc : ClassId) (c0 : Int32) (h0 : Heap) (n0 : Nat) (Z0 : n0 ≤ h0.size) (pr1 : Old Z n0 h0) (pr2 : Sta Z Z.heap "java/lang/StringUTF16" "$assertionsDisabled" "Z" (.int 1)) (pr3 : Sta Z Z.heap "java/lang/StringUTF16" "HI_BYTE_SHIFT" "I" (.int 0)) (pr4 : Sta Z Z.heap "java/lang/StringUTF16" "LO_BYTE_SHIFT" "I" (.int 8)) (pr5 : Arv Z h0 x0 kc .char (1 : Int32) [(.int c0)] (.int 0)) (pr6 : own_c16 c0) (pr7 : ¬ (255 : Int32) < c0) :
    own_M l yN2 jdk_52_method_16_code 6 (some (.array .byte)) ws own_k3_1_1R #[(.ref x0), (.int 0), (.int 1)] Z h0 (own_k3_1_1Q Z x0 kc c0 h0 n0) := by
  refine own_go (plainFor_of_name own_pn3) (fun m => own_ef11 m x0 (0 : Int32) (1 : Int32) ) ?_
  intro p e s m below meth c s₁ Bd hx hby hml hZ hh hown hnm X0 e0
  have N0 := Fr.nil n0
  have K0 : Keep h0 h0 [] := Keep.refl h0 _
  refine own_st (T' := s₁) (g' := (mkF m 1 #[.val (.ref x0), .val (.int 0), .val (.int 1), .unset, .unset, .unset] [(.int 1)])) (fun _ kt => XS.iloadN X0.here hx rfl (hb hby d6_0) rfl kt) ?_
  obtain ⟨T308, h308, k308, X308, e308, E308, A308, st308⟩ := newP X0 hx hZ (aty := .byte) (own_k hw 17 rfl) e0 (g := (mkF m 1 #[.val (.ref x0), .val (.int 0), .val (.int 1), .unset, .unset, .unset] [(.int 1)])) rfl (hb hby d6_1) rfl (by decide) (cap := 1) (by decide) (by decide) (by decide) (by decide)
  obtain ⟨b308, g308⟩ : ∃ z, z = h0.size := ⟨_, rfl⟩
  rw [← g308] at A308 st308
  have ne309 : x0 ≠ b308 := by rw [g308]; exact Nat.ne_of_lt pr5.lt
  have Z310 : n0 ≤ h308.size := Nat.le_trans Z0 E308.1
  have K310 : Keep h0 h308 [] := (Keep.ext K0 E308)
  have ge_b308 : n0 ≤ b308 := Nat.le_trans Z0 (Nat.le_of_eq g308.symm)
  have F311 : Arv Z h308 b308 k308 .byte (1 : Int32) [(.int 0)] (.int 0) := (Arv.new A308 (by decide)).pad (pad_rep [] (.int 0) 1)
  refine own_st (T' := T308) (g' := (mkF m 3 #[.val (.ref x0), .val (.int 0), .val (.int 1), .unset, .unset, .unset] [(.ref b308)])) st308 ?_
  refine own_st (T' := T308) (g' := (mkF m 9 #[.val (.ref x0), .val (.int 0), .val (.int 1), .val (.ref b308), .unset, .unset] [(.int 1), (.int 0), (.ref b308), (.int 0), (.ref x0)])) (fun _ kt => XS.astoreN X308.here hx rfl (hb hby d6_3) rfl rfl (l' := #[.val (.ref x0), .val (.int 0), .val (.int 1), .val (.ref b308), .unset, .unset]) rfl (XS.aloadN X308.here hx rfl (hb hby d6_4) rfl rfl (XS.iloadN X308.here hx rfl (hb hby d6_5) rfl (XS.aloadN X308.here hx rfl (hb hby d6_6) rfl rfl (XS.iconst X308.here hx rfl (hb hby d6_7) (XS.iloadN X308.here hx rfl (hb hby d6_8) rfl kt)))))) ?_
  have F312 : Arv Z h308 x0 kc .char (1 : Int32) [(.int c0)] (.int 0) := (pr5.ext E308)
  obtain ⟨_, _, ⟨T313, L313, k313, n313⟩, -, X313, ⟨Lc313, hQ313, l313, y313, z313⟩, st313⟩ := Jvm.LawKit.callS X308 hx (y := yN1) hown (mvT hZ (own_k hw 38 rfl)) (mvT hZ (own_k hw 39 rfl)) (mvT hZ (own_k hw 36 rfl)) (mvT hZ (own_k hw 40 rfl)) (by decide) (backOf (W := 0) (own_k5_1_1 l Z a0 hw [] x0 kc b308 k308 c0 h308 n0 Z310 F312 F311 ge_b308 ne309 pr7) hZ (own_k hw 40 rfl) (own_k hw 36 rfl) (by decide) (by decide)) (g := (mkF m 9 #[.val (.ref x0), .val (.int 0), .val (.int 1), .val (.ref b308), .unset, .unset] [(.int 1), (.int 0), (.ref b308), (.int 0), (.ref x0)])) rfl hml.symm  (argsL := [(.ref x0), (.int 0), (.ref b308), (.int 0), (.int 1)]) (rest := []) (lenOf own_pd13 rfl) rfl (own_w0 rfl rfl) (hb hby d6_9) (fun _ _ => ⟨rfl, e308, (by decide : 1 + 0 ≤ 1), (by decide : 1 + 0 ≤ 1)⟩)
  dsimp only [Pt.U, Pt.locs, Pt.cells, Pt.slots] at X313 l313 y313 z313 st313 hQ313
  subst l313 y313 z313
  obtain ⟨rfl, N313, K313_, P314⟩ := hQ313
  have N315 := Fr.app N0 N313
  have Z316 : n0 ≤ T313.heap.size := Nat.le_trans Z310 K313_.1
  have K316 : Keep h0 T313.heap [] := (Keep.trans K310 K313_ (allS (Or.inr (Nat.le_trans K0.1 (Nat.le_of_eq g308.symm))) all0))
  refine own_st (T' := T313) (g' := (mkF m 12 #[.val (.ref x0), .val (.int 0), .val (.int 1), .val (.ref b308), .unset, .unset] [(.int 1)])) st313 ?_
  refine own_st (T' := T313) (g' := (mkF m 58 #[.val (.ref x0), .val (.int 0), .val (.int 1), .val (.ref b308), .val (.int 1), .unset] [(.ref b308)])) (fun _ kt => XS.istore X313.here hx rfl (hb hby d6_12) rfl (l' := #[.val (.ref x0), .val (.int 0), .val (.int 1), .val (.ref b308), .val (.int 1), .unset]) rfl (XS.iload X313.here hx rfl (hb hby d6_14) rfl (XS.iloadN X313.here hx rfl (hb hby d6_16) rfl (XS.icmpYes X313.here hx rfl (pc0 := 17) (pc' := 57) rfl (hb hby d6_17) rfl (XT.ii_eq_t (by decide)) (by decide) (by decide) (XS.aloadN X313.here hx rfl (hb hby d6_57) rfl rfl kt))))) ?_
  obtain ⟨fs, hr, hrun, hended, hW, hsame⟩ := X313.leave (v := some (.ref b308)) (fun h => by rw [Bd.returns] at h; cases h)
  refine own_end (own_retA X313 hx Bd.returns rfl rfl rfl (hb hby d6_58) hr) ⟨_, hrun, hended, _, _, rfl, ?_, ⟨_, rfl⟩, hW, hsame.mono (by decide) (by decide)⟩
  show own_k3_1_1Q Z _ _ _ h0 n0 _ T313.heap _
  show own_k3_1_1Q Z _ _ _ h0 n0 _ T313.heap _
  exact ⟨b308, k308, rfl, N315, K316, P314, (Nat.le_trans K0.1 (Nat.le_of_eq g308.symm))⟩
theorem d2_0 : decode jdk_42_method_149_code 0 = .ok (.aload_n 0, 1) := by decide +kernel
theorem d2_1 : decode jdk_42_method_149_code 1 = .ok (.invokespecial 1, 3) := by decide +kernel
theorem d2_4 : decode jdk_42_method_149_code 4 = .ok (.iload_n 3, 1) := by decide +kernel
theorem d2_5 : decode jdk_42_method_149_code 5 = .ok (.ifCond .ne 22, 3) := by decide +kernel
theorem d2_27 : decode jdk_42_method_149_code 27 = .ok (.getstatic 38, 3) := by decide +kernel
theorem d2_30 : decode jdk_42_method_149_code 30 = .ok (.ifCond .eq 28, 3) := by decide +kernel
theorem d2_33 : decode jdk_42_method_149_code 33 = .ok (.aload_n 1, 1) := by decide +kernel
theorem d2_34 : decode jdk_42_method_149_code 34 = .ok (.iload_n 2, 1) := by decide +kernel
theorem d2_35 : decode jdk_42_method_149_code 35 = .ok (.iload_n 3, 1) := by decide +kernel
theorem d2_36 : decode jdk_42_method_149_code 36 = .ok (.invokestatic 177, 3) := by decide +kernel
theorem d2_39 : decode jdk_42_method_149_code 39 = .ok (.astore 5, 2) := by decide +kernel
theorem d2_41 : decode jdk_42_method_149_code 41 = .ok (.aload_n 0, 1) := by decide +kernel
theorem d2_42 : decode jdk_42_method_149_code 42 = .ok (.aload 5, 2) := by decide +kernel
theorem d2_44 : decode jdk_42_method_149_code 44 = .ok (.iload_n 3, 1) := by decide +kernel
theorem d2_45 : decode jdk_42_method_149_code 45 = .ok (.invokestatic 47, 3) := by decide +kernel
theorem own_pd15 : parseMethodDescriptor "([BI)B" = some ⟨[(.array .byte), .int], some .byte⟩ := by decide +kernel
theorem d2_48 : decode jdk_42_method_149_code 48 = .ok (.putfield 15, 3) := by decide +kernel
theorem d2_51 : decode jdk_42_method_149_code 51 = .ok (.aload_n 0, 1) := by decide +kernel
theorem d2_52 : decode jdk_42_method_149_code 52 = .ok (.aload 5, 2) := by decide +kernel
theorem d2_54 : decode jdk_42_method_149_code 54 = .ok (.putfield 9, 3) := by decide +kernel
theorem d2_57 : decode jdk_42_method_149_code 57 = .ok (.return_, 1) := by decide +kernel
theorem own_ef12 (m : MethodId) (x0 : Addr) (x1 : Addr) (x2 : Int32) (x3 : Int32) : entryFrame m #[(.ref x0), (.ref x1), (.int x2), (.int x3), .null] 6 = mkF m 0 #[.val (.ref x0), .val (.ref x1), .val (.int x2), .val (.int x3), .val .null, .unset] [] := by first | (simp [entryFrame, mkF, argsToLocals, Value.category]; done) | rfl
def own_n4_1Q (Z : State) (x0 : Addr) (b0 : Addr) (zc : Int32) (kc : ClassId) (c0 : Int32) (h0 : Heap) (n0 : Nat) (v : Option Value) (h : Heap) (L : List Loc) : Prop := ∃ (t : Addr), ∃ (kb : ClassId), ∃ (cd : Int32), ∃ (zz : Int32), ∃ (vl : List Value), v = none ∧ Fr n0 L ∧ Keep h0 h [x0] ∧ (Exa Z h x0 "java/lang/String") ∧ (Fld Z h x0 "java/lang/String" "coder" "B" (.int cd)) ∧ (Fld Z h x0 "java/lang/String" "value" "[B" (.ref t)) ∧ (Arv Z h t kb .byte zz vl (.int 0)) ∧ (h0.size ≤ t) ∧ ((cd = 0 ∧ zz = 1 ∧ vl = [(.int c0.toInt8.toInt32)] ∧ ¬ (255 : Int32) < c0) ∨ (cd = 1 ∧ zz = 2 ∧ vl = [(.int (own_lo c0)), (.int (own_hi c0))]))
abbrev own_n4_1R : Room := { frames := 4, cells := 3, slots := 3, locals := 110 }
theorem own_n4_1 (l : Launch) (Z : State) (a0 : Array Value) (hw : ∀ d ∈ tables_1, d.before a0 Z = true) (ws : List Jvm.Cond) (x0 : Addr) (b0 : Addr) (zc : Int32) (kc : ClassId) (c0 : Int32) (h0 : Heap) (n0 : Nat) (Z0 : n0 ≤ h0.size) (pr1 : Old Z n0 h0) (pr2 : Sta Z Z.heap "java/lang/String" "COMPACT_STRINGS" "Z" (.int zc)) (pr3 : ¬ zc = 0) (pr4 : Sta Z Z.heap "java/lang/StringUTF16" "$assertionsDisabled" "Z" (.int 1)) (pr5 : Sta Z Z.heap "java/lang/StringUTF16" "HI_BYTE_SHIFT" "I" (.int 0)) (pr6 : Sta Z Z.heap "java/lang/StringUTF16" "LO_BYTE_SHIFT" "I" (.int 8)) (pr7 : Exa Z h0 x0 "java/lang/String") (pr8 : n0 ≤ x0) (pr9 : Fld Z h0 x0 "java/lang/String" "value" "[B" .null) (pr10 : Fld Z h0 x0 "java/lang/String" "coder" "B" (.int 0)) (pr11 : Arv Z h0 b0 kc .char (1 : Int32) [(.int c0)] (.int 0)) (pr12 : own_c16 c0) :
    own_M l yN11 jdk_42_method_149_code 6 none ws own_n4_1R #[(.ref x0), (.ref b0), (.int 0), (.int 1), .null] Z h0 (own_n4_1Q Z x0 b0 zc kc c0 h0 n0) := by
  refine own_go (plainFor_of_name own_pn2) (fun m => own_ef12 m x0 b0 (0 : Int32) (1 : Int32) ) ?_
  intro p e s m below meth c s₁ Bd hx hby hml hZ hh hown hnm X0 e0
  have N0 := Fr.nil n0
  have K0 : Keep h0 h0 [x0] := Keep.refl h0 _
  refine own_st (T' := s₁) (g' := (mkF m 1 #[.val (.ref x0), .val (.ref b0), .val (.int 0), .val (.int 1), .val .null, .unset] [(.ref x0)])) (fun _ kt => XS.aloadN X0.here hx rfl (hb hby d2_0) rfl rfl kt) ?_
  obtain ⟨T317, X317, e317, st317⟩ := initO X0 hx hZ hown (own_k hw 13 rfl) (own_k hw 14 rfl) (own_k hw 15 rfl) e0 (g := (mkF m 1 #[.val (.ref x0), .val (.ref b0), .val (.int 0), .val (.int 1), .val .null, .unset] [(.ref x0)])) rfl hml.symm rfl (hb hby d2_1) (by decide) (W := 0) (own_w0 rfl rfl) (by decide)
  refine own_st (T' := T317) (g' := (mkF m 4 #[.val (.ref x0), .val (.ref b0), .val (.int 0), .val (.int 1), .val .null, .unset] [])) st317 ?_
  refine own_st (T' := T317) (g' := (mkF m 27 #[.val (.ref x0), .val (.ref b0), .val (.int 0), .val (.int 1), .val .null, .unset] [])) (fun _ kt => XS.iloadN X317.here hx rfl (hb hby d2_4) rfl (XS.ifYes X317.here hx rfl (pc0 := 5) (pc' := 27) rfl (hb hby d2_5) rfl (XT.i0_ne_t (by decide)) (by decide) (by decide) kt)) ?_
  obtain ⟨T318, X318, e318, st318⟩ := getS2 X317 hx hZ hown (host := "") (Or.inl (own_k hw 33 rfl)) Via.refl e317 (Sta.ext pr1.2 pr2) (g := (mkF m 27 #[.val (.ref x0), .val (.ref b0), .val (.int 0), .val (.int 1), .val .null, .unset] [])) rfl (hb hby d2_27)
  refine own_st (T' := T318) (g' := (mkF m 30 #[.val (.ref x0), .val (.ref b0), .val (.int 0), .val (.int 1), .val .null, .unset] [(.int zc)])) st318 ?_
  refine own_st (T' := T318) (g' := (mkF m 36 #[.val (.ref x0), .val (.ref b0), .val (.int 0), .val (.int 1), .val .null, .unset] [(.int 1), (.int 0), (.ref b0)])) (fun _ kt => XS.ifNo X318.here hx rfl (hb hby d2_30) rfl (XT.i0_eq_f pr3) (XS.aloadN X318.here hx rfl (hb hby d2_33) rfl rfl (XS.iloadN X318.here hx rfl (hb hby d2_34) rfl (XS.iloadN X318.here hx rfl (hb hby d2_35) rfl kt)))) ?_
  by_cases hf319 : (255 : Int32) < c0
  ·
    obtain ⟨_, _, ⟨T320, L320, k320, n320⟩, -, X320, ⟨Lc320, hQ320, l320, y320, z320⟩, st320⟩ := Jvm.LawKit.callS X318 hx (y := yN2) hown (mvT hZ (own_k hw 34 rfl)) (mvT hZ (own_k hw 35 rfl)) (mvT hZ (own_k hw 36 rfl)) (mvT hZ (own_k hw 37 rfl)) (by decide) (backOf (W := 0) (own_k3_1_0 l Z a0 hw [] b0 kc c0 h0 n0 Z0 pr1 pr4 pr5 pr6 pr11 pr12 hf319) hZ (own_k hw 37 rfl) (own_k hw 36 rfl) (by decide) (by decide)) (g := (mkF m 36 #[.val (.ref x0), .val (.ref b0), .val (.int 0), .val (.int 1), .val .null, .unset] [(.int 1), (.int 0), (.ref b0)])) rfl hml.symm  (argsL := [(.ref b0), (.int 0), (.int 1)]) (rest := []) (lenOf own_pd14 rfl) rfl (own_w0 rfl rfl) (hb hby d2_36) (fun _ _ => ⟨rfl, e318, (by decide : 0 + 2 ≤ 3), (by decide : 0 + 3 ≤ 3)⟩)
    dsimp only [Pt.U, Pt.locs, Pt.cells, Pt.slots] at X320 l320 y320 z320 st320 hQ320
    subst l320 y320 z320
    obtain ⟨b_320, kb_320, rfl, N320, K320_, P321, P322⟩ := hQ320
    have N323 := Fr.app N0 N320
    have Z324 : n0 ≤ T320.heap.size := Nat.le_trans Z0 K320_.1
    have K324 : Keep h0 T320.heap [x0] := (Keep.trans K0 K320_ all0)
    have ne325 : x0 ≠ b_320 := Nat.ne_of_lt (Nat.lt_of_lt_of_le pr7.lt P322)
    have ne326 : b0 ≠ b_320 := Nat.ne_of_lt (Nat.lt_of_lt_of_le pr11.lt P322)
    have ge327 : n0 ≤ b_320 := Nat.le_trans Z0 P322
    refine own_st (T' := T320) (g' := (mkF m 39 #[.val (.ref x0), .val (.ref b0), .val (.int 0), .val (.int 1), .val .null, .unset] [(.ref b_320)])) st320 ?_
    refine own_st (T' := T320) (g' := (mkF m 45 #[.val (.ref x0), .val (.ref b0), .val (.int 0), .val (.int 1), .val .null, .val (.ref b_320)] [(.int 1), (.ref b_320), (.ref x0)])) (fun _ kt => XS.astore X320.here hx rfl (hb hby d2_39) rfl rfl (l' := #[.val (.ref x0), .val (.ref b0), .val (.int 0), .val (.int 1), .val .null, .val (.ref b_320)]) rfl (XS.aloadN X320.here hx rfl (hb hby d2_41) rfl rfl (XS.aload X320.here hx rfl (hb hby d2_42) rfl rfl (XS.iloadN X320.here hx rfl (hb hby d2_44) rfl kt)))) ?_
    obtain ⟨_, _, ⟨T328, L328, k328, n328⟩, -, X328, ⟨Lc328, hQ328, l328, y328, z328⟩, st328⟩ := Jvm.LawKit.callS X320 hx (y := yN3) hown (mvT hZ (own_k hw 41 rfl)) (mvT hZ (own_k hw 42 rfl)) (mvT hZ (own_k hw 36 rfl)) (mvT hZ (own_k hw 43 rfl)) (by decide) (backOf (W := 1) (own_cf1_1 l Z a0 hw [] b_320 kb_320 [(.int (own_lo c0)), (.int (own_hi c0))] T320.heap n0 Z324 P321) hZ (own_k hw 43 rfl) (own_k hw 36 rfl) (by decide) (by decide)) (g := (mkF m 45 #[.val (.ref x0), .val (.ref b0), .val (.int 0), .val (.int 1), .val .null, .val (.ref b_320)] [(.int 1), (.ref b_320), (.ref x0)])) rfl hml.symm  (argsL := [(.ref b_320), (.int 1)]) (rest := [(.ref x0)]) (lenOf own_pd15 rfl) rfl (own_w0 rfl rfl) (hb hby d2_45) (fun _ _ => ⟨rfl, rfl, (by decide : 2 + 0 ≤ 3), (by decide : 3 + 0 ≤ 3)⟩)
    dsimp only [Pt.U, Pt.locs, Pt.cells, Pt.slots] at X328 l328 y328 z328 st328 hQ328
    subst l328 y328 z328
    obtain ⟨rfl, N328, e328⟩ := hQ328
    have N329 := Fr.app N323 N328
    refine own_st (T' := T328) (g' := (mkF m 48 #[.val (.ref x0), .val (.ref b0), .val (.int 0), .val (.int 1), .val .null, .val (.ref b_320)] [(.int 1), (.ref x0)])) st328 ?_
    have F330 : Fld Z T320.heap x0 "java/lang/String" "coder" "B" (.int 0) := (Fld.keep pr10 K320_ nin0)
    have F331 : Exa Z T320.heap x0 "java/lang/String" := (Exa.keep pr7 K320_)
    obtain ⟨T332, h332, X332, e332, W332, st332⟩ := putF X328 hx hZ hown (host := "") (Or.inl (own_k hw 23 rfl)) Via.refl e328 F330 F331 (Or.inr ⟨(own_k hw 19 rfl), rfl, hnm⟩) (own_k hw 3 rfl) (ty := .byte) (by decide) rfl rfl (g := (mkF m 48 #[.val (.ref x0), .val (.ref b0), .val (.int 0), .val (.int 1), .val .null, .val (.ref b_320)] [(.int 1), (.ref x0)])) rfl rfl (hb hby d2_48)
    have N332 := Fr.snoc X332 N329 pr8
    have Z333 : n0 ≤ h332.size := Nat.le_trans Z324 (Nat.le_of_eq (Wr.size W332).symm)
    have K333 : Keep h0 h332 [x0] := (Keep.wr K324 W332 (Or.inl (List.mem_of_getElem? (i := 0) rfl)))
    have F334 : Fld Z h332 x0 "java/lang/String" "coder" "B" (.int 1) := Fld.same W332 F330
    refine own_st (T' := T332) (g' := (mkF m 51 #[.val (.ref x0), .val (.ref b0), .val (.int 0), .val (.int 1), .val .null, .val (.ref b_320)] [])) st332 ?_
    refine own_st (T' := T332) (g' := (mkF m 54 #[.val (.ref x0), .val (.ref b0), .val (.int 0), .val (.int 1), .val .null, .val (.ref b_320)] [(.ref b_320), (.ref x0)])) (fun _ kt => XS.aloadN X332.here hx rfl (hb hby d2_51) rfl rfl (XS.aload X332.here hx rfl (hb hby d2_52) rfl rfl kt)) ?_
    have F335 : Fld Z h332 x0 "java/lang/String" "value" "[B" .null := (Fld.other W332 (Fld.keep pr9 K320_ nin0) (Or.inr (slot_ne (Or.inr (own_k hw 18 rfl)) (Or.inr (own_k hw 19 rfl)) (by decide) (t := (.array .byte)) (t' := .byte) (by decide) (by decide))))
    have F336 : Exa Z h332 x0 "java/lang/String" := (Exa.wr W332 F331)
    obtain ⟨T337, h337, X337, e337, W337, st337⟩ := putF X332 hx hZ hown (host := "") (Or.inl (own_k hw 22 rfl)) Via.refl e332 F335 F336 (Or.inr ⟨(own_k hw 18 rfl), rfl, hnm⟩) (own_k hw 3 rfl) (ty := (.array .byte)) (by decide) rfl rfl (g := (mkF m 54 #[.val (.ref x0), .val (.ref b0), .val (.int 0), .val (.int 1), .val .null, .val (.ref b_320)] [(.ref b_320), (.ref x0)])) rfl rfl (hb hby d2_54)
    have N337 := Fr.snoc X337 N332 pr8
    have Z338 : n0 ≤ h337.size := Nat.le_trans Z333 (Nat.le_of_eq (Wr.size W337).symm)
    have K338 : Keep h0 h337 [x0] := (Keep.wr K333 W337 (Or.inl (List.mem_of_getElem? (i := 0) rfl)))
    have F339 : Fld Z h337 x0 "java/lang/String" "value" "[B" (.ref b_320) := Fld.same W337 F335
    refine own_st (T' := T337) (g' := (mkF m 57 #[.val (.ref x0), .val (.ref b0), .val (.int 0), .val (.int 1), .val .null, .val (.ref b_320)] [])) st337 ?_
    obtain ⟨fs, hr, hrun, hended, hW, hsame⟩ := X337.leave (v := none) (fun _ => rfl)
    refine own_end (X337.returnOut hx Bd.returns (hb hby d2_57) hr) ⟨_, hrun, hended, _, _, rfl, ?_, ⟨_, rfl⟩, hW, hsame.mono (by decide) (by decide)⟩
    have F340 : Arv Z h337 b_320 kb_320 .byte (2 : Int32) [(.int (own_lo c0)), (.int (own_hi c0))] (.int 0) := (Arv.other (Arv.other P321 W332 (Ne.symm ne325)) W337 (Ne.symm ne325))
    have F341 : Fld Z h337 x0 "java/lang/String" "coder" "B" (.int 1) := (Fld.other W337 F334 (Or.inr (slot_ne (Or.inr (own_k hw 19 rfl)) (Or.inr (own_k hw 18 rfl)) (by decide) (t := .byte) (t' := (.array .byte)) (by decide) (by decide))))
    have F342 : Exa Z h337 x0 "java/lang/String" := (Exa.wr W337 F336)
    show own_n4_1Q Z _ _ _ _ _ h0 n0 _ T337.heap _
    rw [e337]
    exact ⟨b_320, kb_320, (1 : Int32), (2 : Int32), [(.int (own_lo c0)), (.int (own_hi c0))], rfl, N337, K338, F342, F341, F339, F340, (Nat.le_trans K0.1 P322), (Or.inr ⟨rfl, rfl, rfl⟩)⟩
  ·
    obtain ⟨_, _, ⟨T343, L343, k343, n343⟩, -, X343, ⟨Lc343, hQ343, l343, y343, z343⟩, st343⟩ := Jvm.LawKit.callS X318 hx (y := yN2) hown (mvT hZ (own_k hw 34 rfl)) (mvT hZ (own_k hw 35 rfl)) (mvT hZ (own_k hw 36 rfl)) (mvT hZ (own_k hw 37 rfl)) (by decide) (backOf (W := 0) (own_k3_1_1 l Z a0 hw [] b0 kc c0 h0 n0 Z0 pr1 pr4 pr5 pr6 pr11 pr12 hf319) hZ (own_k hw 37 rfl) (own_k hw 36 rfl) (by decide) (by decide)) (g := (mkF m 36 #[.val (.ref x0), .val (.ref b0), .val (.int 0), .val (.int 1), .val .null, .unset] [(.int 1), (.int 0), (.ref b0)])) rfl hml.symm  (argsL := [(.ref b0), (.int 0), (.int 1)]) (rest := []) (lenOf own_pd14 rfl) rfl (own_w0 rfl rfl) (hb hby d2_36) (fun _ _ => ⟨rfl, e318, (by decide : 0 + 1 ≤ 3), (by decide : 0 + 1 ≤ 3)⟩)
    dsimp only [Pt.U, Pt.locs, Pt.cells, Pt.slots] at X343 l343 y343 z343 st343 hQ343
    subst l343 y343 z343
    obtain ⟨b_343, kb_343, rfl, N343, K343_, P344, P345⟩ := hQ343
    have N346 := Fr.app N0 N343
    have Z347 : n0 ≤ T343.heap.size := Nat.le_trans Z0 K343_.1
    have K347 : Keep h0 T343.heap [x0] := (Keep.trans K0 K343_ all0)
    have ne348 : x0 ≠ b_343 := Nat.ne_of_lt (Nat.lt_of_lt_of_le pr7.lt P345)
    have ne349 : b0 ≠ b_343 := Nat.ne_of_lt (Nat.lt_of_lt_of_le pr11.lt P345)
    have ge350 : n0 ≤ b_343 := Nat.le_trans Z0 P345
    refine own_st (T' := T343) (g' := (mkF m 39 #[.val (.ref x0), .val (.ref b0), .val (.int 0), .val (.int 1), .val .null, .unset] [(.ref b_343)])) st343 ?_
    refine own_st (T' := T343) (g' := (mkF m 45 #[.val (.ref x0), .val (.ref b0), .val (.int 0), .val (.int 1), .val .null, .val (.ref b_343)] [(.int 1), (.ref b_343), (.ref x0)])) (fun _ kt => XS.astore X343.here hx rfl (hb hby d2_39) rfl rfl (l' := #[.val (.ref x0), .val (.ref b0), .val (.int 0), .val (.int 1), .val .null, .val (.ref b_343)]) rfl (XS.aloadN X343.here hx rfl (hb hby d2_41) rfl rfl (XS.aload X343.here hx rfl (hb hby d2_42) rfl rfl (XS.iloadN X343.here hx rfl (hb hby d2_44) rfl kt)))) ?_
    obtain ⟨_, _, ⟨T351, L351, k351, n351⟩, -, X351, ⟨Lc351, hQ351, l351, y351, z351⟩, st351⟩ := Jvm.LawKit.callS X343 hx (y := yN3) hown (mvT hZ (own_k hw 41 rfl)) (mvT hZ (own_k hw 42 rfl)) (mvT hZ (own_k hw 36 rfl)) (mvT hZ (own_k hw 43 rfl)) (by decide) (backOf (W := 1) (own_cf1_0 l Z a0 hw [] b_343 kb_343 [(.int c0.toInt8.toInt32)] T343.heap n0 Z347 P344) hZ (own_k hw 43 rfl) (own_k hw 36 rfl) (by decide) (by decide)) (g := (mkF m 45 #[.val (.ref x0), .val (.ref b0), .val (.int 0), .val (.int 1), .val .null, .val (.ref b_343)] [(.int 1), (.ref b_343), (.ref x0)])) rfl hml.symm  (argsL := [(.ref b_343), (.int 1)]) (rest := [(.ref x0)]) (lenOf own_pd15 rfl) rfl (own_w0 rfl rfl) (hb hby d2_45) (fun _ _ => ⟨rfl, rfl, (by decide : 1 + 0 ≤ 3), (by decide : 1 + 0 ≤ 3)⟩)
    dsimp only [Pt.U, Pt.locs, Pt.cells, Pt.slots] at X351 l351 y351 z351 st351 hQ351
    subst l351 y351 z351
    obtain ⟨rfl, N351, e351⟩ := hQ351
    have N352 := Fr.app N346 N351
    refine own_st (T' := T351) (g' := (mkF m 48 #[.val (.ref x0), .val (.ref b0), .val (.int 0), .val (.int 1), .val .null, .val (.ref b_343)] [(.int 0), (.ref x0)])) st351 ?_
    have F353 : Fld Z T343.heap x0 "java/lang/String" "coder" "B" (.int 0) := (Fld.keep pr10 K343_ nin0)
    have F354 : Exa Z T343.heap x0 "java/lang/String" := (Exa.keep pr7 K343_)
    obtain ⟨T355, h355, X355, e355, W355, st355⟩ := putF X351 hx hZ hown (host := "") (Or.inl (own_k hw 23 rfl)) Via.refl e351 F353 F354 (Or.inr ⟨(own_k hw 19 rfl), rfl, hnm⟩) (own_k hw 3 rfl) (ty := .byte) (by decide) rfl rfl (g := (mkF m 48 #[.val (.ref x0), .val (.ref b0), .val (.int 0), .val (.int 1), .val .null, .val (.ref b_343)] [(.int 0), (.ref x0)])) rfl rfl (hb hby d2_48)
    have N355 := Fr.snoc X355 N352 pr8
    have Z356 : n0 ≤ h355.size := Nat.le_trans Z347 (Nat.le_of_eq (Wr.size W355).symm)
    have K356 : Keep h0 h355 [x0] := (Keep.wr K347 W355 (Or.inl (List.mem_of_getElem? (i := 0) rfl)))
    have F357 : Fld Z h355 x0 "java/lang/String" "coder" "B" (.int 0) := Fld.same W355 F353
    refine own_st (T' := T355) (g' := (mkF m 51 #[.val (.ref x0), .val (.ref b0), .val (.int 0), .val (.int 1), .val .null, .val (.ref b_343)] [])) st355 ?_
    refine own_st (T' := T355) (g' := (mkF m 54 #[.val (.ref x0), .val (.ref b0), .val (.int 0), .val (.int 1), .val .null, .val (.ref b_343)] [(.ref b_343), (.ref x0)])) (fun _ kt => XS.aloadN X355.here hx rfl (hb hby d2_51) rfl rfl (XS.aload X355.here hx rfl (hb hby d2_52) rfl rfl kt)) ?_
    have F358 : Fld Z h355 x0 "java/lang/String" "value" "[B" .null := (Fld.other W355 (Fld.keep pr9 K343_ nin0) (Or.inr (slot_ne (Or.inr (own_k hw 18 rfl)) (Or.inr (own_k hw 19 rfl)) (by decide) (t := (.array .byte)) (t' := .byte) (by decide) (by decide))))
    have F359 : Exa Z h355 x0 "java/lang/String" := (Exa.wr W355 F354)
    obtain ⟨T360, h360, X360, e360, W360, st360⟩ := putF X355 hx hZ hown (host := "") (Or.inl (own_k hw 22 rfl)) Via.refl e355 F358 F359 (Or.inr ⟨(own_k hw 18 rfl), rfl, hnm⟩) (own_k hw 3 rfl) (ty := (.array .byte)) (by decide) rfl rfl (g := (mkF m 54 #[.val (.ref x0), .val (.ref b0), .val (.int 0), .val (.int 1), .val .null, .val (.ref b_343)] [(.ref b_343), (.ref x0)])) rfl rfl (hb hby d2_54)
    have N360 := Fr.snoc X360 N355 pr8
    have Z361 : n0 ≤ h360.size := Nat.le_trans Z356 (Nat.le_of_eq (Wr.size W360).symm)
    have K361 : Keep h0 h360 [x0] := (Keep.wr K356 W360 (Or.inl (List.mem_of_getElem? (i := 0) rfl)))
    have F362 : Fld Z h360 x0 "java/lang/String" "value" "[B" (.ref b_343) := Fld.same W360 F358
    refine own_st (T' := T360) (g' := (mkF m 57 #[.val (.ref x0), .val (.ref b0), .val (.int 0), .val (.int 1), .val .null, .val (.ref b_343)] [])) st360 ?_
    obtain ⟨fs, hr, hrun, hended, hW, hsame⟩ := X360.leave (v := none) (fun _ => rfl)
    refine own_end (X360.returnOut hx Bd.returns (hb hby d2_57) hr) ⟨_, hrun, hended, _, _, rfl, ?_, ⟨_, rfl⟩, hW, hsame.mono (by decide) (by decide)⟩
    have F363 : Arv Z h360 b_343 kb_343 .byte (1 : Int32) [(.int c0.toInt8.toInt32)] (.int 0) := (Arv.other (Arv.other P344 W355 (Ne.symm ne348)) W360 (Ne.symm ne348))
    have F364 : Fld Z h360 x0 "java/lang/String" "coder" "B" (.int 0) := (Fld.other W360 F357 (Or.inr (slot_ne (Or.inr (own_k hw 19 rfl)) (Or.inr (own_k hw 18 rfl)) (by decide) (t := .byte) (t' := (.array .byte)) (by decide) (by decide))))
    have F365 : Exa Z h360 x0 "java/lang/String" := (Exa.wr W360 F359)
    show own_n4_1Q Z _ _ _ _ _ h0 n0 _ T360.heap _
    rw [e360]
    exact ⟨b_343, kb_343, (0 : Int32), (1 : Int32), [(.int c0.toInt8.toInt32)], rfl, N360, K361, F365, F364, F362, F363, (Nat.le_trans K0.1 P345), (Or.inl ⟨rfl, rfl, rfl, hf319⟩)⟩
theorem d1_0 : decode jdk_42_method_3_code 0 = .ok (.aload_n 0, 1) := by decide +kernel
theorem d1_1 : decode jdk_42_method_3_code 1 = .ok (.aload_n 1, 1) := by decide +kernel
theorem d1_2 : decode jdk_42_method_3_code 2 = .ok (.iconst 0, 1) := by decide +kernel
theorem d1_3 : decode jdk_42_method_3_code 3 = .ok (.aload_n 1, 1) := by decide +kernel
theorem d1_4 : decode jdk_42_method_3_code 4 = .ok (.arraylength, 1) := by decide +kernel
theorem d1_5 : decode jdk_42_method_3_code 5 = .ok (.aconst_null, 1) := by decide +kernel
theorem d1_6 : decode jdk_42_method_3_code 6 = .ok (.invokespecial 27, 3) := by decide +kernel
theorem own_pd16 : parseMethodDescriptor "([CIILjava/lang/Void;)V" = some ⟨[(.array .char), .int, .int, (.object "java/lang/Void")], none⟩ := by decide +kernel
theorem d1_9 : decode jdk_42_method_3_code 9 = .ok (.return_, 1) := by decide +kernel
theorem own_ef13 (m : MethodId) (x0 : Addr) (x1 : Addr) : entryFrame m #[(.ref x0), (.ref x1)] 2 = mkF m 0 #[.val (.ref x0), .val (.ref x1)] [] := by first | (simp [entryFrame, mkF, argsToLocals, Value.category]; done) | rfl
def own_n1_1Q (Z : State) (x0 : Addr) (b0 : Addr) (zc : Int32) (kc : ClassId) (c0 : Int32) (h0 : Heap) (n0 : Nat) (v : Option Value) (h : Heap) (L : List Loc) : Prop := ∃ (t : Addr), ∃ (kb : ClassId), ∃ (cd : Int32), ∃ (zz : Int32), ∃ (vl : List Value), v = none ∧ Fr n0 L ∧ Keep h0 h [x0] ∧ (Exa Z h x0 "java/lang/String") ∧ (Fld Z h x0 "java/lang/String" "coder" "B" (.int cd)) ∧ (Fld Z h x0 "java/lang/String" "value" "[B" (.ref t)) ∧ (Arv Z h t kb .byte zz vl (.int 0)) ∧ (h0.size ≤ t) ∧ ((cd = 0 ∧ zz = 1 ∧ vl = [(.int c0.toInt8.toInt32)] ∧ ¬ (255 : Int32) < c0) ∨ (cd = 1 ∧ zz = 2 ∧ vl = [(.int (own_lo c0)), (.int (own_hi c0))]))
abbrev own_n1_1R : Room := { frames := 5, cells := 3, slots := 3, locals := 140 }
theorem own_n1_1 (l : Launch) (Z : State) (a0 : Array Value) (hw : ∀ d ∈ tables_1, d.before a0 Z = true) (ws : List Jvm.Cond) (x0 : Addr) (b0 : Addr) (zc : Int32) (kc : ClassId) (c0 : Int32) (h0 : Heap) (n0 : Nat) (Z0 : n0 ≤ h0.size) (pr1 : Old Z n0 h0) (pr2 : Sta Z Z.heap "java/lang/String" "COMPACT_STRINGS" "Z" (.int zc)) (pr3 : ¬ zc = 0) (pr4 : Sta Z Z.heap "java/lang/StringUTF16" "$assertionsDisabled" "Z" (.int 1)) (pr5 : Sta Z Z.heap "java/lang/StringUTF16" "HI_BYTE_SHIFT" "I" (.int 0)) (pr6 : Sta Z Z.heap "java/lang/StringUTF16" "LO_BYTE_SHIFT" "I" (.int 8)) (pr7 : Exa Z h0 x0 "java/lang/String") (pr8 : n0 ≤ x0) (pr9 : Fld Z h0 x0 "java/lang/String" "value" "[B" .null) (pr10 : Fld Z h0 x0 "java/lang/String" "coder" "B" (.int 0)) (pr11 : Arv Z h0 b0 kc .char (1 : Int32) [(.int c0)] (.int 0)) (pr12 : own_c16 c0) :
    own_M l yN12 jdk_42_method_3_code 2 none ws own_n1_1R #[(.ref x0), (.ref b0)] Z h0 (own_n1_1Q Z x0 b0 zc kc c0 h0 n0) := by
  refine own_go (plainFor_of_name own_pn2) (fun m => own_ef13 m x0 b0 ) ?_
  intro p e s m below meth c s₁ Bd hx hby hml hZ hh hown hnm X0 e0
  have N0 := Fr.nil n0
  have K0 : Keep h0 h0 [x0] := Keep.refl h0 _
  refine own_st (T' := s₁) (g' := (mkF m 4 #[.val (.ref x0), .val (.ref b0)] [(.ref b0), (.int 0), (.ref b0), (.ref x0)])) (fun _ kt => XS.aloadN X0.here hx rfl (hb hby d1_0) rfl rfl (XS.aloadN X0.here hx rfl (hb hby d1_1) rfl rfl (XS.iconst X0.here hx rfl (hb hby d1_2) (XS.aloadN X0.here hx rfl (hb hby d1_3) rfl rfl kt)))) ?_
  refine own_st (T' := s₁) (g' := (mkF m 5 #[.val (.ref x0), .val (.ref b0)] [(.int 1), (.int 0), (.ref b0), (.ref x0)])) (own_alen X0 hx hZ e0 pr11 (g := (mkF m 4 #[.val (.ref x0), .val (.ref b0)] [(.ref b0), (.int 0), (.ref b0), (.ref x0)])) rfl rfl (hb hby d1_4)) ?_
  refine own_st (T' := s₁) (g' := (mkF m 6 #[.val (.ref x0), .val (.ref b0)] [.null, (.int 1), (.int 0), (.ref b0), (.ref x0)])) (fun _ kt => XS.aconstNull X0.here hx rfl (hb hby d1_5) kt) ?_
  obtain ⟨_, _, ⟨T366, L366, k366, n366⟩, -, X366, ⟨Lc366, hQ366, l366, y366, z366⟩, st366⟩ := X0.specialBack hx (y := yN11) rfl hown (mvT hZ (own_k hw 9 rfl)) (mvT hZ (own_k hw 10 rfl)) (mvT hZ (own_k hw 12 rfl)) (by decide) (backOf (W := 0) (own_n4_1 l Z a0 hw [] x0 b0 zc kc c0 h0 n0 Z0 pr1 pr2 pr3 pr4 pr5 pr6 pr7 pr8 pr9 pr10 pr11 pr12) hZ (own_k hw 12 rfl) (own_k hw 4 rfl) (by decide) (by decide)) (g := (mkF m 6 #[.val (.ref x0), .val (.ref b0)] [.null, (.int 1), (.int 0), (.ref b0), (.ref x0)])) rfl hml.symm (Steps.refl _) (a := x0) (argsL := [(.ref b0), (.int 0), (.int 1), .null]) (rest := []) (lenOf own_pd16 rfl) rfl (own_w0 rfl rfl) (hb hby d1_6) (fun _ _ => ⟨rfl, e0, (by decide : 0 + 3 ≤ 3), (by decide : 0 + 3 ≤ 3)⟩)
  dsimp only [Pt.U, Pt.locs, Pt.cells, Pt.slots] at X366 l366 y366 z366 st366 hQ366
  subst l366 y366 z366
  obtain ⟨t_366, kb_366, cd_366, zz_366, vl_366, rfl, N366, K366_, P367, P368, P369, P370, P371, q372⟩ := hQ366
  have N373 := Fr.app N0 N366
  have Z374 : n0 ≤ T366.heap.size := Nat.le_trans Z0 K366_.1
  have K374 : Keep h0 T366.heap [x0] := (Keep.trans K0 K366_ (allS (Or.inl (List.mem_of_getElem? (i := 0) rfl)) all0))
  have ne375 : b0 ≠ t_366 := Nat.ne_of_lt (Nat.lt_of_lt_of_le pr11.lt P371)
  have ge376 : n0 ≤ t_366 := Nat.le_trans Z0 P371
  refine own_tr (T' := T366) (g' := (mkF m 9 #[.val (.ref x0), .val (.ref b0)] [])) st366 ?_
  obtain ⟨fs, hr, hrun, hended, hW, hsame⟩ := X366.leave (v := none) (fun _ => rfl)
  refine own_end (X366.returnOut hx Bd.returns (hb hby d1_9) hr) ⟨_, hrun, hended, _, _, rfl, ?_, ⟨_, rfl⟩, hW, hsame.mono (by decide) (by decide)⟩
  show own_n1_1Q Z _ _ _ _ _ h0 n0 _ T366.heap _
  show own_n1_1Q Z _ _ _ _ _ h0 n0 _ T366.heap _
  exact ⟨t_366, kb_366, cd_366, zz_366, vl_366, rfl, N373, K374, P367, P368, P369, P370, (Nat.le_trans K0.1 P371), q372⟩
def own_nl2Q (Z : State)  (h0 : Heap) (n0 : Nat) (v : Option Value) (h : Heap) (L : List Loc) : Prop := v = some (.int 4) ∧ Fr n0 L ∧ h = h0
abbrev own_nl2R : Room := { frames := 0, cells := 0, slots := 0, locals := 0 }
theorem own_nl2 (l : Launch) (Z : State) (a0 : Array Value) (hw : ∀ d ∈ tables_1, d.before a0 Z = true) (ws : List Jvm.Cond)  (h0 : Heap) (n0 : Nat) (Z0 : n0 ≤ h0.size)  :
    own_M l yN13 jdk_52_method_3_code 1 (some .int) ws own_nl2R #[(.int 2)] Z h0 (own_nl2Q Z  h0 n0) := by
  refine own_go (plainFor_of_name own_pn3) (fun m => own_ef8 m (2 : Int32) ) ?_
  intro p e s m below meth c s₁ Bd hx hby hml hZ hh hown hnm X0 e0
  have N0 := Fr.nil n0
  refine own_st (T' := s₁) (g' := (mkF m 13 #[.val (.int 2)] [(.int 2)])) (fun _ kt => XS.iloadN X0.here hx rfl (hb hby d19_0) rfl (XS.ifYes X0.here hx rfl (pc0 := 1) (pc' := 12) rfl (hb hby d19_1) rfl (XT.i0_ge_t (by decide)) (by decide) (by decide) (XS.iloadN X0.here hx rfl (hb hby d19_12) rfl kt))) ?_
  refine own_st (T' := s₁) (g' := (mkF m 15 #[.val (.int 2)] [(.int 1073741823), (.int 2)])) (Stand.ldcInt X0 hx hown (mvT hZ (own_k hw 89 rfl)) (g := (mkF m 13 #[.val (.int 2)] [(.int 2)])) rfl (hb hby d19_13)) ?_
  refine own_st (T' := s₁) (g' := (mkF m 58 #[.val (.int 2)] [(.int 4)])) (fun _ kt => XS.icmpYes X0.here hx rfl (pc0 := 15) (pc' := 55) rfl (hb hby d19_15) rfl (XT.ii_lt_t (by decide)) (by decide) (by decide) (XS.iloadN X0.here hx rfl (hb hby d19_55) rfl (XS.iconst X0.here hx rfl (hb hby d19_56) (XT.ishl X0.here hx rfl (hb hby d19_57) rfl kt)))) ?_
  obtain ⟨fs, hr, hrun, hended, hW, hsame⟩ := X0.leave (v := some (.int 4)) (fun h => by rw [Bd.returns] at h; cases h)
  refine own_end (own_retI X0 hx Bd.returns (hb hby d19_58) hr) ⟨_, hrun, hended, _, _, rfl, ?_, ⟨_, rfl⟩, hW, hsame.mono (by decide) (by decide)⟩
  show own_nl2Q Z  h0 n0 _ s₁.heap _
  rw [e0]
  exact ⟨rfl, N0, rfl⟩
def own_nf2Q (Z : State)  (h0 : Heap) (n0 : Nat) (v : Option Value) (h : Heap) (L : List Loc) : Prop := ∃ (b : Addr), ∃ (kb : ClassId), v = some (.ref b) ∧ Fr n0 L ∧ Keep h0 h [] ∧ (Arv Z h b kb .byte (4 : Int32) [(.int 0), (.int 0), (.int 0), (.int 0)] (.int 0)) ∧ (h0.size ≤ b)
abbrev own_nf2R : Room := { frames := 1, cells := 1, slots := 4, locals := 12 }
theorem own_nf2 (l : Launch) (Z : State) (a0 : Array Value) (hw : ∀ d ∈ tables_1, d.before a0 Z = true) (ws : List Jvm.Cond)  (h0 : Heap) (n0 : Nat) (Z0 : n0 ≤ h0.size)  :
    own_M l yN14 jdk_52_method_2_code 1 (some (.array .byte)) ws own_nf2R #[(.int 2)] Z h0 (own_nf2Q Z  h0 n0) := by
  refine own_go (plainFor_of_name own_pn3) (fun m => own_ef8 m (2 : Int32) ) ?_
  intro p e s m below meth c s₁ Bd hx hby hml hZ hh hown hnm X0 e0
  have N0 := Fr.nil n0
  have K0 : Keep h0 h0 [] := Keep.refl h0 _
  refine own_st (T' := s₁) (g' := (mkF m 1 #[.val (.int 2)] [(.int 2)])) (fun _ kt => XS.iloadN X0.here hx rfl (hb hby d18_0) rfl kt) ?_
  obtain ⟨_, _, ⟨T377, L377, k377, n377⟩, -, X377, ⟨Lc377, hQ377, l377, y377, z377⟩, st377⟩ := Jvm.LawKit.callS X0 hx (y := yN13) hown (mvT hZ (own_k hw 86 rfl)) (mvT hZ (own_k hw 87 rfl)) (mvT hZ (own_k hw 36 rfl)) (mvT hZ (own_k hw 88 rfl)) (by decide) (backOf (W := 0) (own_nl2 l Z a0 hw []  h0 n0 Z0 ) hZ (own_k hw 88 rfl) (own_k hw 36 rfl) (by decide) (by decide)) (g := (mkF m 1 #[.val (.int 2)] [(.int 2)])) rfl hml.symm  (argsL := [(.int 2)]) (rest := []) (lenOf own_pd10 rfl) rfl (own_w0 rfl rfl) (hb hby d18_1) (fun _ _ => ⟨rfl, e0, (by decide : 0 + 0 ≤ 1), (by decide : 0 + 0 ≤ 4)⟩)
  dsimp only [Pt.U, Pt.locs, Pt.cells, Pt.slots] at X377 l377 y377 z377 st377 hQ377
  subst l377 y377 z377
  obtain ⟨rfl, N377, e377⟩ := hQ377
  have N378 := Fr.app N0 N377
  refine own_st (T' := T377) (g' := (mkF m 4 #[.val (.int 2)] [(.int 4)])) st377 ?_
  obtain ⟨T379, h379, k379, X379, e379, E379, A379, st379⟩ := newP X377 hx hZ (aty := .byte) (own_k hw 17 rfl) e377 (g := (mkF m 4 #[.val (.int 2)] [(.int 4)])) rfl (hb hby d18_4) rfl (by decide) (cap := 4) (by decide) (by decide) (by decide) (by decide)
  obtain ⟨b379, g379⟩ : ∃ z, z = h0.size := ⟨_, rfl⟩
  rw [← g379] at A379 st379
  have Z380 : n0 ≤ h379.size := Nat.le_trans Z0 E379.1
  have K380 : Keep h0 h379 [] := (Keep.ext K0 E379)
  have ge_b379 : n0 ≤ b379 := Nat.le_trans Z0 (Nat.le_of_eq g379.symm)
  have F381 : Arv Z h379 b379 k379 .byte (4 : Int32) [(.int 0), (.int 0), (.int 0), (.int 0)] (.int 0) := (Arv.new A379 (by decide)).pad (pad_rep [] (.int 0) 4)
  refine own_st (T' := T379) (g' := (mkF m 6 #[.val (.int 2)] [(.ref b379)])) st379 ?_
  obtain ⟨fs, hr, hrun, hended, hW, hsame⟩ := X379.leave (v := some (.ref b379)) (fun h => by rw [Bd.returns] at h; cases h)
  refine own_end (own_retA X379 hx Bd.returns rfl rfl rfl (hb hby d18_6) hr) ⟨_, hrun, hended, _, _, rfl, ?_, ⟨_, rfl⟩, hW, hsame.mono (by decide) (by decide)⟩
  show own_nf2Q Z  h0 n0 _ T379.heap _
  rw [e379]
  exact ⟨b379, k379, rfl, N378, K380, F381, (Nat.le_trans K0.1 (Nat.le_of_eq g379.symm))⟩
def own_tb2Q (Z : State) (x0 : Addr) (kc : ClassId) (c0 : Int32) (c1 : Int32) (h0 : Heap) (n0 : Nat) (v : Option Value) (h : Heap) (L : List Loc) : Prop := ∃ (b : Addr), ∃ (kb : ClassId), v = some (.ref b) ∧ Fr n0 L ∧ Keep h0 h [] ∧ (Arv Z h b kb .byte (4 : Int32) [(.int (own_lo c0)), (.int (own_hi c0)), (.int (own_lo c1)), (.int (own_hi c1))] (.int 0)) ∧ (h0.size ≤ b)
abbrev own_tb2R : Room := { frames := 2, cells := 1, slots := 4, locals := 24 }
theorem own_tb2 (l : Launch) (Z : State) (a0 : Array Value) (hw : ∀ d ∈ tables_1, d.before a0 Z = true) (ws : List Jvm.Cond) (x0 : Addr) (kc : ClassId) (c0 : Int32) (c1 : Int32) (h0 : Heap) (n0 : Nat) (Z0 : n0 ≤ h0.size) (pr1 : Old Z n0 h0) (pr2 : Sta Z Z.heap "java/lang/StringUTF16" "$assertionsDisabled" "Z" (.int 1)) (pr3 : Sta Z Z.heap "java/lang/StringUTF16" "HI_BYTE_SHIFT" "I" (.int 0)) (pr4 : Sta Z Z.heap "java/lang/StringUTF16" "LO_BYTE_SHIFT" "I" (.int 8)) (pr5 : Arv Z h0 x0 kc .char (2 : Int32) [(.int c0), (.int c1)] (.int 0)) :
    own_M l yN5 jdk_52_method_14_code 5 (some (.array .byte)) ws own_tb2R #[(.ref x0), (.int 0), (.int 2)] Z h0 (own_tb2Q Z x0 kc c0 c1 h0 n0) := by
  refine own_go (plainFor_of_name own_pn3) (fun m => own_ef9 m x0 (0 : Int32) (2 : Int32) ) ?_
  intro p e s m below meth c s₁ Bd hx hby hml hZ hh hown hnm X0 e0
  have N0 := Fr.nil n0
  have K0 : Keep h0 h0 [] := Keep.refl h0 _
  refine own_st (T' := s₁) (g' := (mkF m 1 #[.val (.ref x0), .val (.int 0), .val (.int 2), .unset, .unset] [(.int 2)])) (fun _ kt => XS.iloadN X0.here hx rfl (hb hby d17_0) rfl kt) ?_
  obtain ⟨_, _, ⟨T382, L382, k382, n382⟩, -, X382, ⟨Lc382, hQ382, l382, y382, z382⟩, st382⟩ := Jvm.LawKit.callS X0 hx (y := yN14) hown (mvT hZ (own_k hw 83 rfl)) (mvT hZ (own_k hw 84 rfl)) (mvT hZ (own_k hw 36 rfl)) (mvT hZ (own_k hw 85 rfl)) (by decide) (backOf (W := 0) (own_nf2 l Z a0 hw []  h0 n0 Z0 ) hZ (own_k hw 85 rfl) (own_k hw 36 rfl) (by decide) (by decide)) (g := (mkF m 1 #[.val (.ref x0), .val (.int 0), .val (.int 2), .unset, .unset] [(.int 2)])) rfl hml.symm  (argsL := [(.int 2)]) (rest := []) (lenOf own_pd11 rfl) rfl (own_w0 rfl rfl) (hb hby d17_1) (fun _ _ => ⟨rfl, e0, (by decide : 0 + 1 ≤ 1), (by decide : 0 + 4 ≤ 4)⟩)
  dsimp only [Pt.U, Pt.locs, Pt.cells, Pt.slots] at X382 l382 y382 z382 st382 hQ382
  subst l382 y382 z382
  obtain ⟨b_382, kb_382, rfl, N382, K382_, P383, P384⟩ := hQ382
  have N385 := Fr.app N0 N382
  have Z386 : n0 ≤ T382.heap.size := Nat.le_trans Z0 K382_.1
  have K386 : Keep h0 T382.heap [] := (Keep.trans K0 K382_ all0)
  have ne387 : x0 ≠ b_382 := Nat.ne_of_lt (Nat.lt_of_lt_of_le pr5.lt P384)
  have ge388 : n0 ≤ b_382 := Nat.le_trans Z0 P384
  refine own_st (T' := T382) (g' := (mkF m 4 #[.val (.ref x0), .val (.int 0), .val (.int 2), .unset, .unset] [(.ref b_382)])) st382 ?_
  refine own_st (T' := T382) (g' := (mkF m 19 #[.val (.ref x0), .val (.int 0), .val (.int 2), .val (.ref b_382), .val (.int 0)] [(.int 0), (.ref x0), (.int 0), (.ref b_382)])) (fun _ kt => XS.astoreN X382.here hx rfl (hb hby d17_4) rfl rfl (l' := #[.val (.ref x0), .val (.int 0), .val (.int 2), .val (.ref b_382), .unset]) rfl (XS.iconst X382.here hx rfl (hb hby d17_5) (XS.istore X382.here hx rfl (hb hby d17_6) rfl (l' := #[.val (.ref x0), .val (.int 0), .val (.int 2), .val (.ref b_382), .val (.int 0)]) rfl (XS.iload X382.here hx rfl (hb hby d17_8) rfl (XS.iloadN X382.here hx rfl (hb hby d17_10) rfl (XS.icmpNo X382.here hx rfl (hb hby d17_11) rfl (XT.ii_ge_f (by decide)) (XS.aloadN X382.here hx rfl (hb hby d17_14) rfl rfl (XS.iload X382.here hx rfl (hb hby d17_15) rfl (XS.aloadN X382.here hx rfl (hb hby d17_17) rfl rfl (XS.iloadN X382.here hx rfl (hb hby d17_18) rfl kt)))))))))) ?_
  have F389 : Arv Z T382.heap x0 kc .char (2 : Int32) [(.int c0), (.int c1)] (.int 0) := (Arv.keep pr5 K382_ nin0)
  refine own_st (T' := T382) (g' := (mkF m 20 #[.val (.ref x0), .val (.int 0), .val (.int 2), .val (.ref b_382), .val (.int 0)] [(.int c0), (.int 0), (.ref b_382)])) (own_cal X382 hx hZ rfl F389 ⟨by decide, by decide⟩ rfl (g := (mkF m 19 #[.val (.ref x0), .val (.int 0), .val (.int 2), .val (.ref b_382), .val (.int 0)] [(.int 0), (.ref x0), (.int 0), (.ref b_382)])) rfl rfl (hb hby d17_19)) ?_
  have F390 : Old Z n0 T382.heap := (Old.keep pr1 K382_ all0)
  obtain ⟨_, _, ⟨T391, L391, k391, n391⟩, -, X391, ⟨Lc391, hQ391, l391, y391, z391⟩, st391⟩ := Jvm.LawKit.callS X382 hx (y := yN8) hown (mvT hZ (own_k hw 90 rfl)) (mvT hZ (own_k hw 91 rfl)) (mvT hZ (own_k hw 36 rfl)) (mvT hZ (own_k hw 92 rfl)) (by decide) (backOf (W := 0) (own_pc l Z a0 hw [] b_382 (0 : Int32) c0 kb_382 (4 : Int32) [(.int 0), (.int 0), (.int 0), (.int 0)] T382.heap n0 Z386 F390 pr2 pr3 pr4 ge388 P383 (show ¬ ((0 : Int32) <<< ((1 : Int32) &&& 31)) < 0 ∧ ((0 : Int32) <<< ((1 : Int32) &&& 31)) < (4 : Int32) from (by decide)) (show ¬ (((0 : Int32) <<< ((1 : Int32) &&& 31)) + (1 : Int32)) < 0 ∧ (((0 : Int32) <<< ((1 : Int32) &&& 31)) + (1 : Int32)) < (4 : Int32) from (by decide)) (show ((0 : Int32) <<< ((1 : Int32) &&& 31)).toNatClampNeg < [(.int 0), (.int 0), (.int 0), (.int 0)].length from (show _ < 4 from by decide)) (show (((0 : Int32) <<< ((1 : Int32) &&& 31)) + (1 : Int32)).toNatClampNeg < [(.int 0), (.int 0), (.int 0), (.int 0)].length from (show _ < 4 from by decide))) hZ (own_k hw 92 rfl) (own_k hw 36 rfl) (by decide) (by decide)) (g := (mkF m 20 #[.val (.ref x0), .val (.int 0), .val (.int 2), .val (.ref b_382), .val (.int 0)] [(.int c0), (.int 0), (.ref b_382)])) rfl hml.symm  (argsL := [(.ref b_382), (.int 0), (.int c0)]) (rest := []) (lenOf own_pd12 rfl) rfl (own_w0 rfl rfl) (hb hby d17_20) (fun _ _ => ⟨rfl, rfl, (by decide : 1 + 0 ≤ 1), (by decide : 4 + 0 ≤ 4)⟩)
  dsimp only [Pt.U, Pt.locs, Pt.cells, Pt.slots] at X391 l391 y391 z391 st391 hQ391
  subst l391 y391 z391
  obtain ⟨rfl, N391, K391_, P392⟩ := hQ391
  have N393 := Fr.app N385 N391
  have Z394 : n0 ≤ T391.heap.size := Nat.le_trans Z386 K391_.1
  have K394 : Keep h0 T391.heap [] := (Keep.trans K386 K391_ (allS (Or.inr (Nat.le_trans K0.1 P384)) all0))
  have F395 : Arv Z T391.heap b_382 kb_382 .byte (4 : Int32) [(.int (own_lo c0)), (.int (own_hi c0)), (.int 0), (.int 0)] (.int 0) := P392
  refine own_st (T' := T391) (g' := (mkF m 23 #[.val (.ref x0), .val (.int 0), .val (.int 2), .val (.ref b_382), .val (.int 0)] [])) st391 ?_
  refine own_st (T' := T391) (g' := (mkF m 19 #[.val (.ref x0), .val (.int 1), .val (.int 2), .val (.ref b_382), .val (.int 1)] [(.int 1), (.ref x0), (.int 1), (.ref b_382)])) (fun _ kt => XS.iinc X391.here hx rfl (hb hby d17_23) rfl (l' := #[.val (.ref x0), .val (.int 1), .val (.int 2), .val (.ref b_382), .val (.int 0)]) rfl (XS.iinc X391.here hx rfl (hb hby d17_26) rfl (l' := #[.val (.ref x0), .val (.int 1), .val (.int 2), .val (.ref b_382), .val (.int 1)]) rfl (XS.goto X391.here hx rfl (pc0 := 29) (pc' := 8) rfl (hb hby d17_29) (by decide) (by decide) (XS.iload X391.here hx rfl (hb hby d17_8) rfl (XS.iloadN X391.here hx rfl (hb hby d17_10) rfl (XS.icmpNo X391.here hx rfl (hb hby d17_11) rfl (XT.ii_ge_f (by decide)) (XS.aloadN X391.here hx rfl (hb hby d17_14) rfl rfl (XS.iload X391.here hx rfl (hb hby d17_15) rfl (XS.aloadN X391.here hx rfl (hb hby d17_17) rfl rfl (XS.iloadN X391.here hx rfl (hb hby d17_18) rfl kt)))))))))) ?_
  have F396 : Arv Z T391.heap x0 kc .char (2 : Int32) [(.int c0), (.int c1)] (.int 0) := (Arv.keep F389 K391_ (ninS ne387 nin0))
  refine own_st (T' := T391) (g' := (mkF m 20 #[.val (.ref x0), .val (.int 1), .val (.int 2), .val (.ref b_382), .val (.int 1)] [(.int c1), (.int 1), (.ref b_382)])) (own_cal X391 hx hZ rfl F396 ⟨by decide, by decide⟩ rfl (g := (mkF m 19 #[.val (.ref x0), .val (.int 1), .val (.int 2), .val (.ref b_382), .val (.int 1)] [(.int 1), (.ref x0), (.int 1), (.ref b_382)])) rfl rfl (hb hby d17_19)) ?_
  have F397 : Old Z n0 T391.heap := (Old.keep F390 K391_ (allS ge388 all0))
  obtain ⟨_, _, ⟨T398, L398, k398, n398⟩, -, X398, ⟨Lc398, hQ398, l398, y398, z398⟩, st398⟩ := Jvm.LawKit.callS X391 hx (y := yN8) hown (mvT hZ (own_k hw 90 rfl)) (mvT hZ (own_k hw 91 rfl)) (mvT hZ (own_k hw 36 rfl)) (mvT hZ (own_k hw 92 rfl)) (by decide) (backOf (W := 0) (own_pc l Z a0 hw [] b_382 (1 : Int32) c1 kb_382 (4 : Int32) [(.int (own_lo c0)), (.int (own_hi c0)), (.int 0), (.int 0)] T391.heap n0 Z394 F397 pr2 pr3 pr4 ge388 F395 (show ¬ ((1 : Int32) <<< ((1 : Int32) &&& 31)) < 0 ∧ ((1 : Int32) <<< ((1 : Int32) &&& 31)) < (4 : Int32) from (by decide)) (show ¬ (((1 : Int32) <<< ((1 : Int32) &&& 31)) + (1 : Int32)) < 0 ∧ (((1 : Int32) <<< ((1 : Int32) &&& 31)) + (1 : Int32)) < (4 : Int32) from (by decide)) (show ((1 : Int32) <<< ((1 : Int32) &&& 31)).toNatClampNeg < [(.int (own_lo c0)), (.int (own_hi c0)), (.int 0), (.int 0)].length from (show _ < 4 from by decide)) (show (((1 : Int32) <<< ((1 : Int32) &&& 31)) + (1 : Int32)).toNatClampNeg < [(.int (own_lo c0)), (.int (own_hi c0)), (.int 0), (.int 0)].length from (show _ < 4 from by decide))) hZ (own_k hw 92 rfl) (own_k hw 36 rfl) (by decide) (by decide)) (g := (mkF m 20 #[.val (.ref x0), .val (.int 1), .val (.int 2), .val (.ref b_382), .val (.int 1)] [(.int c1), (.int 1), (.ref b_382)])) rfl hml.symm  (argsL := [(.ref b_382), (.int 1), (.int c1)]) (rest := []) (lenOf own_pd12 rfl) rfl (own_w0 rfl rfl) (hb hby d17_20) (fun _ _ => ⟨rfl, rfl, (by decide : 1 + 0 ≤ 1), (by decide : 4 + 0 ≤ 4)⟩)
  dsimp only [Pt.U, Pt.locs, Pt.cells, Pt.slots] at X398 l398 y398 z398 st398 hQ398
  subst l398 y398 z398
  obtain ⟨rfl, N398, K398_, P399⟩ := hQ398
  have N400 := Fr.app N393 N398
  have Z401 : n0 ≤ T398.heap.size := Nat.le_trans Z394 K398_.1
  have K401 : Keep h0 T398.heap [] := (Keep.trans K394 K398_ (allS (Or.inr (Nat.le_trans K0.1 P384)) all0))
  have F402 : Arv Z T398.heap b_382 kb_382 .byte (4 : Int32) [(.int (own_lo c0)), (.int (own_hi c0)), (.int (own_lo c1)), (.int (own_hi c1))] (.int 0) := P399
  refine own_st (T' := T398) (g' := (mkF m 23 #[.val (.ref x0), .val (.int 1), .val (.int 2), .val (.ref b_382), .val (.int 1)] [])) st398 ?_
  refine own_st (T' := T398) (g' := (mkF m 33 #[.val (.ref x0), .val (.int 2), .val (.int 2), .val (.ref b_382), .val (.int 2)] [(.ref b_382)])) (fun _ kt => XS.iinc X398.here hx rfl (hb hby d17_23) rfl (l' := #[.val (.ref x0), .val (.int 2), .val (.int 2), .val (.ref b_382), .val (.int 1)]) rfl (XS.iinc X398.here hx rfl (hb hby d17_26) rfl (l' := #[.val (.ref x0), .val (.int 2), .val (.int 2), .val (.ref b_382), .val (.int 2)]) rfl (XS.goto X398.here hx rfl (pc0 := 29) (pc' := 8) rfl (hb hby d17_29) (by decide) (by decide) (XS.iload X398.here hx rfl (hb hby d17_8) rfl (XS.iloadN X398.here hx rfl (hb hby d17_10) rfl (XS.icmpYes X398.here hx rfl (pc0 := 11) (pc' := 32) rfl (hb hby d17_11) rfl (XT.ii_ge_t (by decide)) (by decide) (by decide) (XS.aloadN X398.here hx rfl (hb hby d17_32) rfl rfl kt))))))) ?_
  obtain ⟨fs, hr, hrun, hended, hW, hsame⟩ := X398.leave (v := some (.ref b_382)) (fun h => by rw [Bd.returns] at h; cases h)
  refine own_end (own_retA X398 hx Bd.returns rfl rfl rfl (hb hby d17_33) hr) ⟨_, hrun, hended, _, _, rfl, ?_, ⟨_, rfl⟩, hW, hsame.mono (by decide) (by decide)⟩
  show own_tb2Q Z _ _ _ _ h0 n0 _ T398.heap _
  show own_tb2Q Z _ _ _ _ h0 n0 _ T398.heap _
  exact ⟨b_382, kb_382, rfl, N400, K401, F402, (Nat.le_trans K0.1 P384)⟩
def own_cf2_0Q (Z : State) (t : Addr) (kb : ClassId) (vl : List Value) (h0 : Heap) (n0 : Nat) (v : Option Value) (h : Heap) (L : List Loc) : Prop := v = some (.int 0) ∧ Fr n0 L ∧ h = h0
abbrev own_cf2_0R : Room := { frames := 0, cells := 0, slots := 0, locals := 0 }
theorem own_cf2_0 (l : Launch) (Z : State) (a0 : Array Value) (hw : ∀ d ∈ tables_1, d.before a0 Z = true) (ws : List Jvm.Cond) (t : Addr) (kb : ClassId) (vl : List Value) (h0 : Heap) (n0 : Nat) (Z0 : n0 ≤ h0.size) (pr1 : Arv Z h0 t kb .byte (2 : Int32) vl (.int 0)) :
    own_M l yN3 jdk_52_method_15_code 2 (some .byte) ws own_cf2_0R #[(.ref t), (.int 2)] Z h0 (own_cf2_0Q Z t kb vl h0 n0) := by
  refine own_go (plainFor_of_name own_pn3) (fun m => own_ef4 m t (2 : Int32) ) ?_
  intro p e s m below meth c s₁ Bd hx hby hml hZ hh hown hnm X0 e0
  have N0 := Fr.nil n0
  refine own_st (T' := s₁) (g' := (mkF m 2 #[.val (.ref t), .val (.int 2)] [(.ref t), (.int 2)])) (fun _ kt => XS.iloadN X0.here hx rfl (hb hby d8_0) rfl (XS.aloadN X0.here hx rfl (hb hby d8_1) rfl rfl kt)) ?_
  refine own_st (T' := s₁) (g' := (mkF m 3 #[.val (.ref t), .val (.int 2)] [(.int 2), (.int 2)])) (own_alen X0 hx hZ e0 pr1 (g := (mkF m 2 #[.val (.ref t), .val (.int 2)] [(.ref t), (.int 2)])) rfl rfl (hb hby d8_2)) ?_
  refine own_st (T' := s₁) (g' := (mkF m 8 #[.val (.ref t), .val (.int 2)] [(.int ((XT.ushr (0 : Int32) (31 : Int32)).toInt8.toInt32))])) (fun _ kt => XS.isub X0.here hx rfl (hb hby d8_3) rfl (XS.bipush X0.here hx rfl (hb hby d8_4) (XT.iushr X0.here hx rfl (hb hby d8_6) rfl (XT.i2b X0.here hx rfl (hb hby d8_7) rfl kt)))) ?_
  obtain ⟨fs, hr, hrun, hended, hW, hsame⟩ := X0.leave (v := some (.int (nar .byte ((XT.ushr (0 : Int32) (31 : Int32)).toInt8.toInt32)))) (fun h => by rw [Bd.returns] at h; cases h)
  refine own_end (retN X0 hx (t := .byte) Bd.returns (by simp) (hb hby d8_8) hr) ⟨_, hrun, hended, _, _, rfl, ?_, ⟨_, rfl⟩, hW, hsame.mono (by decide) (by decide)⟩
  show own_cf2_0Q Z _ _ _ h0 n0 _ s₁.heap _
  rw [e0]
  exact ⟨(congrArg (fun z => some (Value.int z)) (by decide)), N0, rfl⟩
def own_cf2_1Q (Z : State) (t : Addr) (kb : ClassId) (vl : List Value) (h0 : Heap) (n0 : Nat) (v : Option Value) (h : Heap) (L : List Loc) : Prop := v = some (.int 1) ∧ Fr n0 L ∧ h = h0
abbrev own_cf2_1R : Room := { frames := 0, cells := 0, slots := 0, locals := 0 }
theorem own_cf2_1 (l : Launch) (Z : State) (a0 : Array Value) (hw : ∀ d ∈ tables_1, d.before a0 Z = true) (ws : List Jvm.Cond) (t : Addr) (kb : ClassId) (vl : List Value) (h0 : Heap) (n0 : Nat) (Z0 : n0 ≤ h0.size) (pr1 : Arv Z h0 t kb .byte (4 : Int32) vl (.int 0)) :
    own_M l yN3 jdk_52_method_15_code 2 (some .byte) ws own_cf2_1R #[(.ref t), (.int 2)] Z h0 (own_cf2_1Q Z t kb vl h0 n0) := by
  refine own_go (plainFor_of_name own_pn3) (fun m => own_ef4 m t (2 : Int32) ) ?_
  intro p e s m below meth c s₁ Bd hx hby hml hZ hh hown hnm X0 e0
  have N0 := Fr.nil n0
  refine own_st (T' := s₁) (g' := (mkF m 2 #[.val (.ref t), .val (.int 2)] [(.ref t), (.int 2)])) (fun _ kt => XS.iloadN X0.here hx rfl (hb hby d8_0) rfl (XS.aloadN X0.here hx rfl (hb hby d8_1) rfl rfl kt)) ?_
  refine own_st (T' := s₁) (g' := (mkF m 3 #[.val (.ref t), .val (.int 2)] [(.int 4), (.int 2)])) (own_alen X0 hx hZ e0 pr1 (g := (mkF m 2 #[.val (.ref t), .val (.int 2)] [(.ref t), (.int 2)])) rfl rfl (hb hby d8_2)) ?_
  refine own_st (T' := s₁) (g' := (mkF m 8 #[.val (.ref t), .val (.int 2)] [(.int ((XT.ushr (-2 : Int32) (31 : Int32)).toInt8.toInt32))])) (fun _ kt => XS.isub X0.here hx rfl (hb hby d8_3) rfl (XS.bipush X0.here hx rfl (hb hby d8_4) (XT.iushr X0.here hx rfl (hb hby d8_6) rfl (XT.i2b X0.here hx rfl (hb hby d8_7) rfl kt)))) ?_
  obtain ⟨fs, hr, hrun, hended, hW, hsame⟩ := X0.leave (v := some (.int (nar .byte ((XT.ushr (-2 : Int32) (31 : Int32)).toInt8.toInt32)))) (fun h => by rw [Bd.returns] at h; cases h)
  refine own_end (retN X0 hx (t := .byte) Bd.returns (by simp) (hb hby d8_8) hr) ⟨_, hrun, hended, _, _, rfl, ?_, ⟨_, rfl⟩, hW, hsame.mono (by decide) (by decide)⟩
  show own_cf2_1Q Z _ _ _ h0 n0 _ s₁.heap _
  rw [e0]
  exact ⟨(congrArg (fun z => some (Value.int z)) (by decide)), N0, rfl⟩
def own_k5_2_0Q (Z : State) (x0 : Addr) (kc : ClassId) (d0 : Addr) (kd : ClassId) (c0 : Int32) (c1 : Int32) (h0 : Heap) (n0 : Nat) (v : Option Value) (h : Heap) (L : List Loc) : Prop := v = some (.int 0) ∧ Fr n0 L ∧ Keep h0 h [d0] ∧ (Arv Z h d0 kd .byte (2 : Int32) [(.int 0), (.int 0)] (.int 0))
abbrev own_k5_2_0R : Room := { frames := 0, cells := 0, slots := 0, locals := 0 }
theorem own_k5_2_0 (l : Launch) (Z : State) (a0 : Array Value) (hw : ∀ d ∈ tables_1, d.before a0 Z = true) (ws : List Jvm.Cond) (x0 : Addr) (kc : ClassId) (d0 : Addr) (kd : ClassId) (c0 : Int32) (c1 : Int32) (h0 : Heap) (n0 : Nat) (Z0 : n0 ≤ h0.size) (pr1 : Arv Z h0 x0 kc .char (2 : Int32) [(.int c0), (.int c1)] (.int 0)) (pr2 : Arv Z h0 d0 kd .byte (2 : Int32) [(.int 0), (.int 0)] (.int 0)) (pr3 : n0 ≤ d0) (pr4 : x0 ≠ d0) (pr5 : (255 : Int32) < c0) :
    own_M l yN1 jdk_52_method_21_code 7 (some .int) ws own_k5_2_0R #[(.ref x0), (.int 0), (.ref d0), (.int 0), (.int 2)] Z h0 (own_k5_2_0Q Z x0 kc d0 kd c0 c1 h0 n0) := by
  refine own_go (plainFor_of_name own_pn3) (fun m => own_ef10 m x0 (0 : Int32) d0 (0 : Int32) (2 : Int32) ) ?_
  intro p e s m below meth c s₁ Bd hx hby hml hZ hh hown hnm X0 e0
  have N0 := Fr.nil n0
  have K0 : Keep h0 h0 [d0] := Keep.refl h0 _
  refine own_st (T' := s₁) (g' := (mkF m 12 #[.val (.ref x0), .val (.int 0), .val (.ref d0), .val (.int 0), .val (.int 2), .val (.int 0), .unset] [(.int 0), (.ref x0)])) (fun _ kt => XS.iconst X0.here hx rfl (hb hby d7_0) (XS.istore X0.here hx rfl (hb hby d7_1) rfl (l' := #[.val (.ref x0), .val (.int 0), .val (.ref d0), .val (.int 0), .val (.int 2), .val (.int 0), .unset]) rfl (XS.iload X0.here hx rfl (hb hby d7_3) rfl (XS.iload X0.here hx rfl (hb hby d7_5) rfl (XS.icmpNo X0.here hx rfl (hb hby d7_7) rfl (XT.ii_ge_f (by decide)) (XS.aloadN X0.here hx rfl (hb hby d7_10) rfl rfl (XS.iloadN X0.here hx rfl (hb hby d7_11) rfl kt))))))) ?_
  refine own_st (T' := s₁) (g' := (mkF m 13 #[.val (.ref x0), .val (.int 0), .val (.ref d0), .val (.int 0), .val (.int 2), .val (.int 0), .unset] [(.int c0)])) (own_cal X0 hx hZ e0 pr1 ⟨by decide, by decide⟩ rfl (g := (mkF m 12 #[.val (.ref x0), .val (.int 0), .val (.ref d0), .val (.int 0), .val (.int 2), .val (.int 0), .unset] [(.int 0), (.ref x0)])) rfl rfl (hb hby d7_12)) ?_
  refine own_st (T' := s₁) (g' := (mkF m 25 #[.val (.ref x0), .val (.int 0), .val (.ref d0), .val (.int 0), .val (.int 2), .val (.int 0), .val (.int c0)] [(.int 0)])) (fun _ kt => XS.istore X0.here hx rfl (hb hby d7_13) rfl (l' := #[.val (.ref x0), .val (.int 0), .val (.ref d0), .val (.int 0), .val (.int 2), .val (.int 0), .val (.int c0)]) rfl (XS.iload X0.here hx rfl (hb hby d7_15) rfl (XS.sipush X0.here hx rfl (hb hby d7_17) (XS.icmpNo X0.here hx rfl (hb hby d7_20) rfl (XT.ii_le_f pr5) (XS.iload X0.here hx rfl (hb hby d7_23) rfl kt))))) ?_
  obtain ⟨fs, hr, hrun, hended, hW, hsame⟩ := X0.leave (v := some (.int 0)) (fun h => by rw [Bd.returns] at h; cases h)
  refine own_end (own_retI X0 hx Bd.returns (hb hby d7_25) hr) ⟨_, hrun, hended, _, _, rfl, ?_, ⟨_, rfl⟩, hW, hsame.mono (by decide) (by decide)⟩
  show own_k5_2_0Q Z _ _ _ _ _ _ h0 n0 _ s₁.heap _
  rw [e0]
  exact ⟨rfl, N0, K0, pr2⟩
def own_k3_2_0Q (Z : State) (x0 : Addr) (kc : ClassId) (c0 : Int32) (c1 : Int32) (h0 : Heap) (n0 : Nat) (v : Option Value) (h : Heap) (L : List Loc) : Prop := ∃ (b : Addr), ∃ (kb : ClassId), v = some (.ref b) ∧ Fr n0 L ∧ Keep h0 h [] ∧ (Arv Z h b kb .byte (4 : Int32) [(.int (own_lo c0)), (.int (own_hi c0)), (.int (own_lo c1)), (.int (own_hi c1))] (.int 0)) ∧ (h0.size ≤ b)
abbrev own_k3_2_0R : Room := { frames := 3, cells := 2, slots := 6, locals := 40 }
theorem own_k3_2_0 (l : Launch) (Z : State) (a0 : Array Value) (hw : ∀ d ∈ tables_1, d.before a0 Z = true) (ws : List Jvm.Cond) (x0 : Addr) (kc : ClassId) (c0 : Int32) (c1 : Int32) (h0 : Heap) (n0 : Nat) (Z0 : n0 ≤ h0.size) (pr1 : Old Z n0 h0) (pr2 : Sta Z Z.heap "java/lang/StringUTF16" "$assertionsDisabled" "Z" (.int 1)) (pr3 : Sta Z Z.heap "java/lang/StringUTF16" "HI_BYTE_SHIFT" "I" (.int 0)) (pr4 : Sta Z Z.heap "java/lang/StringUTF16" "LO_BYTE_SHIFT" "I" (.int 8)) (pr5 : Arv Z h0 x0 kc .char (2 : Int32) [(.int c0), (.int c1)] (.int 0)) (pr6 : own_c16 c0) (pr7 : own_c16 c1) (pr8 : (255 : Int32) < c0) :
    own_M l yN2 jdk_52_method_16_code 6 (some (.array .byte)) ws own_k3_2_0R #[(.ref x0), (.int 0), (.int 2)] Z h0 (own_k3_2_0Q Z x0 kc c0 c1 h0 n0) := by
  refine own_go (plainFor_of_name own_pn3) (fun m => own_ef11 m x0 (0 : Int32) (2 : Int32) ) ?_
  intro p e s m below meth c s₁ Bd hx hby hml hZ hh hown hnm X0 e0
  have N0 := Fr.nil n0
  have K0 : Keep h0 h0 [] := Keep.refl h0 _
  refine own_st (T' := s₁) (g' := (mkF m 1 #[.val (.ref x0), .val (.int 0), .val (.int 2), .unset, .unset, .unset] [(.int 2)])) (fun _ kt => XS.iloadN X0.here hx rfl (hb hby d6_0) rfl kt) ?_
  obtain ⟨T403, h403, k403, X403, e403, E403, A403, st403⟩ := newP X0 hx hZ (aty := .byte) (own_k hw 17 rfl) e0 (g := (mkF m 1 #[.val (.ref x0), .val (.int 0), .val (.int 2), .unset, .unset, .unset] [(.int 2)])) rfl (hb hby d6_1) rfl (by decide) (cap := 2) (by decide) (by decide) (by decide) (by decide)
  obtain ⟨b403, g403⟩ : ∃ z, z = h0.size := ⟨_, rfl⟩
  rw [← g403] at A403 st403
  have ne404 : x0 ≠ b403 := by rw [g403]; exact Nat.ne_of_lt pr5.lt
  have Z405 : n0 ≤ h403.size := Nat.le_trans Z0 E403.1
  have K405 : Keep h0 h403 [] := (Keep.ext K0 E403)
  have ge_b403 : n0 ≤ b403 := Nat.le_trans Z0 (Nat.le_of_eq g403.symm)
  have F406 : Arv Z h403 b403 k403 .byte (2 : Int32) [(.int 0), (.int 0)] (.int 0) := (Arv.new A403 (by decide)).pad (pad_rep [] (.int 0) 2)
  refine own_st (T' := T403) (g' := (mkF m 3 #[.val (.ref x0), .val (.int 0), .val (.int 2), .unset, .unset, .unset] [(.ref b403)])) st403 ?_
  refine own_st (T' := T403) (g' := (mkF m 9 #[.val (.ref x0), .val (.int 0), .val (.int 2), .val (.ref b403), .unset, .unset] [(.int 2), (.int 0), (.ref b403), (.int 0), (.ref x0)])) (fun _ kt => XS.astoreN X403.here hx rfl (hb hby d6_3) rfl rfl (l' := #[.val (.ref x0), .val (.int 0), .val (.int 2), .val (.ref b403), .unset, .unset]) rfl (XS.aloadN X403.here hx rfl (hb hby d6_4) rfl rfl (XS.iloadN X403.here hx rfl (hb hby d6_5) rfl (XS.aloadN X403.here hx rfl (hb hby d6_6) rfl rfl (XS.iconst X403.here hx rfl (hb hby d6_7) (XS.iloadN X403.here hx rfl (hb hby d6_8) rfl kt)))))) ?_
  have F407 : Arv Z h403 x0 kc .char (2 : Int32) [(.int c0), (.int c1)] (.int 0) := (pr5.ext E403)
  obtain ⟨_, _, ⟨T408, L408, k408, n408⟩, -, X408, ⟨Lc408, hQ408, l408, y408, z408⟩, st408⟩ := Jvm.LawKit.callS X403 hx (y := yN1) hown (mvT hZ (own_k hw 38 rfl)) (mvT hZ (own_k hw 39 rfl)) (mvT hZ (own_k hw 36 rfl)) (mvT hZ (own_k hw 40 rfl)) (by decide) (backOf (W := 0) (own_k5_2_0 l Z a0 hw [] x0 kc b403 k403 c0 c1 h403 n0 Z405 F407 F406 ge_b403 ne404 pr8) hZ (own_k hw 40 rfl) (own_k hw 36 rfl) (by decide) (by decide)) (g := (mkF m 9 #[.val (.ref x0), .val (.int 0), .val (.int 2), .val (.ref b403), .unset, .unset] [(.int 2), (.int 0), (.ref b403), (.int 0), (.ref x0)])) rfl hml.symm  (argsL := [(.ref x0), (.int 0), (.ref b403), (.int 0), (.int 2)]) (rest := []) (lenOf own_pd13 rfl) rfl (own_w0 rfl rfl) (hb hby d6_9) (fun _ _ => ⟨rfl, e403, (by decide : 1 + 0 ≤ 2), (by decide : 2 + 0 ≤ 6)⟩)
  dsimp only [Pt.U, Pt.locs, Pt.cells, Pt.slots] at X408 l408 y408 z408 st408 hQ408
  subst l408 y408 z408
  obtain ⟨rfl, N408, K408_, P409⟩ := hQ408
  have N410 := Fr.app N0 N408
  have Z411 : n0 ≤ T408.heap.size := Nat.le_trans Z405 K408_.1
  have K411 : Keep h0 T408.heap [] := (Keep.trans K405 K408_ (allS (Or.inr (Nat.le_trans K0.1 (Nat.le_of_eq g403.symm))) all0))
  refine own_st (T' := T408) (g' := (mkF m 12 #[.val (.ref x0), .val (.int 0), .val (.int 2), .val (.ref b403), .unset, .unset] [(.int 0)])) st408 ?_
  refine own_st (T' := T408) (g' := (mkF m 23 #[.val (.ref x0), .val (.int 0), .val (.int 2), .val (.ref b403), .val (.int 0), .unset] [(.int 2), (.int 0), (.ref x0)])) (fun _ kt => XS.istore X408.here hx rfl (hb hby d6_12) rfl (l' := #[.val (.ref x0), .val (.int 0), .val (.int 2), .val (.ref b403), .val (.int 0), .unset]) rfl (XS.iload X408.here hx rfl (hb hby d6_14) rfl (XS.iloadN X408.here hx rfl (hb hby d6_16) rfl (XS.icmpNo X408.here hx rfl (hb hby d6_17) rfl (XT.ii_eq_f (by decide)) (XS.aloadN X408.here hx rfl (hb hby d6_20) rfl rfl (XS.iloadN X408.here hx rfl (hb hby d6_21) rfl (XS.iloadN X408.here hx rfl (hb hby d6_22) rfl kt))))))) ?_
  have F412 : Old Z n0 T408.heap := (Old.keep (Old.ext pr1 E403) K408_ (allS ge_b403 all0))
  have F413 : Arv Z T408.heap x0 kc .char (2 : Int32) [(.int c0), (.int c1)] (.int 0) := (Arv.keep F407 K408_ (ninS ne404 nin0))
  obtain ⟨_, _, ⟨T414, L414, k414, n414⟩, -, X414, ⟨Lc414, hQ414, l414, y414, z414⟩, st414⟩ := Jvm.LawKit.callS X408 hx (y := yN5) hown (mvT hZ (own_k hw 80 rfl)) (mvT hZ (own_k hw 81 rfl)) (mvT hZ (own_k hw 36 rfl)) (mvT hZ (own_k hw 82 rfl)) (by decide) (backOf (W := 0) (own_tb2 l Z a0 hw [] x0 kc c0 c1 T408.heap n0 Z411 F412 pr2 pr3 pr4 F413) hZ (own_k hw 82 rfl) (own_k hw 36 rfl) (by decide) (by decide)) (g := (mkF m 23 #[.val (.ref x0), .val (.int 0), .val (.int 2), .val (.ref b403), .val (.int 0), .unset] [(.int 2), (.int 0), (.ref x0)])) rfl hml.symm  (argsL := [(.ref x0), (.int 0), (.int 2)]) (rest := []) (lenOf own_pd14 rfl) rfl (own_w0 rfl rfl) (hb hby d6_23) (fun _ _ => ⟨rfl, rfl, (by decide : 1 + 1 ≤ 2), (by decide : 2 + 4 ≤ 6)⟩)
  dsimp only [Pt.U, Pt.locs, Pt.cells, Pt.slots] at X414 l414 y414 z414 st414 hQ414
  subst l414 y414 z414
  obtain ⟨b_414, kb_414, rfl, N414, K414_, P415, P416⟩ := hQ414
  have N417 := Fr.app N410 N414
  have Z418 : n0 ≤ T414.heap.size := Nat.le_trans Z411 K414_.1
  have K418 : Keep h0 T414.heap [] := (Keep.trans K411 K414_ all0)
  have ne419 : x0 ≠ b_414 := Nat.ne_of_lt (Nat.lt_of_lt_of_le F413.lt P416)
  have ne420 : b403 ≠ b_414 := Nat.ne_of_lt (Nat.lt_of_lt_of_le P409.lt P416)
  have ge421 : n0 ≤ b_414 := Nat.le_trans Z411 P416
  refine own_st (T' := T414) (g' := (mkF m 26 #[.val (.ref x0), .val (.int 0), .val (.int 2), .val (.ref b403), .val (.int 0), .unset] [(.ref b_414)])) st414 ?_
  refine own_st (T' := T414) (g' := (mkF m 32 #[.val (.ref x0), .val (.int 0), .val (.int 2), .val (.ref b403), .val (.int 0), .val (.ref b_414)] [(.int 0), (.ref b_414)])) (fun _ kt => XS.astore X414.here hx rfl (hb hby d6_26) rfl rfl (l' := #[.val (.ref x0), .val (.int 0), .val (.int 2), .val (.ref b403), .val (.int 0), .val (.ref b_414)]) rfl (XS.aload X414.here hx rfl (hb hby d6_28) rfl rfl (XS.iload X414.here hx rfl (hb hby d6_30) rfl kt))) ?_
  have F422 : Old Z n0 T414.heap := (Old.keep F412 K414_ all0)
  obtain ⟨_, _, ⟨T423, L423, k423, n423⟩, -, X423, ⟨Lc423, hQ423, l423, y423, z423⟩, st423⟩ := Jvm.LawKit.callS X414 hx (y := yN6) hown (mvT hZ (own_k hw 96 rfl)) (mvT hZ (own_k hw 97 rfl)) (mvT hZ (own_k hw 36 rfl)) (mvT hZ (own_k hw 98 rfl)) (by decide) (backOf (W := 0) (own_gc l Z a0 hw [] b_414 (0 : Int32) kb_414 (4 : Int32) [(.int (own_lo c0)), (.int (own_hi c0)), (.int (own_lo c1)), (.int (own_hi c1))] c0 T414.heap n0 Z418 F422 pr2 pr3 pr4 P415 pr6 (show own_u (4 : Int32) [(.int (own_lo c0)), (.int (own_hi c0)), (.int (own_lo c1)), (.int (own_hi c1))] (0 : Int32) c0 from ⟨by decide, rfl, by decide, rfl⟩)) hZ (own_k hw 98 rfl) (own_k hw 36 rfl) (by decide) (by decide)) (g := (mkF m 32 #[.val (.ref x0), .val (.int 0), .val (.int 2), .val (.ref b403), .val (.int 0), .val (.ref b_414)] [(.int 0), (.ref b_414)])) rfl hml.symm  (argsL := [(.ref b_414), (.int 0)]) (rest := []) (lenOf own_pd5 rfl) rfl (own_w0 rfl rfl) (hb hby d6_32) (fun _ _ => ⟨rfl, rfl, (by decide : 2 + 0 ≤ 2), (by decide : 6 + 0 ≤ 6)⟩)
  dsimp only [Pt.U, Pt.locs, Pt.cells, Pt.slots] at X423 l423 y423 z423 st423 hQ423
  subst l423 y423 z423
  obtain ⟨rfl, N423, e423⟩ := hQ423
  have N424 := Fr.app N417 N423
  refine own_st (T' := T423) (g' := (mkF m 35 #[.val (.ref x0), .val (.int 0), .val (.int 2), .val (.ref b403), .val (.int 0), .val (.ref b_414)] [(.int c0)])) st423 ?_
  refine own_st (T' := T423) (g' := (mkF m 56 #[.val (.ref x0), .val (.int 0), .val (.int 2), .val (.ref b403), .val (.int 0), .val (.ref b_414)] [(.ref b_414)])) (fun _ kt => XS.sipush X423.here hx rfl (hb hby d6_35) (XS.icmpYes X423.here hx rfl (pc0 := 38) (pc' := 54) rfl (hb hby d6_38) rfl (XT.ii_gt_t pr8) (by decide) (by decide) (XS.aload X423.here hx rfl (hb hby d6_54) rfl rfl kt))) ?_
  obtain ⟨fs, hr, hrun, hended, hW, hsame⟩ := X423.leave (v := some (.ref b_414)) (fun h => by rw [Bd.returns] at h; cases h)
  refine own_end (own_retA X423 hx Bd.returns rfl rfl rfl (hb hby d6_56) hr) ⟨_, hrun, hended, _, _, rfl, ?_, ⟨_, rfl⟩, hW, hsame.mono (by decide) (by decide)⟩
  show own_k3_2_0Q Z _ _ _ _ h0 n0 _ T423.heap _
  rw [e423]
  exact ⟨b_414, kb_414, rfl, N424, K418, P415, (Nat.le_trans K411.1 P416)⟩
def own_k5_2_1Q (Z : State) (x0 : Addr) (kc : ClassId) (d0 : Addr) (kd : ClassId) (c0 : Int32) (c1 : Int32) (h0 : Heap) (n0 : Nat) (v : Option Value) (h : Heap) (L : List Loc) : Prop := v = some (.int 1) ∧ Fr n0 L ∧ Keep h0 h [d0] ∧ (Arv Z h d0 kd .byte (2 : Int32) [(.int c0.toInt8.toInt32), (.int 0)] (.int 0))
abbrev own_k5_2_1R : Room := { frames := 0, cells := 0, slots := 0, locals := 0 }
theorem own_k5_2_1 (l : Launch) (Z : State) (a0 : Array Value) (hw : ∀ d ∈ tables_1, d.before a0 Z = true) (ws : List Jvm.Cond) (x0 : Addr) (kc : ClassId) (d0 : Addr) (kd : ClassId) (c0 : Int32) (c1 : Int32) (h0 : Heap) (n0 : Nat) (Z0 : n0 ≤ h0.size) (pr1 : Arv Z h0 x0 kc .char (2 : Int32) [(.int c0), (.int c1)] (.int 0)) (pr2 : Arv Z h0 d0 kd .byte (2 : Int32) [(.int 0), (.int 0)] (.int 0)) (pr3 : n0 ≤ d0) (pr4 : x0 ≠ d0) (pr5 : ¬ (255 : Int32) < c0) (pr6 : (255 : Int32) < c1) :
    own_M l yN1 jdk_52_method_21_code 7 (some .int) ws own_k5_2_1R #[(.ref x0), (.int 0), (.ref d0), (.int 0), (.int 2)] Z h0 (own_k5_2_1Q Z x0 kc d0 kd c0 c1 h0 n0) := by
  refine own_go (plainFor_of_name own_pn3) (fun m => own_ef10 m x0 (0 : Int32) d0 (0 : Int32) (2 : Int32) ) ?_
  intro p e s m below meth c s₁ Bd hx hby hml hZ hh hown hnm X0 e0
  have N0 := Fr.nil n0
  have K0 : Keep h0 h0 [d0] := Keep.refl h0 _
  refine own_st (T' := s₁) (g' := (mkF m 12 #[.val (.ref x0), .val (.int 0), .val (.ref d0), .val (.int 0), .val (.int 2), .val (.int 0), .unset] [(.int 0), (.ref x0)])) (fun _ kt => XS.iconst X0.here hx rfl (hb hby d7_0) (XS.istore X0.here hx rfl (hb hby d7_1) rfl (l' := #[.val (.ref x0), .val (.int 0), .val (.ref d0), .val (.int 0), .val (.int 2), .val (.int 0), .unset]) rfl (XS.iload X0.here hx rfl (hb hby d7_3) rfl (XS.iload X0.here hx rfl (hb hby d7_5) rfl (XS.icmpNo X0.here hx rfl (hb hby d7_7) rfl (XT.ii_ge_f (by decide)) (XS.aloadN X0.here hx rfl (hb hby d7_10) rfl rfl (XS.iloadN X0.here hx rfl (hb hby d7_11) rfl kt))))))) ?_
  refine own_st (T' := s₁) (g' := (mkF m 13 #[.val (.ref x0), .val (.int 0), .val (.ref d0), .val (.int 0), .val (.int 2), .val (.int 0), .unset] [(.int c0)])) (own_cal X0 hx hZ e0 pr1 ⟨by decide, by decide⟩ rfl (g := (mkF m 12 #[.val (.ref x0), .val (.int 0), .val (.ref d0), .val (.int 0), .val (.int 2), .val (.int 0), .unset] [(.int 0), (.ref x0)])) rfl rfl (hb hby d7_12)) ?_
  refine own_st (T' := s₁) (g' := (mkF m 31 #[.val (.ref x0), .val (.int 0), .val (.ref d0), .val (.int 0), .val (.int 2), .val (.int 0), .val (.int c0)] [(.int (c0.toInt8.toInt32)), (.int 0), (.ref d0)])) (fun _ kt => XS.istore X0.here hx rfl (hb hby d7_13) rfl (l' := #[.val (.ref x0), .val (.int 0), .val (.ref d0), .val (.int 0), .val (.int 2), .val (.int 0), .val (.int c0)]) rfl (XS.iload X0.here hx rfl (hb hby d7_15) rfl (XS.sipush X0.here hx rfl (hb hby d7_17) (XS.icmpYes X0.here hx rfl (pc0 := 20) (pc' := 26) rfl (hb hby d7_20) rfl (XT.ii_le_t pr5) (by decide) (by decide) (XS.aloadN X0.here hx rfl (hb hby d7_26) rfl rfl (XS.iloadN X0.here hx rfl (hb hby d7_27) rfl (XS.iload X0.here hx rfl (hb hby d7_28) rfl (XT.i2b X0.here hx rfl (hb hby d7_30) rfl kt)))))))) ?_
  obtain ⟨T425, h425, X425, e425, W425, V425, st425⟩ := own_bst X0 hx hZ e0 pr2 ⟨by decide, by decide⟩ (i := 0) rfl (by simp) (y := (c0.toInt8.toInt32)) (own_narb _) (g := (mkF m 31 #[.val (.ref x0), .val (.int 0), .val (.ref d0), .val (.int 0), .val (.int 2), .val (.int 0), .val (.int c0)] [(.int (c0.toInt8.toInt32)), (.int 0), (.ref d0)])) rfl rfl (hb hby d7_31)
  have N425 := Fr.snoc X425 N0 pr3
  have Z426 : n0 ≤ h425.size := Nat.le_trans Z0 (Nat.le_of_eq (Wr.size W425).symm)
  have K426 : Keep h0 h425 [d0] := (Keep.wr K0 W425 (Or.inl (List.mem_of_getElem? (i := 0) rfl)))
  have F427 : Arv Z h425 d0 kd .byte (2 : Int32) [(.int (c0.toInt8.toInt32)), (.int 0)] (.int 0) := V425
  refine own_st (T' := T425) (g' := (mkF m 32 #[.val (.ref x0), .val (.int 0), .val (.ref d0), .val (.int 0), .val (.int 2), .val (.int 0), .val (.int c0)] [])) st425 ?_
  refine own_st (T' := T425) (g' := (mkF m 12 #[.val (.ref x0), .val (.int 1), .val (.ref d0), .val (.int 1), .val (.int 2), .val (.int 1), .val (.int c0)] [(.int 1), (.ref x0)])) (fun _ kt => XS.iinc X425.here hx rfl (hb hby d7_32) rfl (l' := #[.val (.ref x0), .val (.int 1), .val (.ref d0), .val (.int 0), .val (.int 2), .val (.int 0), .val (.int c0)]) rfl (XS.iinc X425.here hx rfl (hb hby d7_35) rfl (l' := #[.val (.ref x0), .val (.int 1), .val (.ref d0), .val (.int 1), .val (.int 2), .val (.int 0), .val (.int c0)]) rfl (XS.iinc X425.here hx rfl (hb hby d7_38) rfl (l' := #[.val (.ref x0), .val (.int 1), .val (.ref d0), .val (.int 1), .val (.int 2), .val (.int 1), .val (.int c0)]) rfl (XS.goto X425.here hx rfl (pc0 := 41) (pc' := 3) rfl (hb hby d7_41) (by decide) (by decide) (XS.iload X425.here hx rfl (hb hby d7_3) rfl (XS.iload X425.here hx rfl (hb hby d7_5) rfl (XS.icmpNo X425.here hx rfl (hb hby d7_7) rfl (XT.ii_ge_f (by decide)) (XS.aloadN X425.here hx rfl (hb hby d7_10) rfl rfl (XS.iloadN X425.here hx rfl (hb hby d7_11) rfl kt))))))))) ?_
  have F428 : Arv Z h425 x0 kc .char (2 : Int32) [(.int c0), (.int c1)] (.int 0) := (Arv.other pr1 W425 pr4)
  refine own_st (T' := T425) (g' := (mkF m 13 #[.val (.ref x0), .val (.int 1), .val (.ref d0), .val (.int 1), .val (.int 2), .val (.int 1), .val (.int c0)] [(.int c1)])) (own_cal X425 hx hZ e425 F428 ⟨by decide, by decide⟩ rfl (g := (mkF m 12 #[.val (.ref x0), .val (.int 1), .val (.ref d0), .val (.int 1), .val (.int 2), .val (.int 1), .val (.int c0)] [(.int 1), (.ref x0)])) rfl rfl (hb hby d7_12)) ?_
  refine own_st (T' := T425) (g' := (mkF m 25 #[.val (.ref x0), .val (.int 1), .val (.ref d0), .val (.int 1), .val (.int 2), .val (.int 1), .val (.int c1)] [(.int 1)])) (fun _ kt => XS.istore X425.here hx rfl (hb hby d7_13) rfl (l' := #[.val (.ref x0), .val (.int 1), .val (.ref d0), .val (.int 1), .val (.int 2), .val (.int 1), .val (.int c1)]) rfl (XS.iload X425.here hx rfl (hb hby d7_15) rfl (XS.sipush X425.here hx rfl (hb hby d7_17) (XS.icmpNo X425.here hx rfl (hb hby d7_20) rfl (XT.ii_le_f pr6) (XS.iload X425.here hx rfl (hb hby d7_23) rfl kt))))) ?_
  obtain ⟨fs, hr, hrun, hended, hW, hsame⟩ := X425.leave (v := some (.int 1)) (fun h => by rw [Bd.returns] at h; cases h)
  refine own_end (own_retI X425 hx Bd.returns (hb hby d7_25) hr) ⟨_, hrun, hended, _, _, rfl, ?_, ⟨_, rfl⟩, hW, hsame.mono (by decide) (by decide)⟩
  show own_k5_2_1Q Z _ _ _ _ _ _ h0 n0 _ T425.heap _
  rw [e425]
  exact ⟨rfl, N425, K426, F427⟩
def own_k3_2_1Q (Z : State) (x0 : Addr) (kc : ClassId) (c0 : Int32) (c1 : Int32) (h0 : Heap) (n0 : Nat) (v : Option Value) (h : Heap) (L : List Loc) : Prop := ∃ (b : Addr), ∃ (kb : ClassId), v = some (.ref b) ∧ Fr n0 L ∧ Keep h0 h [] ∧ (Arv Z h b kb .byte (4 : Int32) [(.int (own_lo c0)), (.int (own_hi c0)), (.int (own_lo c1)), (.int (own_hi c1))] (.int 0)) ∧ (h0.size ≤ b)
abbrev own_k3_2_1R : Room := { frames := 3, cells := 2, slots := 6, locals := 40 }
theorem own_k3_2_1 (l : Launch) (Z : State) (a0 : Array Value) (hw : ∀ d ∈ tables_1, d.before a0 Z = true) (ws : List Jvm.Cond) (x0 : Addr) (kc : ClassId) (c0 : Int32) (c1 : Int32) (h0 : Heap) (n0 : Nat) (Z0 : n0 ≤ h0.size) (pr1 : Old Z n0 h0) (pr2 : Sta Z Z.heap "java/lang/StringUTF16" "$assertionsDisabled" "Z" (.int 1)) (pr3 : Sta Z Z.heap "java/lang/StringUTF16" "HI_BYTE_SHIFT" "I" (.int 0)) (pr4 : Sta Z Z.heap "java/lang/StringUTF16" "LO_BYTE_SHIFT" "I" (.int 8)) (pr5 : Arv Z h0 x0 kc .char (2 : Int32) [(.int c0), (.int c1)] (.int 0)) (pr6 : own_c16 c0) (pr7 : own_c16 c1) (pr8 : ¬ (255 : Int32) < c0) (pr9 : (255 : Int32) < c1) :
    own_M l yN2 jdk_52_method_16_code 6 (some (.array .byte)) ws own_k3_2_1R #[(.ref x0), (.int 0), (.int 2)] Z h0 (own_k3_2_1Q Z x0 kc c0 c1 h0 n0) := by
  refine own_go (plainFor_of_name own_pn3) (fun m => own_ef11 m x0 (0 : Int32) (2 : Int32) ) ?_
  intro p e s m below meth c s₁ Bd hx hby hml hZ hh hown hnm X0 e0
  have N0 := Fr.nil n0
  have K0 : Keep h0 h0 [] := Keep.refl h0 _
  refine own_st (T' := s₁) (g' := (mkF m 1 #[.val (.ref x0), .val (.int 0), .val (.int 2), .unset, .unset, .unset] [(.int 2)])) (fun _ kt => XS.iloadN X0.here hx rfl (hb hby d6_0) rfl kt) ?_
  obtain ⟨T429, h429, k429, X429, e429, E429, A429, st429⟩ := newP X0 hx hZ (aty := .byte) (own_k hw 17 rfl) e0 (g := (mkF m 1 #[.val (.ref x0), .val (.int 0), .val (.int 2), .unset, .unset, .unset] [(.int 2)])) rfl (hb hby d6_1) rfl (by decide) (cap := 2) (by decide) (by decide) (by decide) (by decide)
  obtain ⟨b429, g429⟩ : ∃ z, z = h0.size := ⟨_, rfl⟩
  rw [← g429] at A429 st429
  have ne430 : x0 ≠ b429 := by rw [g429]; exact Nat.ne_of_lt pr5.lt
  have Z431 : n0 ≤ h429.size := Nat.le_trans Z0 E429.1
  have K431 : Keep h0 h429 [] := (Keep.ext K0 E429)
  have ge_b429 : n0 ≤ b429 := Nat.le_trans Z0 (Nat.le_of_eq g429.symm)
  have F432 : Arv Z h429 b429 k429 .byte (2 : Int32) [(.int 0), (.int 0)] (.int 0) := (Arv.new A429 (by decide)).pad (pad_rep [] (.int 0) 2)
  refine own_st (T' := T429) (g' := (mkF m 3 #[.val (.ref x0), .val (.int 0), .val (.int 2), .unset, .unset, .unset] [(.ref b429)])) st429 ?_
  refine own_st (T' := T429) (g' := (mkF m 9 #[.val (.ref x0), .val (.int 0), .val (.int 2), .val (.ref b429), .unset, .unset] [(.int 2), (.int 0), (.ref b429), (.int 0), (.ref x0)])) (fun _ kt => XS.astoreN X429.here hx rfl (hb hby d6_3) rfl rfl (l' := #[.val (.ref x0), .val (.int 0), .val (.int 2), .val (.ref b429), .unset, .unset]) rfl (XS.aloadN X429.here hx rfl (hb hby d6_4) rfl rfl (XS.iloadN X429.here hx rfl (hb hby d6_5) rfl (XS.aloadN X429.here hx rfl (hb hby d6_6) rfl rfl (XS.iconst X429.here hx rfl (hb hby d6_7) (XS.iloadN X429.here hx rfl (hb hby d6_8) rfl kt)))))) ?_
  have F433 : Arv Z h429 x0 kc .char (2 : Int32) [(.int c0), (.int c1)] (.int 0) := (pr5.ext E429)
  obtain ⟨_, _, ⟨T434, L434, k434, n434⟩, -, X434, ⟨Lc434, hQ434, l434, y434, z434⟩, st434⟩ := Jvm.LawKit.callS X429 hx (y := yN1) hown (mvT hZ (own_k hw 38 rfl)) (mvT hZ (own_k hw 39 rfl)) (mvT hZ (own_k hw 36 rfl)) (mvT hZ (own_k hw 40 rfl)) (by decide) (backOf (W := 0) (own_k5_2_1 l Z a0 hw [] x0 kc b429 k429 c0 c1 h429 n0 Z431 F433 F432 ge_b429 ne430 pr8 pr9) hZ (own_k hw 40 rfl) (own_k hw 36 rfl) (by decide) (by decide)) (g := (mkF m 9 #[.val (.ref x0), .val (.int 0), .val (.int 2), .val (.ref b429), .unset, .unset] [(.int 2), (.int 0), (.ref b429), (.int 0), (.ref x0)])) rfl hml.symm  (argsL := [(.ref x0), (.int 0), (.ref b429), (.int 0), (.int 2)]) (rest := []) (lenOf own_pd13 rfl) rfl (own_w0 rfl rfl) (hb hby d6_9) (fun _ _ => ⟨rfl, e429, (by decide : 1 + 0 ≤ 2), (by decide : 2 + 0 ≤ 6)⟩)
  dsimp only [Pt.U, Pt.locs, Pt.cells, Pt.slots] at X434 l434 y434 z434 st434 hQ434
  subst l434 y434 z434
  obtain ⟨rfl, N434, K434_, P435⟩ := hQ434
  have N436 := Fr.app N0 N434
  have Z437 : n0 ≤ T434.heap.size := Nat.le_trans Z431 K434_.1
  have K437 : Keep h0 T434.heap [] := (Keep.trans K431 K434_ (allS (Or.inr (Nat.le_trans K0.1 (Nat.le_of_eq g429.symm))) all0))
  refine own_st (T' := T434) (g' := (mkF m 12 #[.val (.ref x0), .val (.int 0), .val (.int 2), .val (.ref b429), .unset, .unset] [(.int 1)])) st434 ?_
  refine own_st (T' := T434) (g' := (mkF m 23 #[.val (.ref x0), .val (.int 0), .val (.int 2), .val (.ref b429), .val (.int 1), .unset] [(.int 2), (.int 0), (.ref x0)])) (fun _ kt => XS.istore X434.here hx rfl (hb hby d6_12) rfl (l' := #[.val (.ref x0), .val (.int 0), .val (.int 2), .val (.ref b429), .val (.int 1), .unset]) rfl (XS.iload X434.here hx rfl (hb hby d6_14) rfl (XS.iloadN X434.here hx rfl (hb hby d6_16) rfl (XS.icmpNo X434.here hx rfl (hb hby d6_17) rfl (XT.ii_eq_f (by decide)) (XS.aloadN X434.here hx rfl (hb hby d6_20) rfl rfl (XS.iloadN X434.here hx rfl (hb hby d6_21) rfl (XS.iloadN X434.here hx rfl (hb hby d6_22) rfl kt))))))) ?_
  have F438 : Old Z n0 T434.heap := (Old.keep (Old.ext pr1 E429) K434_ (allS ge_b429 all0))
  have F439 : Arv Z T434.heap x0 kc .char (2 : Int32) [(.int c0), (.int c1)] (.int 0) := (Arv.keep F433 K434_ (ninS ne430 nin0))
  obtain ⟨_, _, ⟨T440, L440, k440, n440⟩, -, X440, ⟨Lc440, hQ440, l440, y440, z440⟩, st440⟩ := Jvm.LawKit.callS X434 hx (y := yN5) hown (mvT hZ (own_k hw 80 rfl)) (mvT hZ (own_k hw 81 rfl)) (mvT hZ (own_k hw 36 rfl)) (mvT hZ (own_k hw 82 rfl)) (by decide) (backOf (W := 0) (own_tb2 l Z a0 hw [] x0 kc c0 c1 T434.heap n0 Z437 F438 pr2 pr3 pr4 F439) hZ (own_k hw 82 rfl) (own_k hw 36 rfl) (by decide) (by decide)) (g := (mkF m 23 #[.val (.ref x0), .val (.int 0), .val (.int 2), .val (.ref b429), .val (.int 1), .unset] [(.int 2), (.int 0), (.ref x0)])) rfl hml.symm  (argsL := [(.ref x0), (.int 0), (.int 2)]) (rest := []) (lenOf own_pd14 rfl) rfl (own_w0 rfl rfl) (hb hby d6_23) (fun _ _ => ⟨rfl, rfl, (by decide : 1 + 1 ≤ 2), (by decide : 2 + 4 ≤ 6)⟩)
  dsimp only [Pt.U, Pt.locs, Pt.cells, Pt.slots] at X440 l440 y440 z440 st440 hQ440
  subst l440 y440 z440
  obtain ⟨b_440, kb_440, rfl, N440, K440_, P441, P442⟩ := hQ440
  have N443 := Fr.app N436 N440
  have Z444 : n0 ≤ T440.heap.size := Nat.le_trans Z437 K440_.1
  have K444 : Keep h0 T440.heap [] := (Keep.trans K437 K440_ all0)
  have ne445 : x0 ≠ b_440 := Nat.ne_of_lt (Nat.lt_of_lt_of_le F439.lt P442)
  have ne446 : b429 ≠ b_440 := Nat.ne_of_lt (Nat.lt_of_lt_of_le P435.lt P442)
  have ge447 : n0 ≤ b_440 := Nat.le_trans Z437 P442
  refine own_st (T' := T440) (g' := (mkF m 26 #[.val (.ref x0), .val (.int 0), .val (.int 2), .val (.ref b429), .val (.int 1), .unset] [(.ref b_440)])) st440 ?_
  refine own_st (T' := T440) (g' := (mkF m 32 #[.val (.ref x0), .val (.int 0), .val (.int 2), .val (.ref b429), .val (.int 1), .val (.ref b_440)] [(.int 1), (.ref b_440)])) (fun _ kt => XS.astore X440.here hx rfl (hb hby d6_26) rfl rfl (l' := #[.val (.ref x0), .val (.int 0), .val (.int 2), .val (.ref b429), .val (.int 1), .val (.ref b_440)]) rfl (XS.aload X440.here hx rfl (hb hby d6_28) rfl rfl (XS.iload X440.here hx rfl (hb hby d6_30) rfl kt))) ?_
  have F448 : Old Z n0 T440.heap := (Old.keep F438 K440_ all0)
  obtain ⟨_, _, ⟨T449, L449, k449, n449⟩, -, X449, ⟨Lc449, hQ449, l449, y449, z449⟩, st449⟩ := Jvm.LawKit.callS X440 hx (y := yN6) hown (mvT hZ (own_k hw 96 rfl)) (mvT hZ (own_k hw 97 rfl)) (mvT hZ (own_k hw 36 rfl)) (mvT hZ (own_k hw 98 rfl)) (by decide) (backOf (W := 0) (own_gc l Z a0 hw [] b_440 (1 : Int32) kb_440 (4 : Int32) [(.int (own_lo c0)), (.int (own_hi c0)), (.int (own_lo c1)), (.int (own_hi c1))] c1 T440.heap n0 Z444 F448 pr2 pr3 pr4 P441 pr7 (show own_u (4 : Int32) [(.int (own_lo c0)), (.int (own_hi c0)), (.int (own_lo c1)), (.int (own_hi c1))] (1 : Int32) c1 from ⟨by decide, rfl, by decide, rfl⟩)) hZ (own_k hw 98 rfl) (own_k hw 36 rfl) (by decide) (by decide)) (g := (mkF m 32 #[.val (.ref x0), .val (.int 0), .val (.int 2), .val (.ref b429), .val (.int 1), .val (.ref b_440)] [(.int 1), (.ref b_440)])) rfl hml.symm  (argsL := [(.ref b_440), (.int 1)]) (rest := []) (lenOf own_pd5 rfl) rfl (own_w0 rfl rfl) (hb hby d6_32) (fun _ _ => ⟨rfl, rfl, (by decide : 2 + 0 ≤ 2), (by decide : 6 + 0 ≤ 6)⟩)
  dsimp only [Pt.U, Pt.locs, Pt.cells, Pt.slots] at X449 l449 y449 z449 st449 hQ449
  subst l449 y449 z449
  obtain ⟨rfl, N449, e449⟩ := hQ449
  have N450 := Fr.app N443 N449
  refine own_st (T' := T449) (g' := (mkF m 35 #[.val (.ref x0), .val (.int 0), .val (.int 2), .val (.ref b429), .val (.int 1), .val (.ref b_440)] [(.int c1)])) st449 ?_
  refine own_st (T' := T449) (g' := (mkF m 56 #[.val (.ref x0), .val (.int 0), .val (.int 2), .val (.ref b429), .val (.int 1), .val (.ref b_440)] [(.ref b_440)])) (fun _ kt => XS.sipush X449.here hx rfl (hb hby d6_35) (XS.icmpYes X449.here hx rfl (pc0 := 38) (pc' := 54) rfl (hb hby d6_38) rfl (XT.ii_gt_t pr9) (by decide) (by decide) (XS.aload X449.here hx rfl (hb hby d6_54) rfl rfl kt))) ?_
  obtain ⟨fs, hr, hrun, hended, hW, hsame⟩ := X449.leave (v := some (.ref b_440)) (fun h => by rw [Bd.returns] at h; cases h)
  refine own_end (own_retA X449 hx Bd.returns rfl rfl rfl (hb hby d6_56) hr) ⟨_, hrun, hended, _, _, rfl, ?_, ⟨_, rfl⟩, hW, hsame.mono (by decide) (by decide)⟩
  show own_k3_2_1Q Z _ _ _ _ h0 n0 _ T449.heap _
  rw [e449]
  exact ⟨b_440, kb_440, rfl, N450, K444, P441, (Nat.le_trans K437.1 P442)⟩
def own_k5_2_2Q (Z : State) (x0 : Addr) (kc : ClassId) (d0 : Addr) (kd : ClassId) (c0 : Int32) (c1 : Int32) (h0 : Heap) (n0 : Nat) (v : Option Value) (h : Heap) (L : List Loc) : Prop := v = some (.int 2) ∧ Fr n0 L ∧ Keep h0 h [d0] ∧ (Arv Z h d0 kd .byte (2 : Int32) [(.int c0.toInt8.toInt32), (.int c1.toInt8.toInt32)] (.int 0))
abbrev own_k5_2_2R : Room := { frames := 0, cells := 0, slots := 0, locals := 0 }
theorem own_k5_2_2 (l : Launch) (Z : State) (a0 : Array Value) (hw : ∀ d ∈ tables_1, d.before a0 Z = true) (ws : List Jvm.Cond) (x0 : Addr) (kc : ClassId) (d0 : Addr) (kd : ClassId) (c0 : Int32) (c1 : Int32) (h0 : Heap) (n0 : Nat) (Z0 : n0 ≤ h0.size) (pr1 : Arv Z h0 x0 kc .char (2 : Int32) [(.int c0), (.int c1)] (.int 0)) (pr2 : Arv Z h0 d0 kd .byte (2 : Int32) [(.int 0), (.int 0)] (.int 0)) (pr3 : n0 ≤ d0) (pr4 : x0 ≠ d0) (pr5 : ¬ (255 : Int32) < c0) (pr6 : ¬ (255 : Int32) < c1) :
    own_M l yN1 jdk_52_method_21_code 7 (some .int) ws own_k5_2_2R #[(.ref x0), (.int 0), (.ref d0), (.int 0), (.int 2)] Z h0 (own_k5_2_2Q Z x0 kc d0 kd c0 c1 h0 n0) := by
  refine own_go (plainFor_of_name own_pn3) (fun m => own_ef10 m x0 (0 : Int32) d0 (0 : Int32) (2 : Int32) ) ?_
  intro p e s m below meth c s₁ Bd hx hby hml hZ hh hown hnm X0 e0
  have N0 := Fr.nil n0
  have K0 : Keep h0 h0 [d0] := Keep.refl h0 _
  refine own_st (T' := s₁) (g' := (mkF m 12 #[.val (.ref x0), .val (.int 0), .val (.ref d0), .val (.int 0), .val (.int 2), .val (.int 0), .unset] [(.int 0), (.ref x0)])) (fun _ kt => XS.iconst X0.here hx rfl (hb hby d7_0) (XS.istore X0.here hx rfl (hb hby d7_1) rfl (l' := #[.val (.ref x0), .val (.int 0), .val (.ref d0), .val (.int 0), .val (.int 2), .val (.int 0), .unset]) rfl (XS.iload X0.here hx rfl (hb hby d7_3) rfl (XS.iload X0.here hx rfl (hb hby d7_5) rfl (XS.icmpNo X0.here hx rfl (hb hby d7_7) rfl (XT.ii_ge_f (by decide)) (XS.aloadN X0.here hx rfl (hb hby d7_10) rfl rfl (XS.iloadN X0.here hx rfl (hb hby d7_11) rfl kt))))))) ?_
  refine own_st (T' := s₁) (g' := (mkF m 13 #[.val (.ref x0), .val (.int 0), .val (.ref d0), .val (.int 0), .val (.int 2), .val (.int 0), .unset] [(.int c0)])) (own_cal X0 hx hZ e0 pr1 ⟨by decide, by decide⟩ rfl (g := (mkF m 12 #[.val (.ref x0), .val (.int 0), .val (.ref d0), .val (.int 0), .val (.int 2), .val (.int 0), .unset] [(.int 0), (.ref x0)])) rfl rfl (hb hby d7_12)) ?_
  refine own_st (T' := s₁) (g' := (mkF m 31 #[.val (.ref x0), .val (.int 0), .val (.ref d0), .val (.int 0), .val (.int 2), .val (.int 0), .val (.int c0)] [(.int (c0.toInt8.toInt32)), (.int 0), (.ref d0)])) (fun _ kt => XS.istore X0.here hx rfl (hb hby d7_13) rfl (l' := #[.val (.ref x0), .val (.int 0), .val (.ref d0), .val (.int 0), .val (.int 2), .val (.int 0), .val (.int c0)]) rfl (XS.iload X0.here hx rfl (hb hby d7_15) rfl (XS.sipush X0.here hx rfl (hb hby d7_17) (XS.icmpYes X0.here hx rfl (pc0 := 20) (pc' := 26) rfl (hb hby d7_20) rfl (XT.ii_le_t pr5) (by decide) (by decide) (XS.aloadN X0.here hx rfl (hb hby d7_26) rfl rfl (XS.iloadN X0.here hx rfl (hb hby d7_27) rfl (XS.iload X0.here hx rfl (hb hby d7_28) rfl (XT.i2b X0.here hx rfl (hb hby d7_30) rfl kt)))))))) ?_
  obtain ⟨T451, h451, X451, e451, W451, V451, st451⟩ := own_bst X0 hx hZ e0 pr2 ⟨by decide, by decide⟩ (i := 0) rfl (by simp) (y := (c0.toInt8.toInt32)) (own_narb _) (g := (mkF m 31 #[.val (.ref x0), .val (.int 0), .val (.ref d0), .val (.int 0), .val (.int 2), .val (.int 0), .val (.int c0)] [(.int (c0.toInt8.toInt32)), (.int 0), (.ref d0)])) rfl rfl (hb hby d7_31)
  have N451 := Fr.snoc X451 N0 pr3
  have Z452 : n0 ≤ h451.size := Nat.le_trans Z0 (Nat.le_of_eq (Wr.size W451).symm)
  have K452 : Keep h0 h451 [d0] := (Keep.wr K0 W451 (Or.inl (List.mem_of_getElem? (i := 0) rfl)))
  have F453 : Arv Z h451 d0 kd .byte (2 : Int32) [(.int (c0.toInt8.toInt32)), (.int 0)] (.int 0) := V451
  refine own_st (T' := T451) (g' := (mkF m 32 #[.val (.ref x0), .val (.int 0), .val (.ref d0), .val (.int 0), .val (.int 2), .val (.int 0), .val (.int c0)] [])) st451 ?_
  refine own_st (T' := T451) (g' := (mkF m 12 #[.val (.ref x0), .val (.int 1), .val (.ref d0), .val (.int 1), .val (.int 2), .val (.int 1), .val (.int c0)] [(.int 1), (.ref x0)])) (fun _ kt => XS.iinc X451.here hx rfl (hb hby d7_32) rfl (l' := #[.val (.ref x0), .val (.int 1), .val (.ref d0), .val (.int 0), .val (.int 2), .val (.int 0), .val (.int c0)]) rfl (XS.iinc X451.here hx rfl (hb hby d7_35) rfl (l' := #[.val (.ref x0), .val (.int 1), .val (.ref d0), .val (.int 1), .val (.int 2), .val (.int 0), .val (.int c0)]) rfl (XS.iinc X451.here hx rfl (hb hby d7_38) rfl (l' := #[.val (.ref x0), .val (.int 1), .val (.ref d0), .val (.int 1), .val (.int 2), .val (.int 1), .val (.int c0)]) rfl (XS.goto X451.here hx rfl (pc0 := 41) (pc' := 3) rfl (hb hby d7_41) (by decide) (by decide) (XS.iload X451.here hx rfl (hb hby d7_3) rfl (XS.iload X451.here hx rfl (hb hby d7_5) rfl (XS.icmpNo X451.here hx rfl (hb hby d7_7) rfl (XT.ii_ge_f (by decide)) (XS.aloadN X451.here hx rfl (hb hby d7_10) rfl rfl (XS.iloadN X451.here hx rfl (hb hby d7_11) rfl kt))))))))) ?_
  have F454 : Arv Z h451 x0 kc .char (2 : Int32) [(.int c0), (.int c1)] (.int 0) := (Arv.other pr1 W451 pr4)
  refine own_st (T' := T451) (g' := (mkF m 13 #[.val (.ref x0), .val (.int 1), .val (.ref d0), .val (.int 1), .val (.int 2), .val (.int 1), .val (.int c0)] [(.int c1)])) (own_cal X451 hx hZ e451 F454 ⟨by decide, by decide⟩ rfl (g := (mkF m 12 #[.val (.ref x0), .val (.int 1), .val (.ref d0), .val (.int 1), .val (.int 2), .val (.int 1), .val (.int c0)] [(.int 1), (.ref x0)])) rfl rfl (hb hby d7_12)) ?_
  refine own_st (T' := T451) (g' := (mkF m 31 #[.val (.ref x0), .val (.int 1), .val (.ref d0), .val (.int 1), .val (.int 2), .val (.int 1), .val (.int c1)] [(.int (c1.toInt8.toInt32)), (.int 1), (.ref d0)])) (fun _ kt => XS.istore X451.here hx rfl (hb hby d7_13) rfl (l' := #[.val (.ref x0), .val (.int 1), .val (.ref d0), .val (.int 1), .val (.int 2), .val (.int 1), .val (.int c1)]) rfl (XS.iload X451.here hx rfl (hb hby d7_15) rfl (XS.sipush X451.here hx rfl (hb hby d7_17) (XS.icmpYes X451.here hx rfl (pc0 := 20) (pc' := 26) rfl (hb hby d7_20) rfl (XT.ii_le_t pr6) (by decide) (by decide) (XS.aloadN X451.here hx rfl (hb hby d7_26) rfl rfl (XS.iloadN X451.here hx rfl (hb hby d7_27) rfl (XS.iload X451.here hx rfl (hb hby d7_28) rfl (XT.i2b X451.here hx rfl (hb hby d7_30) rfl kt)))))))) ?_
  obtain ⟨T455, h455, X455, e455, W455, V455, st455⟩ := own_bst X451 hx hZ e451 F453 ⟨by decide, by decide⟩ (i := 1) rfl (by simp) (y := (c1.toInt8.toInt32)) (own_narb _) (g := (mkF m 31 #[.val (.ref x0), .val (.int 1), .val (.ref d0), .val (.int 1), .val (.int 2), .val (.int 1), .val (.int c1)] [(.int (c1.toInt8.toInt32)), (.int 1), (.ref d0)])) rfl rfl (hb hby d7_31)
  have N455 := Fr.snoc X455 N451 pr3
  have Z456 : n0 ≤ h455.size := Nat.le_trans Z452 (Nat.le_of_eq (Wr.size W455).symm)
  have K456 : Keep h0 h455 [d0] := (Keep.wr K452 W455 (Or.inl (List.mem_of_getElem? (i := 0) rfl)))
  have F457 : Arv Z h455 d0 kd .byte (2 : Int32) [(.int (c0.toInt8.toInt32)), (.int (c1.toInt8.toInt32))] (.int 0) := V455
  refine own_st (T' := T455) (g' := (mkF m 32 #[.val (.ref x0), .val (.int 1), .val (.ref d0), .val (.int 1), .val (.int 2), .val (.int 1), .val (.int c1)] [])) st455 ?_
  refine own_st (T' := T455) (g' := (mkF m 46 #[.val (.ref x0), .val (.int 2), .val (.ref d0), .val (.int 2), .val (.int 2), .val (.int 2), .val (.int c1)] [(.int 2)])) (fun _ kt => XS.iinc X455.here hx rfl (hb hby d7_32) rfl (l' := #[.val (.ref x0), .val (.int 2), .val (.ref d0), .val (.int 1), .val (.int 2), .val (.int 1), .val (.int c1)]) rfl (XS.iinc X455.here hx rfl (hb hby d7_35) rfl (l' := #[.val (.ref x0), .val (.int 2), .val (.ref d0), .val (.int 2), .val (.int 2), .val (.int 1), .val (.int c1)]) rfl (XS.iinc X455.here hx rfl (hb hby d7_38) rfl (l' := #[.val (.ref x0), .val (.int 2), .val (.ref d0), .val (.int 2), .val (.int 2), .val (.int 2), .val (.int c1)]) rfl (XS.goto X455.here hx rfl (pc0 := 41) (pc' := 3) rfl (hb hby d7_41) (by decide) (by decide) (XS.iload X455.here hx rfl (hb hby d7_3) rfl (XS.iload X455.here hx rfl (hb hby d7_5) rfl (XS.icmpYes X455.here hx rfl (pc0 := 7) (pc' := 44) rfl (hb hby d7_7) rfl (XT.ii_ge_t (by decide)) (by decide) (by decide) (XS.iload X455.here hx rfl (hb hby d7_44) rfl kt)))))))) ?_
  obtain ⟨fs, hr, hrun, hended, hW, hsame⟩ := X455.leave (v := some (.int 2)) (fun h => by rw [Bd.returns] at h; cases h)
  refine own_end (own_retI X455 hx Bd.returns (hb hby d7_46) hr) ⟨_, hrun, hended, _, _, rfl, ?_, ⟨_, rfl⟩, hW, hsame.mono (by decide) (by decide)⟩
  show own_k5_2_2Q Z _ _ _ _ _ _ h0 n0 _ T455.heap _
  rw [e455]
  exact ⟨rfl, N455, K456, F457⟩
def own_k3_2_2Q (Z : State) (x0 : Addr) (kc : ClassId) (c0 : Int32) (c1 : Int32) (h0 : Heap) (n0 : Nat) (v : Option Value) (h : Heap) (L : List Loc) : Prop := ∃ (b : Addr), ∃ (kb : ClassId), v = some (.ref b) ∧ Fr n0 L ∧ Keep h0 h [] ∧ (Arv Z h b kb .byte (2 : Int32) [(.int c0.toInt8.toInt32), (.int c1.toInt8.toInt32)] (.int 0)) ∧ (h0.size ≤ b)
abbrev own_k3_2_2R : Room := { frames := 1, cells := 1, slots := 2, locals := 18 }
theorem own_k3_2_2 (l : Launch) (Z : State) (a0 : Array Value) (hw : ∀ d ∈ tables_1, d.before a0 Z = true) (ws : List Jvm.Cond) (x0 : Addr) (kc : ClassId) (c0 : Int32) (c1 : Int32) (h0 : Heap) (n0 : Nat) (Z0 : n0 ≤ h0.size) (pr1 : Old Z n0 h0) (pr2 : Sta Z Z.heap "java/lang/StringUTF16" "$assertionsDisabled" "Z" (.int 1)) (pr3 : Sta Z Z.heap "java/lang/StringUTF16" "HI_BYTE_SHIFT" "I" (.int 0)) (pr4 : Sta Z Z.heap "java/lang/StringUTF16" "LO_BYTE_SHIFT" "I" (.int 8)) (pr5 : Arv Z h0 x0 kc .char (2 : Int32) [(.int c0), (.int c1)] (.int 0)) (pr6 : own_c16 c0) (pr7 : own_c16 c1) (pr8 : ¬ (255 : Int32) < c0) (pr9 : ¬ (255 : Int32) < c1) :
    own_M l yN2 jdk_52_method_16_code 6 (some (.array .byte)) ws own_k3_2_2R #[(.ref x0), (.int 0), (.int 2)] Z h0 (own_k3_2_2Q Z x0 kc c0 c1 h0 n0) := by
  refine own_go (plainFor_of_name own_pn3) (fun m => own_ef11 m x0 (0 : Int32) (2 : Int32) ) ?_
  intro p e s m below meth c s₁ Bd hx hby hml hZ hh hown hnm X0 e0
  have N0 := Fr.nil n0
  have K0 : Keep h0 h0 [] := Keep.refl h0 _
  refine own_st (T' := s₁) (g' := (mkF m 1 #[.val (.ref x0), .val (.int 0), .val (.int 2), .unset, .unset, .unset] [(.int 2)])) (fun _ kt => XS.iloadN X0.here hx rfl (hb hby d6_0) rfl kt) ?_
  obtain ⟨T458, h458, k458, X458, e458, E458, A458, st458⟩ := newP X0 hx hZ (aty := .byte) (own_k hw 17 rfl) e0 (g := (mkF m 1 #[.val (.ref x0), .val (.int 0), .val (.int 2), .unset, .unset, .unset] [(.int 2)])) rfl (hb hby d6_1) rfl (by decide) (cap := 2) (by decide) (by decide) (by decide) (by decide)
  obtain ⟨b458, g458⟩ : ∃ z, z = h0.size := ⟨_, rfl⟩
  rw [← g458] at A458 st458
  have ne459 : x0 ≠ b458 := by rw [g458]; exact Nat.ne_of_lt pr5.lt
  have Z460 : n0 ≤ h458.size := Nat.le_trans Z0 E458.1
  have K460 : Keep h0 h458 [] := (Keep.ext K0 E458)
  have ge_b458 : n0 ≤ b458 := Nat.le_trans Z0 (Nat.le_of_eq g458.symm)
  have F461 : Arv Z h458 b458 k458 .byte (2 : Int32) [(.int 0), (.int 0)] (.int 0) := (Arv.new A458 (by decide)).pad (pad_rep [] (.int 0) 2)
  refine own_st (T' := T458) (g' := (mkF m 3 #[.val (.ref x0), .val (.int 0), .val (.int 2), .unset, .unset, .unset] [(.ref b458)])) st458 ?_
  refine own_st (T' := T458) (g' := (mkF m 9 #[.val (.ref x0), .val (.int 0), .val (.int 2), .val (.ref b458), .unset, .unset] [(.int 2), (.int 0), (.ref b458), (.int 0), (.ref x0)])) (fun _ kt => XS.astoreN X458.here hx rfl (hb hby d6_3) rfl rfl (l' := #[.val (.ref x0), .val (.int 0), .val (.int 2), .val (.ref b458), .unset, .unset]) rfl (XS.aloadN X458.here hx rfl (hb hby d6_4) rfl rfl (XS.iloadN X458.here hx rfl (hb hby d6_5) rfl (XS.aloadN X458.here hx rfl (hb hby d6_6) rfl rfl (XS.iconst X458.here hx rfl (hb hby d6_7) (XS.iloadN X458.here hx rfl (hb hby d6_8) rfl kt)))))) ?_
  have F462 : Arv Z h458 x0 kc .char (2 : Int32) [(.int c0), (.int c1)] (.int 0) := (pr5.ext E458)
  obtain ⟨_, _, ⟨T463, L463, k463, n463⟩, -, X463, ⟨Lc463, hQ463, l463, y463, z463⟩, st463⟩ := Jvm.LawKit.callS X458 hx (y := yN1) hown (mvT hZ (own_k hw 38 rfl)) (mvT hZ (own_k hw 39 rfl)) (mvT hZ (own_k hw 36 rfl)) (mvT hZ (own_k hw 40 rfl)) (by decide) (backOf (W := 0) (own_k5_2_2 l Z a0 hw [] x0 kc b458 k458 c0 c1 h458 n0 Z460 F462 F461 ge_b458 ne459 pr8 pr9) hZ (own_k hw 40 rfl) (own_k hw 36 rfl) (by decide) (by decide)) (g := (mkF m 9 #[.val (.ref x0), .val (.int 0), .val (.int 2), .val (.ref b458), .unset, .unset] [(.int 2), (.int 0), (.ref b458), (.int 0), (.ref x0)])) rfl hml.symm  (argsL := [(.ref x0), (.int 0), (.ref b458), (.int 0), (.int 2)]) (rest := []) (lenOf own_pd13 rfl) rfl (own_w0 rfl rfl) (hb hby d6_9) (fun _ _ => ⟨rfl, e458, (by decide : 1 + 0 ≤ 1), (by decide : 2 + 0 ≤ 2)⟩)
  dsimp only [Pt.U, Pt.locs, Pt.cells, Pt.slots] at X463 l463 y463 z463 st463 hQ463
  subst l463 y463 z463
  obtain ⟨rfl, N463, K463_, P464⟩ := hQ463
  have N465 := Fr.app N0 N463
  have Z466 : n0 ≤ T463.heap.size := Nat.le_trans Z460 K463_.1
  have K466 : Keep h0 T463.heap [] := (Keep.trans K460 K463_ (allS (Or.inr (Nat.le_trans K0.1 (Nat.le_of_eq g458.symm))) all0))
  refine own_st (T' := T463) (g' := (mkF m 12 #[.val (.ref x0), .val (.int 0), .val (.int 2), .val (.ref b458), .unset, .unset] [(.int 2)])) st463 ?_
  refine own_st (T' := T463) (g' := (mkF m 58 #[.val (.ref x0), .val (.int 0), .val (.int 2), .val (.ref b458), .val (.int 2), .unset] [(.ref b458)])) (fun _ kt => XS.istore X463.here hx rfl (hb hby d6_12) rfl (l' := #[.val (.ref x0), .val (.int 0), .val (.int 2), .val (.ref b458), .val (.int 2), .unset]) rfl (XS.iload X463.here hx rfl (hb hby d6_14) rfl (XS.iloadN X463.here hx rfl (hb hby d6_16) rfl (XS.icmpYes X463.here hx rfl (pc0 := 17) (pc' := 57) rfl (hb hby d6_17) rfl (XT.ii_eq_t (by decide)) (by decide) (by decide) (XS.aloadN X463.here hx rfl (hb hby d6_57) rfl rfl kt))))) ?_
  obtain ⟨fs, hr, hrun, hended, hW, hsame⟩ := X463.leave (v := some (.ref b458)) (fun h => by rw [Bd.returns] at h; cases h)
  refine own_end (own_retA X463 hx Bd.returns rfl rfl rfl (hb hby d6_58) hr) ⟨_, hrun, hended, _, _, rfl, ?_, ⟨_, rfl⟩, hW, hsame.mono (by decide) (by decide)⟩
  show own_k3_2_2Q Z _ _ _ _ h0 n0 _ T463.heap _
  show own_k3_2_2Q Z _ _ _ _ h0 n0 _ T463.heap _
  exact ⟨b458, k458, rfl, N465, K466, P464, (Nat.le_trans K0.1 (Nat.le_of_eq g458.symm))⟩
def own_n4_2Q (Z : State) (x0 : Addr) (b0 : Addr) (zc : Int32) (kc : ClassId) (c0 : Int32) (c1 : Int32) (h0 : Heap) (n0 : Nat) (v : Option Value) (h : Heap) (L : List Loc) : Prop := ∃ (t : Addr), ∃ (kb : ClassId), ∃ (cd : Int32), ∃ (zz : Int32), ∃ (vl : List Value), v = none ∧ Fr n0 L ∧ Keep h0 h [x0] ∧ (Exa Z h x0 "java/lang/String") ∧ (Fld Z h x0 "java/lang/String" "coder" "B" (.int cd)) ∧ (Fld Z h x0 "java/lang/String" "value" "[B" (.ref t)) ∧ (Arv Z h t kb .byte zz vl (.int 0)) ∧ (h0.size ≤ t) ∧ ((cd = 0 ∧ zz = 2 ∧ vl = [(.int c0.toInt8.toInt32), (.int c1.toInt8.toInt32)] ∧ ¬ (255 : Int32) < c0 ∧ ¬ (255 : Int32) < c1) ∨ (cd = 1 ∧ zz = 4 ∧ vl = [(.int (own_lo c0)), (.int (own_hi c0)), (.int (own_lo c1)), (.int (own_hi c1))]))
abbrev own_n4_2R : Room := { frames := 4, cells := 3, slots := 6, locals := 110 }
theorem own_n4_2 (l : Launch) (Z : State) (a0 : Array Value) (hw : ∀ d ∈ tables_1, d.before a0 Z = true) (ws : List Jvm.Cond) (x0 : Addr) (b0 : Addr) (zc : Int32) (kc : ClassId) (c0 : Int32) (c1 : Int32) (h0 : Heap) (n0 : Nat) (Z0 : n0 ≤ h0.size) (pr1 : Old Z n0 h0) (pr2 : Sta Z Z.heap "java/lang/String" "COMPACT_STRINGS" "Z" (.int zc)) (pr3 : ¬ zc = 0) (pr4 : Sta Z Z.heap "java/lang/StringUTF16" "$assertionsDisabled" "Z" (.int 1)) (pr5 : Sta Z Z.heap "java/lang/StringUTF16" "HI_BYTE_SHIFT" "I" (.int 0)) (pr6 : Sta Z Z.heap "java/lang/StringUTF16" "LO_BYTE_SHIFT" "I" (.int 8)) (pr7 : Exa Z h0 x0 "java/lang/String") (pr8 : n0 ≤ x0) (pr9 : Fld Z h0 x0 "java/lang/String" "value" "[B" .null) (pr10 : Fld Z h0 x0 "java/lang/String" "coder" "B" (.int 0)) (pr11 : Arv Z h0 b0 kc .char (2 : Int32) [(.int c0), (.int c1)] (.int 0)) (pr12 : own_c16 c0) (pr13 : own_c16 c1) :
    own_M l yN11 jdk_42_method_149_code 6 none ws own_n4_2R #[(.ref x0), (.ref b0), (.int 0), (.int 2), .null] Z h0 (own_n4_2Q Z x0 b0 zc kc c0 c1 h0 n0) := by
  refine own_go (plainFor_of_name own_pn2) (fun m => own_ef12 m x0 b0 (0 : Int32) (2 : Int32) ) ?_
  intro p e s m below meth c s₁ Bd hx hby hml hZ hh hown hnm X0 e0
  have N0 := Fr.nil n0
  have K0 : Keep h0 h0 [x0] := Keep.refl h0 _
  refine own_st (T' := s₁) (g' := (mkF m 1 #[.val (.ref x0), .val (.ref b0), .val (.int 0), .val (.int 2), .val .null, .unset] [(.ref x0)])) (fun _ kt => XS.aloadN X0.here hx rfl (hb hby d2_0) rfl rfl kt) ?_
  obtain ⟨T467, X467, e467, st467⟩ := initO X0 hx hZ hown (own_k hw 13 rfl) (own_k hw 14 rfl) (own_k hw 15 rfl) e0 (g := (mkF m 1 #[.val (.ref x0), .val (.ref b0), .val (.int 0), .val (.int 2), .val .null, .unset] [(.ref x0)])) rfl hml.symm rfl (hb hby d2_1) (by decide) (W := 0) (own_w0 rfl rfl) (by decide)
  refine own_st (T' := T467) (g' := (mkF m 4 #[.val (.ref x0), .val (.ref b0), .val (.int 0), .val (.int 2), .val .null, .unset] [])) st467 ?_
  refine own_st (T' := T467) (g' := (mkF m 27 #[.val (.ref x0), .val (.ref b0), .val (.int 0), .val (.int 2), .val .null, .unset] [])) (fun _ kt => XS.iloadN X467.here hx rfl (hb hby d2_4) rfl (XS.ifYes X467.here hx rfl (pc0 := 5) (pc' := 27) rfl (hb hby d2_5) rfl (XT.i0_ne_t (by decide)) (by decide) (by decide) kt)) ?_
  obtain ⟨T468, X468, e468, st468⟩ := getS2 X467 hx hZ hown (host := "") (Or.inl (own_k hw 33 rfl)) Via.refl e467 (Sta.ext pr1.2 pr2) (g := (mkF m 27 #[.val (.ref x0), .val (.ref b0), .val (.int 0), .val (.int 2), .val .null, .unset] [])) rfl (hb hby d2_27)
  refine own_st (T' := T468) (g' := (mkF m 30 #[.val (.ref x0), .val (.ref b0), .val (.int 0), .val (.int 2), .val .null, .unset] [(.int zc)])) st468 ?_
  refine own_st (T' := T468) (g' := (mkF m 36 #[.val (.ref x0), .val (.ref b0), .val (.int 0), .val (.int 2), .val .null, .unset] [(.int 2), (.int 0), (.ref b0)])) (fun _ kt => XS.ifNo X468.here hx rfl (hb hby d2_30) rfl (XT.i0_eq_f pr3) (XS.aloadN X468.here hx rfl (hb hby d2_33) rfl rfl (XS.iloadN X468.here hx rfl (hb hby d2_34) rfl (XS.iloadN X468.here hx rfl (hb hby d2_35) rfl kt)))) ?_
  by_cases hf469 : (255 : Int32) < c0
  ·
    obtain ⟨_, _, ⟨T470, L470, k470, n470⟩, -, X470, ⟨Lc470, hQ470, l470, y470, z470⟩, st470⟩ := Jvm.LawKit.callS X468 hx (y := yN2) hown (mvT hZ (own_k hw 34 rfl)) (mvT hZ (own_k hw 35 rfl)) (mvT hZ (own_k hw 36 rfl)) (mvT hZ (own_k hw 37 rfl)) (by decide) (backOf (W := 0) (own_k3_2_0 l Z a0 hw [] b0 kc c0 c1 h0 n0 Z0 pr1 pr4 pr5 pr6 pr11 pr12 pr13 hf469) hZ (own_k hw 37 rfl) (own_k hw 36 rfl) (by decide) (by decide)) (g := (mkF m 36 #[.val (.ref x0), .val (.ref b0), .val (.int 0), .val (.int 2), .val .null, .unset] [(.int 2), (.int 0), (.ref b0)])) rfl hml.symm  (argsL := [(.ref b0), (.int 0), (.int 2)]) (rest := []) (lenOf own_pd14 rfl) rfl (own_w0 rfl rfl) (hb hby d2_36) (fun _ _ => ⟨rfl, e468, (by decide : 0 + 2 ≤ 3), (by decide : 0 + 6 ≤ 6)⟩)
    dsimp only [Pt.U, Pt.locs, Pt.cells, Pt.slots] at X470 l470 y470 z470 st470 hQ470
    subst l470 y470 z470
    obtain ⟨b_470, kb_470, rfl, N470, K470_, P471, P472⟩ := hQ470
    have N473 := Fr.app N0 N470
    have Z474 : n0 ≤ T470.heap.size := Nat.le_trans Z0 K470_.1
    have K474 : Keep h0 T470.heap [x0] := (Keep.trans K0 K470_ all0)
    have ne475 : x0 ≠ b_470 := Nat.ne_of_lt (Nat.lt_of_lt_of_le pr7.lt P472)
    have ne476 : b0 ≠ b_470 := Nat.ne_of_lt (Nat.lt_of_lt_of_le pr11.lt P472)
    have ge477 : n0 ≤ b_470 := Nat.le_trans Z0 P472
    refine own_st (T' := T470) (g' := (mkF m 39 #[.val (.ref x0), .val (.ref b0), .val (.int 0), .val (.int 2), .val .null, .unset] [(.ref b_470)])) st470 ?_
    refine own_st (T' := T470) (g' := (mkF m 45 #[.val (.ref x0), .val (.ref b0), .val (.int 0), .val (.int 2), .val .null, .val (.ref b_470)] [(.int 2), (.ref b_470), (.ref x0)])) (fun _ kt => XS.astore X470.here hx rfl (hb hby d2_39) rfl rfl (l' := #[.val (.ref x0), .val (.ref b0), .val (.int 0), .val (.int 2), .val .null, .val (.ref b_470)]) rfl (XS.aloadN X470.here hx rfl (hb hby d2_41) rfl rfl (XS.aload X470.here hx rfl (hb hby d2_42) rfl rfl (XS.iloadN X470.here hx rfl (hb hby d2_44) rfl kt)))) ?_
    obtain ⟨_, _, ⟨T478, L478, k478, n478⟩, -, X478, ⟨Lc478, hQ478, l478, y478, z478⟩, st478⟩ := Jvm.LawKit.callS X470 hx (y := yN3) hown (mvT hZ (own_k hw 41 rfl)) (mvT hZ (own_k hw 42 rfl)) (mvT hZ (own_k hw 36 rfl)) (mvT hZ (own_k hw 43 rfl)) (by decide) (backOf (W := 1) (own_cf2_1 l Z a0 hw [] b_470 kb_470 [(.int (own_lo c0)), (.int (own_hi c0)), (.int (own_lo c1)), (.int (own_hi c1))] T470.heap n0 Z474 P471) hZ (own_k hw 43 rfl) (own_k hw 36 rfl) (by decide) (by decide)) (g := (mkF m 45 #[.val (.ref x0), .val (.ref b0), .val (.int 0), .val (.int 2), .val .null, .val (.ref b_470)] [(.int 2), (.ref b_470), (.ref x0)])) rfl hml.symm  (argsL := [(.ref b_470), (.int 2)]) (rest := [(.ref x0)]) (lenOf own_pd15 rfl) rfl (own_w0 rfl rfl) (hb hby d2_45) (fun _ _ => ⟨rfl, rfl, (by decide : 2 + 0 ≤ 3), (by decide : 6 + 0 ≤ 6)⟩)
    dsimp only [Pt.U, Pt.locs, Pt.cells, Pt.slots] at X478 l478 y478 z478 st478 hQ478
    subst l478 y478 z478
    obtain ⟨rfl, N478, e478⟩ := hQ478
    have N479 := Fr.app N473 N478
    refine own_st (T' := T478) (g' := (mkF m 48 #[.val (.ref x0), .val (.ref b0), .val (.int 0), .val (.int 2), .val .null, .val (.ref b_470)] [(.int 1), (.ref x0)])) st478 ?_
    have F480 : Fld Z T470.heap x0 "java/lang/String" "coder" "B" (.int 0) := (Fld.keep pr10 K470_ nin0)
    have F481 : Exa Z T470.heap x0 "java/lang/String" := (Exa.keep pr7 K470_)
    obtain ⟨T482, h482, X482, e482, W482, st482⟩ := putF X478 hx hZ hown (host := "") (Or.inl (own_k hw 23 rfl)) Via.refl e478 F480 F481 (Or.inr ⟨(own_k hw 19 rfl), rfl, hnm⟩) (own_k hw 3 rfl) (ty := .byte) (by decide) rfl rfl (g := (mkF m 48 #[.val (.ref x0), .val (.ref b0), .val (.int 0), .val (.int 2), .val .null, .val (.ref b_470)] [(.int 1), (.ref x0)])) rfl rfl (hb hby d2_48)
    have N482 := Fr.snoc X482 N479 pr8
    have Z483 : n0 ≤ h482.size := Nat.le_trans Z474 (Nat.le_of_eq (Wr.size W482).symm)
    have K483 : Keep h0 h482 [x0] := (Keep.wr K474 W482 (Or.inl (List.mem_of_getElem? (i := 0) rfl)))
    have F484 : Fld Z h482 x0 "java/lang/String" "coder" "B" (.int 1) := Fld.same W482 F480
    refine own_st (T' := T482) (g' := (mkF m 51 #[.val (.ref x0), .val (.ref b0), .val (.int 0), .val (.int 2), .val .null, .val (.ref b_470)] [])) st482 ?_
    refine own_st (T' := T482) (g' := (mkF m 54 #[.val (.ref x0), .val (.ref b0), .val (.int 0), .val (.int 2), .val .null, .val (.ref b_470)] [(.ref b_470), (.ref x0)])) (fun _ kt => XS.aloadN X482.here hx rfl (hb hby d2_51) rfl rfl (XS.aload X482.here hx rfl (hb hby d2_52) rfl rfl kt)) ?_
    have F485 : Fld Z h482 x0 "java/lang/String" "value" "[B" .null := (Fld.other W482 (Fld.keep pr9 K470_ nin0) (Or.inr (slot_ne (Or.inr (own_k hw 18 rfl)) (Or.inr (own_k hw 19 rfl)) (by decide) (t := (.array .byte)) (t' := .byte) (by decide) (by decide))))
    have F486 : Exa Z h482 x0 "java/lang/String" := (Exa.wr W482 F481)
    obtain ⟨T487, h487, X487, e487, W487, st487⟩ := putF X482 hx hZ hown (host := "") (Or.inl (own_k hw 22 rfl)) Via.refl e482 F485 F486 (Or.inr ⟨(own_k hw 18 rfl), rfl, hnm⟩) (own_k hw 3 rfl) (ty := (.array .byte)) (by decide) rfl rfl (g := (mkF m 54 #[.val (.ref x0), .val (.ref b0), .val (.int 0), .val (.int 2), .val .null, .val (.ref b_470)] [(.ref b_470), (.ref x0)])) rfl rfl (hb hby d2_54)
    have N487 := Fr.snoc X487 N482 pr8
    have Z488 : n0 ≤ h487.size := Nat.le_trans Z483 (Nat.le_of_eq (Wr.size W487).symm)
    have K488 : Keep h0 h487 [x0] := (Keep.wr K483 W487 (Or.inl (List.mem_of_getElem? (i := 0) rfl)))
    have F489 : Fld Z h487 x0 "java/lang/String" "value" "[B" (.ref b_470) := Fld.same W487 F485
    refine own_st (T' := T487) (g' := (mkF m 57 #[.val (.ref x0), .val (.ref b0), .val (.int 0), .val (.int 2), .val .null, .val (.ref b_470)] [])) st487 ?_
    obtain ⟨fs, hr, hrun, hended, hW, hsame⟩ := X487.leave (v := none) (fun _ => rfl)
    refine own_end (X487.returnOut hx Bd.returns (hb hby d2_57) hr) ⟨_, hrun, hended, _, _, rfl, ?_, ⟨_, rfl⟩, hW, hsame.mono (by decide) (by decide)⟩
    have F490 : Arv Z h487 b_470 kb_470 .byte (4 : Int32) [(.int (own_lo c0)), (.int (own_hi c0)), (.int (own_lo c1)), (.int (own_hi c1))] (.int 0) := (Arv.other (Arv.other P471 W482 (Ne.symm ne475)) W487 (Ne.symm ne475))
    have F491 : Fld Z h487 x0 "java/lang/String" "coder" "B" (.int 1) := (Fld.other W487 F484 (Or.inr (slot_ne (Or.inr (own_k hw 19 rfl)) (Or.inr (own_k hw 18 rfl)) (by decide) (t := .byte) (t' := (.array .byte)) (by decide) (by decide))))
    have F492 : Exa Z h487 x0 "java/lang/String" := (Exa.wr W487 F486)
    show own_n4_2Q Z _ _ _ _ _ _ h0 n0 _ T487.heap _
    rw [e487]
    exact ⟨b_470, kb_470, (1 : Int32), (4 : Int32), [(.int (own_lo c0)), (.int (own_hi c0)), (.int (own_lo c1)), (.int (own_hi c1))], rfl, N487, K488, F492, F491, F489, F490, (Nat.le_trans K0.1 P472), (Or.inr ⟨rfl, rfl, rfl⟩)⟩
  ·
    by_cases hf493 : (255 : Int32) < c1
    ·
      obtain ⟨_, _, ⟨T494, L494, k494, n494⟩, -, X494, ⟨Lc494, hQ494, l494, y494, z494⟩, st494⟩ := Jvm.LawKit.callS X468 hx (y := yN2) hown (mvT hZ (own_k hw 34 rfl)) (mvT hZ (own_k hw 35 rfl)) (mvT hZ (own_k hw 36 rfl)) (mvT hZ (own_k hw 37 rfl)) (by decide) (backOf (W := 0) (own_k3_2_1 l Z a0 hw [] b0 kc c0 c1 h0 n0 Z0 pr1 pr4 pr5 pr6 pr11 pr12 pr13 hf469 hf493) hZ (own_k hw 37 rfl) (own_k hw 36 rfl) (by decide) (by decide)) (g := (mkF m 36 #[.val (.ref x0), .val (.ref b0), .val (.int 0), .val (.int 2), .val .null, .unset] [(.int 2), (.int 0), (.ref b0)])) rfl hml.symm  (argsL := [(.ref b0), (.int 0), (.int 2)]) (rest := []) (lenOf own_pd14 rfl) rfl (own_w0 rfl rfl) (hb hby d2_36) (fun _ _ => ⟨rfl, e468, (by decide : 0 + 2 ≤ 3), (by decide : 0 + 6 ≤ 6)⟩)
      dsimp only [Pt.U, Pt.locs, Pt.cells, Pt.slots] at X494 l494 y494 z494 st494 hQ494
      subst l494 y494 z494
      obtain ⟨b_494, kb_494, rfl, N494, K494_, P495, P496⟩ := hQ494
      have N497 := Fr.app N0 N494
      have Z498 : n0 ≤ T494.heap.size := Nat.le_trans Z0 K494_.1
      have K498 : Keep h0 T494.heap [x0] := (Keep.trans K0 K494_ all0)
      have ne499 : x0 ≠ b_494 := Nat.ne_of_lt (Nat.lt_of_lt_of_le pr7.lt P496)
      have ne500 : b0 ≠ b_494 := Nat.ne_of_lt (Nat.lt_of_lt_of_le pr11.lt P496)
      have ge501 : n0 ≤ b_494 := Nat.le_trans Z0 P496
      refine own_st (T' := T494) (g' := (mkF m 39 #[.val (.ref x0), .val (.ref b0), .val (.int 0), .val (.int 2), .val .null, .unset] [(.ref b_494)])) st494 ?_
      refine own_st (T' := T494) (g' := (mkF m 45 #[.val (.ref x0), .val (.ref b0), .val (.int 0), .val (.int 2), .val .null, .val (.ref b_494)] [(.int 2), (.ref b_494), (.ref x0)])) (fun _ kt => XS.astore X494.here hx rfl (hb hby d2_39) rfl rfl (l' := #[.val (.ref x0), .val (.ref b0), .val (.int 0), .val (.int 2), .val .null, .val (.ref b_494)]) rfl (XS.aloadN X494.here hx rfl (hb hby d2_41) rfl rfl (XS.aload X494.here hx rfl (hb hby d2_42) rfl rfl (XS.iloadN X494.here hx rfl (hb hby d2_44) rfl kt)))) ?_
      obtain ⟨_, _, ⟨T502, L502, k502, n502⟩, -, X502, ⟨Lc502, hQ502, l502, y502, z502⟩, st502⟩ := Jvm.LawKit.callS X494 hx (y := yN3) hown (mvT hZ (own_k hw 41 rfl)) (mvT hZ (own_k hw 42 rfl)) (mvT hZ (own_k hw 36 rfl)) (mvT hZ (own_k hw 43 rfl)) (by decide) (backOf (W := 1) (own_cf2_1 l Z a0 hw [] b_494 kb_494 [(.int (own_lo c0)), (.int (own_hi c0)), (.int (own_lo c1)), (.int (own_hi c1))] T494.heap n0 Z498 P495) hZ (own_k hw 43 rfl) (own_k hw 36 rfl) (by decide) (by decide)) (g := (mkF m 45 #[.val (.ref x0), .val (.ref b0), .val (.int 0), .val (.int 2), .val .null, .val (.ref b_494)] [(.int 2), (.ref b_494), (.ref x0)])) rfl hml.symm  (argsL := [(.ref b_494), (.int 2)]) (rest := [(.ref x0)]) (lenOf own_pd15 rfl) rfl (own_w0 rfl rfl) (hb hby d2_45) (fun _ _ => ⟨rfl, rfl, (by decide : 2 + 0 ≤ 3), (by decide : 6 + 0 ≤ 6)⟩)
      dsimp only [Pt.U, Pt.locs, Pt.cells, Pt.slots] at X502 l502 y502 z502 st502 hQ502
      subst l502 y502 z502
      obtain ⟨rfl, N502, e502⟩ := hQ502
      have N503 := Fr.app N497 N502
      refine own_st (T' := T502) (g' := (mkF m 48 #[.val (.ref x0), .val (.ref b0), .val (.int 0), .val (.int 2), .val .null, .val (.ref b_494)] [(.int 1), (.ref x0)])) st502 ?_
      have F504 : Fld Z T494.heap x0 "java/lang/String" "coder" "B" (.int 0) := (Fld.keep pr10 K494_ nin0)
      have F505 : Exa Z T494.heap x0 "java/lang/String" := (Exa.keep pr7 K494_)
      obtain ⟨T506, h506, X506, e506, W506, st506⟩ := putF X502 hx hZ hown (host := "") (Or.inl (own_k hw 23 rfl)) Via.refl e502 F504 F505 (Or.inr ⟨(own_k hw 19 rfl), rfl, hnm⟩) (own_k hw 3 rfl) (ty := .byte) (by decide) rfl rfl (g := (mkF m 48 #[.val (.ref x0), .val (.ref b0), .val (.int 0), .val (.int 2), .val .null, .val (.ref b_494)] [(.int 1), (.ref x0)])) rfl rfl (hb hby d2_48)
      have N506 := Fr.snoc X506 N503 pr8
      have Z507 : n0 ≤ h506.size := Nat.le_trans Z498 (Nat.le_of_eq (Wr.size W506).symm)
      have K507 : Keep h0 h506 [x0] := (Keep.wr K498 W506 (Or.inl (List.mem_of_getElem? (i := 0) rfl)))
      have F508 : Fld Z h506 x0 "java/lang/String" "coder" "B" (.int 1) := Fld.same W506 F504
      refine own_st (T' := T506) (g' := (mkF m 51 #[.val (.ref x0), .val (.ref b0), .val (.int 0), .val (.int 2), .val .null, .val (.ref b_494)] [])) st506 ?_
      refine own_st (T' := T506) (g' := (mkF m 54 #[.val (.ref x0), .val (.ref b0), .val (.int 0), .val (.int 2), .val .null, .val (.ref b_494)] [(.ref b_494), (.ref x0)])) (fun _ kt => XS.aloadN X506.here hx rfl (hb hby d2_51) rfl rfl (XS.aload X506.here hx rfl (hb hby d2_52) rfl rfl kt)) ?_
      have F509 : Fld Z h506 x0 "java/lang/String" "value" "[B" .null := (Fld.other W506 (Fld.keep pr9 K494_ nin0) (Or.inr (slot_ne (Or.inr (own_k hw 18 rfl)) (Or.inr (own_k hw 19 rfl)) (by decide) (t := (.array .byte)) (t' := .byte) (by decide) (by decide))))
      have F510 : Exa Z h506 x0 "java/lang/String" := (Exa.wr W506 F505)
      obtain ⟨T511, h511, X511, e511, W511, st511⟩ := putF X506 hx hZ hown (host := "") (Or.inl (own_k hw 22 rfl)) Via.refl e506 F509 F510 (Or.inr ⟨(own_k hw 18 rfl), rfl, hnm⟩) (own_k hw 3 rfl) (ty := (.array .byte)) (by decide) rfl rfl (g := (mkF m 54 #[.val (.ref x0), .val (.ref b0), .val (.int 0), .val (.int 2), .val .null, .val (.ref b_494)] [(.ref b_494), (.ref x0)])) rfl rfl (hb hby d2_54)
      have N511 := Fr.snoc X511 N506 pr8
      have Z512 : n0 ≤ h511.size := Nat.le_trans Z507 (Nat.le_of_eq (Wr.size W511).symm)
      have K512 : Keep h0 h511 [x0] := (Keep.wr K507 W511 (Or.inl (List.mem_of_getElem? (i := 0) rfl)))
      have F513 : Fld Z h511 x0 "java/lang/String" "value" "[B" (.ref b_494) := Fld.same W511 F509
      refine own_st (T' := T511) (g' := (mkF m 57 #[.val (.ref x0), .val (.ref b0), .val (.int 0), .val (.int 2), .val .null, .val (.ref b_494)] [])) st511 ?_
      obtain ⟨fs, hr, hrun, hended, hW, hsame⟩ := X511.leave (v := none) (fun _ => rfl)
      refine own_end (X511.returnOut hx Bd.returns (hb hby d2_57) hr) ⟨_, hrun, hended, _, _, rfl, ?_, ⟨_, rfl⟩, hW, hsame.mono (by decide) (by decide)⟩
      have F514 : Arv Z h511 b_494 kb_494 .byte (4 : Int32) [(.int (own_lo c0)), (.int (own_hi c0)), (.int (own_lo c1)), (.int (own_hi c1))] (.int 0) := (Arv.other (Arv.other P495 W506 (Ne.symm ne499)) W511 (Ne.symm ne499))
      have F515 : Fld Z h511 x0 "java/lang/String" "coder" "B" (.int 1) := (Fld.other W511 F508 (Or.inr (slot_ne (Or.inr (own_k hw 19 rfl)) (Or.inr (own_k hw 18 rfl)) (by decide) (t := .byte) (t' := (.array .byte)) (by decide) (by decide))))
      have F516 : Exa Z h511 x0 "java/lang/String" := (Exa.wr W511 F510)
      show own_n4_2Q Z _ _ _ _ _ _ h0 n0 _ T511.heap _
      rw [e511]
      exact ⟨b_494, kb_494, (1 : Int32), (4 : Int32), [(.int (own_lo c0)), (.int (own_hi c0)), (.int (own_lo c1)), (.int (own_hi c1))], rfl, N511, K512, F516, F515, F513, F514, (Nat.le_trans K0.1 P496), (Or.inr ⟨rfl, rfl, rfl⟩)⟩
    ·
      obtain ⟨_, _, ⟨T517, L517, k517, n517⟩, -, X517, ⟨Lc517, hQ517, l517, y517, z517⟩, st517⟩ := Jvm.LawKit.callS X468 hx (y := yN2) hown (mvT hZ (own_k hw 34 rfl)) (mvT hZ (own_k hw 35 rfl)) (mvT hZ (own_k hw 36 rfl)) (mvT hZ (own_k hw 37 rfl)) (by decide) (backOf (W := 0) (own_k3_2_2 l Z a0 hw [] b0 kc c0 c1 h0 n0 Z0 pr1 pr4 pr5 pr6 pr11 pr12 pr13 hf469 hf493) hZ (own_k hw 37 rfl) (own_k hw 36 rfl) (by decide) (by decide)) (g := (mkF m 36 #[.val (.ref x0), .val (.ref b0), .val (.int 0), .val (.int 2), .val .null, .unset] [(.int 2), (.int 0), (.ref b0)])) rfl hml.symm  (argsL := [(.ref b0), (.int 0), (.int 2)]) (rest := []) (lenOf own_pd14 rfl) rfl (own_w0 rfl rfl) (hb hby d2_36) (fun _ _ => ⟨rfl, e468, (by decide : 0 + 1 ≤ 3), (by decide : 0 + 2 ≤ 6)⟩)
      dsimp only [Pt.U, Pt.locs, Pt.cells, Pt.slots] at X517 l517 y517 z517 st517 hQ517
      subst l517 y517 z517
      obtain ⟨b_517, kb_517, rfl, N517, K517_, P518, P519⟩ := hQ517
      have N520 := Fr.app N0 N517
      have Z521 : n0 ≤ T517.heap.size := Nat.le_trans Z0 K517_.1
      have K521 : Keep h0 T517.heap [x0] := (Keep.trans K0 K517_ all0)
      have ne522 : x0 ≠ b_517 := Nat.ne_of_lt (Nat.lt_of_lt_of_le pr7.lt P519)
      have ne523 : b0 ≠ b_517 := Nat.ne_of_lt (Nat.lt_of_lt_of_le pr11.lt P519)
      have ge524 : n0 ≤ b_517 := Nat.le_trans Z0 P519
      refine own_st (T' := T517) (g' := (mkF m 39 #[.val (.ref x0), .val (.ref b0), .val (.int 0), .val (.int 2), .val .null, .unset] [(.ref b_517)])) st517 ?_
      refine own_st (T' := T517) (g' := (mkF m 45 #[.val (.ref x0), .val (.ref b0), .val (.int 0), .val (.int 2), .val .null, .val (.ref b_517)] [(.int 2), (.ref b_517), (.ref x0)])) (fun _ kt => XS.astore X517.here hx rfl (hb hby d2_39) rfl rfl (l' := #[.val (.ref x0), .val (.ref b0), .val (.int 0), .val (.int 2), .val .null, .val (.ref b_517)]) rfl (XS.aloadN X517.here hx rfl (hb hby d2_41) rfl rfl (XS.aload X517.here hx rfl (hb hby d2_42) rfl rfl (XS.iloadN X517.here hx rfl (hb hby d2_44) rfl kt)))) ?_
      obtain ⟨_, _, ⟨T525, L525, k525, n525⟩, -, X525, ⟨Lc525, hQ525, l525, y525, z525⟩, st525⟩ := Jvm.LawKit.callS X517 hx (y := yN3) hown (mvT hZ (own_k hw 41 rfl)) (mvT hZ (own_k hw 42 rfl)) (mvT hZ (own_k hw 36 rfl)) (mvT hZ (own_k hw 43 rfl)) (by decide) (backOf (W := 1) (own_cf2_0 l Z a0 hw [] b_517 kb_517 [(.int c0.toInt8.toInt32), (.int c1.toInt8.toInt32)] T517.heap n0 Z521 P518) hZ (own_k hw 43 rfl) (own_k hw 36 rfl) (by decide) (by decide)) (g := (mkF m 45 #[.val (.ref x0), .val (.ref b0), .val (.int 0), .val (.int 2), .val .null, .val (.ref b_517)] [(.int 2), (.ref b_517), (.ref x0)])) rfl hml.symm  (argsL := [(.ref b_517), (.int 2)]) (rest := [(.ref x0)]) (lenOf own_pd15 rfl) rfl (own_w0 rfl rfl) (hb hby d2_45) (fun _ _ => ⟨rfl, rfl, (by decide : 1 + 0 ≤ 3), (by decide : 2 + 0 ≤ 6)⟩)
      dsimp only [Pt.U, Pt.locs, Pt.cells, Pt.slots] at X525 l525 y525 z525 st525 hQ525
      subst l525 y525 z525
      obtain ⟨rfl, N525, e525⟩ := hQ525
      have N526 := Fr.app N520 N525
      refine own_st (T' := T525) (g' := (mkF m 48 #[.val (.ref x0), .val (.ref b0), .val (.int 0), .val (.int 2), .val .null, .val (.ref b_517)] [(.int 0), (.ref x0)])) st525 ?_
      have F527 : Fld Z T517.heap x0 "java/lang/String" "coder" "B" (.int 0) := (Fld.keep pr10 K517_ nin0)
      have F528 : Exa Z T517.heap x0 "java/lang/String" := (Exa.keep pr7 K517_)
      obtain ⟨T529, h529, X529, e529, W529, st529⟩ := putF X525 hx hZ hown (host := "") (Or.inl (own_k hw 23 rfl)) Via.refl e525 F527 F528 (Or.inr ⟨(own_k hw 19 rfl), rfl, hnm⟩) (own_k hw 3 rfl) (ty := .byte) (by decide) rfl rfl (g := (mkF m 48 #[.val (.ref x0), .val (.ref b0), .val (.int 0), .val (.int 2), .val .null, .val (.ref b_517)] [(.int 0), (.ref x0)])) rfl rfl (hb hby d2_48)
      have N529 := Fr.snoc X529 N526 pr8
      have Z530 : n0 ≤ h529.size := Nat.le_trans Z521 (Nat.le_of_eq (Wr.size W529).symm)
      have K530 : Keep h0 h529 [x0] := (Keep.wr K521 W529 (Or.inl (List.mem_of_getElem? (i := 0) rfl)))
      have F531 : Fld Z h529 x0 "java/lang/String" "coder" "B" (.int 0) := Fld.same W529 F527
      refine own_st (T' := T529) (g' := (mkF m 51 #[.val (.ref x0), .val (.ref b0), .val (.int 0), .val (.int 2), .val .null, .val (.ref b_517)] [])) st529 ?_
      refine own_st (T' := T529) (g' := (mkF m 54 #[.val (.ref x0), .val (.ref b0), .val (.int 0), .val (.int 2), .val .null, .val (.ref b_517)] [(.ref b_517), (.ref x0)])) (fun _ kt => XS.aloadN X529.here hx rfl (hb hby d2_51) rfl rfl (XS.aload X529.here hx rfl (hb hby d2_52) rfl rfl kt)) ?_
      have F532 : Fld Z h529 x0 "java/lang/String" "value" "[B" .null := (Fld.other W529 (Fld.keep pr9 K517_ nin0) (Or.inr (slot_ne (Or.inr (own_k hw 18 rfl)) (Or.inr (own_k hw 19 rfl)) (by decide) (t := (.array .byte)) (t' := .byte) (by decide) (by decide))))
      have F533 : Exa Z h529 x0 "java/lang/String" := (Exa.wr W529 F528)
      obtain ⟨T534, h534, X534, e534, W534, st534⟩ := putF X529 hx hZ hown (host := "") (Or.inl (own_k hw 22 rfl)) Via.refl e529 F532 F533 (Or.inr ⟨(own_k hw 18 rfl), rfl, hnm⟩) (own_k hw 3 rfl) (ty := (.array .byte)) (by decide) rfl rfl (g := (mkF m 54 #[.val (.ref x0), .val (.ref b0), .val (.int 0), .val (.int 2), .val .null, .val (.ref b_517)] [(.ref b_517), (.ref x0)])) rfl rfl (hb hby d2_54)
      have N534 := Fr.snoc X534 N529 pr8
      have Z535 : n0 ≤ h534.size := Nat.le_trans Z530 (Nat.le_of_eq (Wr.size W534).symm)
      have K535 : Keep h0 h534 [x0] := (Keep.wr K530 W534 (Or.inl (List.mem_of_getElem? (i := 0) rfl)))
      have F536 : Fld Z h534 x0 "java/lang/String" "value" "[B" (.ref b_517) := Fld.same W534 F532
      refine own_st (T' := T534) (g' := (mkF m 57 #[.val (.ref x0), .val (.ref b0), .val (.int 0), .val (.int 2), .val .null, .val (.ref b_517)] [])) st534 ?_
      obtain ⟨fs, hr, hrun, hended, hW, hsame⟩ := X534.leave (v := none) (fun _ => rfl)
      refine own_end (X534.returnOut hx Bd.returns (hb hby d2_57) hr) ⟨_, hrun, hended, _, _, rfl, ?_, ⟨_, rfl⟩, hW, hsame.mono (by decide) (by decide)⟩
      have F537 : Arv Z h534 b_517 kb_517 .byte (2 : Int32) [(.int c0.toInt8.toInt32), (.int c1.toInt8.toInt32)] (.int 0) := (Arv.other (Arv.other P518 W529 (Ne.symm ne522)) W534 (Ne.symm ne522))
      have F538 : Fld Z h534 x0 "java/lang/String" "coder" "B" (.int 0) := (Fld.other W534 F531 (Or.inr (slot_ne (Or.inr (own_k hw 19 rfl)) (Or.inr (own_k hw 18 rfl)) (by decide) (t := .byte) (t' := (.array .byte)) (by decide) (by decide))))
      have F539 : Exa Z h534 x0 "java/lang/String" := (Exa.wr W534 F533)
      show own_n4_2Q Z _ _ _ _ _ _ h0 n0 _ T534.heap _
      rw [e534]
      exact ⟨b_517, kb_517, (0 : Int32), (2 : Int32), [(.int c0.toInt8.toInt32), (.int c1.toInt8.toInt32)], rfl, N534, K535, F539, F538, F536, F537, (Nat.le_trans K0.1 P519), (Or.inl ⟨rfl, rfl, rfl, hf469, hf493⟩)⟩
def own_n1_2Q (Z : State) (x0 : Addr) (b0 : Addr) (zc : Int32) (kc : ClassId) (c0 : Int32) (c1 : Int32) (h0 : Heap) (n0 : Nat) (v : Option Value) (h : Heap) (L : List Loc) : Prop := ∃ (t : Addr), ∃ (kb : ClassId), ∃ (cd : Int32), ∃ (zz : Int32), ∃ (vl : List Value), v = none ∧ Fr n0 L ∧ Keep h0 h [x0] ∧ (Exa Z h x0 "java/lang/String") ∧ (Fld Z h x0 "java/lang/String" "coder" "B" (.int cd)) ∧ (Fld Z h x0 "java/lang/String" "value" "[B" (.ref t)) ∧ (Arv Z h t kb .byte zz vl (.int 0)) ∧ (h0.size ≤ t) ∧ ((cd = 0 ∧ zz = 2 ∧ vl = [(.int c0.toInt8.toInt32), (.int c1.toInt8.toInt32)] ∧ ¬ (255 : Int32) < c0 ∧ ¬ (255 : Int32) < c1) ∨ (cd = 1 ∧ zz = 4 ∧ vl = [(.int (own_lo c0)), (.int (own_hi c0)), (.int (own_lo c1)), (.int (own_hi c1))]))
abbrev own_n1_2R : Room := { frames := 5, cells := 3, slots := 6, locals := 140 }
theorem own_n1_2 (l : Launch) (Z : State) (a0 : Array Value) (hw : ∀ d ∈ tables_1, d.before a0 Z = true) (ws : List Jvm.Cond) (x0 : Addr) (b0 : Addr) (zc : Int32) (kc : ClassId) (c0 : Int32) (c1 : Int32) (h0 : Heap) (n0 : Nat) (Z0 : n0 ≤ h0.size) (pr1 : Old Z n0 h0) (pr2 : Sta Z Z.heap "java/lang/String" "COMPACT_STRINGS" "Z" (.int zc)) (pr3 : ¬ zc = 0) (pr4 : Sta Z Z.heap "java/lang/StringUTF16" "$assertionsDisabled" "Z" (.int 1)) (pr5 : Sta Z Z.heap "java/lang/StringUTF16" "HI_BYTE_SHIFT" "I" (.int 0)) (pr6 : Sta Z Z.heap "java/lang/StringUTF16" "LO_BYTE_SHIFT" "I" (.int 8)) (pr7 : Exa Z h0 x0 "java/lang/String") (pr8 : n0 ≤ x0) (pr9 : Fld Z h0 x0 "java/lang/String" "value" "[B" .null) (pr10 : Fld Z h0 x0 "java/lang/String" "coder" "B" (.int 0)) (pr11 : Arv Z h0 b0 kc .char (2 : Int32) [(.int c0), (.int c1)] (.int 0)) (pr12 : own_c16 c0) (pr13 : own_c16 c1) :
    own_M l yN12 jdk_42_method_3_code 2 none ws own_n1_2R #[(.ref x0), (.ref b0)] Z h0 (own_n1_2Q Z x0 b0 zc kc c0 c1 h0 n0) := by
  refine own_go (plainFor_of_name own_pn2) (fun m => own_ef13 m x0 b0 ) ?_
  intro p e s m below meth c s₁ Bd hx hby hml hZ hh hown hnm X0 e0
  have N0 := Fr.nil n0
  have K0 : Keep h0 h0 [x0] := Keep.refl h0 _
  refine own_st (T' := s₁) (g' := (mkF m 4 #[.val (.ref x0), .val (.ref b0)] [(.ref b0), (.int 0), (.ref b0), (.ref x0)])) (fun _ kt => XS.aloadN X0.here hx rfl (hb hby d1_0) rfl rfl (XS.aloadN X0.here hx rfl (hb hby d1_1) rfl rfl (XS.iconst X0.here hx rfl (hb hby d1_2) (XS.aloadN X0.here hx rfl (hb hby d1_3) rfl rfl kt)))) ?_
  refine own_st (T' := s₁) (g' := (mkF m 5 #[.val (.ref x0), .val (.ref b0)] [(.int 2), (.int 0), (.ref b0), (.ref x0)])) (own_alen X0 hx hZ e0 pr11 (g := (mkF m 4 #[.val (.ref x0), .val (.ref b0)] [(.ref b0), (.int 0), (.ref b0), (.ref x0)])) rfl rfl (hb hby d1_4)) ?_
  refine own_st (T' := s₁) (g' := (mkF m 6 #[.val (.ref x0), .val (.ref b0)] [.null, (.int 2), (.int 0), (.ref b0), (.ref x0)])) (fun _ kt => XS.aconstNull X0.here hx rfl (hb hby d1_5) kt) ?_
  obtain ⟨_, _, ⟨T540, L540, k540, n540⟩, -, X540, ⟨Lc540, hQ540, l540, y540, z540⟩, st540⟩ := X0.specialBack hx (y := yN11) rfl hown (mvT hZ (own_k hw 9 rfl)) (mvT hZ (own_k hw 10 rfl)) (mvT hZ (own_k hw 12 rfl)) (by decide) (backOf (W := 0) (own_n4_2 l Z a0 hw [] x0 b0 zc kc c0 c1 h0 n0 Z0 pr1 pr2 pr3 pr4 pr5 pr6 pr7 pr8 pr9 pr10 pr11 pr12 pr13) hZ (own_k hw 12 rfl) (own_k hw 4 rfl) (by decide) (by decide)) (g := (mkF m 6 #[.val (.ref x0), .val (.ref b0)] [.null, (.int 2), (.int 0), (.ref b0), (.ref x0)])) rfl hml.symm (Steps.refl _) (a := x0) (argsL := [(.ref b0), (.int 0), (.int 2), .null]) (rest := []) (lenOf own_pd16 rfl) rfl (own_w0 rfl rfl) (hb hby d1_6) (fun _ _ => ⟨rfl, e0, (by decide : 0 + 3 ≤ 3), (by decide : 0 + 6 ≤ 6)⟩)
  dsimp only [Pt.U, Pt.locs, Pt.cells, Pt.slots] at X540 l540 y540 z540 st540 hQ540
  subst l540 y540 z540
  obtain ⟨t_540, kb_540, cd_540, zz_540, vl_540, rfl, N540, K540_, P541, P542, P543, P544, P545, q546⟩ := hQ540
  have N547 := Fr.app N0 N540
  have Z548 : n0 ≤ T540.heap.size := Nat.le_trans Z0 K540_.1
  have K548 : Keep h0 T540.heap [x0] := (Keep.trans K0 K540_ (allS (Or.inl (List.mem_of_getElem? (i := 0) rfl)) all0))
  have ne549 : b0 ≠ t_540 := Nat.ne_of_lt (Nat.lt_of_lt_of_le pr11.lt P545)
  have ge550 : n0 ≤ t_540 := Nat.le_trans Z0 P545
  refine own_tr (T' := T540) (g' := (mkF m 9 #[.val (.ref x0), .val (.ref b0)] [])) st540 ?_
  obtain ⟨fs, hr, hrun, hended, hW, hsame⟩ := X540.leave (v := none) (fun _ => rfl)
  refine own_end (X540.returnOut hx Bd.returns (hb hby d1_9) hr) ⟨_, hrun, hended, _, _, rfl, ?_, ⟨_, rfl⟩, hW, hsame.mono (by decide) (by decide)⟩
  show own_n1_2Q Z _ _ _ _ _ _ h0 n0 _ T540.heap _
  show own_n1_2Q Z _ _ _ _ _ _ h0 n0 _ T540.heap _
  exact ⟨t_540, kb_540, cd_540, zz_540, vl_540, rfl, N547, K548, P541, P542, P543, P544, (Nat.le_trans K0.1 P545), q546⟩
def own_nl3Q (Z : State)  (h0 : Heap) (n0 : Nat) (v : Option Value) (h : Heap) (L : List Loc) : Prop := v = some (.int 6) ∧ Fr n0 L ∧ h = h0
abbrev own_nl3R : Room := { frames := 0, cells := 0, slots := 0, locals := 0 }
theorem own_nl3 (l : Launch) (Z : State) (a0 : Array Value) (hw : ∀ d ∈ tables_1, d.before a0 Z = true) (ws : List Jvm.Cond)  (h0 : Heap) (n0 : Nat) (Z0 : n0 ≤ h0.size)  :
    own_M l yN13 jdk_52_method_3_code 1 (some .int) ws own_nl3R #[(.int 3)] Z h0 (own_nl3Q Z  h0 n0) := by
  refine own_go (plainFor_of_name own_pn3) (fun m => own_ef8 m (3 : Int32) ) ?_
  intro p e s m below meth c s₁ Bd hx hby hml hZ hh hown hnm X0 e0
  have N0 := Fr.nil n0
  refine own_st (T' := s₁) (g' := (mkF m 13 #[.val (.int 3)] [(.int 3)])) (fun _ kt => XS.iloadN X0.here hx rfl (hb hby d19_0) rfl (XS.ifYes X0.here hx rfl (pc0 := 1) (pc' := 12) rfl (hb hby d19_1) rfl (XT.i0_ge_t (by decide)) (by decide) (by decide) (XS.iloadN X0.here hx rfl (hb hby d19_12) rfl kt))) ?_
  refine own_st (T' := s₁) (g' := (mkF m 15 #[.val (.int 3)] [(.int 1073741823), (.int 3)])) (Stand.ldcInt X0 hx hown (mvT hZ (own_k hw 89 rfl)) (g := (mkF m 13 #[.val (.int 3)] [(.int 3)])) rfl (hb hby d19_13)) ?_
  refine own_st (T' := s₁) (g' := (mkF m 58 #[.val (.int 3)] [(.int 6)])) (fun _ kt => XS.icmpYes X0.here hx rfl (pc0 := 15) (pc' := 55) rfl (hb hby d19_15) rfl (XT.ii_lt_t (by decide)) (by decide) (by decide) (XS.iloadN X0.here hx rfl (hb hby d19_55) rfl (XS.iconst X0.here hx rfl (hb hby d19_56) (XT.ishl X0.here hx rfl (hb hby d19_57) rfl kt)))) ?_
  obtain ⟨fs, hr, hrun, hended, hW, hsame⟩ := X0.leave (v := some (.int 6)) (fun h => by rw [Bd.returns] at h; cases h)
  refine own_end (own_retI X0 hx Bd.returns (hb hby d19_58) hr) ⟨_, hrun, hended, _, _, rfl, ?_, ⟨_, rfl⟩, hW, hsame.mono (by decide) (by decide)⟩
  show own_nl3Q Z  h0 n0 _ s₁.heap _
  rw [e0]
  exact ⟨rfl, N0, rfl⟩
def own_nf3Q (Z : State)  (h0 : Heap) (n0 : Nat) (v : Option Value) (h : Heap) (L : List Loc) : Prop := ∃ (b : Addr), ∃ (kb : ClassId), v = some (.ref b) ∧ Fr n0 L ∧ Keep h0 h [] ∧ (Arv Z h b kb .byte (6 : Int32) [(.int 0), (.int 0), (.int 0), (.int 0), (.int 0), (.int 0)] (.int 0)) ∧ (h0.size ≤ b)
abbrev own_nf3R : Room := { frames := 1, cells := 1, slots := 6, locals := 12 }
theorem own_nf3 (l : Launch) (Z : State) (a0 : Array Value) (hw : ∀ d ∈ tables_1, d.before a0 Z = true) (ws : List Jvm.Cond)  (h0 : Heap) (n0 : Nat) (Z0 : n0 ≤ h0.size)  :
    own_M l yN14 jdk_52_method_2_code 1 (some (.array .byte)) ws own_nf3R #[(.int 3)] Z h0 (own_nf3Q Z  h0 n0) := by
  refine own_go (plainFor_of_name own_pn3) (fun m => own_ef8 m (3 : Int32) ) ?_
  intro p e s m below meth c s₁ Bd hx hby hml hZ hh hown hnm X0 e0
  have N0 := Fr.nil n0
  have K0 : Keep h0 h0 [] := Keep.refl h0 _
  refine own_st (T' := s₁) (g' := (mkF m 1 #[.val (.int 3)] [(.int 3)])) (fun _ kt => XS.iloadN X0.here hx rfl (hb hby d18_0) rfl kt) ?_
  obtain ⟨_, _, ⟨T551, L551, k551, n551⟩, -, X551, ⟨Lc551, hQ551, l551, y551, z551⟩, st551⟩ := Jvm.LawKit.callS X0 hx (y := yN13) hown (mvT hZ (own_k hw 86 rfl)) (mvT hZ (own_k hw 87 rfl)) (mvT hZ (own_k hw 36 rfl)) (mvT hZ (own_k hw 88 rfl)) (by decide) (backOf (W := 0) (own_nl3 l Z a0 hw []  h0 n0 Z0 ) hZ (own_k hw 88 rfl) (own_k hw 36 rfl) (by decide) (by decide)) (g := (mkF m 1 #[.val (.int 3)] [(.int 3)])) rfl hml.symm  (argsL := [(.int 3)]) (rest := []) (lenOf own_pd10 rfl) rfl (own_w0 rfl rfl) (hb hby d18_1) (fun _ _ => ⟨rfl, e0, (by decide : 0 + 0 ≤ 1), (by decide : 0 + 0 ≤ 6)⟩)
  dsimp only [Pt.U, Pt.locs, Pt.cells, Pt.slots] at X551 l551 y551 z551 st551 hQ551
  subst l551 y551 z551
  obtain ⟨rfl, N551, e551⟩ := hQ551
  have N552 := Fr.app N0 N551
  refine own_st (T' := T551) (g' := (mkF m 4 #[.val (.int 3)] [(.int 6)])) st551 ?_
  obtain ⟨T553, h553, k553, X553, e553, E553, A553, st553⟩ := newP X551 hx hZ (aty := .byte) (own_k hw 17 rfl) e551 (g := (mkF m 4 #[.val (.int 3)] [(.int 6)])) rfl (hb hby d18_4) rfl (by decide) (cap := 6) (by decide) (by decide) (by decide) (by decide)
  obtain ⟨b553, g553⟩ : ∃ z, z = h0.size := ⟨_, rfl⟩
  rw [← g553] at A553 st553
  have Z554 : n0 ≤ h553.size := Nat.le_trans Z0 E553.1
  have K554 : Keep h0 h553 [] := (Keep.ext K0 E553)
  have ge_b553 : n0 ≤ b553 := Nat.le_trans Z0 (Nat.le_of_eq g553.symm)
  have F555 : Arv Z h553 b553 k553 .byte (6 : Int32) [(.int 0), (.int 0), (.int 0), (.int 0), (.int 0), (.int 0)] (.int 0) := (Arv.new A553 (by decide)).pad (pad_rep [] (.int 0) 6)
  refine own_st (T' := T553) (g' := (mkF m 6 #[.val (.int 3)] [(.ref b553)])) st553 ?_
  obtain ⟨fs, hr, hrun, hended, hW, hsame⟩ := X553.leave (v := some (.ref b553)) (fun h => by rw [Bd.returns] at h; cases h)
  refine own_end (own_retA X553 hx Bd.returns rfl rfl rfl (hb hby d18_6) hr) ⟨_, hrun, hended, _, _, rfl, ?_, ⟨_, rfl⟩, hW, hsame.mono (by decide) (by decide)⟩
  show own_nf3Q Z  h0 n0 _ T553.heap _
  rw [e553]
  exact ⟨b553, k553, rfl, N552, K554, F555, (Nat.le_trans K0.1 (Nat.le_of_eq g553.symm))⟩
def own_tb3Q (Z : State) (x0 : Addr) (kc : ClassId) (c0 : Int32) (c1 : Int32) (c2 : Int32) (h0 : Heap) (n0 : Nat) (v : Option Value) (h : Heap) (L : List Loc) : Prop := ∃ (b : Addr), ∃ (kb : ClassId), v = some (.ref b) ∧ Fr n0 L ∧ Keep h0 h [] ∧ (Arv Z h b kb .byte (6 : Int32) [(.int (own_lo c0)), (.int (own_hi c0)), (.int (own_lo c1)), (.int (own_hi c1)), (.int (own_lo c2)), (.int (own_hi c2))] (.int 0)) ∧ (h0.size ≤ b)
abbrev own_tb3R : Room := { frames := 2, cells := 1, slots := 6, locals := 24 }
theorem own_tb3 (l : Launch) (Z : State) (a0 : Array Value) (hw : ∀ d ∈ tables_1, d.before a0 Z = true) (ws : List Jvm.Cond) (x0 : Addr) (kc : ClassId) (c0 : Int32) (c1 : Int32) (c2 : Int32) (h0 : Heap) (n0 : Nat) (Z0 : n0 ≤ h0.size) (pr1 : Old Z n0 h0) (pr2 : Sta Z Z.heap "java/lang/StringUTF16" "$assertionsDisabled" "Z" (.int 1)) (pr3 : Sta Z Z.heap "java/lang/StringUTF16" "HI_BYTE_SHIFT" "I" (.int 0)) (pr4 : Sta Z Z.heap "java/lang/StringUTF16" "LO_BYTE_SHIFT" "I" (.int 8)) (pr5 : Arv Z h0 x0 kc .char (3 : Int32) [(.int c0), (.int c1), (.int c2)] (.int 0)) :
    own_M l yN5 jdk_52_method_14_code 5 (some (.array .byte)) ws own_tb3R #[(.ref x0), (.int 0), (.int 3)] Z h0 (own_tb3Q Z x0 kc c0 c1 c2 h0 n0) := by
  refine own_go (plainFor_of_name own_pn3) (fun m => own_ef9 m x0 (0 : Int32) (3 : Int32) ) ?_
  intro p e s m below meth c s₁ Bd hx hby hml hZ hh hown hnm X0 e0
  have N0 := Fr.nil n0
  have K0 : Keep h0 h0 [] := Keep.refl h0 _
  refine own_st (T' := s₁) (g' := (mkF m 1 #[.val (.ref x0), .val (.int 0), .val (.int 3), .unset, .unset] [(.int 3)])) (fun _ kt => XS.iloadN X0.here hx rfl (hb hby d17_0) rfl kt) ?_
  obtain ⟨_, _, ⟨T556, L556, k556, n556⟩, -, X556, ⟨Lc556, hQ556, l556, y556, z556⟩, st556⟩ := Jvm.LawKit.callS X0 hx (y := yN14) hown (mvT hZ (own_k hw 83 rfl)) (mvT hZ (own_k hw 84 rfl)) (mvT hZ (own_k hw 36 rfl)) (mvT hZ (own_k hw 85 rfl)) (by decide) (backOf (W := 0) (own_nf3 l Z a0 hw []  h0 n0 Z0 ) hZ (own_k hw 85 rfl) (own_k hw 36 rfl) (by decide) (by decide)) (g := (mkF m 1 #[.val (.ref x0), .val (.int 0), .val (.int 3), .unset, .unset] [(.int 3)])) rfl hml.symm  (argsL := [(.int 3)]) (rest := []) (lenOf own_pd11 rfl) rfl (own_w0 rfl rfl) (hb hby d17_1) (fun _ _ => ⟨rfl, e0, (by decide : 0 + 1 ≤ 1), (by decide : 0 + 6 ≤ 6)⟩)
  dsimp only [Pt.U, Pt.locs, Pt.cells, Pt.slots] at X556 l556 y556 z556 st556 hQ556
  subst l556 y556 z556
  obtain ⟨b_556, kb_556, rfl, N556, K556_, P557, P558⟩ := hQ556
  have N559 := Fr.app N0 N556
  have Z560 : n0 ≤ T556.heap.size := Nat.le_trans Z0 K556_.1
  have K560 : Keep h0 T556.heap [] := (Keep.trans K0 K556_ all0)
  have ne561 : x0 ≠ b_556 := Nat.ne_of_lt (Nat.lt_of_lt_of_le pr5.lt P558)
  have ge562 : n0 ≤ b_556 := Nat.le_trans Z0 P558
  refine own_st (T' := T556) (g' := (mkF m 4 #[.val (.ref x0), .val (.int 0), .val (.int 3), .unset, .unset] [(.ref b_556)])) st556 ?_
  refine own_st (T' := T556) (g' := (mkF m 19 #[.val (.ref x0), .val (.int 0), .val (.int 3), .val (.ref b_556), .val (.int 0)] [(.int 0), (.ref x0), (.int 0), (.ref b_556)])) (fun _ kt => XS.astoreN X556.here hx rfl (hb hby d17_4) rfl rfl (l' := #[.val (.ref x0), .val (.int 0), .val (.int 3), .val (.ref b_556), .unset]) rfl (XS.iconst X556.here hx rfl (hb hby d17_5) (XS.istore X556.here hx rfl (hb hby d17_6) rfl (l' := #[.val (.ref x0), .val (.int 0), .val (.int 3), .val (.ref b_556), .val (.int 0)]) rfl (XS.iload X556.here hx rfl (hb hby d17_8) rfl (XS.iloadN X556.here hx rfl (hb hby d17_10) rfl (XS.icmpNo X556.here hx rfl (hb hby d17_11) rfl (XT.ii_ge_f (by decide)) (XS.aloadN X556.here hx rfl (hb hby d17_14) rfl rfl (XS.iload X556.here hx rfl (hb hby d17_15) rfl (XS.aloadN X556.here hx rfl (hb hby d17_17) rfl rfl (XS.iloadN X556.here hx rfl (hb hby d17_18) rfl kt)))))))))) ?_
  have F563 : Arv Z T556.heap x0 kc .char (3 : Int32) [(.int c0), (.int c1), (.int c2)] (.int 0) := (Arv.keep pr5 K556_ nin0)
  refine own_st (T' := T556) (g' := (mkF m 20 #[.val (.ref x0), .val (.int 0), .val (.int 3), .val (.ref b_556), .val (.int 0)] [(.int c0), (.int 0), (.ref b_556)])) (own_cal X556 hx hZ rfl F563 ⟨by decide, by decide⟩ rfl (g := (mkF m 19 #[.val (.ref x0), .val (.int 0), .val (.int 3), .val (.ref b_556), .val (.int 0)] [(.int 0), (.ref x0), (.int 0), (.ref b_556)])) rfl rfl (hb hby d17_19)) ?_
  have F564 : Old Z n0 T556.heap := (Old.keep pr1 K556_ all0)
  obtain ⟨_, _, ⟨T565, L565, k565, n565⟩, -, X565, ⟨Lc565, hQ565, l565, y565, z565⟩, st565⟩ := Jvm.LawKit.callS X556 hx (y := yN8) hown (mvT hZ (own_k hw 90 rfl)) (mvT hZ (own_k hw 91 rfl)) (mvT hZ (own_k hw 36 rfl)) (mvT hZ (own_k hw 92 rfl)) (by decide) (backOf (W := 0) (own_pc l Z a0 hw [] b_556 (0 : Int32) c0 kb_556 (6 : Int32) [(.int 0), (.int 0), (.int 0), (.int 0), (.int 0), (.int 0)] T556.heap n0 Z560 F564 pr2 pr3 pr4 ge562 P557 (show ¬ ((0 : Int32) <<< ((1 : Int32) &&& 31)) < 0 ∧ ((0 : Int32) <<< ((1 : Int32) &&& 31)) < (6 : Int32) from (by decide)) (show ¬ (((0 : Int32) <<< ((1 : Int32) &&& 31)) + (1 : Int32)) < 0 ∧ (((0 : Int32) <<< ((1 : Int32) &&& 31)) + (1 : Int32)) < (6 : Int32) from (by decide)) (show ((0 : Int32) <<< ((1 : Int32) &&& 31)).toNatClampNeg < [(.int 0), (.int 0), (.int 0), (.int 0), (.int 0), (.int 0)].length from (show _ < 6 from by decide)) (show (((0 : Int32) <<< ((1 : Int32) &&& 31)) + (1 : Int32)).toNatClampNeg < [(.int 0), (.int 0), (.int 0), (.int 0), (.int 0), (.int 0)].length from (show _ < 6 from by decide))) hZ (own_k hw 92 rfl) (own_k hw 36 rfl) (by decide) (by decide)) (g := (mkF m 20 #[.val (.ref x0), .val (.int 0), .val (.int 3), .val (.ref b_556), .val (.int 0)] [(.int c0), (.int 0), (.ref b_556)])) rfl hml.symm  (argsL := [(.ref b_556), (.int 0), (.int c0)]) (rest := []) (lenOf own_pd12 rfl) rfl (own_w0 rfl rfl) (hb hby d17_20) (fun _ _ => ⟨rfl, rfl, (by decide : 1 + 0 ≤ 1), (by decide : 6 + 0 ≤ 6)⟩)
  dsimp only [Pt.U, Pt.locs, Pt.cells, Pt.slots] at X565 l565 y565 z565 st565 hQ565
  subst l565 y565 z565
  obtain ⟨rfl, N565, K565_, P566⟩ := hQ565
  have N567 := Fr.app N559 N565
  have Z568 : n0 ≤ T565.heap.size := Nat.le_trans Z560 K565_.1
  have K568 : Keep h0 T565.heap [] := (Keep.trans K560 K565_ (allS (Or.inr (Nat.le_trans K0.1 P558)) all0))
  have F569 : Arv Z T565.heap b_556 kb_556 .byte (6 : Int32) [(.int (own_lo c0)), (.int (own_hi c0)), (.int 0), (.int 0), (.int 0), (.int 0)] (.int 0) := P566
  refine own_st (T' := T565) (g' := (mkF m 23 #[.val (.ref x0), .val (.int 0), .val (.int 3), .val (.ref b_556), .val (.int 0)] [])) st565 ?_
  refine own_st (T' := T565) (g' := (mkF m 19 #[.val (.ref x0), .val (.int 1), .val (.int 3), .val (.ref b_556), .val (.int 1)] [(.int 1), (.ref x0), (.int 1), (.ref b_556)])) (fun _ kt => XS.iinc X565.here hx rfl (hb hby d17_23) rfl (l' := #[.val (.ref x0), .val (.int 1), .val (.int 3), .val (.ref b_556), .val (.int 0)]) rfl (XS.iinc X565.here hx rfl (hb hby d17_26) rfl (l' := #[.val (.ref x0), .val (.int 1), .val (.int 3), .val (.ref b_556), .val (.int 1)]) rfl (XS.goto X565.here hx rfl (pc0 := 29) (pc' := 8) rfl (hb hby d17_29) (by decide) (by decide) (XS.iload X565.here hx rfl (hb hby d17_8) rfl (XS.iloadN X565.here hx rfl (hb hby d17_10) rfl (XS.icmpNo X565.here hx rfl (hb hby d17_11) rfl (XT.ii_ge_f (by decide)) (XS.aloadN X565.here hx rfl (hb hby d17_14) rfl rfl (XS.iload X565.here hx rfl (hb hby d17_15) rfl (XS.aloadN X565.here hx rfl (hb hby d17_17) rfl rfl (XS.iloadN X565.here hx rfl (hb hby d17_18) rfl kt)))))))))) ?_
  have F570 : Arv Z T565.heap x0 kc .char (3 : Int32) [(.int c0), (.int c1), (.int c2)] (.int 0) := (Arv.keep F563 K565_ (ninS ne561 nin0))
  refine own_st (T' := T565) (g' := (mkF m 20 #[.val (.ref x0), .val (.int 1), .val (.int 3), .val (.ref b_556), .val (.int 1)] [(.int c1), (.int 1), (.ref b_556)])) (own_cal X565 hx hZ rfl F570 ⟨by decide, by decide⟩ rfl (g := (mkF m 19 #[.val (.ref x0), .val (.int 1), .val (.int 3), .val (.ref b_556), .val (.int 1)] [(.int 1), (.ref x0), (.int 1), (.ref b_556)])) rfl rfl (hb hby d17_19)) ?_
  have F571 : Old Z n0 T565.heap := (Old.keep F564 K565_ (allS ge562 all0))
  obtain ⟨_, _, ⟨T572, L572, k572, n572⟩, -, X572, ⟨Lc572, hQ572, l572, y572, z572⟩, st572⟩ := Jvm.LawKit.callS X565 hx (y := yN8) hown (mvT hZ (own_k hw 90 rfl)) (mvT hZ (own_k hw 91 rfl)) (mvT hZ (own_k hw 36 rfl)) (mvT hZ (own_k hw 92 rfl)) (by decide) (backOf (W := 0) (own_pc l Z a0 hw [] b_556 (1 : Int32) c1 kb_556 (6 : Int32) [(.int (own_lo c0)), (.int (own_hi c0)), (.int 0), (.int 0), (.int 0), (.int 0)] T565.heap n0 Z568 F571 pr2 pr3 pr4 ge562 F569 (show ¬ ((1 : Int32) <<< ((1 : Int32) &&& 31)) < 0 ∧ ((1 : Int32) <<< ((1 : Int32) &&& 31)) < (6 : Int32) from (by decide)) (show ¬ (((1 : Int32) <<< ((1 : Int32) &&& 31)) + (1 : Int32)) < 0 ∧ (((1 : Int32) <<< ((1 : Int32) &&& 31)) + (1 : Int32)) < (6 : Int32) from (by decide)) (show ((1 : Int32) <<< ((1 : Int32) &&& 31)).toNatClampNeg < [(.int (own_lo c0)), (.int (own_hi c0)), (.int 0), (.int 0), (.int 0), (.int 0)].length from (show _ < 6 from by decide)) (show (((1 : Int32) <<< ((1 : Int32) &&& 31)) + (1 : Int32)).toNatClampNeg < [(.int (own_lo c0)), (.int (own_hi c0)), (.int 0), (.int 0), (.int 0), (.int 0)].length from (show _ < 6 from by decide))) hZ (own_k hw 92 rfl) (own_k hw 36 rfl) (by decide) (by decide)) (g := (mkF m 20 #[.val (.ref x0), .val (.int 1), .val (.int 3), .val (.ref b_556), .val (.int 1)] [(.int c1), (.int 1), (.ref b_556)])) rfl hml.symm  (argsL := [(.ref b_556), (.int 1), (.int c1)]) (rest := []) (lenOf own_pd12 rfl) rfl (own_w0 rfl rfl) (hb hby d17_20) (fun _ _ => ⟨rfl, rfl, (by decide : 1 + 0 ≤ 1), (by decide : 6 + 0 ≤ 6)⟩)
  dsimp only [Pt.U, Pt.locs, Pt.cells, Pt.slots] at X572 l572 y572 z572 st572 hQ572
  subst l572 y572 z572
  obtain ⟨rfl, N572, K572_, P573⟩ := hQ572
  have N574 := Fr.app N567 N572
  have Z575 : n0 ≤ T572.heap.size := Nat.le_trans Z568 K572_.1
  have K575 : Keep h0 T572.heap [] := (Keep.trans K568 K572_ (allS (Or.inr (Nat.le_trans K0.1 P558)) all0))
  have F576 : Arv Z T572.heap b_556 kb_556 .byte (6 : Int32) [(.int (own_lo c0)), (.int (own_hi c0)), (.int (own_lo c1)), (.int (own_hi c1)), (.int 0), (.int 0)] (.int 0) := P573
  refine own_st (T' := T572) (g' := (mkF m 23 #[.val (.ref x0), .val (.int 1), .val (.int 3), .val (.ref b_556), .val (.int 1)] [])) st572 ?_
  refine own_st (T' := T572) (g' := (mkF m 19 #[.val (.ref x0), .val (.int 2), .val (.int 3), .val (.ref b_556), .val (.int 2)] [(.int 2), (.ref x0), (.int 2), (.ref b_556)])) (fun _ kt => XS.iinc X572.here hx rfl (hb hby d17_23) rfl (l' := #[.val (.ref x0), .val (.int 2), .val (.int 3), .val (.ref b_556), .val (.int 1)]) rfl (XS.iinc X572.here hx rfl (hb hby d17_26) rfl (l' := #[.val (.ref x0), .val (.int 2), .val (.int 3), .val (.ref b_556), .val (.int 2)]) rfl (XS.goto X572.here hx rfl (pc0 := 29) (pc' := 8) rfl (hb hby d17_29) (by decide) (by decide) (XS.iload X572.here hx rfl (hb hby d17_8) rfl (XS.iloadN X572.here hx rfl (hb hby d17_10) rfl (XS.icmpNo X572.here hx rfl (hb hby d17_11) rfl (XT.ii_ge_f (by decide)) (XS.aloadN X572.here hx rfl (hb hby d17_14) rfl rfl (XS.iload X572.here hx rfl (hb hby d17_15) rfl (XS.aloadN X572.here hx rfl (hb hby d17_17) rfl rfl (XS.iloadN X572.here hx rfl (hb hby d17_18) rfl kt)))))))))) ?_
  have F577 : Arv Z T572.heap x0 kc .char (3 : Int32) [(.int c0), (.int c1), (.int c2)] (.int 0) := (Arv.keep F570 K572_ (ninS ne561 nin0))
  refine own_st (T' := T572) (g' := (mkF m 20 #[.val (.ref x0), .val (.int 2), .val (.int 3), .val (.ref b_556), .val (.int 2)] [(.int c2), (.int 2), (.ref b_556)])) (own_cal X572 hx hZ rfl F577 ⟨by decide, by decide⟩ rfl (g := (mkF m 19 #[.val (.ref x0), .val (.int 2), .val (.int 3), .val (.ref b_556), .val (.int 2)] [(.int 2), (.ref x0), (.int 2), (.ref b_556)])) rfl rfl (hb hby d17_19)) ?_
  have F578 : Old Z n0 T572.heap := (Old.keep F571 K572_ (allS ge562 all0))
  obtain ⟨_, _, ⟨T579, L579, k579, n579⟩, -, X579, ⟨Lc579, hQ579, l579, y579, z579⟩, st579⟩ := Jvm.LawKit.callS X572 hx (y := yN8) hown (mvT hZ (own_k hw 90 rfl)) (mvT hZ (own_k hw 91 rfl)) (mvT hZ (own_k hw 36 rfl)) (mvT hZ (own_k hw 92 rfl)) (by decide) (backOf (W := 0) (own_pc l Z a0 hw [] b_556 (2 : Int32) c2 kb_556 (6 : Int32) [(.int (own_lo c0)), (.int (own_hi c0)), (.int (own_lo c1)), (.int (own_hi c1)), (.int 0), (.int 0)] T572.heap n0 Z575 F578 pr2 pr3 pr4 ge562 F576 (show ¬ ((2 : Int32) <<< ((1 : Int32) &&& 31)) < 0 ∧ ((2 : Int32) <<< ((1 : Int32) &&& 31)) < (6 : Int32) from (by decide)) (show ¬ (((2 : Int32) <<< ((1 : Int32) &&& 31)) + (1 : Int32)) < 0 ∧ (((2 : Int32) <<< ((1 : Int32) &&& 31)) + (1 : Int32)) < (6 : Int32) from (by decide)) (show ((2 : Int32) <<< ((1 : Int32) &&& 31)).toNatClampNeg < [(.int (own_lo c0)), (.int (own_hi c0)), (.int (own_lo c1)), (.int (own_hi c1)), (.int 0), (.int 0)].length from (show _ < 6 from by decide)) (show (((2 : Int32) <<< ((1 : Int32) &&& 31)) + (1 : Int32)).toNatClampNeg < [(.int (own_lo c0)), (.int (own_hi c0)), (.int (own_lo c1)), (.int (own_hi c1)), (.int 0), (.int 0)].length from (show _ < 6 from by decide))) hZ (own_k hw 92 rfl) (own_k hw 36 rfl) (by decide) (by decide)) (g := (mkF m 20 #[.val (.ref x0), .val (.int 2), .val (.int 3), .val (.ref b_556), .val (.int 2)] [(.int c2), (.int 2), (.ref b_556)])) rfl hml.symm  (argsL := [(.ref b_556), (.int 2), (.int c2)]) (rest := []) (lenOf own_pd12 rfl) rfl (own_w0 rfl rfl) (hb hby d17_20) (fun _ _ => ⟨rfl, rfl, (by decide : 1 + 0 ≤ 1), (by decide : 6 + 0 ≤ 6)⟩)
  dsimp only [Pt.U, Pt.locs, Pt.cells, Pt.slots] at X579 l579 y579 z579 st579 hQ579
  subst l579 y579 z579
  obtain ⟨rfl, N579, K579_, P580⟩ := hQ579
  have N581 := Fr.app N574 N579
  have Z582 : n0 ≤ T579.heap.size := Nat.le_trans Z575 K579_.1
  have K582 : Keep h0 T579.heap [] := (Keep.trans K575 K579_ (allS (Or.inr (Nat.le_trans K0.1 P558)) all0))
  have F583 : Arv Z T579.heap b_556 kb_556 .byte (6 : Int32) [(.int (own_lo c0)), (.int (own_hi c0)), (.int (own_lo c1)), (.int (own_hi c1)), (.int (own_lo c2)), (.int (own_hi c2))] (.int 0) := P580
  refine own_st (T' := T579) (g' := (mkF m 23 #[.val (.ref x0), .val (.int 2), .val (.int 3), .val (.ref b_556), .val (.int 2)] [])) st579 ?_
  refine own_st (T' := T579) (g' := (mkF m 33 #[.val (.ref x0), .val (.int 3), .val (.int 3), .val (.ref b_556), .val (.int 3)] [(.ref b_556)])) (fun _ kt => XS.iinc X579.here hx rfl (hb hby d17_23) rfl (l' := #[.val (.ref x0), .val (.int 3), .val (.int 3), .val (.ref b_556), .val (.int 2)]) rfl (XS.iinc X579.here hx rfl (hb hby d17_26) rfl (l' := #[.val (.ref x0), .val (.int 3), .val (.int 3), .val (.ref b_556), .val (.int 3)]) rfl (XS.goto X579.here hx rfl (pc0 := 29) (pc' := 8) rfl (hb hby d17_29) (by decide) (by decide) (XS.iload X579.here hx rfl (hb hby d17_8) rfl (XS.iloadN X579.here hx rfl (hb hby d17_10) rfl (XS.icmpYes X579.here hx rfl (pc0 := 11) (pc' := 32) rfl (hb hby d17_11) rfl (XT.ii_ge_t (by decide)) (by decide) (by decide) (XS.aloadN X579.here hx rfl (hb hby d17_32) rfl rfl kt))))))) ?_
  obtain ⟨fs, hr, hrun, hended, hW, hsame⟩ := X579.leave (v := some (.ref b_556)) (fun h => by rw [Bd.returns] at h; cases h)
  refine own_end (own_retA X579 hx Bd.returns rfl rfl rfl (hb hby d17_33) hr) ⟨_, hrun, hended, _, _, rfl, ?_, ⟨_, rfl⟩, hW, hsame.mono (by decide) (by decide)⟩
  show own_tb3Q Z _ _ _ _ _ h0 n0 _ T579.heap _
  show own_tb3Q Z _ _ _ _ _ h0 n0 _ T579.heap _
  exact ⟨b_556, kb_556, rfl, N581, K582, F583, (Nat.le_trans K0.1 P558)⟩
def own_cf3_0Q (Z : State) (t : Addr) (kb : ClassId) (vl : List Value) (h0 : Heap) (n0 : Nat) (v : Option Value) (h : Heap) (L : List Loc) : Prop := v = some (.int 0) ∧ Fr n0 L ∧ h = h0
abbrev own_cf3_0R : Room := { frames := 0, cells := 0, slots := 0, locals := 0 }
theorem own_cf3_0 (l : Launch) (Z : State) (a0 : Array Value) (hw : ∀ d ∈ tables_1, d.before a0 Z = true) (ws : List Jvm.Cond) (t : Addr) (kb : ClassId) (vl : List Value) (h0 : Heap) (n0 : Nat) (Z0 : n0 ≤ h0.size) (pr1 : Arv Z h0 t kb .byte (3 : Int32) vl (.int 0)) :
    own_M l yN3 jdk_52_method_15_code 2 (some .byte) ws own_cf3_0R #[(.ref t), (.int 3)] Z h0 (own_cf3_0Q Z t kb vl h0 n0) := by
  refine own_go (plainFor_of_name own_pn3) (fun m => own_ef4 m t (3 : Int32) ) ?_
  intro p e s m below meth c s₁ Bd hx hby hml hZ hh hown hnm X0 e0
  have N0 := Fr.nil n0
  refine own_st (T' := s₁) (g' := (mkF m 2 #[.val (.ref t), .val (.int 3)] [(.ref t), (.int 3)])) (fun _ kt => XS.iloadN X0.here hx rfl (hb hby d8_0) rfl (XS.aloadN X0.here hx rfl (hb hby d8_1) rfl rfl kt)) ?_
  refine own_st (T' := s₁) (g' := (mkF m 3 #[.val (.ref t), .val (.int 3)] [(.int 3), (.int 3)])) (own_alen X0 hx hZ e0 pr1 (g := (mkF m 2 #[.val (.ref t), .val (.int 3)] [(.ref t), (.int 3)])) rfl rfl (hb hby d8_2)) ?_
  refine own_st (T' := s₁) (g' := (mkF m 8 #[.val (.ref t), .val (.int 3)] [(.int ((XT.ushr (0 : Int32) (31 : Int32)).toInt8.toInt32))])) (fun _ kt => XS.isub X0.here hx rfl (hb hby d8_3) rfl (XS.bipush X0.here hx rfl (hb hby d8_4) (XT.iushr X0.here hx rfl (hb hby d8_6) rfl (XT.i2b X0.here hx rfl (hb hby d8_7) rfl kt)))) ?_
  obtain ⟨fs, hr, hrun, hended, hW, hsame⟩ := X0.leave (v := some (.int (nar .byte ((XT.ushr (0 : Int32) (31 : Int32)).toInt8.toInt32)))) (fun h => by rw [Bd.returns] at h; cases h)
  refine own_end (retN X0 hx (t := .byte) Bd.returns (by simp) (hb hby d8_8) hr) ⟨_, hrun, hended, _, _, rfl, ?_, ⟨_, rfl⟩, hW, hsame.mono (by decide) (by decide)⟩
  show own_cf3_0Q Z _ _ _ h0 n0 _ s₁.heap _
  rw [e0]
  exact ⟨(congrArg (fun z => some (Value.int z)) (by decide)), N0, rfl⟩
def own_cf3_1Q (Z : State) (t : Addr) (kb : ClassId) (vl : List Value) (h0 : Heap) (n0 : Nat) (v : Option Value) (h : Heap) (L : List Loc) : Prop := v = some (.int 1) ∧ Fr n0 L ∧ h = h0
abbrev own_cf3_1R : Room := { frames := 0, cells := 0, slots := 0, locals := 0 }
theorem own_cf3_1 (l : Launch) (Z : State) (a0 : Array Value) (hw : ∀ d ∈ tables_1, d.before a0 Z = true) (ws : List Jvm.Cond) (t : Addr) (kb : ClassId) (vl : List Value) (h0 : Heap) (n0 : Nat) (Z0 : n0 ≤ h0.size) (pr1 : Arv Z h0 t kb .byte (6 : Int32) vl (.int 0)) :
    own_M l yN3 jdk_52_method_15_code 2 (some .byte) ws own_cf3_1R #[(.ref t), (.int 3)] Z h0 (own_cf3_1Q Z t kb vl h0 n0) := by
  refine own_go (plainFor_of_name own_pn3) (fun m => own_ef4 m t (3 : Int32) ) ?_
  intro p e s m below meth c s₁ Bd hx hby hml hZ hh hown hnm X0 e0
  have N0 := Fr.nil n0
  refine own_st (T' := s₁) (g' := (mkF m 2 #[.val (.ref t), .val (.int 3)] [(.ref t), (.int 3)])) (fun _ kt => XS.iloadN X0.here hx rfl (hb hby d8_0) rfl (XS.aloadN X0.here hx rfl (hb hby d8_1) rfl rfl kt)) ?_
  refine own_st (T' := s₁) (g' := (mkF m 3 #[.val (.ref t), .val (.int 3)] [(.int 6), (.int 3)])) (own_alen X0 hx hZ e0 pr1 (g := (mkF m 2 #[.val (.ref t), .val (.int 3)] [(.ref t), (.int 3)])) rfl rfl (hb hby d8_2)) ?_
  refine own_st (T' := s₁) (g' := (mkF m 8 #[.val (.ref t), .val (.int 3)] [(.int ((XT.ushr (-3 : Int32) (31 : Int32)).toInt8.toInt32))])) (fun _ kt => XS.isub X0.here hx rfl (hb hby d8_3) rfl (XS.bipush X0.here hx rfl (hb hby d8_4) (XT.iushr X0.here hx rfl (hb hby d8_6) rfl (XT.i2b X0.here hx rfl (hb hby d8_7) rfl kt)))) ?_
  obtain ⟨fs, hr, hrun, hended, hW, hsame⟩ := X0.leave (v := some (.int (nar .byte ((XT.ushr (-3 : Int32) (31 : Int32)).toInt8.toInt32)))) (fun h => by rw [Bd.returns] at h; cases h)
  refine own_end (retN X0 hx (t := .byte) Bd.returns (by simp) (hb hby d8_8) hr) ⟨_, hrun, hended, _, _, rfl, ?_, ⟨_, rfl⟩, hW, hsame.mono (by decide) (by decide)⟩
  show own_cf3_1Q Z _ _ _ h0 n0 _ s₁.heap _
  rw [e0]
  exact ⟨(congrArg (fun z => some (Value.int z)) (by decide)), N0, rfl⟩
def own_k5_3_0Q (Z : State) (x0 : Addr) (kc : ClassId) (d0 : Addr) (kd : ClassId) (c0 : Int32) (c1 : Int32) (c2 : Int32) (h0 : Heap) (n0 : Nat) (v : Option Value) (h : Heap) (L : List Loc) : Prop := v = some (.int 0) ∧ Fr n0 L ∧ Keep h0 h [d0] ∧ (Arv Z h d0 kd .byte (3 : Int32) [(.int 0), (.int 0), (.int 0)] (.int 0))
abbrev own_k5_3_0R : Room := { frames := 0, cells := 0, slots := 0, locals := 0 }
theorem own_k5_3_0 (l : Launch) (Z : State) (a0 : Array Value) (hw : ∀ d ∈ tables_1, d.before a0 Z = true) (ws : List Jvm.Cond) (x0 : Addr) (kc : ClassId) (d0 : Addr) (kd : ClassId) (c0 : Int32) (c1 : Int32) (c2 : Int32) (h0 : Heap) (n0 : Nat) (Z0 : n0 ≤ h0.size) (pr1 : Arv Z h0 x0 kc .char (3 : Int32) [(.int c0), (.int c1), (.int c2)] (.int 0)) (pr2 : Arv Z h0 d0 kd .byte (3 : Int32) [(.int 0), (.int 0), (.int 0)] (.int 0)) (pr3 : n0 ≤ d0) (pr4 : x0 ≠ d0) (pr5 : (255 : Int32) < c0) :
    own_M l yN1 jdk_52_method_21_code 7 (some .int) ws own_k5_3_0R #[(.ref x0), (.int 0), (.ref d0), (.int 0), (.int 3)] Z h0 (own_k5_3_0Q Z x0 kc d0 kd c0 c1 c2 h0 n0) := by
  refine own_go (plainFor_of_name own_pn3) (fun m => own_ef10 m x0 (0 : Int32) d0 (0 : Int32) (3 : Int32) ) ?_
  intro p e s m below meth c s₁ Bd hx hby hml hZ hh hown hnm X0 e0
  have N0 := Fr.nil n0
  have K0 : Keep h0 h0 [d0] := Keep.refl h0 _
  refine own_st (T' := s₁) (g' := (mkF m 12 #[.val (.ref x0), .val (.int 0), .val (.ref d0), .val (.int 0), .val (.int 3), .val (.int 0), .unset] [(.int 0), (.ref x0)])) (fun _ kt => XS.iconst X0.here hx rfl (hb hby d7_0) (XS.istore X0.here hx rfl (hb hby d7_1) rfl (l' := #[.val (.ref x0), .val (.int 0), .val (.ref d0), .val (.int 0), .val (.int 3), .val (.int 0), .unset]) rfl (XS.iload X0.here hx rfl (hb hby d7_3) rfl (XS.iload X0.here hx rfl (hb hby d7_5) rfl (XS.icmpNo X0.here hx rfl (hb hby d7_7) rfl (XT.ii_ge_f (by decide)) (XS.aloadN X0.here hx rfl (hb hby d7_10) rfl rfl (XS.iloadN X0.here hx rfl (hb hby d7_11) rfl kt))))))) ?_
  refine own_st (T' := s₁) (g' := (mkF m 13 #[.val (.ref x0), .val (.int 0), .val (.ref d0), .val (.int 0), .val (.int 3), .val (.int 0), .unset] [(.int c0)])) (own_cal X0 hx hZ e0 pr1 ⟨by decide, by decide⟩ rfl (g := (mkF m 12 #[.val (.ref x0), .val (.int 0), .val (.ref d0), .val (.int 0), .val (.int 3), .val (.int 0), .unset] [(.int 0), (.ref x0)])) rfl rfl (hb hby d7_12)) ?_
  refine own_st (T' := s₁) (g' := (mkF m 25 #[.val (.ref x0), .val (.int 0), .val (.ref d0), .val (.int 0), .val (.int 3), .val (.int 0), .val (.int c0)] [(.int 0)])) (fun _ kt => XS.istore X0.here hx rfl (hb hby d7_13) rfl (l' := #[.val (.ref x0), .val (.int 0), .val (.ref d0), .val (.int 0), .val (.int 3), .val (.int 0), .val (.int c0)]) rfl (XS.iload X0.here hx rfl (hb hby d7_15) rfl (XS.sipush X0.here hx rfl (hb hby d7_17) (XS.icmpNo X0.here hx rfl (hb hby d7_20) rfl (XT.ii_le_f pr5) (XS.iload X0.here hx rfl (hb hby d7_23) rfl kt))))) ?_
  obtain ⟨fs, hr, hrun, hended, hW, hsame⟩ := X0.leave (v := some (.int 0)) (fun h => by rw [Bd.returns] at h; cases h)
  refine own_end (own_retI X0 hx Bd.returns (hb hby d7_25) hr) ⟨_, hrun, hended, _, _, rfl, ?_, ⟨_, rfl⟩, hW, hsame.mono (by decide) (by decide)⟩
  show own_k5_3_0Q Z _ _ _ _ _ _ _ h0 n0 _ s₁.heap _
  rw [e0]
  exact ⟨rfl, N0, K0, pr2⟩
def own_k3_3_0Q (Z : State) (x0 : Addr) (kc : ClassId) (c0 : Int32) (c1 : Int32) (c2 : Int32) (h0 : Heap) (n0 : Nat) (v : Option Value) (h : Heap) (L : List Loc) : Prop := ∃ (b : Addr), ∃ (kb : ClassId), v = some (.ref b) ∧ Fr n0 L ∧ Keep h0 h [] ∧ (Arv Z h b kb .byte (6 : Int32) [(.int (own_lo c0)), (.int (own_hi c0)), (.int (own_lo c1)), (.int (own_hi c1)), (.int (own_lo c2)), (.int (own_hi c2))] (.int 0)) ∧ (h0.size ≤ b)
abbrev own_k3_3_0R : Room := { frames := 3, cells := 2, slots := 9, locals := 40 }
theorem own_k3_3_0 (l : Launch) (Z : State) (a0 : Array Value) (hw : ∀ d ∈ tables_1, d.before a0 Z = true) (ws : List Jvm.Cond) (x0 : Addr) (kc : ClassId) (c0 : Int32) (c1 : Int32) (c2 : Int32) (h0 : Heap) (n0 : Nat) (Z0 : n0 ≤ h0.size) (pr1 : Old Z n0 h0) (pr2 : Sta Z Z.heap "java/lang/StringUTF16" "$assertionsDisabled" "Z" (.int 1)) (pr3 : Sta Z Z.heap "java/lang/StringUTF16" "HI_BYTE_SHIFT" "I" (.int 0)) (pr4 : Sta Z Z.heap "java/lang/StringUTF16" "LO_BYTE_SHIFT" "I" (.int 8)) (pr5 : Arv Z h0 x0 kc .char (3 : Int32) [(.int c0), (.int c1), (.int c2)] (.int 0)) (pr6 : own_c16 c0) (pr7 : own_c16 c1) (pr8 : own_c16 c2) (pr9 : (255 : Int32) < c0) :
    own_M l yN2 jdk_52_method_16_code 6 (some (.array .byte)) ws own_k3_3_0R #[(.ref x0), (.int 0), (.int 3)] Z h0 (own_k3_3_0Q Z x0 kc c0 c1 c2 h0 n0) := by
  refine own_go (plainFor_of_name own_pn3) (fun m => own_ef11 m x0 (0 : Int32) (3 : Int32) ) ?_
  intro p e s m below meth c s₁ Bd hx hby hml hZ hh hown hnm X0 e0
  have N0 := Fr.nil n0
  have K0 : Keep h0 h0 [] := Keep.refl h0 _
  refine own_st (T' := s₁) (g' := (mkF m 1 #[.val (.ref x0), .val (.int 0), .val (.int 3), .unset, .unset, .unset] [(.int 3)])) (fun _ kt => XS.iloadN X0.here hx rfl (hb hby d6_0) rfl kt) ?_
  obtain ⟨T584, h584, k584, X584, e584, E584, A584, st584⟩ := newP X0 hx hZ (aty := .byte) (own_k hw 17 rfl) e0 (g := (mkF m 1 #[.val (.ref x0), .val (.int 0), .val (.int 3), .unset, .unset, .unset] [(.int 3)])) rfl (hb hby d6_1) rfl (by decide) (cap := 3) (by decide) (by decide) (by decide) (by decide)
  obtain ⟨b584, g584⟩ : ∃ z, z = h0.size := ⟨_, rfl⟩
  rw [← g584] at A584 st584
  have ne585 : x0 ≠ b584 := by rw [g584]; exact Nat.ne_of_lt pr5.lt
  have Z586 : n0 ≤ h584.size := Nat.le_trans Z0 E584.1
  have K586 : Keep h0 h584 [] := (Keep.ext K0 E584)
  have ge_b584 : n0 ≤ b584 := Nat.le_trans Z0 (Nat.le_of_eq g584.symm)
  have F587 : Arv Z h584 b584 k584 .byte (3 : Int32) [(.int 0), (.int 0), (.int 0)] (.int 0) := (Arv.new A584 (by decide)).pad (pad_rep [] (.int 0) 3)
  refine own_st (T' := T584) (g' := (mkF m 3 #[.val (.ref x0), .val (.int 0), .val (.int 3), .unset, .unset, .unset] [(.ref b584)])) st584 ?_
  refine own_st (T' := T584) (g' := (mkF m 9 #[.val (.ref x0), .val (.int 0), .val (.int 3), .val (.ref b584), .unset, .unset] [(.int 3), (.int 0), (.ref b584), (.int 0), (.ref x0)])) (fun _ kt => XS.astoreN X584.here hx rfl (hb hby d6_3) rfl rfl (l' := #[.val (.ref x0), .val (.int 0), .val (.int 3), .val (.ref b584), .unset, .unset]) rfl (XS.aloadN X584.here hx rfl (hb hby d6_4) rfl rfl (XS.iloadN X584.here hx rfl (hb hby d6_5) rfl (XS.aloadN X584.here hx rfl (hb hby d6_6) rfl rfl (XS.iconst X584.here hx rfl (hb hby d6_7) (XS.iloadN X584.here hx rfl (hb hby d6_8) rfl kt)))))) ?_
  have F588 : Arv Z h584 x0 kc .char (3 : Int32) [(.int c0), (.int c1), (.int c2)] (.int 0) := (pr5.ext E584)
  obtain ⟨_, _, ⟨T589, L589, k589, n589⟩, -, X589, ⟨Lc589, hQ589, l589, y589, z589⟩, st589⟩ := Jvm.LawKit.callS X584 hx (y := yN1) hown (mvT hZ (own_k hw 38 rfl)) (mvT hZ (own_k hw 39 rfl)) (mvT hZ (own_k hw 36 rfl)) (mvT hZ (own_k hw 40 rfl)) (by decide) (backOf (W := 0) (own_k5_3_0 l Z a0 hw [] x0 kc b584 k584 c0 c1 c2 h584 n0 Z586 F588 F587 ge_b584 ne585 pr9) hZ (own_k hw 40 rfl) (own_k hw 36 rfl) (by decide) (by decide)) (g := (mkF m 9 #[.val (.ref x0), .val (.int 0), .val (.int 3), .val (.ref b584), .unset, .unset] [(.int 3), (.int 0), (.ref b584), (.int 0), (.ref x0)])) rfl hml.symm  (argsL := [(.ref x0), (.int 0), (.ref b584), (.int 0), (.int 3)]) (rest := []) (lenOf own_pd13 rfl) rfl (own_w0 rfl rfl) (hb hby d6_9) (fun _ _ => ⟨rfl, e584, (by decide : 1 + 0 ≤ 2), (by decide : 3 + 0 ≤ 9)⟩)
  dsimp only [Pt.U, Pt.locs, Pt.cells, Pt.slots] at X589 l589 y589 z589 st589 hQ589
  subst l589 y589 z589
  obtain ⟨rfl, N589, K589_, P590⟩ := hQ589
  have N591 := Fr.app N0 N589
  have Z592 : n0 ≤ T589.heap.size := Nat.le_trans Z586 K589_.1
  have K592 : Keep h0 T589.heap [] := (Keep.trans K586 K589_ (allS (Or.inr (Nat.le_trans K0.1 (Nat.le_of_eq g584.symm))) all0))
  refine own_st (T' := T589) (g' := (mkF m 12 #[.val (.ref x0), .val (.int 0), .val (.int 3), .val (.ref b584), .unset, .unset] [(.int 0)])) st589 ?_
  refine own_st (T' := T589) (g' := (mkF m 23 #[.val (.ref x0), .val (.int 0), .val (.int 3), .val (.ref b584), .val (.int 0), .unset] [(.int 3), (.int 0), (.ref x0)])) (fun _ kt => XS.istore X589.here hx rfl (hb hby d6_12) rfl (l' := #[.val (.ref x0), .val (.int 0), .val (.int 3), .val (.ref b584), .val (.int 0), .unset]) rfl (XS.iload X589.here hx rfl (hb hby d6_14) rfl (XS.iloadN X589.here hx rfl (hb hby d6_16) rfl (XS.icmpNo X589.here hx rfl (hb hby d6_17) rfl (XT.ii_eq_f (by decide)) (XS.aloadN X589.here hx rfl (hb hby d6_20) rfl rfl (XS.iloadN X589.here hx rfl (hb hby d6_21) rfl (XS.iloadN X589.here hx rfl (hb hby d6_22) rfl kt))))))) ?_
  have F593 : Old Z n0 T589.heap := (Old.keep (Old.ext pr1 E584) K589_ (allS ge_b584 all0))
  have F594 : Arv Z T589.heap x0 kc .char (3 : Int32) [(.int c0), (.int c1), (.int c2)] (.int 0) := (Arv.keep F588 K589_ (ninS ne585 nin0))
  obtain ⟨_, _, ⟨T595, L595, k595, n595⟩, -, X595, ⟨Lc595, hQ595, l595, y595, z595⟩, st595⟩ := Jvm.LawKit.callS X589 hx (y := yN5) hown (mvT hZ (own_k hw 80 rfl)) (mvT hZ (own_k hw 81 rfl)) (mvT hZ (own_k hw 36 rfl)) (mvT hZ (own_k hw 82 rfl)) (by decide) (backOf (W := 0) (own_tb3 l Z a0 hw [] x0 kc c0 c1 c2 T589.heap n0 Z592 F593 pr2 pr3 pr4 F594) hZ (own_k hw 82 rfl) (own_k hw 36 rfl) (by decide) (by decide)) (g := (mkF m 23 #[.val (.ref x0), .val (.int 0), .val (.int 3), .val (.ref b584), .val (.int 0), .unset] [(.int 3), (.int 0), (.ref x0)])) rfl hml.symm  (argsL := [(.ref x0), (.int 0), (.int 3)]) (rest := []) (lenOf own_pd14 rfl) rfl (own_w0 rfl rfl) (hb hby d6_23) (fun _ _ => ⟨rfl, rfl, (by decide : 1 + 1 ≤ 2), (by decide : 3 + 6 ≤ 9)⟩)
  dsimp only [Pt.U, Pt.locs, Pt.cells, Pt.slots] at X595 l595 y595 z595 st595 hQ595
  subst l595 y595 z595
  obtain ⟨b_595, kb_595, rfl, N595, K595_, P596, P597⟩ := hQ595
  have N598 := Fr.app N591 N595
  have Z599 : n0 ≤ T595.heap.size := Nat.le_trans Z592 K595_.1
  have K599 : Keep h0 T595.heap [] := (Keep.trans K592 K595_ all0)
  have ne600 : x0 ≠ b_595 := Nat.ne_of_lt (Nat.lt_of_lt_of_le F594.lt P597)
  have ne601 : b584 ≠ b_595 := Nat.ne_of_lt (Nat.lt_of_lt_of_le P590.lt P597)
  have ge602 : n0 ≤ b_595 := Nat.le_trans Z592 P597
  refine own_st (T' := T595) (g' := (mkF m 26 #[.val (.ref x0), .val (.int 0), .val (.int 3), .val (.ref b584), .val (.int 0), .unset] [(.ref b_595)])) st595 ?_
  refine own_st (T' := T595) (g' := (mkF m 32 #[.val (.ref x0), .val (.int 0), .val (.int 3), .val (.ref b584), .val (.int 0), .val (.ref b_595)] [(.int 0), (.ref b_595)])) (fun _ kt => XS.astore X595.here hx rfl (hb hby d6_26) rfl rfl (l' := #[.val (.ref x0), .val (.int 0), .val (.int 3), .val (.ref b584), .val (.int 0), .val (.ref b_595)]) rfl (XS.aload X595.here hx rfl (hb hby d6_28) rfl rfl (XS.iload X595.here hx rfl (hb hby d6_30) rfl kt))) ?_
  have F603 : Old Z n0 T595.heap := (Old.keep F593 K595_ all0)
  obtain ⟨_, _, ⟨T604, L604, k604, n604⟩, -, X604, ⟨Lc604, hQ604, l604, y604, z604⟩, st604⟩ := Jvm.LawKit.callS X595 hx (y := yN6) hown (mvT hZ (own_k hw 96 rfl)) (mvT hZ (own_k hw 97 rfl)) (mvT hZ (own_k hw 36 rfl)) (mvT hZ (own_k hw 98 rfl)) (by decide) (backOf (W := 0) (own_gc l Z a0 hw [] b_595 (0 : Int32) kb_595 (6 : Int32) [(.int (own_lo c0)), (.int (own_hi c0)), (.int (own_lo c1)), (.int (own_hi c1)), (.int (own_lo c2)), (.int (own_hi c2))] c0 T595.heap n0 Z599 F603 pr2 pr3 pr4 P596 pr6 (show own_u (6 : Int32) [(.int (own_lo c0)), (.int (own_hi c0)), (.int (own_lo c1)), (.int (own_hi c1)), (.int (own_lo c2)), (.int (own_hi c2))] (0 : Int32) c0 from ⟨by decide, rfl, by decide, rfl⟩)) hZ (own_k hw 98 rfl) (own_k hw 36 rfl) (by decide) (by decide)) (g := (mkF m 32 #[.val (.ref x0), .val (.int 0), .val (.int 3), .val (.ref b584), .val (.int 0), .val (.ref b_595)] [(.int 0), (.ref b_595)])) rfl hml.symm  (argsL := [(.ref b_595), (.int 0)]) (rest := []) (lenOf own_pd5 rfl) rfl (own_w0 rfl rfl) (hb hby d6_32) (fun _ _ => ⟨rfl, rfl, (by decide : 2 + 0 ≤ 2), (by decide : 9 + 0 ≤ 9)⟩)
  dsimp only [Pt.U, Pt.locs, Pt.cells, Pt.slots] at X604 l604 y604 z604 st604 hQ604
  subst l604 y604 z604
  obtain ⟨rfl, N604, e604⟩ := hQ604
  have N605 := Fr.app N598 N604
  refine own_st (T' := T604) (g' := (mkF m 35 #[.val (.ref x0), .val (.int 0), .val (.int 3), .val (.ref b584), .val (.int 0), .val (.ref b_595)] [(.int c0)])) st604 ?_
  refine own_st (T' := T604) (g' := (mkF m 56 #[.val (.ref x0), .val (.int 0), .val (.int 3), .val (.ref b584), .val (.int 0), .val (.ref b_595)] [(.ref b_595)])) (fun _ kt => XS.sipush X604.here hx rfl (hb hby d6_35) (XS.icmpYes X604.here hx rfl (pc0 := 38) (pc' := 54) rfl (hb hby d6_38) rfl (XT.ii_gt_t pr9) (by decide) (by decide) (XS.aload X604.here hx rfl (hb hby d6_54) rfl rfl kt))) ?_
  obtain ⟨fs, hr, hrun, hended, hW, hsame⟩ := X604.leave (v := some (.ref b_595)) (fun h => by rw [Bd.returns] at h; cases h)
  refine own_end (own_retA X604 hx Bd.returns rfl rfl rfl (hb hby d6_56) hr) ⟨_, hrun, hended, _, _, rfl, ?_, ⟨_, rfl⟩, hW, hsame.mono (by decide) (by decide)⟩
  show own_k3_3_0Q Z _ _ _ _ _ h0 n0 _ T604.heap _
  rw [e604]
  exact ⟨b_595, kb_595, rfl, N605, K599, P596, (Nat.le_trans K592.1 P597)⟩
def own_k5_3_1Q (Z : State) (x0 : Addr) (kc : ClassId) (d0 : Addr) (kd : ClassId) (c0 : Int32) (c1 : Int32) (c2 : Int32) (h0 : Heap) (n0 : Nat) (v : Option Value) (h : Heap) (L : List Loc) : Prop := v = some (.int 1) ∧ Fr n0 L ∧ Keep h0 h [d0] ∧ (Arv Z h d0 kd .byte (3 : Int32) [(.int c0.toInt8.toInt32), (.int 0), (.int 0)] (.int 0))
abbrev own_k5_3_1R : Room := { frames := 0, cells := 0, slots := 0, locals := 0 }
theorem own_k5_3_1 (l : Launch) (Z : State) (a0 : Array Value) (hw : ∀ d ∈ tables_1, d.before a0 Z = true) (ws : List Jvm.Cond) (x0 : Addr) (kc : ClassId) (d0 : Addr) (kd : ClassId) (c0 : Int32) (c1 : Int32) (c2 : Int32) (h0 : Heap) (n0 : Nat) (Z0 : n0 ≤ h0.size) (pr1 : Arv Z h0 x0 kc .char (3 : Int32) [(.int c0), (.int c1), (.int c2)] (.int 0)) (pr2 : Arv Z h0 d0 kd .byte (3 : Int32) [(.int 0), (.int 0), (.int 0)] (.int 0)) (pr3 : n0 ≤ d0) (pr4 : x0 ≠ d0) (pr5 : ¬ (255 : Int32) < c0) (pr6 : (255 : Int32) < c1) :
    own_M l yN1 jdk_52_method_21_code 7 (some .int) ws own_k5_3_1R #[(.ref x0), (.int 0), (.ref d0), (.int 0), (.int 3)] Z h0 (own_k5_3_1Q Z x0 kc d0 kd c0 c1 c2 h0 n0) := by
  refine own_go (plainFor_of_name own_pn3) (fun m => own_ef10 m x0 (0 : Int32) d0 (0 : Int32) (3 : Int32) ) ?_
  intro p e s m below meth c s₁ Bd hx hby hml hZ hh hown hnm X0 e0
  have N0 := Fr.nil n0
  have K0 : Keep h0 h0 [d0] := Keep.refl h0 _
  refine own_st (T' := s₁) (g' := (mkF m 12 #[.val (.ref x0), .val (.int 0), .val (.ref d0), .val (.int 0), .val (.int 3), .val (.int 0), .unset] [(.int 0), (.ref x0)])) (fun _ kt => XS.iconst X0.here hx rfl (hb hby d7_0) (XS.istore X0.here hx rfl (hb hby d7_1) rfl (l' := #[.val (.ref x0), .val (.int 0), .val (.ref d0), .val (.int 0), .val (.int 3), .val (.int 0), .unset]) rfl (XS.iload X0.here hx rfl (hb hby d7_3) rfl (XS.iload X0.here hx rfl (hb hby d7_5) rfl (XS.icmpNo X0.here hx rfl (hb hby d7_7) rfl (XT.ii_ge_f (by decide)) (XS.aloadN X0.here hx rfl (hb hby d7_10) rfl rfl (XS.iloadN X0.here hx rfl (hb hby d7_11) rfl kt))))))) ?_
  refine own_st (T' := s₁) (g' := (mkF m 13 #[.val (.ref x0), .val (.int 0), .val (.ref d0), .val (.int 0), .val (.int 3), .val (.int 0), .unset] [(.int c0)])) (own_cal X0 hx hZ e0 pr1 ⟨by decide, by decide⟩ rfl (g := (mkF m 12 #[.val (.ref x0), .val (.int 0), .val (.ref d0), .val (.int 0), .val (.int 3), .val (.int 0), .unset] [(.int 0), (.ref x0)])) rfl rfl (hb hby d7_12)) ?_
  refine own_st (T' := s₁) (g' := (mkF m 31 #[.val (.ref x0), .val (.int 0), .val (.ref d0), .val (.int 0), .val (.int 3), .val (.int 0), .val (.int c0)] [(.int (c0.toInt8.toInt32)), (.int 0), (.ref d0)])) (fun _ kt => XS.istore X0.here hx rfl (hb hby d7_13) rfl (l' := #[.val (.ref x0), .val (.int 0), .val (.ref d0), .val (.int 0), .val (.int 3), .val (.int 0), .val (.int c0)]) rfl (XS.iload X0.here hx rfl (hb hby d7_15) rfl (XS.sipush X0.here hx rfl (hb hby d7_17) (XS.icmpYes X0.here hx rfl (pc0 := 20) (pc' := 26) rfl (hb hby d7_20) rfl (XT.ii_le_t pr5) (by decide) (by decide) (XS.aloadN X0.here hx rfl (hb hby d7_26) rfl rfl (XS.iloadN X0.here hx rfl (hb hby d7_27) rfl (XS.iload X0.here hx rfl (hb hby d7_28) rfl (XT.i2b X0.here hx rfl (hb hby d7_30) rfl kt)))))))) ?_
  obtain ⟨T606, h606, X606, e606, W606, V606, st606⟩ := own_bst X0 hx hZ e0 pr2 ⟨by decide, by decide⟩ (i := 0) rfl (by simp) (y := (c0.toInt8.toInt32)) (own_narb _) (g := (mkF m 31 #[.val (.ref x0), .val (.int 0), .val (.ref d0), .val (.int 0), .val (.int 3), .val (.int 0), .val (.int c0)] [(.int (c0.toInt8.toInt32)), (.int 0), (.ref d0)])) rfl rfl (hb hby d7_31)
  have N606 := Fr.snoc X606 N0 pr3
  have Z607 : n0 ≤ h606.size := Nat.le_trans Z0 (Nat.le_of_eq (Wr.size W606).symm)
  have K607 : Keep h0 h606 [d0] := (Keep.wr K0 W606 (Or.inl (List.mem_of_getElem? (i := 0) rfl)))
  have F608 : Arv Z h606 d0 kd .byte (3 : Int32) [(.int (c0.toInt8.toInt32)), (.int 0), (.int 0)] (.int 0) := V606
  refine own_st (T' := T606) (g' := (mkF m 32 #[.val (.ref x0), .val (.int 0), .val (.ref d0), .val (.int 0), .val (.int 3), .val (.int 0), .val (.int c0)] [])) st606 ?_
  refine own_st (T' := T606) (g' := (mkF m 12 #[.val (.ref x0), .val (.int 1), .val (.ref d0), .val (.int 1), .val (.int 3), .val (.int 1), .val (.int c0)] [(.int 1), (.ref x0)])) (fun _ kt => XS.iinc X606.here hx rfl (hb hby d7_32) rfl (l' := #[.val (.ref x0), .val (.int 1), .val (.ref d0), .val (.int 0), .val (.int 3), .val (.int 0), .val (.int c0)]) rfl (XS.iinc X606.here hx rfl (hb hby d7_35) rfl (l' := #[.val (.ref x0), .val (.int 1), .val (.ref d0), .val (.int 1), .val (.int 3), .val (.int 0), .val (.int c0)]) rfl (XS.iinc X606.here hx rfl (hb hby d7_38) rfl (l' := #[.val (.ref x0), .val (.int 1), .val (.ref d0), .val (.int 1), .val (.int 3), .val (.int 1), .val (.int c0)]) rfl (XS.goto X606.here hx rfl (pc0 := 41) (pc' := 3) rfl (hb hby d7_41) (by decide) (by decide) (XS.iload X606.here hx rfl (hb hby d7_3) rfl (XS.iload X606.here hx rfl (hb hby d7_5) rfl (XS.icmpNo X606.here hx rfl (hb hby d7_7) rfl (XT.ii_ge_f (by decide)) (XS.aloadN X606.here hx rfl (hb hby d7_10) rfl rfl (XS.iloadN X606.here hx rfl (hb hby d7_11) rfl kt))))))))) ?_
  have F609 : Arv Z h606 x0 kc .char (3 : Int32) [(.int c0), (.int c1), (.int c2)] (.int 0) := (Arv.other pr1 W606 pr4)
  refine own_st (T' := T606) (g' := (mkF m 13 #[.val (.ref x0), .val (.int 1), .val (.ref d0), .val (.int 1), .val (.int 3), .val (.int 1), .val (.int c0)] [(.int c1)])) (own_cal X606 hx hZ e606 F609 ⟨by decide, by decide⟩ rfl (g := (mkF m 12 #[.val (.ref x0), .val (.int 1), .val (.ref d0), .val (.int 1), .val (.int 3), .val (.int 1), .val (.int c0)] [(.int 1), (.ref x0)])) rfl rfl (hb hby d7_12)) ?_
  refine own_st (T' := T606) (g' := (mkF m 25 #[.val (.ref x0), .val (.int 1), .val (.ref d0), .val (.int 1), .val (.int 3), .val (.int 1), .val (.int c1)] [(.int 1)])) (fun _ kt => XS.istore X606.here hx rfl (hb hby d7_13) rfl (l' := #[.val (.ref x0), .val (.int 1), .val (.ref d0), .val (.int 1), .val (.int 3), .val (.int 1), .val (.int c1)]) rfl (XS.iload X606.here hx rfl (hb hby d7_15) rfl (XS.sipush X606.here hx rfl (hb hby d7_17) (XS.icmpNo X606.here hx rfl (hb hby d7_20) rfl (XT.ii_le_f pr6) (XS.iload X606.here hx rfl (hb hby d7_23) rfl kt))))) ?_
  obtain ⟨fs, hr, hrun, hended, hW, hsame⟩ := X606.leave (v := some (.int 1)) (fun h => by rw [Bd.returns] at h; cases h)
  refine own_end (own_retI X606 hx Bd.returns (hb hby d7_25) hr) ⟨_, hrun, hended, _, _, rfl, ?_, ⟨_, rfl⟩, hW, hsame.mono (by decide) (by decide)⟩
  show own_k5_3_1Q Z _ _ _ _ _ _ _ h0 n0 _ T606.heap _
  rw [e606]
  exact ⟨rfl, N606, K607, F608⟩
def own_k3_3_1Q (Z : State) (x0 : Addr) (kc : ClassId) (c0 : Int32) (c1 : Int32) (c2 : Int32) (h0 : Heap) (n0 : Nat) (v : Option Value) (h : Heap) (L : List Loc) : Prop := ∃ (b : Addr), ∃ (kb : ClassId), v = some (.ref b) ∧ Fr n0 L ∧ Keep h0 h [] ∧ (Arv Z h b kb .byte (6 : Int32) [(.int (own_lo c0)), (.int (own_hi c0)), (.int (own_lo c1)), (.int (own_hi c1)), (.int (own_lo c2)), (.int (own_hi c2))] (.int 0)) ∧ (h0.size ≤ b)
abbrev own_k3_3_1R : Room := { frames := 3, cells := 2, slots := 9, locals := 40 }
theorem own_k3_3_1 (l : Launch) (Z : State) (a0 : Array Value) (hw : ∀ d ∈ tables_1, d.before a0 Z = true) (ws : List Jvm.Cond) (x0 : Addr) (kc : ClassId) (c0 : Int32) (c1 : Int32) (c2 : Int32) (h0 : Heap) (n0 : Nat) (Z0 : n0 ≤ h0.size) (pr1 : Old Z n0 h0) (pr2 : Sta Z Z.heap "java/lang/StringUTF16" "$assertionsDisabled" "Z" (.int 1)) (pr3 : Sta Z Z.heap "java/lang/StringUTF16" "HI_BYTE_SHIFT" "I" (.int 0)) (pr4 : Sta Z Z.heap "java/lang/StringUTF16" "LO_BYTE_SHIFT" "I" (.int 8)) (pr5 : Arv Z h0 x0 kc .char (3 : Int32) [(.int c0), (.int c1), (.int c2)] (.int 0)) (pr6 : own_c16 c0) (pr7 : own_c16 c1) (pr8 : own_c16 c2) (pr9 : ¬ (255 : Int32) < c0) (pr10 : (255 : Int32) < c1) :
    own_M l yN2 jdk_52_method_16_code 6 (some (.array .byte)) ws own_k3_3_1R #[(.ref x0), (.int 0), (.int 3)] Z h0 (own_k3_3_1Q Z x0 kc c0 c1 c2 h0 n0) := by
  refine own_go (plainFor_of_name own_pn3) (fun m => own_ef11 m x0 (0 : Int32) (3 : Int32) ) ?_
  intro p e s m below meth c s₁ Bd hx hby hml hZ hh hown hnm X0 e0
  have N0 := Fr.nil n0
  have K0 : Keep h0 h0 [] := Keep.refl h0 _
  refine own_st (T' := s₁) (g' := (mkF m 1 #[.val (.ref x0), .val (.int 0), .val (.int 3), .unset, .unset, .unset] [(.int 3)])) (fun _ kt => XS.iloadN X0.here hx rfl (hb hby d6_0) rfl kt) ?_
  obtain ⟨T610, h610, k610, X610, e610, E610, A610, st610⟩ := newP X0 hx hZ (aty := .byte) (own_k hw 17 rfl) e0 (g := (mkF m 1 #[.val (.ref x0), .val (.int 0), .val (.int 3), .unset, .unset, .unset] [(.int 3)])) rfl (hb hby d6_1) rfl (by decide) (cap := 3) (by decide) (by decide) (by decide) (by decide)
  obtain ⟨b610, g610⟩ : ∃ z, z = h0.size := ⟨_, rfl⟩
  rw [← g610] at A610 st610
  have ne611 : x0 ≠ b610 := by rw [g610]; exact Nat.ne_of_lt pr5.lt
  have Z612 : n0 ≤ h610.size := Nat.le_trans Z0 E610.1
  have K612 : Keep h0 h610 [] := (Keep.ext K0 E610)
  have ge_b610 : n0 ≤ b610 := Nat.le_trans Z0 (Nat.le_of_eq g610.symm)
  have F613 : Arv Z h610 b610 k610 .byte (3 : Int32) [(.int 0), (.int 0), (.int 0)] (.int 0) := (Arv.new A610 (by decide)).pad (pad_rep [] (.int 0) 3)
  refine own_st (T' := T610) (g' := (mkF m 3 #[.val (.ref x0), .val (.int 0), .val (.int 3), .unset, .unset, .unset] [(.ref b610)])) st610 ?_
  refine own_st (T' := T610) (g' := (mkF m 9 #[.val (.ref x0), .val (.int 0), .val (.int 3), .val (.ref b610), .unset, .unset] [(.int 3), (.int 0), (.ref b610), (.int 0), (.ref x0)])) (fun _ kt => XS.astoreN X610.here hx rfl (hb hby d6_3) rfl rfl (l' := #[.val (.ref x0), .val (.int 0), .val (.int 3), .val (.ref b610), .unset, .unset]) rfl (XS.aloadN X610.here hx rfl (hb hby d6_4) rfl rfl (XS.iloadN X610.here hx rfl (hb hby d6_5) rfl (XS.aloadN X610.here hx rfl (hb hby d6_6) rfl rfl (XS.iconst X610.here hx rfl (hb hby d6_7) (XS.iloadN X610.here hx rfl (hb hby d6_8) rfl kt)))))) ?_
  have F614 : Arv Z h610 x0 kc .char (3 : Int32) [(.int c0), (.int c1), (.int c2)] (.int 0) := (pr5.ext E610)
  obtain ⟨_, _, ⟨T615, L615, k615, n615⟩, -, X615, ⟨Lc615, hQ615, l615, y615, z615⟩, st615⟩ := Jvm.LawKit.callS X610 hx (y := yN1) hown (mvT hZ (own_k hw 38 rfl)) (mvT hZ (own_k hw 39 rfl)) (mvT hZ (own_k hw 36 rfl)) (mvT hZ (own_k hw 40 rfl)) (by decide) (backOf (W := 0) (own_k5_3_1 l Z a0 hw [] x0 kc b610 k610 c0 c1 c2 h610 n0 Z612 F614 F613 ge_b610 ne611 pr9 pr10) hZ (own_k hw 40 rfl) (own_k hw 36 rfl) (by decide) (by decide)) (g := (mkF m 9 #[.val (.ref x0), .val (.int 0), .val (.int 3), .val (.ref b610), .unset, .unset] [(.int 3), (.int 0), (.ref b610), (.int 0), (.ref x0)])) rfl hml.symm  (argsL := [(.ref x0), (.int 0), (.ref b610), (.int 0), (.int 3)]) (rest := []) (lenOf own_pd13 rfl) rfl (own_w0 rfl rfl) (hb hby d6_9) (fun _ _ => ⟨rfl, e610, (by decide : 1 + 0 ≤ 2), (by decide : 3 + 0 ≤ 9)⟩)
  dsimp only [Pt.U, Pt.locs, Pt.cells, Pt.slots] at X615 l615 y615 z615 st615 hQ615
  subst l615 y615 z615
  obtain ⟨rfl, N615, K615_, P616⟩ := hQ615
  have N617 := Fr.app N0 N615
  have Z618 : n0 ≤ T615.heap.size := Nat.le_trans Z612 K615_.1
  have K618 : Keep h0 T615.heap [] := (Keep.trans K612 K615_ (allS (Or.inr (Nat.le_trans K0.1 (Nat.le_of_eq g610.symm))) all0))
  refine own_st (T' := T615) (g' := (mkF m 12 #[.val (.ref x0), .val (.int 0), .val (.int 3), .val (.ref b610), .unset, .unset] [(.int 1)])) st615 ?_
  refine own_st (T' := T615) (g' := (mkF m 23 #[.val (.ref x0), .val (.int 0), .val (.int 3), .val (.ref b610), .val (.int 1), .unset] [(.int 3), (.int 0), (.ref x0)])) (fun _ kt => XS.istore X615.here hx rfl (hb hby d6_12) rfl (l' := #[.val (.ref x0), .val (.int 0), .val (.int 3), .val (.ref b610), .val (.int 1), .unset]) rfl (XS.iload X615.here hx rfl (hb hby d6_14) rfl (XS.iloadN X615.here hx rfl (hb hby d6_16) rfl (XS.icmpNo X615.here hx rfl (hb hby d6_17) rfl (XT.ii_eq_f (by decide)) (XS.aloadN X615.here hx rfl (hb hby d6_20) rfl rfl (XS.iloadN X615.here hx rfl (hb hby d6_21) rfl (XS.iloadN X615.here hx rfl (hb hby d6_22) rfl kt))))))) ?_
  have F619 : Old Z n0 T615.heap := (Old.keep (Old.ext pr1 E610) K615_ (allS ge_b610 all0))
  have F620 : Arv Z T615.heap x0 kc .char (3 : Int32) [(.int c0), (.int c1), (.int c2)] (.int 0) := (Arv.keep F614 K615_ (ninS ne611 nin0))
  obtain ⟨_, _, ⟨T621, L621, k621, n621⟩, -, X621, ⟨Lc621, hQ621, l621, y621, z621⟩, st621⟩ := Jvm.LawKit.callS X615 hx (y := yN5) hown (mvT hZ (own_k hw 80 rfl)) (mvT hZ (own_k hw 81 rfl)) (mvT hZ (own_k hw 36 rfl)) (mvT hZ (own_k hw 82 rfl)) (by decide) (backOf (W := 0) (own_tb3 l Z a0 hw [] x0 kc c0 c1 c2 T615.heap n0 Z618 F619 pr2 pr3 pr4 F620) hZ (own_k hw 82 rfl) (own_k hw 36 rfl) (by decide) (by decide)) (g := (mkF m 23 #[.val (.ref x0), .val (.int 0), .val (.int 3), .val (.ref b610), .val (.int 1), .unset] [(.int 3), (.int 0), (.ref x0)])) rfl hml.symm  (argsL := [(.ref x0), (.int 0), (.int 3)]) (rest := []) (lenOf own_pd14 rfl) rfl (own_w0 rfl rfl) (hb hby d6_23) (fun _ _ => ⟨rfl, rfl, (by decide : 1 + 1 ≤ 2), (by decide : 3 + 6 ≤ 9)⟩)
  dsimp only [Pt.U, Pt.locs, Pt.cells, Pt.slots] at X621 l621 y621 z621 st621 hQ621
  subst l621 y621 z621
  obtain ⟨b_621, kb_621, rfl, N621, K621_, P622, P623⟩ := hQ621
  have N624 := Fr.app N617 N621
  have Z625 : n0 ≤ T621.heap.size := Nat.le_trans Z618 K621_.1
  have K625 : Keep h0 T621.heap [] := (Keep.trans K618 K621_ all0)
  have ne626 : x0 ≠ b_621 := Nat.ne_of_lt (Nat.lt_of_lt_of_le F620.lt P623)
  have ne627 : b610 ≠ b_621 := Nat.ne_of_lt (Nat.lt_of_lt_of_le P616.lt P623)
  have ge628 : n0 ≤ b_621 := Nat.le_trans Z618 P623
  refine own_st (T' := T621) (g' := (mkF m 26 #[.val (.ref x0), .val (.int 0), .val (.int 3), .val (.ref b610), .val (.int 1), .unset] [(.ref b_621)])) st621 ?_
  refine own_st (T' := T621) (g' := (mkF m 32 #[.val (.ref x0), .val (.int 0), .val (.int 3), .val (.ref b610), .val (.int 1), .val (.ref b_621)] [(.int 1), (.ref b_621)])) (fun _ kt => XS.astore X621.here hx rfl (hb hby d6_26) rfl rfl (l' := #[.val (.ref x0), .val (.int 0), .val (.int 3), .val (.ref b610), .val (.int 1), .val (.ref b_621)]) rfl (XS.aload X621.here hx rfl (hb hby d6_28) rfl rfl (XS.iload X621.here hx rfl (hb hby d6_30) rfl kt))) ?_
  have F629 : Old Z n0 T621.heap := (Old.keep F619 K621_ all0)
  obtain ⟨_, _, ⟨T630, L630, k630, n630⟩, -, X630, ⟨Lc630, hQ630, l630, y630, z630⟩, st630⟩ := Jvm.LawKit.callS X621 hx (y := yN6) hown (mvT hZ (own_k hw 96 rfl)) (mvT hZ (own_k hw 97 rfl)) (mvT hZ (own_k hw 36 rfl)) (mvT hZ (own_k hw 98 rfl)) (by decide) (backOf (W := 0) (own_gc l Z a0 hw [] b_621 (1 : Int32) kb_621 (6 : Int32) [(.int (own_lo c0)), (.int (own_hi c0)), (.int (own_lo c1)), (.int (own_hi c1)), (.int (own_lo c2)), (.int (own_hi c2))] c1 T621.heap n0 Z625 F629 pr2 pr3 pr4 P622 pr7 (show own_u (6 : Int32) [(.int (own_lo c0)), (.int (own_hi c0)), (.int (own_lo c1)), (.int (own_hi c1)), (.int (own_lo c2)), (.int (own_hi c2))] (1 : Int32) c1 from ⟨by decide, rfl, by decide, rfl⟩)) hZ (own_k hw 98 rfl) (own_k hw 36 rfl) (by decide) (by decide)) (g := (mkF m 32 #[.val (.ref x0), .val (.int 0), .val (.int 3), .val (.ref b610), .val (.int 1), .val (.ref b_621)] [(.int 1), (.ref b_621)])) rfl hml.symm  (argsL := [(.ref b_621), (.int 1)]) (rest := []) (lenOf own_pd5 rfl) rfl (own_w0 rfl rfl) (hb hby d6_32) (fun _ _ => ⟨rfl, rfl, (by decide : 2 + 0 ≤ 2), (by decide : 9 + 0 ≤ 9)⟩)
  dsimp only [Pt.U, Pt.locs, Pt.cells, Pt.slots] at X630 l630 y630 z630 st630 hQ630
  subst l630 y630 z630
  obtain ⟨rfl, N630, e630⟩ := hQ630
  have N631 := Fr.app N624 N630
  refine own_st (T' := T630) (g' := (mkF m 35 #[.val (.ref x0), .val (.int 0), .val (.int 3), .val (.ref b610), .val (.int 1), .val (.ref b_621)] [(.int c1)])) st630 ?_
  refine own_st (T' := T630) (g' := (mkF m 56 #[.val (.ref x0), .val (.int 0), .val (.int 3), .val (.ref b610), .val (.int 1), .val (.ref b_621)] [(.ref b_621)])) (fun _ kt => XS.sipush X630.here hx rfl (hb hby d6_35) (XS.icmpYes X630.here hx rfl (pc0 := 38) (pc' := 54) rfl (hb hby d6_38) rfl (XT.ii_gt_t pr10) (by decide) (by decide) (XS.aload X630.here hx rfl (hb hby d6_54) rfl rfl kt))) ?_
  obtain ⟨fs, hr, hrun, hended, hW, hsame⟩ := X630.leave (v := some (.ref b_621)) (fun h => by rw [Bd.returns] at h; cases h)
  refine own_end (own_retA X630 hx Bd.returns rfl rfl rfl (hb hby d6_56) hr) ⟨_, hrun, hended, _, _, rfl, ?_, ⟨_, rfl⟩, hW, hsame.mono (by decide) (by decide)⟩
  show own_k3_3_1Q Z _ _ _ _ _ h0 n0 _ T630.heap _
  rw [e630]
  exact ⟨b_621, kb_621, rfl, N631, K625, P622, (Nat.le_trans K618.1 P623)⟩
def own_k5_3_2Q (Z : State) (x0 : Addr) (kc : ClassId) (d0 : Addr) (kd : ClassId) (c0 : Int32) (c1 : Int32) (c2 : Int32) (h0 : Heap) (n0 : Nat) (v : Option Value) (h : Heap) (L : List Loc) : Prop := v = some (.int 2) ∧ Fr n0 L ∧ Keep h0 h [d0] ∧ (Arv Z h d0 kd .byte (3 : Int32) [(.int c0.toInt8.toInt32), (.int c1.toInt8.toInt32), (.int 0)] (.int 0))
abbrev own_k5_3_2R : Room := { frames := 0, cells := 0, slots := 0, locals := 0 }
theorem own_k5_3_2 (l : Launch) (Z : State) (a0 : Array Value) (hw : ∀ d ∈ tables_1, d.before a0 Z = true) (ws : List Jvm.Cond) (x0 : Addr) (kc : ClassId) (d0 : Addr) (kd : ClassId) (c0 : Int32) (c1 : Int32) (c2 : Int32) (h0 : Heap) (n0 : Nat) (Z0 : n0 ≤ h0.size) (pr1 : Arv Z h0 x0 kc .char (3 : Int32) [(.int c0), (.int c1), (.int c2)] (.int 0)) (pr2 : Arv Z h0 d0 kd .byte (3 : Int32) [(.int 0), (.int 0), (.int 0)] (.int 0)) (pr3 : n0 ≤ d0) (pr4 : x0 ≠ d0) (pr5 : ¬ (255 : Int32) < c0) (pr6 : ¬ (255 : Int32) < c1) (pr7 : (255 : Int32) < c2) :
    own_M l yN1 jdk_52_method_21_code 7 (some .int) ws own_k5_3_2R #[(.ref x0), (.int 0), (.ref d0), (.int 0), (.int 3)] Z h0 (own_k5_3_2Q Z x0 kc d0 kd c0 c1 c2 h0 n0) := by
  refine own_go (plainFor_of_name own_pn3) (fun m => own_ef10 m x0 (0 : Int32) d0 (0 : Int32) (3 : Int32) ) ?_
  intro p e s m below meth c s₁ Bd hx hby hml hZ hh hown hnm X0 e0
  have N0 := Fr.nil n0
  have K0 : Keep h0 h0 [d0] := Keep.refl h0 _
  refine own_st (T' := s₁) (g' := (mkF m 12 #[.val (.ref x0), .val (.int 0), .val (.ref d0), .val (.int 0), .val (.int 3), .val (.int 0), .unset] [(.int 0), (.ref x0)])) (fun _ kt => XS.iconst X0.here hx rfl (hb hby d7_0) (XS.istore X0.here hx rfl (hb hby d7_1) rfl (l' := #[.val (.ref x0), .val (.int 0), .val (.ref d0), .val (.int 0), .val (.int 3), .val (.int 0), .unset]) rfl (XS.iload X0.here hx rfl (hb hby d7_3) rfl (XS.iload X0.here hx rfl (hb hby d7_5) rfl (XS.icmpNo X0.here hx rfl (hb hby d7_7) rfl (XT.ii_ge_f (by decide)) (XS.aloadN X0.here hx rfl (hb hby d7_10) rfl rfl (XS.iloadN X0.here hx rfl (hb hby d7_11) rfl kt))))))) ?_
  refine own_st (T' := s₁) (g' := (mkF m 13 #[.val (.ref x0), .val (.int 0), .val (.ref d0), .val (.int 0), .val (.int 3), .val (.int 0), .unset] [(.int c0)])) (own_cal X0 hx hZ e0 pr1 ⟨by decide, by decide⟩ rfl (g := (mkF m 12 #[.val (.ref x0), .val (.int 0), .val (.ref d0), .val (.int 0), .val (.int 3), .val (.int 0), .unset] [(.int 0), (.ref x0)])) rfl rfl (hb hby d7_12)) ?_
  refine own_st (T' := s₁) (g' := (mkF m 31 #[.val (.ref x0), .val (.int 0), .val (.ref d0), .val (.int 0), .val (.int 3), .val (.int 0), .val (.int c0)] [(.int (c0.toInt8.toInt32)), (.int 0), (.ref d0)])) (fun _ kt => XS.istore X0.here hx rfl (hb hby d7_13) rfl (l' := #[.val (.ref x0), .val (.int 0), .val (.ref d0), .val (.int 0), .val (.int 3), .val (.int 0), .val (.int c0)]) rfl (XS.iload X0.here hx rfl (hb hby d7_15) rfl (XS.sipush X0.here hx rfl (hb hby d7_17) (XS.icmpYes X0.here hx rfl (pc0 := 20) (pc' := 26) rfl (hb hby d7_20) rfl (XT.ii_le_t pr5) (by decide) (by decide) (XS.aloadN X0.here hx rfl (hb hby d7_26) rfl rfl (XS.iloadN X0.here hx rfl (hb hby d7_27) rfl (XS.iload X0.here hx rfl (hb hby d7_28) rfl (XT.i2b X0.here hx rfl (hb hby d7_30) rfl kt)))))))) ?_
  obtain ⟨T632, h632, X632, e632, W632, V632, st632⟩ := own_bst X0 hx hZ e0 pr2 ⟨by decide, by decide⟩ (i := 0) rfl (by simp) (y := (c0.toInt8.toInt32)) (own_narb _) (g := (mkF m 31 #[.val (.ref x0), .val (.int 0), .val (.ref d0), .val (.int 0), .val (.int 3), .val (.int 0), .val (.int c0)] [(.int (c0.toInt8.toInt32)), (.int 0), (.ref d0)])) rfl rfl (hb hby d7_31)
  have N632 := Fr.snoc X632 N0 pr3
  have Z633 : n0 ≤ h632.size := Nat.le_trans Z0 (Nat.le_of_eq (Wr.size W632).symm)
  have K633 : Keep h0 h632 [d0] := (Keep.wr K0 W632 (Or.inl (List.mem_of_getElem? (i := 0) rfl)))
  have F634 : Arv Z h632 d0 kd .byte (3 : Int32) [(.int (c0.toInt8.toInt32)), (.int 0), (.int 0)] (.int 0) := V632
  refine own_st (T' := T632) (g' := (mkF m 32 #[.val (.ref x0), .val (.int 0), .val (.ref d0), .val (.int 0), .val (.int 3), .val (.int 0), .val (.int c0)] [])) st632 ?_
  refine own_st (T' := T632) (g' := (mkF m 12 #[.val (.ref x0), .val (.int 1), .val (.ref d0), .val (.int 1), .val (.int 3), .val (.int 1), .val (.int c0)] [(.int 1), (.ref x0)])) (fun _ kt => XS.iinc X632.here hx rfl (hb hby d7_32) rfl (l' := #[.val (.ref x0), .val (.int 1), .val (.ref d0), .val (.int 0), .val (.int 3), .val (.int 0), .val (.int c0)]) rfl (XS.iinc X632.here hx rfl (hb hby d7_35) rfl (l' := #[.val (.ref x0), .val (.int 1), .val (.ref d0), .val (.int 1), .val (.int 3), .val (.int 0), .val (.int c0)]) rfl (XS.iinc X632.here hx rfl (hb hby d7_38) rfl (l' := #[.val (.ref x0), .val (.int 1), .val (.ref d0), .val (.int 1), .val (.int 3), .val (.int 1), .val (.int c0)]) rfl (XS.goto X632.here hx rfl (pc0 := 41) (pc' := 3) rfl (hb hby d7_41) (by decide) (by decide) (XS.iload X632.here hx rfl (hb hby d7_3) rfl (XS.iload X632.here hx rfl (hb hby d7_5) rfl (XS.icmpNo X632.here hx rfl (hb hby d7_7) rfl (XT.ii_ge_f (by decide)) (XS.aloadN X632.here hx rfl (hb hby d7_10) rfl rfl (XS.iloadN X632.here hx rfl (hb hby d7_11) rfl kt))))))))) ?_
  have F635 : Arv Z h632 x0 kc .char (3 : Int32) [(.int c0), (.int c1), (.int c2)] (.int 0) := (Arv.other pr1 W632 pr4)
  refine own_st (T' := T632) (g' := (mkF m 13 #[.val (.ref x0), .val (.int 1), .val (.ref d0), .val (.int 1), .val (.int 3), .val (.int 1), .val (.int c0)] [(.int c1)])) (own_cal X632 hx hZ e632 F635 ⟨by decide, by decide⟩ rfl (g := (mkF m 12 #[.val (.ref x0), .val (.int 1), .val (.ref d0), .val (.int 1), .val (.int 3), .val (.int 1), .val (.int c0)] [(.int 1), (.ref x0)])) rfl rfl (hb hby d7_12)) ?_
  refine own_st (T' := T632) (g' := (mkF m 31 #[.val (.ref x0), .val (.int 1), .val (.ref d0), .val (.int 1), .val (.int 3), .val (.int 1), .val (.int c1)] [(.int (c1.toInt8.toInt32)), (.int 1), (.ref d0)])) (fun _ kt => XS.istore X632.here hx rfl (hb hby d7_13) rfl (l' := #[.val (.ref x0), .val (.int 1), .val (.ref d0), .val (.int 1), .val (.int 3), .val (.int 1), .val (.int c1)]) rfl (XS.iload X632.here hx rfl (hb hby d7_15) rfl (XS.sipush X632.here hx rfl (hb hby d7_17) (XS.icmpYes X632.here hx rfl (pc0 := 20) (pc' := 26) rfl (hb hby d7_20) rfl (XT.ii_le_t pr6) (by decide) (by decide) (XS.aloadN X632.here hx rfl (hb hby d7_26) rfl rfl (XS.iloadN X632.here hx rfl (hb hby d7_27) rfl (XS.iload X632.here hx rfl (hb hby d7_28) rfl (XT.i2b X632.here hx rfl (hb hby d7_30) rfl kt)))))))) ?_
  obtain ⟨T636, h636, X636, e636, W636, V636, st636⟩ := own_bst X632 hx hZ e632 F634 ⟨by decide, by decide⟩ (i := 1) rfl (by simp) (y := (c1.toInt8.toInt32)) (own_narb _) (g := (mkF m 31 #[.val (.ref x0), .val (.int 1), .val (.ref d0), .val (.int 1), .val (.int 3), .val (.int 1), .val (.int c1)] [(.int (c1.toInt8.toInt32)), (.int 1), (.ref d0)])) rfl rfl (hb hby d7_31)
  have N636 := Fr.snoc X636 N632 pr3
  have Z637 : n0 ≤ h636.size := Nat.le_trans Z633 (Nat.le_of_eq (Wr.size W636).symm)
  have K637 : Keep h0 h636 [d0] := (Keep.wr K633 W636 (Or.inl (List.mem_of_getElem? (i := 0) rfl)))
  have F638 : Arv Z h636 d0 kd .byte (3 : Int32) [(.int (c0.toInt8.toInt32)), (.int (c1.toInt8.toInt32)), (.int 0)] (.int 0) := V636
  refine own_st (T' := T636) (g' := (mkF m 32 #[.val (.ref x0), .val (.int 1), .val (.ref d0), .val (.int 1), .val (.int 3), .val (.int 1), .val (.int c1)] [])) st636 ?_
  refine own_st (T' := T636) (g' := (mkF m 12 #[.val (.ref x0), .val (.int 2), .val (.ref d0), .val (.int 2), .val (.int 3), .val (.int 2), .val (.int c1)] [(.int 2), (.ref x0)])) (fun _ kt => XS.iinc X636.here hx rfl (hb hby d7_32) rfl (l' := #[.val (.ref x0), .val (.int 2), .val (.ref d0), .val (.int 1), .val (.int 3), .val (.int 1), .val (.int c1)]) rfl (XS.iinc X636.here hx rfl (hb hby d7_35) rfl (l' := #[.val (.ref x0), .val (.int 2), .val (.ref d0), .val (.int 2), .val (.int 3), .val (.int 1), .val (.int c1)]) rfl (XS.iinc X636.here hx rfl (hb hby d7_38) rfl (l' := #[.val (.ref x0), .val (.int 2), .val (.ref d0), .val (.int 2), .val (.int 3), .val (.int 2), .val (.int c1)]) rfl (XS.goto X636.here hx rfl (pc0 := 41) (pc' := 3) rfl (hb hby d7_41) (by decide) (by decide) (XS.iload X636.here hx rfl (hb hby d7_3) rfl (XS.iload X636.here hx rfl (hb hby d7_5) rfl (XS.icmpNo X636.here hx rfl (hb hby d7_7) rfl (XT.ii_ge_f (by decide)) (XS.aloadN X636.here hx rfl (hb hby d7_10) rfl rfl (XS.iloadN X636.here hx rfl (hb hby d7_11) rfl kt))))))))) ?_
  have F639 : Arv Z h636 x0 kc .char (3 : Int32) [(.int c0), (.int c1), (.int c2)] (.int 0) := (Arv.other F635 W636 pr4)
  refine own_st (T' := T636) (g' := (mkF m 13 #[.val (.ref x0), .val (.int 2), .val (.ref d0), .val (.int 2), .val (.int 3), .val (.int 2), .val (.int c1)] [(.int c2)])) (own_cal X636 hx hZ e636 F639 ⟨by decide, by decide⟩ rfl (g := (mkF m 12 #[.val (.ref x0), .val (.int 2), .val (.ref d0), .val (.int 2), .val (.int 3), .val (.int 2), .val (.int c1)] [(.int 2), (.ref x0)])) rfl rfl (hb hby d7_12)) ?_
  refine own_st (T' := T636) (g' := (mkF m 25 #[.val (.ref x0), .val (.int 2), .val (.ref d0), .val (.int 2), .val (.int 3), .val (.int 2), .val (.int c2)] [(.int 2)])) (fun _ kt => XS.istore X636.here hx rfl (hb hby d7_13) rfl (l' := #[.val (.ref x0), .val (.int 2), .val (.ref d0), .val (.int 2), .val (.int 3), .val (.int 2), .val (.int c2)]) rfl (XS.iload X636.here hx rfl (hb hby d7_15) rfl (XS.sipush X636.here hx rfl (hb hby d7_17) (XS.icmpNo X636.here hx rfl (hb hby d7_20) rfl (XT.ii_le_f pr7) (XS.iload X636.here hx rfl (hb hby d7_23) rfl kt))))) ?_
  obtain ⟨fs, hr, hrun, hended, hW, hsame⟩ := X636.leave (v := some (.int 2)) (fun h => by rw [Bd.returns] at h; cases h)
  refine own_end (own_retI X636 hx Bd.returns (hb hby d7_25) hr) ⟨_, hrun, hended, _, _, rfl, ?_, ⟨_, rfl⟩, hW, hsame.mono (by decide) (by decide)⟩
  show own_k5_3_2Q Z _ _ _ _ _ _ _ h0 n0 _ T636.heap _
  rw [e636]
  exact ⟨rfl, N636, K637, F638⟩
def own_k3_3_2Q (Z : State) (x0 : Addr) (kc : ClassId) (c0 : Int32) (c1 : Int32) (c2 : Int32) (h0 : Heap) (n0 : Nat) (v : Option Value) (h : Heap) (L : List Loc) : Prop := ∃ (b : Addr), ∃ (kb : ClassId), v = some (.ref b) ∧ Fr n0 L ∧ Keep h0 h [] ∧ (Arv Z h b kb .byte (6 : Int32) [(.int (own_lo c0)), (.int (own_hi c0)), (.int (own_lo c1)), (.int (own_hi c1)), (.int (own_lo c2)), (.int (own_hi c2))] (.int 0)) ∧ (h0.size ≤ b)
abbrev own_k3_3_2R : Room := { frames := 3, cells := 2, slots := 9, locals := 40 }
theorem own_k3_3_2 (l : Launch) (Z : State) (a0 : Array Value) (hw : ∀ d ∈ tables_1, d.before a0 Z = true) (ws : List Jvm.Cond) (x0 : Addr) (kc : ClassId) (c0 : Int32) (c1 : Int32) (c2 : Int32) (h0 : Heap) (n0 : Nat) (Z0 : n0 ≤ h0.size) (pr1 : Old Z n0 h0) (pr2 : Sta Z Z.heap "java/lang/StringUTF16" "$assertionsDisabled" "Z" (.int 1)) (pr3 : Sta Z Z.heap "java/lang/StringUTF16" "HI_BYTE_SHIFT" "I" (.int 0)) (pr4 : Sta Z Z.heap "java/lang/StringUTF16" "LO_BYTE_SHIFT" "I" (.int 8)) (pr5 : Arv Z h0 x0 kc .char (3 : Int32) [(.int c0), (.int c1), (.int c2)] (.int 0)) (pr6 : own_c16 c0) (pr7 : own_c16 c1) (pr8 : own_c16 c2) (pr9 : ¬ (255 : Int32) < c0) (pr10 : ¬ (255 : Int32) < c1) (pr11 : (255 : Int32) < c2) :
    own_M l yN2 jdk_52_method_16_code 6 (some (.array .byte)) ws own_k3_3_2R #[(.ref x0), (.int 0), (.int 3)] Z h0 (own_k3_3_2Q Z x0 kc c0 c1 c2 h0 n0) := by
  refine own_go (plainFor_of_name own_pn3) (fun m => own_ef11 m x0 (0 : Int32) (3 : Int32) ) ?_
  intro p e s m below meth c s₁ Bd hx hby hml hZ hh hown hnm X0 e0
  have N0 := Fr.nil n0
  have K0 : Keep h0 h0 [] := Keep.refl h0 _
  refine own_st (T' := s₁) (g' := (mkF m 1 #[.val (.ref x0), .val (.int 0), .val (.int 3), .unset, .unset, .unset] [(.int 3)])) (fun _ kt => XS.iloadN X0.here hx rfl (hb hby d6_0) rfl kt) ?_
  obtain ⟨T640, h640, k640, X640, e640, E640, A640, st640⟩ := newP X0 hx hZ (aty := .byte) (own_k hw 17 rfl) e0 (g := (mkF m 1 #[.val (.ref x0), .val (.int 0), .val (.int 3), .unset, .unset, .unset] [(.int 3)])) rfl (hb hby d6_1) rfl (by decide) (cap := 3) (by decide) (by decide) (by decide) (by decide)
  obtain ⟨b640, g640⟩ : ∃ z, z = h0.size := ⟨_, rfl⟩
  rw [← g640] at A640 st640
  have ne641 : x0 ≠ b640 := by rw [g640]; exact Nat.ne_of_lt pr5.lt
  have Z642 : n0 ≤ h640.size := Nat.le_trans Z0 E640.1
  have K642 : Keep h0 h640 [] := (Keep.ext K0 E640)
  have ge_b640 : n0 ≤ b640 := Nat.le_trans Z0 (Nat.le_of_eq g640.symm)
  have F643 : Arv Z h640 b640 k640 .byte (3 : Int32) [(.int 0), (.int 0), (.int 0)] (.int 0) := (Arv.new A640 (by decide)).pad (pad_rep [] (.int 0) 3)
  refine own_st (T' := T640) (g' := (mkF m 3 #[.val (.ref x0), .val (.int 0), .val (.int 3), .unset, .unset, .unset] [(.ref b640)])) st640 ?_
  refine own_st (T' := T640) (g' := (mkF m 9 #[.val (.ref x0), .val (.int 0), .val (.int 3), .val (.ref b640), .unset, .unset] [(.int 3), (.int 0), (.ref b640), (.int 0), (.ref x0)])) (fun _ kt => XS.astoreN X640.here hx rfl (hb hby d6_3) rfl rfl (l' := #[.val (.ref x0), .val (.int 0), .val (.int 3), .val (.ref b640), .unset, .unset]) rfl (XS.aloadN X640.here hx rfl (hb hby d6_4) rfl rfl (XS.iloadN X640.here hx rfl (hb hby d6_5) rfl (XS.aloadN X640.here hx rfl (hb hby d6_6) rfl rfl (XS.iconst X640.here hx rfl (hb hby d6_7) (XS.iloadN X640.here hx rfl (hb hby d6_8) rfl kt)))))) ?_
  have F644 : Arv Z h640 x0 kc .char (3 : Int32) [(.int c0), (.int c1), (.int c2)] (.int 0) := (pr5.ext E640)
  obtain ⟨_, _, ⟨T645, L645, k645, n645⟩, -, X645, ⟨Lc645, hQ645, l645, y645, z645⟩, st645⟩ := Jvm.LawKit.callS X640 hx (y := yN1) hown (mvT hZ (own_k hw 38 rfl)) (mvT hZ (own_k hw 39 rfl)) (mvT hZ (own_k hw 36 rfl)) (mvT hZ (own_k hw 40 rfl)) (by decide) (backOf (W := 0) (own_k5_3_2 l Z a0 hw [] x0 kc b640 k640 c0 c1 c2 h640 n0 Z642 F644 F643 ge_b640 ne641 pr9 pr10 pr11) hZ (own_k hw 40 rfl) (own_k hw 36 rfl) (by decide) (by decide)) (g := (mkF m 9 #[.val (.ref x0), .val (.int 0), .val (.int 3), .val (.ref b640), .unset, .unset] [(.int 3), (.int 0), (.ref b640), (.int 0), (.ref x0)])) rfl hml.symm  (argsL := [(.ref x0), (.int 0), (.ref b640), (.int 0), (.int 3)]) (rest := []) (lenOf own_pd13 rfl) rfl (own_w0 rfl rfl) (hb hby d6_9) (fun _ _ => ⟨rfl, e640, (by decide : 1 + 0 ≤ 2), (by decide : 3 + 0 ≤ 9)⟩)
  dsimp only [Pt.U, Pt.locs, Pt.cells, Pt.slots] at X645 l645 y645 z645 st645 hQ645
  subst l645 y645 z645
  obtain ⟨rfl, N645, K645_, P646⟩ := hQ645
  have N647 := Fr.app N0 N645
  have Z648 : n0 ≤ T645.heap.size := Nat.le_trans Z642 K645_.1
  have K648 : Keep h0 T645.heap [] := (Keep.trans K642 K645_ (allS (Or.inr (Nat.le_trans K0.1 (Nat.le_of_eq g640.symm))) all0))
  refine own_st (T' := T645) (g' := (mkF m 12 #[.val (.ref x0), .val (.int 0), .val (.int 3), .val (.ref b640), .unset, .unset] [(.int 2)])) st645 ?_
  refine own_st (T' := T645) (g' := (mkF m 23 #[.val (.ref x0), .val (.int 0), .val (.int 3), .val (.ref b640), .val (.int 2), .unset] [(.int 3), (.int 0), (.ref x0)])) (fun _ kt => XS.istore X645.here hx rfl (hb hby d6_12) rfl (l' := #[.val (.ref x0), .val (.int 0), .val (.int 3), .val (.ref b640), .val (.int 2), .unset]) rfl (XS.iload X645.here hx rfl (hb hby d6_14) rfl (XS.iloadN X645.here hx rfl (hb hby d6_16) rfl (XS.icmpNo X645.here hx rfl (hb hby d6_17) rfl (XT.ii_eq_f (by decide)) (XS.aloadN X645.here hx rfl (hb hby d6_20) rfl rfl (XS.iloadN X645.here hx rfl (hb hby d6_21) rfl (XS.iloadN X645.here hx rfl (hb hby d6_22) rfl kt))))))) ?_
  have F649 : Old Z n0 T645.heap := (Old.keep (Old.ext pr1 E640) K645_ (allS ge_b640 all0))
  have F650 : Arv Z T645.heap x0 kc .char (3 : Int32) [(.int c0), (.int c1), (.int c2)] (.int 0) := (Arv.keep F644 K645_ (ninS ne641 nin0))
  obtain ⟨_, _, ⟨T651, L651, k651, n651⟩, -, X651, ⟨Lc651, hQ651, l651, y651, z651⟩, st651⟩ := Jvm.LawKit.callS X645 hx (y := yN5) hown (mvT hZ (own_k hw 80 rfl)) (mvT hZ (own_k hw 81 rfl)) (mvT hZ (own_k hw 36 rfl)) (mvT hZ (own_k hw 82 rfl)) (by decide) (backOf (W := 0) (own_tb3 l Z a0 hw [] x0 kc c0 c1 c2 T645.heap n0 Z648 F649 pr2 pr3 pr4 F650) hZ (own_k hw 82 rfl) (own_k hw 36 rfl) (by decide) (by decide)) (g := (mkF m 23 #[.val (.ref x0), .val (.int 0), .val (.int 3), .val (.ref b640), .val (.int 2), .unset] [(.int 3), (.int 0), (.ref x0)])) rfl hml.symm  (argsL := [(.ref x0), (.int 0), (.int 3)]) (rest := []) (lenOf own_pd14 rfl) rfl (own_w0 rfl rfl) (hb hby d6_23) (fun _ _ => ⟨rfl, rfl, (by decide : 1 + 1 ≤ 2), (by decide : 3 + 6 ≤ 9)⟩)
  dsimp only [Pt.U, Pt.locs, Pt.cells, Pt.slots] at X651 l651 y651 z651 st651 hQ651
  subst l651 y651 z651
  obtain ⟨b_651, kb_651, rfl, N651, K651_, P652, P653⟩ := hQ651
  have N654 := Fr.app N647 N651
  have Z655 : n0 ≤ T651.heap.size := Nat.le_trans Z648 K651_.1
  have K655 : Keep h0 T651.heap [] := (Keep.trans K648 K651_ all0)
  have ne656 : x0 ≠ b_651 := Nat.ne_of_lt (Nat.lt_of_lt_of_le F650.lt P653)
  have ne657 : b640 ≠ b_651 := Nat.ne_of_lt (Nat.lt_of_lt_of_le P646.lt P653)
  have ge658 : n0 ≤ b_651 := Nat.le_trans Z648 P653
  refine own_st (T' := T651) (g' := (mkF m 26 #[.val (.ref x0), .val (.int 0), .val (.int 3), .val (.ref b640), .val (.int 2), .unset] [(.ref b_651)])) st651 ?_
  refine own_st (T' := T651) (g' := (mkF m 32 #[.val (.ref x0), .val (.int 0), .val (.int 3), .val (.ref b640), .val (.int 2), .val (.ref b_651)] [(.int 2), (.ref b_651)])) (fun _ kt => XS.astore X651.here hx rfl (hb hby d6_26) rfl rfl (l' := #[.val (.ref x0), .val (.int 0), .val (.int 3), .val (.ref b640), .val (.int 2), .val (.ref b_651)]) rfl (XS.aload X651.here hx rfl (hb hby d6_28) rfl rfl (XS.iload X651.here hx rfl (hb hby d6_30) rfl kt))) ?_
  have F659 : Old Z n0 T651.heap := (Old.keep F649 K651_ all0)
  obtain ⟨_, _, ⟨T660, L660, k660, n660⟩, -, X660, ⟨Lc660, hQ660, l660, y660, z660⟩, st660⟩ := Jvm.LawKit.callS X651 hx (y := yN6) hown (mvT hZ (own_k hw 96 rfl)) (mvT hZ (own_k hw 97 rfl)) (mvT hZ (own_k hw 36 rfl)) (mvT hZ (own_k hw 98 rfl)) (by decide) (backOf (W := 0) (own_gc l Z a0 hw [] b_651 (2 : Int32) kb_651 (6 : Int32) [(.int (own_lo c0)), (.int (own_hi c0)), (.int (own_lo c1)), (.int (own_hi c1)), (.int (own_lo c2)), (.int (own_hi c2))] c2 T651.heap n0 Z655 F659 pr2 pr3 pr4 P652 pr8 (show own_u (6 : Int32) [(.int (own_lo c0)), (.int (own_hi c0)), (.int (own_lo c1)), (.int (own_hi c1)), (.int (own_lo c2)), (.int (own_hi c2))] (2 : Int32) c2 from ⟨by decide, rfl, by decide, rfl⟩)) hZ (own_k hw 98 rfl) (own_k hw 36 rfl) (by decide) (by decide)) (g := (mkF m 32 #[.val (.ref x0), .val (.int 0), .val (.int 3), .val (.ref b640), .val (.int 2), .val (.ref b_651)] [(.int 2), (.ref b_651)])) rfl hml.symm  (argsL := [(.ref b_651), (.int 2)]) (rest := []) (lenOf own_pd5 rfl) rfl (own_w0 rfl rfl) (hb hby d6_32) (fun _ _ => ⟨rfl, rfl, (by decide : 2 + 0 ≤ 2), (by decide : 9 + 0 ≤ 9)⟩)
  dsimp only [Pt.U, Pt.locs, Pt.cells, Pt.slots] at X660 l660 y660 z660 st660 hQ660
  subst l660 y660 z660
  obtain ⟨rfl, N660, e660⟩ := hQ660
  have N661 := Fr.app N654 N660
  refine own_st (T' := T660) (g' := (mkF m 35 #[.val (.ref x0), .val (.int 0), .val (.int 3), .val (.ref b640), .val (.int 2), .val (.ref b_651)] [(.int c2)])) st660 ?_
  refine own_st (T' := T660) (g' := (mkF m 56 #[.val (.ref x0), .val (.int 0), .val (.int 3), .val (.ref b640), .val (.int 2), .val (.ref b_651)] [(.ref b_651)])) (fun _ kt => XS.sipush X660.here hx rfl (hb hby d6_35) (XS.icmpYes X660.here hx rfl (pc0 := 38) (pc' := 54) rfl (hb hby d6_38) rfl (XT.ii_gt_t pr11) (by decide) (by decide) (XS.aload X660.here hx rfl (hb hby d6_54) rfl rfl kt))) ?_
  obtain ⟨fs, hr, hrun, hended, hW, hsame⟩ := X660.leave (v := some (.ref b_651)) (fun h => by rw [Bd.returns] at h; cases h)
  refine own_end (own_retA X660 hx Bd.returns rfl rfl rfl (hb hby d6_56) hr) ⟨_, hrun, hended, _, _, rfl, ?_, ⟨_, rfl⟩, hW, hsame.mono (by decide) (by decide)⟩
  show own_k3_3_2Q Z _ _ _ _ _ h0 n0 _ T660.heap _
  rw [e660]
  exact ⟨b_651, kb_651, rfl, N661, K655, P652, (Nat.le_trans K648.1 P653)⟩
def own_k5_3_3Q (Z : State) (x0 : Addr) (kc : ClassId) (d0 : Addr) (kd : ClassId) (c0 : Int32) (c1 : Int32) (c2 : Int32) (h0 : Heap) (n0 : Nat) (v : Option Value) (h : Heap) (L : List Loc) : Prop := v = some (.int 3) ∧ Fr n0 L ∧ Keep h0 h [d0] ∧ (Arv Z h d0 kd .byte (3 : Int32) [(.int c0.toInt8.toInt32), (.int c1.toInt8.toInt32), (.int c2.toInt8.toInt32)] (.int 0))
abbrev own_k5_3_3R : Room := { frames := 0, cells := 0, slots := 0, locals := 0 }
theorem own_k5_3_3 (l : Launch) (Z : State) (a0 : Array Value) (hw : ∀ d ∈ tables_1, d.before a0 Z = true) (ws : List Jvm.Cond) (x0 : Addr) (kc : ClassId) (d0 : Addr) (kd : ClassId) (c0 : Int32) (c1 : Int32) (c2 : Int32) (h0 : Heap) (n0 : Nat) (Z0 : n0 ≤ h0.size) (pr1 : Arv Z h0 x0 kc .char (3 : Int32) [(.int c0), (.int c1), (.int c2)] (.int 0)) (pr2 : Arv Z h0 d0 kd .byte (3 : Int32) [(.int 0), (.int 0), (.int 0)] (.int 0)) (pr3 : n0 ≤ d0) (pr4 : x0 ≠ d0) (pr5 : ¬ (255 : Int32) < c0) (pr6 : ¬ (255 : Int32) < c1) (pr7 : ¬ (255 : Int32) < c2) :
    own_M l yN1 jdk_52_method_21_code 7 (some .int) ws own_k5_3_3R #[(.ref x0), (.int 0), (.ref d0), (.int 0), (.int 3)] Z h0 (own_k5_3_3Q Z x0 kc d0 kd c0 c1 c2 h0 n0) := by
  refine own_go (plainFor_of_name own_pn3) (fun m => own_ef10 m x0 (0 : Int32) d0 (0 : Int32) (3 : Int32) ) ?_
  intro p e s m below meth c s₁ Bd hx hby hml hZ hh hown hnm X0 e0
  have N0 := Fr.nil n0
  have K0 : Keep h0 h0 [d0] := Keep.refl h0 _
  refine own_st (T' := s₁) (g' := (mkF m 12 #[.val (.ref x0), .val (.int 0), .val (.ref d0), .val (.int 0), .val (.int 3), .val (.int 0), .unset] [(.int 0), (.ref x0)])) (fun _ kt => XS.iconst X0.here hx rfl (hb hby d7_0) (XS.istore X0.here hx rfl (hb hby d7_1) rfl (l' := #[.val (.ref x0), .val (.int 0), .val (.ref d0), .val (.int 0), .val (.int 3), .val (.int 0), .unset]) rfl (XS.iload X0.here hx rfl (hb hby d7_3) rfl (XS.iload X0.here hx rfl (hb hby d7_5) rfl (XS.icmpNo X0.here hx rfl (hb hby d7_7) rfl (XT.ii_ge_f (by decide)) (XS.aloadN X0.here hx rfl (hb hby d7_10) rfl rfl (XS.iloadN X0.here hx rfl (hb hby d7_11) rfl kt))))))) ?_
  refine own_st (T' := s₁) (g' := (mkF m 13 #[.val (.ref x0), .val (.int 0), .val (.ref d0), .val (.int 0), .val (.int 3), .val (.int 0), .unset] [(.int c0)])) (own_cal X0 hx hZ e0 pr1 ⟨by decide, by decide⟩ rfl (g := (mkF m 12 #[.val (.ref x0), .val (.int 0), .val (.ref d0), .val (.int 0), .val (.int 3), .val (.int 0), .unset] [(.int 0), (.ref x0)])) rfl rfl (hb hby d7_12)) ?_
  refine own_st (T' := s₁) (g' := (mkF m 31 #[.val (.ref x0), .val (.int 0), .val (.ref d0), .val (.int 0), .val (.int 3), .val (.int 0), .val (.int c0)] [(.int (c0.toInt8.toInt32)), (.int 0), (.ref d0)])) (fun _ kt => XS.istore X0.here hx rfl (hb hby d7_13) rfl (l' := #[.val (.ref x0), .val (.int 0), .val (.ref d0), .val (.int 0), .val (.int 3), .val (.int 0), .val (.int c0)]) rfl (XS.iload X0.here hx rfl (hb hby d7_15) rfl (XS.sipush X0.here hx rfl (hb hby d7_17) (XS.icmpYes X0.here hx rfl (pc0 := 20) (pc' := 26) rfl (hb hby d7_20) rfl (XT.ii_le_t pr5) (by decide) (by decide) (XS.aloadN X0.here hx rfl (hb hby d7_26) rfl rfl (XS.iloadN X0.here hx rfl (hb hby d7_27) rfl (XS.iload X0.here hx rfl (hb hby d7_28) rfl (XT.i2b X0.here hx rfl (hb hby d7_30) rfl kt)))))))) ?_
  obtain ⟨T662, h662, X662, e662, W662, V662, st662⟩ := own_bst X0 hx hZ e0 pr2 ⟨by decide, by decide⟩ (i := 0) rfl (by simp) (y := (c0.toInt8.toInt32)) (own_narb _) (g := (mkF m 31 #[.val (.ref x0), .val (.int 0), .val (.ref d0), .val (.int 0), .val (.int 3), .val (.int 0), .val (.int c0)] [(.int (c0.toInt8.toInt32)), (.int 0), (.ref d0)])) rfl rfl (hb hby d7_31)
  have N662 := Fr.snoc X662 N0 pr3
  have Z663 : n0 ≤ h662.size := Nat.le_trans Z0 (Nat.le_of_eq (Wr.size W662).symm)
  have K663 : Keep h0 h662 [d0] := (Keep.wr K0 W662 (Or.inl (List.mem_of_getElem? (i := 0) rfl)))
  have F664 : Arv Z h662 d0 kd .byte (3 : Int32) [(.int (c0.toInt8.toInt32)), (.int 0), (.int 0)] (.int 0) := V662
  refine own_st (T' := T662) (g' := (mkF m 32 #[.val (.ref x0), .val (.int 0), .val (.ref d0), .val (.int 0), .val (.int 3), .val (.int 0), .val (.int c0)] [])) st662 ?_
  refine own_st (T' := T662) (g' := (mkF m 12 #[.val (.ref x0), .val (.int 1), .val (.ref d0), .val (.int 1), .val (.int 3), .val (.int 1), .val (.int c0)] [(.int 1), (.ref x0)])) (fun _ kt => XS.iinc X662.here hx rfl (hb hby d7_32) rfl (l' := #[.val (.ref x0), .val (.int 1), .val (.ref d0), .val (.int 0), .val (.int 3), .val (.int 0), .val (.int c0)]) rfl (XS.iinc X662.here hx rfl (hb hby d7_35) rfl (l' := #[.val (.ref x0), .val (.int 1), .val (.ref d0), .val (.int 1), .val (.int 3), .val (.int 0), .val (.int c0)]) rfl (XS.iinc X662.here hx rfl (hb hby d7_38) rfl (l' := #[.val (.ref x0), .val (.int 1), .val (.ref d0), .val (.int 1), .val (.int 3), .val (.int 1), .val (.int c0)]) rfl (XS.goto X662.here hx rfl (pc0 := 41) (pc' := 3) rfl (hb hby d7_41) (by decide) (by decide) (XS.iload X662.here hx rfl (hb hby d7_3) rfl (XS.iload X662.here hx rfl (hb hby d7_5) rfl (XS.icmpNo X662.here hx rfl (hb hby d7_7) rfl (XT.ii_ge_f (by decide)) (XS.aloadN X662.here hx rfl (hb hby d7_10) rfl rfl (XS.iloadN X662.here hx rfl (hb hby d7_11) rfl kt))))))))) ?_
  have F665 : Arv Z h662 x0 kc .char (3 : Int32) [(.int c0), (.int c1), (.int c2)] (.int 0) := (Arv.other pr1 W662 pr4)
  refine own_st (T' := T662) (g' := (mkF m 13 #[.val (.ref x0), .val (.int 1), .val (.ref d0), .val (.int 1), .val (.int 3), .val (.int 1), .val (.int c0)] [(.int c1)])) (own_cal X662 hx hZ e662 F665 ⟨by decide, by decide⟩ rfl (g := (mkF m 12 #[.val (.ref x0), .val (.int 1), .val (.ref d0), .val (.int 1), .val (.int 3), .val (.int 1), .val (.int c0)] [(.int 1), (.ref x0)])) rfl rfl (hb hby d7_12)) ?_
  refine own_st (T' := T662) (g' := (mkF m 31 #[.val (.ref x0), .val (.int 1), .val (.ref d0), .val (.int 1), .val (.int 3), .val (.int 1), .val (.int c1)] [(.int (c1.toInt8.toInt32)), (.int 1), (.ref d0)])) (fun _ kt => XS.istore X662.here hx rfl (hb hby d7_13) rfl (l' := #[.val (.ref x0), .val (.int 1), .val (.ref d0), .val (.int 1), .val (.int 3), .val (.int 1), .val (.int c1)]) rfl (XS.iload X662.here hx rfl (hb hby d7_15) rfl (XS.sipush X662.here hx rfl (hb hby d7_17) (XS.icmpYes X662.here hx rfl (pc0 := 20) (pc' := 26) rfl (hb hby d7_20) rfl (XT.ii_le_t pr6) (by decide) (by decide) (XS.aloadN X662.here hx rfl (hb hby d7_26) rfl rfl (XS.iloadN X662.here hx rfl (hb hby d7_27) rfl (XS.iload X662.here hx rfl (hb hby d7_28) rfl (XT.i2b X662.here hx rfl (hb hby d7_30) rfl kt)))))))) ?_
  obtain ⟨T666, h666, X666, e666, W666, V666, st666⟩ := own_bst X662 hx hZ e662 F664 ⟨by decide, by decide⟩ (i := 1) rfl (by simp) (y := (c1.toInt8.toInt32)) (own_narb _) (g := (mkF m 31 #[.val (.ref x0), .val (.int 1), .val (.ref d0), .val (.int 1), .val (.int 3), .val (.int 1), .val (.int c1)] [(.int (c1.toInt8.toInt32)), (.int 1), (.ref d0)])) rfl rfl (hb hby d7_31)
  have N666 := Fr.snoc X666 N662 pr3
  have Z667 : n0 ≤ h666.size := Nat.le_trans Z663 (Nat.le_of_eq (Wr.size W666).symm)
  have K667 : Keep h0 h666 [d0] := (Keep.wr K663 W666 (Or.inl (List.mem_of_getElem? (i := 0) rfl)))
  have F668 : Arv Z h666 d0 kd .byte (3 : Int32) [(.int (c0.toInt8.toInt32)), (.int (c1.toInt8.toInt32)), (.int 0)] (.int 0) := V666
  refine own_st (T' := T666) (g' := (mkF m 32 #[.val (.ref x0), .val (.int 1), .val (.ref d0), .val (.int 1), .val (.int 3), .val (.int 1), .val (.int c1)] [])) st666 ?_
  refine own_st (T' := T666) (g' := (mkF m 12 #[.val (.ref x0), .val (.int 2), .val (.ref d0), .val (.int 2), .val (.int 3), .val (.int 2), .val (.int c1)] [(.int 2), (.ref x0)])) (fun _ kt => XS.iinc X666.here hx rfl (hb hby d7_32) rfl (l' := #[.val (.ref x0), .val (.int 2), .val (.ref d0), .val (.int 1), .val (.int 3), .val (.int 1), .val (.int c1)]) rfl (XS.iinc X666.here hx rfl (hb hby d7_35) rfl (l' := #[.val (.ref x0), .val (.int 2), .val (.ref d0), .val (.int 2), .val (.int 3), .val (.int 1), .val (.int c1)]) rfl (XS.iinc X666.here hx rfl (hb hby d7_38) rfl (l' := #[.val (.ref x0), .val (.int 2), .val (.ref d0), .val (.int 2), .val (.int 3), .val (.int 2), .val (.int c1)]) rfl (XS.goto X666.here hx rfl (pc0 := 41) (pc' := 3) rfl (hb hby d7_41) (by decide) (by decide) (XS.iload X666.here hx rfl (hb hby d7_3) rfl (XS.iload X666.here hx rfl (hb hby d7_5) rfl (XS.icmpNo X666.here hx rfl (hb hby d7_7) rfl (XT.ii_ge_f (by decide)) (XS.aloadN X666.here hx rfl (hb hby d7_10) rfl rfl (XS.iloadN X666.here hx rfl (hb hby d7_11) rfl kt))))))))) ?_
  have F669 : Arv Z h666 x0 kc .char (3 : Int32) [(.int c0), (.int c1), (.int c2)] (.int 0) := (Arv.other F665 W666 pr4)
  refine own_st (T' := T666) (g' := (mkF m 13 #[.val (.ref x0), .val (.int 2), .val (.ref d0), .val (.int 2), .val (.int 3), .val (.int 2), .val (.int c1)] [(.int c2)])) (own_cal X666 hx hZ e666 F669 ⟨by decide, by decide⟩ rfl (g := (mkF m 12 #[.val (.ref x0), .val (.int 2), .val (.ref d0), .val (.int 2), .val (.int 3), .val (.int 2), .val (.int c1)] [(.int 2), (.ref x0)])) rfl rfl (hb hby d7_12)) ?_
  refine own_st (T' := T666) (g' := (mkF m 31 #[.val (.ref x0), .val (.int 2), .val (.ref d0), .val (.int 2), .val (.int 3), .val (.int 2), .val (.int c2)] [(.int (c2.toInt8.toInt32)), (.int 2), (.ref d0)])) (fun _ kt => XS.istore X666.here hx rfl (hb hby d7_13) rfl (l' := #[.val (.ref x0), .val (.int 2), .val (.ref d0), .val (.int 2), .val (.int 3), .val (.int 2), .val (.int c2)]) rfl (XS.iload X666.here hx rfl (hb hby d7_15) rfl (XS.sipush X666.here hx rfl (hb hby d7_17) (XS.icmpYes X666.here hx rfl (pc0 := 20) (pc' := 26) rfl (hb hby d7_20) rfl (XT.ii_le_t pr7) (by decide) (by decide) (XS.aloadN X666.here hx rfl (hb hby d7_26) rfl rfl (XS.iloadN X666.here hx rfl (hb hby d7_27) rfl (XS.iload X666.here hx rfl (hb hby d7_28) rfl (XT.i2b X666.here hx rfl (hb hby d7_30) rfl kt)))))))) ?_
  obtain ⟨T670, h670, X670, e670, W670, V670, st670⟩ := own_bst X666 hx hZ e666 F668 ⟨by decide, by decide⟩ (i := 2) rfl (by simp) (y := (c2.toInt8.toInt32)) (own_narb _) (g := (mkF m 31 #[.val (.ref x0), .val (.int 2), .val (.ref d0), .val (.int 2), .val (.int 3), .val (.int 2), .val (.int c2)] [(.int (c2.toInt8.toInt32)), (.int 2), (.ref d0)])) rfl rfl (hb hby d7_31)
  have N670 := Fr.snoc X670 N666 pr3
  have Z671 : n0 ≤ h670.size := Nat.le_trans Z667 (Nat.le_of_eq (Wr.size W670).symm)
  have K671 : Keep h0 h670 [d0] := (Keep.wr K667 W670 (Or.inl (List.mem_of_getElem? (i := 0) rfl)))
  have F672 : Arv Z h670 d0 kd .byte (3 : Int32) [(.int (c0.toInt8.toInt32)), (.int (c1.toInt8.toInt32)), (.int (c2.toInt8.toInt32))] (.int 0) := V670
  refine own_st (T' := T670) (g' := (mkF m 32 #[.val (.ref x0), .val (.int 2), .val (.ref d0), .val (.int 2), .val (.int 3), .val (.int 2), .val (.int c2)] [])) st670 ?_
  refine own_st (T' := T670) (g' := (mkF m 46 #[.val (.ref x0), .val (.int 3), .val (.ref d0), .val (.int 3), .val (.int 3), .val (.int 3), .val (.int c2)] [(.int 3)])) (fun _ kt => XS.iinc X670.here hx rfl (hb hby d7_32) rfl (l' := #[.val (.ref x0), .val (.int 3), .val (.ref d0), .val (.int 2), .val (.int 3), .val (.int 2), .val (.int c2)]) rfl (XS.iinc X670.here hx rfl (hb hby d7_35) rfl (l' := #[.val (.ref x0), .val (.int 3), .val (.ref d0), .val (.int 3), .val (.int 3), .val (.int 2), .val (.int c2)]) rfl (XS.iinc X670.here hx rfl (hb hby d7_38) rfl (l' := #[.val (.ref x0), .val (.int 3), .val (.ref d0), .val (.int 3), .val (.int 3), .val (.int 3), .val (.int c2)]) rfl (XS.goto X670.here hx rfl (pc0 := 41) (pc' := 3) rfl (hb hby d7_41) (by decide) (by decide) (XS.iload X670.here hx rfl (hb hby d7_3) rfl (XS.iload X670.here hx rfl (hb hby d7_5) rfl (XS.icmpYes X670.here hx rfl (pc0 := 7) (pc' := 44) rfl (hb hby d7_7) rfl (XT.ii_ge_t (by decide)) (by decide) (by decide) (XS.iload X670.here hx rfl (hb hby d7_44) rfl kt)))))))) ?_
  obtain ⟨fs, hr, hrun, hended, hW, hsame⟩ := X670.leave (v := some (.int 3)) (fun h => by rw [Bd.returns] at h; cases h)
  refine own_end (own_retI X670 hx Bd.returns (hb hby d7_46) hr) ⟨_, hrun, hended, _, _, rfl, ?_, ⟨_, rfl⟩, hW, hsame.mono (by decide) (by decide)⟩
  show own_k5_3_3Q Z _ _ _ _ _ _ _ h0 n0 _ T670.heap _
  rw [e670]
  exact ⟨rfl, N670, K671, F672⟩
def own_k3_3_3Q (Z : State) (x0 : Addr) (kc : ClassId) (c0 : Int32) (c1 : Int32) (c2 : Int32) (h0 : Heap) (n0 : Nat) (v : Option Value) (h : Heap) (L : List Loc) : Prop := ∃ (b : Addr), ∃ (kb : ClassId), v = some (.ref b) ∧ Fr n0 L ∧ Keep h0 h [] ∧ (Arv Z h b kb .byte (3 : Int32) [(.int c0.toInt8.toInt32), (.int c1.toInt8.toInt32), (.int c2.toInt8.toInt32)] (.int 0)) ∧ (h0.size ≤ b)
abbrev own_k3_3_3R : Room := { frames := 1, cells := 1, slots := 3, locals := 18 }
theorem own_k3_3_3 (l : Launch) (Z : State) (a0 : Array Value) (hw : ∀ d ∈ tables_1, d.before a0 Z = true) (ws : List Jvm.Cond) (x0 : Addr) (kc : ClassId) (c0 : Int32) (c1 : Int32) (c2 : Int32) (h0 : Heap) (n0 : Nat) (Z0 : n0 ≤ h0.size) (pr1 : Old Z n0 h0) (pr2 : Sta Z Z.heap "java/lang/StringUTF16" "$assertionsDisabled" "Z" (.int 1)) (pr3 : Sta Z Z.heap "java/lang/StringUTF16" "HI_BYTE_SHIFT" "I" (.int 0)) (pr4 : Sta Z Z.heap "java/lang/StringUTF16" "LO_BYTE_SHIFT" "I" (.int 8)) (pr5 : Arv Z h0 x0 kc .char (3 : Int32) [(.int c0), (.int c1), (.int c2)] (.int 0)) (pr6 : own_c16 c0) (pr7 : own_c16 c1) (pr8 : own_c16 c2) (pr9 : ¬ (255 : Int32) < c0) (pr10 : ¬ (255 : Int32) < c1) (pr11 : ¬ (255 : Int32) < c2) :
    own_M l yN2 jdk_52_method_16_code 6 (some (.array .byte)) ws own_k3_3_3R #[(.ref x0), (.int 0), (.int 3)] Z h0 (own_k3_3_3Q Z x0 kc c0 c1 c2 h0 n0) := by
  refine own_go (plainFor_of_name own_pn3) (fun m => own_ef11 m x0 (0 : Int32) (3 : Int32) ) ?_
  intro p e s m below meth c s₁ Bd hx hby hml hZ hh hown hnm X0 e0
  have N0 := Fr.nil n0
  have K0 : Keep h0 h0 [] := Keep.refl h0 _
  refine own_st (T' := s₁) (g' := (mkF m 1 #[.val (.ref x0), .val (.int 0), .val (.int 3), .unset, .unset, .unset] [(.int 3)])) (fun _ kt => XS.iloadN X0.here hx rfl (hb hby d6_0) rfl kt) ?_
  obtain ⟨T673, h673, k673, X673, e673, E673, A673, st673⟩ := newP X0 hx hZ (aty := .byte) (own_k hw 17 rfl) e0 (g := (mkF m 1 #[.val (.ref x0), .val (.int 0), .val (.int 3), .unset, .unset, .unset] [(.int 3)])) rfl (hb hby d6_1) rfl (by decide) (cap := 3) (by decide) (by decide) (by decide) (by decide)
  obtain ⟨b673, g673⟩ : ∃ z, z = h0.size := ⟨_, rfl⟩
  rw [← g673] at A673 st673
  have ne674 : x0 ≠ b673 := by rw [g673]; exact Nat.ne_of_lt pr5.lt
  have Z675 : n0 ≤ h673.size := Nat.le_trans Z0 E673.1
  have K675 : Keep h0 h673 [] := (Keep.ext K0 E673)
  have ge_b673 : n0 ≤ b673 := Nat.le_trans Z0 (Nat.le_of_eq g673.symm)
  have F676 : Arv Z h673 b673 k673 .byte (3 : Int32) [(.int 0), (.int 0), (.int 0)] (.int 0) := (Arv.new A673 (by decide)).pad (pad_rep [] (.int 0) 3)
  refine own_st (T' := T673) (g' := (mkF m 3 #[.val (.ref x0), .val (.int 0), .val (.int 3), .unset, .unset, .unset] [(.ref b673)])) st673 ?_
  refine own_st (T' := T673) (g' := (mkF m 9 #[.val (.ref x0), .val (.int 0), .val (.int 3), .val (.ref b673), .unset, .unset] [(.int 3), (.int 0), (.ref b673), (.int 0), (.ref x0)])) (fun _ kt => XS.astoreN X673.here hx rfl (hb hby d6_3) rfl rfl (l' := #[.val (.ref x0), .val (.int 0), .val (.int 3), .val (.ref b673), .unset, .unset]) rfl (XS.aloadN X673.here hx rfl (hb hby d6_4) rfl rfl (XS.iloadN X673.here hx rfl (hb hby d6_5) rfl (XS.aloadN X673.here hx rfl (hb hby d6_6) rfl rfl (XS.iconst X673.here hx rfl (hb hby d6_7) (XS.iloadN X673.here hx rfl (hb hby d6_8) rfl kt)))))) ?_
  have F677 : Arv Z h673 x0 kc .char (3 : Int32) [(.int c0), (.int c1), (.int c2)] (.int 0) := (pr5.ext E673)
  obtain ⟨_, _, ⟨T678, L678, k678, n678⟩, -, X678, ⟨Lc678, hQ678, l678, y678, z678⟩, st678⟩ := Jvm.LawKit.callS X673 hx (y := yN1) hown (mvT hZ (own_k hw 38 rfl)) (mvT hZ (own_k hw 39 rfl)) (mvT hZ (own_k hw 36 rfl)) (mvT hZ (own_k hw 40 rfl)) (by decide) (backOf (W := 0) (own_k5_3_3 l Z a0 hw [] x0 kc b673 k673 c0 c1 c2 h673 n0 Z675 F677 F676 ge_b673 ne674 pr9 pr10 pr11) hZ (own_k hw 40 rfl) (own_k hw 36 rfl) (by decide) (by decide)) (g := (mkF m 9 #[.val (.ref x0), .val (.int 0), .val (.int 3), .val (.ref b673), .unset, .unset] [(.int 3), (.int 0), (.ref b673), (.int 0), (.ref x0)])) rfl hml.symm  (argsL := [(.ref x0), (.int 0), (.ref b673), (.int 0), (.int 3)]) (rest := []) (lenOf own_pd13 rfl) rfl (own_w0 rfl rfl) (hb hby d6_9) (fun _ _ => ⟨rfl, e673, (by decide : 1 + 0 ≤ 1), (by decide : 3 + 0 ≤ 3)⟩)
  dsimp only [Pt.U, Pt.locs, Pt.cells, Pt.slots] at X678 l678 y678 z678 st678 hQ678
  subst l678 y678 z678
  obtain ⟨rfl, N678, K678_, P679⟩ := hQ678
  have N680 := Fr.app N0 N678
  have Z681 : n0 ≤ T678.heap.size := Nat.le_trans Z675 K678_.1
  have K681 : Keep h0 T678.heap [] := (Keep.trans K675 K678_ (allS (Or.inr (Nat.le_trans K0.1 (Nat.le_of_eq g673.symm))) all0))
  refine own_st (T' := T678) (g' := (mkF m 12 #[.val (.ref x0), .val (.int 0), .val (.int 3), .val (.ref b673), .unset, .unset] [(.int 3)])) st678 ?_
  refine own_st (T' := T678) (g' := (mkF m 58 #[.val (.ref x0), .val (.int 0), .val (.int 3), .val (.ref b673), .val (.int 3), .unset] [(.ref b673)])) (fun _ kt => XS.istore X678.here hx rfl (hb hby d6_12) rfl (l' := #[.val (.ref x0), .val (.int 0), .val (.int 3), .val (.ref b673), .val (.int 3), .unset]) rfl (XS.iload X678.here hx rfl (hb hby d6_14) rfl (XS.iloadN X678.here hx rfl (hb hby d6_16) rfl (XS.icmpYes X678.here hx rfl (pc0 := 17) (pc' := 57) rfl (hb hby d6_17) rfl (XT.ii_eq_t (by decide)) (by decide) (by decide) (XS.aloadN X678.here hx rfl (hb hby d6_57) rfl rfl kt))))) ?_
  obtain ⟨fs, hr, hrun, hended, hW, hsame⟩ := X678.leave (v := some (.ref b673)) (fun h => by rw [Bd.returns] at h; cases h)
  refine own_end (own_retA X678 hx Bd.returns rfl rfl rfl (hb hby d6_58) hr) ⟨_, hrun, hended, _, _, rfl, ?_, ⟨_, rfl⟩, hW, hsame.mono (by decide) (by decide)⟩
  show own_k3_3_3Q Z _ _ _ _ _ h0 n0 _ T678.heap _
  show own_k3_3_3Q Z _ _ _ _ _ h0 n0 _ T678.heap _
  exact ⟨b673, k673, rfl, N680, K681, P679, (Nat.le_trans K0.1 (Nat.le_of_eq g673.symm))⟩
def own_n4_3Q (Z : State) (x0 : Addr) (b0 : Addr) (zc : Int32) (kc : ClassId) (c0 : Int32) (c1 : Int32) (c2 : Int32) (h0 : Heap) (n0 : Nat) (v : Option Value) (h : Heap) (L : List Loc) : Prop := ∃ (t : Addr), ∃ (kb : ClassId), ∃ (cd : Int32), ∃ (zz : Int32), ∃ (vl : List Value), v = none ∧ Fr n0 L ∧ Keep h0 h [x0] ∧ (Exa Z h x0 "java/lang/String") ∧ (Fld Z h x0 "java/lang/String" "coder" "B" (.int cd)) ∧ (Fld Z h x0 "java/lang/String" "value" "[B" (.ref t)) ∧ (Arv Z h t kb .byte zz vl (.int 0)) ∧ (h0.size ≤ t) ∧ ((cd = 0 ∧ zz = 3 ∧ vl = [(.int c0.toInt8.toInt32), (.int c1.toInt8.toInt32), (.int c2.toInt8.toInt32)] ∧ ¬ (255 : Int32) < c0 ∧ ¬ (255 : Int32) < c1 ∧ ¬ (255 : Int32) < c2) ∨ (cd = 1 ∧ zz = 6 ∧ vl = [(.int (own_lo c0)), (.int (own_hi c0)), (.int (own_lo c1)), (.int (own_hi c1)), (.int (own_lo c2)), (.int (own_hi c2))]))
abbrev own_n4_3R : Room := { frames := 4, cells := 3, slots := 9, locals := 110 }
theorem own_n4_3 (l : Launch) (Z : State) (a0 : Array Value) (hw : ∀ d ∈ tables_1, d.before a0 Z = true) (ws : List Jvm.Cond) (x0 : Addr) (b0 : Addr) (zc : Int32) (kc : ClassId) (c0 : Int32) (c1 : Int32) (c2 : Int32) (h0 : Heap) (n0 : Nat) (Z0 : n0 ≤ h0.size) (pr1 : Old Z n0 h0) (pr2 : Sta Z Z.heap "java/lang/String" "COMPACT_STRINGS" "Z" (.int zc)) (pr3 : ¬ zc = 0) (pr4 : Sta Z Z.heap "java/lang/StringUTF16" "$assertionsDisabled" "Z" (.int 1)) (pr5 : Sta Z Z.heap "java/lang/StringUTF16" "HI_BYTE_SHIFT" "I" (.int 0)) (pr6 : Sta Z Z.heap "java/lang/StringUTF16" "LO_BYTE_SHIFT" "I" (.int 8)) (pr7 : Exa Z h0 x0 "java/lang/String") (pr8 : n0 ≤ x0) (pr9 : Fld Z h0 x0 "java/lang/String" "value" "[B" .null) (pr10 : Fld Z h0 x0 "java/lang/String" "coder" "B" (.int 0)) (pr11 : Arv Z h0 b0 kc .char (3 : Int32) [(.int c0), (.int c1), (.int c2)] (.int 0)) (pr12 : own_c16 c0) (pr13 : own_c16 c1) (pr14 : own_c16 c2) :
    own_M l yN11 jdk_42_method_149_code 6 none ws own_n4_3R #[(.ref x0), (.ref b0), (.int 0), (.int 3), .null] Z h0 (own_n4_3Q Z x0 b0 zc kc c0 c1 c2 h0 n0) := by
  refine own_go (plainFor_of_name own_pn2) (fun m => own_ef12 m x0 b0 (0 : Int32) (3 : Int32) ) ?_
  intro p e s m below meth c s₁ Bd hx hby hml hZ hh hown hnm X0 e0
  have N0 := Fr.nil n0
  have K0 : Keep h0 h0 [x0] := Keep.refl h0 _
  refine own_st (T' := s₁) (g' := (mkF m 1 #[.val (.ref x0), .val (.ref b0), .val (.int 0), .val (.int 3), .val .null, .unset] [(.ref x0)])) (fun _ kt => XS.aloadN X0.here hx rfl (hb hby d2_0) rfl rfl kt) ?_
  obtain ⟨T682, X682, e682, st682⟩ := initO X0 hx hZ hown (own_k hw 13 rfl) (own_k hw 14 rfl) (own_k hw 15 rfl) e0 (g := (mkF m 1 #[.val (.ref x0), .val (.ref b0), .val (.int 0), .val (.int 3), .val .null, .unset] [(.ref x0)])) rfl hml.symm rfl (hb hby d2_1) (by decide) (W := 0) (own_w0 rfl rfl) (by decide)
  refine own_st (T' := T682) (g' := (mkF m 4 #[.val (.ref x0), .val (.ref b0), .val (.int 0), .val (.int 3), .val .null, .unset] [])) st682 ?_
  refine own_st (T' := T682) (g' := (mkF m 27 #[.val (.ref x0), .val (.ref b0), .val (.int 0), .val (.int 3), .val .null, .unset] [])) (fun _ kt => XS.iloadN X682.here hx rfl (hb hby d2_4) rfl (XS.ifYes X682.here hx rfl (pc0 := 5) (pc' := 27) rfl (hb hby d2_5) rfl (XT.i0_ne_t (by decide)) (by decide) (by decide) kt)) ?_
  obtain ⟨T683, X683, e683, st683⟩ := getS2 X682 hx hZ hown (host := "") (Or.inl (own_k hw 33 rfl)) Via.refl e682 (Sta.ext pr1.2 pr2) (g := (mkF m 27 #[.val (.ref x0), .val (.ref b0), .val (.int 0), .val (.int 3), .val .null, .unset] [])) rfl (hb hby d2_27)
  refine own_st (T' := T683) (g' := (mkF m 30 #[.val (.ref x0), .val (.ref b0), .val (.int 0), .val (.int 3), .val .null, .unset] [(.int zc)])) st683 ?_
  refine own_st (T' := T683) (g' := (mkF m 36 #[.val (.ref x0), .val (.ref b0), .val (.int 0), .val (.int 3), .val .null, .unset] [(.int 3), (.int 0), (.ref b0)])) (fun _ kt => XS.ifNo X683.here hx rfl (hb hby d2_30) rfl (XT.i0_eq_f pr3) (XS.aloadN X683.here hx rfl (hb hby d2_33) rfl rfl (XS.iloadN X683.here hx rfl (hb hby d2_34) rfl (XS.iloadN X683.here hx rfl (hb hby d2_35) rfl kt)))) ?_
  by_cases hf684 : (255 : Int32) < c0
  ·
    obtain ⟨_, _, ⟨T685, L685, k685, n685⟩, -, X685, ⟨Lc685, hQ685, l685, y685, z685⟩, st685⟩ := Jvm.LawKit.callS X683 hx (y := yN2) hown (mvT hZ (own_k hw 34 rfl)) (mvT hZ (own_k hw 35 rfl)) (mvT hZ (own_k hw 36 rfl)) (mvT hZ (own_k hw 37 rfl)) (by decide) (backOf (W := 0) (own_k3_3_0 l Z a0 hw [] b0 kc c0 c1 c2 h0 n0 Z0 pr1 pr4 pr5 pr6 pr11 pr12 pr13 pr14 hf684) hZ (own_k hw 37 rfl) (own_k hw 36 rfl) (by decide) (by decide)) (g := (mkF m 36 #[.val (.ref x0), .val (.ref b0), .val (.int 0), .val (.int 3), .val .null, .unset] [(.int 3), (.int 0), (.ref b0)])) rfl hml.symm  (argsL := [(.ref b0), (.int 0), (.int 3)]) (rest := []) (lenOf own_pd14 rfl) rfl (own_w0 rfl rfl) (hb hby d2_36) (fun _ _ => ⟨rfl, e683, (by decide : 0 + 2 ≤ 3), (by decide : 0 + 9 ≤ 9)⟩)
    dsimp only [Pt.U, Pt.locs, Pt.cells, Pt.slots] at X685 l685 y685 z685 st685 hQ685
    subst l685 y685 z685
    obtain ⟨b_685, kb_685, rfl, N685, K685_, P686, P687⟩ := hQ685
    have N688 := Fr.app N0 N685
    have Z689 : n0 ≤ T685.heap.size := Nat.le_trans Z0 K685_.1
    have K689 : Keep h0 T685.heap [x0] := (Keep.trans K0 K685_ all0)
    have ne690 : x0 ≠ b_685 := Nat.ne_of_lt (Nat.lt_of_lt_of_le pr7.lt P687)
    have ne691 : b0 ≠ b_685 := Nat.ne_of_lt (Nat.lt_of_lt_of_le pr11.lt P687)
    have ge692 : n0 ≤ b_685 := Nat.le_trans Z0 P687
    refine own_st (T' := T685) (g' := (mkF m 39 #[.val (.ref x0), .val (.ref b0), .val (.int 0), .val (.int 3), .val .null, .unset] [(.ref b_685)])) st685 ?_
    refine own_st (T' := T685) (g' := (mkF m 45 #[.val (.ref x0), .val (.ref b0), .val (.int 0), .val (.int 3), .val .null, .val (.ref b_685)] [(.int 3), (.ref b_685), (.ref x0)])) (fun _ kt => XS.astore X685.here hx rfl (hb hby d2_39) rfl rfl (l' := #[.val (.ref x0), .val (.ref b0), .val (.int 0), .val (.int 3), .val .null, .val (.ref b_685)]) rfl (XS.aloadN X685.here hx rfl (hb hby d2_41) rfl rfl (XS.aload X685.here hx rfl (hb hby d2_42) rfl rfl (XS.iloadN X685.here hx rfl (hb hby d2_44) rfl kt)))) ?_
    obtain ⟨_, _, ⟨T693, L693, k693, n693⟩, -, X693, ⟨Lc693, hQ693, l693, y693, z693⟩, st693⟩ := Jvm.LawKit.callS X685 hx (y := yN3) hown (mvT hZ (own_k hw 41 rfl)) (mvT hZ (own_k hw 42 rfl)) (mvT hZ (own_k hw 36 rfl)) (mvT hZ (own_k hw 43 rfl)) (by decide) (backOf (W := 1) (own_cf3_1 l Z a0 hw [] b_685 kb_685 [(.int (own_lo c0)), (.int (own_hi c0)), (.int (own_lo c1)), (.int (own_hi c1)), (.int (own_lo c2)), (.int (own_hi c2))] T685.heap n0 Z689 P686) hZ (own_k hw 43 rfl) (own_k hw 36 rfl) (by decide) (by decide)) (g := (mkF m 45 #[.val (.ref x0), .val (.ref b0), .val (.int 0), .val (.int 3), .val .null, .val (.ref b_685)] [(.int 3), (.ref b_685), (.ref x0)])) rfl hml.symm  (argsL := [(.ref b_685), (.int 3)]) (rest := [(.ref x0)]) (lenOf own_pd15 rfl) rfl (own_w0 rfl rfl) (hb hby d2_45) (fun _ _ => ⟨rfl, rfl, (by decide : 2 + 0 ≤ 3), (by decide : 9 + 0 ≤ 9)⟩)
    dsimp only [Pt.U, Pt.locs, Pt.cells, Pt.slots] at X693 l693 y693 z693 st693 hQ693
    subst l693 y693 z693
    obtain ⟨rfl, N693, e693⟩ := hQ693
    have N694 := Fr.app N688 N693
    refine own_st (T' := T693) (g' := (mkF m 48 #[.val (.ref x0), .val (.ref b0), .val (.int 0), .val (.int 3), .val .null, .val (.ref b_685)] [(.int 1), (.ref x0)])) st693 ?_
    have F695 : Fld Z T685.heap x0 "java/lang/String" "coder" "B" (.int 0) := (Fld.keep pr10 K685_ nin0)
    have F696 : Exa Z T685.heap x0 "java/lang/String" := (Exa.keep pr7 K685_)
    obtain ⟨T697, h697, X697, e697, W697, st697⟩ := putF X693 hx hZ hown (host := "") (Or.inl (own_k hw 23 rfl)) Via.refl e693 F695 F696 (Or.inr ⟨(own_k hw 19 rfl), rfl, hnm⟩) (own_k hw 3 rfl) (ty := .byte) (by decide) rfl rfl (g := (mkF m 48 #[.val (.ref x0), .val (.ref b0), .val (.int 0), .val (.int 3), .val .null, .val (.ref b_685)] [(.int 1), (.ref x0)])) rfl rfl (hb hby d2_48)
    have N697 := Fr.snoc X697 N694 pr8
    have Z698 : n0 ≤ h697.size := Nat.le_trans Z689 (Nat.le_of_eq (Wr.size W697).symm)
    have K698 : Keep h0 h697 [x0] := (Keep.wr K689 W697 (Or.inl (List.mem_of_getElem? (i := 0) rfl)))
    have F699 : Fld Z h697 x0 "java/lang/String" "coder" "B" (.int 1) := Fld.same W697 F695
    refine own_st (T' := T697) (g' := (mkF m 51 #[.val (.ref x0), .val (.ref b0), .val (.int 0), .val (.int 3), .val .null, .val (.ref b_685)] [])) st697 ?_
    refine own_st (T' := T697) (g' := (mkF m 54 #[.val (.ref x0), .val (.ref b0), .val (.int 0), .val (.int 3), .val .null, .val (.ref b_685)] [(.ref b_685), (.ref x0)])) (fun _ kt => XS.aloadN X697.here hx rfl (hb hby d2_51) rfl rfl (XS.aload X697.here hx rfl (hb hby d2_52) rfl rfl kt)) ?_
    have F700 : Fld Z h697 x0 "java/lang/String" "value" "[B" .null := (Fld.other W697 (Fld.keep pr9 K685_ nin0) (Or.inr (slot_ne (Or.inr (own_k hw 18 rfl)) (Or.inr (own_k hw 19 rfl)) (by decide) (t := (.array .byte)) (t' := .byte) (by decide) (by decide))))
    have F701 : Exa Z h697 x0 "java/lang/String" := (Exa.wr W697 F696)
    obtain ⟨T702, h702, X702, e702, W702, st702⟩ := putF X697 hx hZ hown (host := "") (Or.inl (own_k hw 22 rfl)) Via.refl e697 F700 F701 (Or.inr ⟨(own_k hw 18 rfl), rfl, hnm⟩) (own_k hw 3 rfl) (ty := (.array .byte)) (by decide) rfl rfl (g := (mkF m 54 #[.val (.ref x0), .val (.ref b0), .val (.int 0), .val (.int 3), .val .null, .val (.ref b_685)] [(.ref b_685), (.ref x0)])) rfl rfl (hb hby d2_54)
    have N702 := Fr.snoc X702 N697 pr8
    have Z703 : n0 ≤ h702.size := Nat.le_trans Z698 (Nat.le_of_eq (Wr.size W702).symm)
    have K703 : Keep h0 h702 [x0] := (Keep.wr K698 W702 (Or.inl (List.mem_of_getElem? (i := 0) rfl)))
    have F704 : Fld Z h702 x0 "java/lang/String" "value" "[B" (.ref b_685) := Fld.same W702 F700
    refine own_st (T' := T702) (g' := (mkF m 57 #[.val (.ref x0), .val (.ref b0), .val (.int 0), .val (.int 3), .val .null, .val (.ref b_685)] [])) st702 ?_
    obtain ⟨fs, hr, hrun, hended, hW, hsame⟩ := X702.leave (v := none) (fun _ => rfl)
    refine own_end (X702.returnOut hx Bd.returns (hb hby d2_57) hr) ⟨_, hrun, hended, _, _, rfl, ?_, ⟨_, rfl⟩, hW, hsame.mono (by decide) (by decide)⟩
    have F705 : Arv Z h702 b_685 kb_685 .byte (6 : Int32) [(.int (own_lo c0)), (.int (own_hi c0)), (.int (own_lo c1)), (.int (own_hi c1)), (.int (own_lo c2)), (.int (own_hi c2))] (.int 0) := (Arv.other (Arv.other P686 W697 (Ne.symm ne690)) W702 (Ne.symm ne690))
    have F706 : Fld Z h702 x0 "java/lang/String" "coder" "B" (.int 1) := (Fld.other W702 F699 (Or.inr (slot_ne (Or.inr (own_k hw 19 rfl)) (Or.inr (own_k hw 18 rfl)) (by decide) (t := .byte) (t' := (.array .byte)) (by decide) (by decide))))
    have F707 : Exa Z h702 x0 "java/lang/String" := (Exa.wr W702 F701)
    show own_n4_3Q Z _ _ _ _ _ _ _ h0 n0 _ T702.heap _
    rw [e702]
    exact ⟨b_685, kb_685, (1 : Int32), (6 : Int32), [(.int (own_lo c0)), (.int (own_hi c0)), (.int (own_lo c1)), (.int (own_hi c1)), (.int (own_lo c2)), (.int (own_hi c2))], rfl, N702, K703, F707, F706, F704, F705, (Nat.le_trans K0.1 P687), (Or.inr ⟨rfl, rfl, rfl⟩)⟩
  ·
    by_cases hf708 : (255 : Int32) < c1
    ·
      obtain ⟨_, _, ⟨T709, L709, k709, n709⟩, -, X709, ⟨Lc709, hQ709, l709, y709, z709⟩, st709⟩ := Jvm.LawKit.callS X683 hx (y := yN2) hown (mvT hZ (own_k hw 34 rfl)) (mvT hZ (own_k hw 35 rfl)) (mvT hZ (own_k hw 36 rfl)) (mvT hZ (own_k hw 37 rfl)) (by decide) (backOf (W := 0) (own_k3_3_1 l Z a0 hw [] b0 kc c0 c1 c2 h0 n0 Z0 pr1 pr4 pr5 pr6 pr11 pr12 pr13 pr14 hf684 hf708) hZ (own_k hw 37 rfl) (own_k hw 36 rfl) (by decide) (by decide)) (g := (mkF m 36 #[.val (.ref x0), .val (.ref b0), .val (.int 0), .val (.int 3), .val .null, .unset] [(.int 3), (.int 0), (.ref b0)])) rfl hml.symm  (argsL := [(.ref b0), (.int 0), (.int 3)]) (rest := []) (lenOf own_pd14 rfl) rfl (own_w0 rfl rfl) (hb hby d2_36) (fun _ _ => ⟨rfl, e683, (by decide : 0 + 2 ≤ 3), (by decide : 0 + 9 ≤ 9)⟩)
      dsimp only [Pt.U, Pt.locs, Pt.cells, Pt.slots] at X709 l709 y709 z709 st709 hQ709
      subst l709 y709 z709
      obtain ⟨b_709, kb_709, rfl, N709, K709_, P710, P711⟩ := hQ709
      have N712 := Fr.app N0 N709
      have Z713 : n0 ≤ T709.heap.size := Nat.le_trans Z0 K709_.1
      have K713 : Keep h0 T709.heap [x0] := (Keep.trans K0 K709_ all0)
      have ne714 : x0 ≠ b_709 := Nat.ne_of_lt (Nat.lt_of_lt_of_le pr7.lt P711)
      have ne715 : b0 ≠ b_709 := Nat.ne_of_lt (Nat.lt_of_lt_of_le pr11.lt P711)
      have ge716 : n0 ≤ b_709 := Nat.le_trans Z0 P711
      refine own_st (T' := T709) (g' := (mkF m 39 #[.val (.ref x0), .val (.ref b0), .val (.int 0), .val (.int 3), .val .null, .unset] [(.ref b_709)])) st709 ?_
      refine own_st (T' := T709) (g' := (mkF m 45 #[.val (.ref x0), .val (.ref b0), .val (.int 0), .val (.int 3), .val .null, .val (.ref b_709)] [(.int 3), (.ref b_709), (.ref x0)])) (fun _ kt => XS.astore X709.here hx rfl (hb hby d2_39) rfl rfl (l' := #[.val (.ref x0), .val (.ref b0), .val (.int 0), .val (.int 3), .val .null, .val (.ref b_709)]) rfl (XS.aloadN X709.here hx rfl (hb hby d2_41) rfl rfl (XS.aload X709.here hx rfl (hb hby d2_42) rfl rfl (XS.iloadN X709.here hx rfl (hb hby d2_44) rfl kt)))) ?_
      obtain ⟨_, _, ⟨T717, L717, k717, n717⟩, -, X717, ⟨Lc717, hQ717, l717, y717, z717⟩, st717⟩ := Jvm.LawKit.callS X709 hx (y := yN3) hown (mvT hZ (own_k hw 41 rfl)) (mvT hZ (own_k hw 42 rfl)) (mvT hZ (own_k hw 36 rfl)) (mvT hZ (own_k hw 43 rfl)) (by decide) (backOf (W := 1) (own_cf3_1 l Z a0 hw [] b_709 kb_709 [(.int (own_lo c0)), (.int (own_hi c0)), (.int (own_lo c1)), (.int (own_hi c1)), (.int (own_lo c2)), (.int (own_hi c2))] T709.heap n0 Z713 P710) hZ (own_k hw 43 rfl) (own_k hw 36 rfl) (by decide) (by decide)) (g := (mkF m 45 #[.val (.ref x0), .val (.ref b0), .val (.int 0), .val (.int 3), .val .null, .val (.ref b_709)] [(.int 3), (.ref b_709), (.ref x0)])) rfl hml.symm  (argsL := [(.ref b_709), (.int 3)]) (rest := [(.ref x0)]) (lenOf own_pd15 rfl) rfl (own_w0 rfl rfl) (hb hby d2_45) (fun _ _ => ⟨rfl, rfl, (by decide : 2 + 0 ≤ 3), (by decide : 9 + 0 ≤ 9)⟩)
      dsimp only [Pt.U, Pt.locs, Pt.cells, Pt.slots] at X717 l717 y717 z717 st717 hQ717
      subst l717 y717 z717
      obtain ⟨rfl, N717, e717⟩ := hQ717
      have N718 := Fr.app N712 N717
      refine own_st (T' := T717) (g' := (mkF m 48 #[.val (.ref x0), .val (.ref b0), .val (.int 0), .val (.int 3), .val .null, .val (.ref b_709)] [(.int 1), (.ref x0)])) st717 ?_
      have F719 : Fld Z T709.heap x0 "java/lang/String" "coder" "B" (.int 0) := (Fld.keep pr10 K709_ nin0)
      have F720 : Exa Z T709.heap x0 "java/lang/String" := (Exa.keep pr7 K709_)
      obtain ⟨T721, h721, X721, e721, W721, st721⟩ := putF X717 hx hZ hown (host := "") (Or.inl (own_k hw 23 rfl)) Via.refl e717 F719 F720 (Or.inr ⟨(own_k hw 19 rfl), rfl, hnm⟩) (own_k hw 3 rfl) (ty := .byte) (by decide) rfl rfl (g := (mkF m 48 #[.val (.ref x0), .val (.ref b0), .val (.int 0), .val (.int 3), .val .null, .val (.ref b_709)] [(.int 1), (.ref x0)])) rfl rfl (hb hby d2_48)
      have N721 := Fr.snoc X721 N718 pr8
      have Z722 : n0 ≤ h721.size := Nat.le_trans Z713 (Nat.le_of_eq (Wr.size W721).symm)
      have K722 : Keep h0 h721 [x0] := (Keep.wr K713 W721 (Or.inl (List.mem_of_getElem? (i := 0) rfl)))
      have F723 : Fld Z h721 x0 "java/lang/String" "coder" "B" (.int 1) := Fld.same W721 F719
      refine own_st (T' := T721) (g' := (mkF m 51 #[.val (.ref x0), .val (.ref b0), .val (.int 0), .val (.int 3), .val .null, .val (.ref b_709)] [])) st721 ?_
      refine own_st (T' := T721) (g' := (mkF m 54 #[.val (.ref x0), .val (.ref b0), .val (.int 0), .val (.int 3), .val .null, .val (.ref b_709)] [(.ref b_709), (.ref x0)])) (fun _ kt => XS.aloadN X721.here hx rfl (hb hby d2_51) rfl rfl (XS.aload X721.here hx rfl (hb hby d2_52) rfl rfl kt)) ?_
      have F724 : Fld Z h721 x0 "java/lang/String" "value" "[B" .null := (Fld.other W721 (Fld.keep pr9 K709_ nin0) (Or.inr (slot_ne (Or.inr (own_k hw 18 rfl)) (Or.inr (own_k hw 19 rfl)) (by decide) (t := (.array .byte)) (t' := .byte) (by decide) (by decide))))
      have F725 : Exa Z h721 x0 "java/lang/String" := (Exa.wr W721 F720)
      obtain ⟨T726, h726, X726, e726, W726, st726⟩ := putF X721 hx hZ hown (host := "") (Or.inl (own_k hw 22 rfl)) Via.refl e721 F724 F725 (Or.inr ⟨(own_k hw 18 rfl), rfl, hnm⟩) (own_k hw 3 rfl) (ty := (.array .byte)) (by decide) rfl rfl (g := (mkF m 54 #[.val (.ref x0), .val (.ref b0), .val (.int 0), .val (.int 3), .val .null, .val (.ref b_709)] [(.ref b_709), (.ref x0)])) rfl rfl (hb hby d2_54)
      have N726 := Fr.snoc X726 N721 pr8
      have Z727 : n0 ≤ h726.size := Nat.le_trans Z722 (Nat.le_of_eq (Wr.size W726).symm)
      have K727 : Keep h0 h726 [x0] := (Keep.wr K722 W726 (Or.inl (List.mem_of_getElem? (i := 0) rfl)))
      have F728 : Fld Z h726 x0 "java/lang/String" "value" "[B" (.ref b_709) := Fld.same W726 F724
      refine own_st (T' := T726) (g' := (mkF m 57 #[.val (.ref x0), .val (.ref b0), .val (.int 0), .val (.int 3), .val .null, .val (.ref b_709)] [])) st726 ?_
      obtain ⟨fs, hr, hrun, hended, hW, hsame⟩ := X726.leave (v := none) (fun _ => rfl)
      refine own_end (X726.returnOut hx Bd.returns (hb hby d2_57) hr) ⟨_, hrun, hended, _, _, rfl, ?_, ⟨_, rfl⟩, hW, hsame.mono (by decide) (by decide)⟩
      have F729 : Arv Z h726 b_709 kb_709 .byte (6 : Int32) [(.int (own_lo c0)), (.int (own_hi c0)), (.int (own_lo c1)), (.int (own_hi c1)), (.int (own_lo c2)), (.int (own_hi c2))] (.int 0) := (Arv.other (Arv.other P710 W721 (Ne.symm ne714)) W726 (Ne.symm ne714))
      have F730 : Fld Z h726 x0 "java/lang/String" "coder" "B" (.int 1) := (Fld.other W726 F723 (Or.inr (slot_ne (Or.inr (own_k hw 19 rfl)) (Or.inr (own_k hw 18 rfl)) (by decide) (t := .byte) (t' := (.array .byte)) (by decide) (by decide))))
      have F731 : Exa Z h726 x0 "java/lang/String" := (Exa.wr W726 F725)
      show own_n4_3Q Z _ _ _ _ _ _ _ h0 n0 _ T726.heap _
      rw [e726]
      exact ⟨b_709, kb_709, (1 : Int32), (6 : Int32), [(.int (own_lo c0)), (.int (own_hi c0)), (.int (own_lo c1)), (.int (own_hi c1)), (.int (own_lo c2)), (.int (own_hi c2))], rfl, N726, K727, F731, F730, F728, F729, (Nat.le_trans K0.1 P711), (Or.inr ⟨rfl, rfl, rfl⟩)⟩
    ·
      by_cases hf732 : (255 : Int32) < c2
      ·
        obtain ⟨_, _, ⟨T733, L733, k733, n733⟩, -, X733, ⟨Lc733, hQ733, l733, y733, z733⟩, st733⟩ := Jvm.LawKit.callS X683 hx (y := yN2) hown (mvT hZ (own_k hw 34 rfl)) (mvT hZ (own_k hw 35 rfl)) (mvT hZ (own_k hw 36 rfl)) (mvT hZ (own_k hw 37 rfl)) (by decide) (backOf (W := 0) (own_k3_3_2 l Z a0 hw [] b0 kc c0 c1 c2 h0 n0 Z0 pr1 pr4 pr5 pr6 pr11 pr12 pr13 pr14 hf684 hf708 hf732) hZ (own_k hw 37 rfl) (own_k hw 36 rfl) (by decide) (by decide)) (g := (mkF m 36 #[.val (.ref x0), .val (.ref b0), .val (.int 0), .val (.int 3), .val .null, .unset] [(.int 3), (.int 0), (.ref b0)])) rfl hml.symm  (argsL := [(.ref b0), (.int 0), (.int 3)]) (rest := []) (lenOf own_pd14 rfl) rfl (own_w0 rfl rfl) (hb hby d2_36) (fun _ _ => ⟨rfl, e683, (by decide : 0 + 2 ≤ 3), (by decide : 0 + 9 ≤ 9)⟩)
        dsimp only [Pt.U, Pt.locs, Pt.cells, Pt.slots] at X733 l733 y733 z733 st733 hQ733
        subst l733 y733 z733
        obtain ⟨b_733, kb_733, rfl, N733, K733_, P734, P735⟩ := hQ733
        have N736 := Fr.app N0 N733
        have Z737 : n0 ≤ T733.heap.size := Nat.le_trans Z0 K733_.1
        have K737 : Keep h0 T733.heap [x0] := (Keep.trans K0 K733_ all0)
        have ne738 : x0 ≠ b_733 := Nat.ne_of_lt (Nat.lt_of_lt_of_le pr7.lt P735)
        have ne739 : b0 ≠ b_733 := Nat.ne_of_lt (Nat.lt_of_lt_of_le pr11.lt P735)
        have ge740 : n0 ≤ b_733 := Nat.le_trans Z0 P735
        refine own_st (T' := T733) (g' := (mkF m 39 #[.val (.ref x0), .val (.ref b0), .val (.int 0), .val (.int 3), .val .null, .unset] [(.ref b_733)])) st733 ?_
        refine own_st (T' := T733) (g' := (mkF m 45 #[.val (.ref x0), .val (.ref b0), .val (.int 0), .val (.int 3), .val .null, .val (.ref b_733)] [(.int 3), (.ref b_733), (.ref x0)])) (fun _ kt => XS.astore X733.here hx rfl (hb hby d2_39) rfl rfl (l' := #[.val (.ref x0), .val (.ref b0), .val (.int 0), .val (.int 3), .val .null, .val (.ref b_733)]) rfl (XS.aloadN X733.here hx rfl (hb hby d2_41) rfl rfl (XS.aload X733.here hx rfl (hb hby d2_42) rfl rfl (XS.iloadN X733.here hx rfl (hb hby d2_44) rfl kt)))) ?_
        obtain ⟨_, _, ⟨T741, L741, k741, n741⟩, -, X741, ⟨Lc741, hQ741, l741, y741, z741⟩, st741⟩ := Jvm.LawKit.callS X733 hx (y := yN3) hown (mvT hZ (own_k hw 41 rfl)) (mvT hZ (own_k hw 42 rfl)) (mvT hZ (own_k hw 36 rfl)) (mvT hZ (own_k hw 43 rfl)) (by decide) (backOf (W := 1) (own_cf3_1 l Z a0 hw [] b_733 kb_733 [(.int (own_lo c0)), (.int (own_hi c0)), (.int (own_lo c1)), (.int (own_hi c1)), (.int (own_lo c2)), (.int (own_hi c2))] T733.heap n0 Z737 P734) hZ (own_k hw 43 rfl) (own_k hw 36 rfl) (by decide) (by decide)) (g := (mkF m 45 #[.val (.ref x0), .val (.ref b0), .val (.int 0), .val (.int 3), .val .null, .val (.ref b_733)] [(.int 3), (.ref b_733), (.ref x0)])) rfl hml.symm  (argsL := [(.ref b_733), (.int 3)]) (rest := [(.ref x0)]) (lenOf own_pd15 rfl) rfl (own_w0 rfl rfl) (hb hby d2_45) (fun _ _ => ⟨rfl, rfl, (by decide : 2 + 0 ≤ 3), (by decide : 9 + 0 ≤ 9)⟩)
        dsimp only [Pt.U, Pt.locs, Pt.cells, Pt.slots] at X741 l741 y741 z741 st741 hQ741
        subst l741 y741 z741
        obtain ⟨rfl, N741, e741⟩ := hQ741
        have N742 := Fr.app N736 N741
        refine own_st (T' := T741) (g' := (mkF m 48 #[.val (.ref x0), .val (.ref b0), .val (.int 0), .val (.int 3), .val .null, .val (.ref b_733)] [(.int 1), (.ref x0)])) st741 ?_
        have F743 : Fld Z T733.heap x0 "java/lang/String" "coder" "B" (.int 0) := (Fld.keep pr10 K733_ nin0)
        have F744 : Exa Z T733.heap x0 "java/lang/String" := (Exa.keep pr7 K733_)
        obtain ⟨T745, h745, X745, e745, W745, st745⟩ := putF X741 hx hZ hown (host := "") (Or.inl (own_k hw 23 rfl)) Via.refl e741 F743 F744 (Or.inr ⟨(own_k hw 19 rfl), rfl, hnm⟩) (own_k hw 3 rfl) (ty := .byte) (by decide) rfl rfl (g := (mkF m 48 #[.val (.ref x0), .val (.ref b0), .val (.int 0), .val (.int 3), .val .null, .val (.ref b_733)] [(.int 1), (.ref x0)])) rfl rfl (hb hby d2_48)
        have N745 := Fr.snoc X745 N742 pr8
        have Z746 : n0 ≤ h745.size := Nat.le_trans Z737 (Nat.le_of_eq (Wr.size W745).symm)
        have K746 : Keep h0 h745 [x0] := (Keep.wr K737 W745 (Or.inl (List.mem_of_getElem? (i := 0) rfl)))
        have F747 : Fld Z h745 x0 "java/lang/String" "coder" "B" (.int 1) := Fld.same W745 F743
        refine own_st (T' := T745) (g' := (mkF m 51 #[.val (.ref x0), .val (.ref b0), .val (.int 0), .val (.int 3), .val .null, .val (.ref b_733)] [])) st745 ?_
        refine own_st (T' := T745) (g' := (mkF m 54 #[.val (.ref x0), .val (.ref b0), .val (.int 0), .val (.int 3), .val .null, .val (.ref b_733)] [(.ref b_733), (.ref x0)])) (fun _ kt => XS.aloadN X745.here hx rfl (hb hby d2_51) rfl rfl (XS.aload X745.here hx rfl (hb hby d2_52) rfl rfl kt)) ?_
        have F748 : Fld Z h745 x0 "java/lang/String" "value" "[B" .null := (Fld.other W745 (Fld.keep pr9 K733_ nin0) (Or.inr (slot_ne (Or.inr (own_k hw 18 rfl)) (Or.inr (own_k hw 19 rfl)) (by decide) (t := (.array .byte)) (t' := .byte) (by decide) (by decide))))
        have F749 : Exa Z h745 x0 "java/lang/String" := (Exa.wr W745 F744)
        obtain ⟨T750, h750, X750, e750, W750, st750⟩ := putF X745 hx hZ hown (host := "") (Or.inl (own_k hw 22 rfl)) Via.refl e745 F748 F749 (Or.inr ⟨(own_k hw 18 rfl), rfl, hnm⟩) (own_k hw 3 rfl) (ty := (.array .byte)) (by decide) rfl rfl (g := (mkF m 54 #[.val (.ref x0), .val (.ref b0), .val (.int 0), .val (.int 3), .val .null, .val (.ref b_733)] [(.ref b_733), (.ref x0)])) rfl rfl (hb hby d2_54)
        have N750 := Fr.snoc X750 N745 pr8
        have Z751 : n0 ≤ h750.size := Nat.le_trans Z746 (Nat.le_of_eq (Wr.size W750).symm)
        have K751 : Keep h0 h750 [x0] := (Keep.wr K746 W750 (Or.inl (List.mem_of_getElem? (i := 0) rfl)))
        have F752 : Fld Z h750 x0 "java/lang/String" "value" "[B" (.ref b_733) := Fld.same W750 F748
        refine own_st (T' := T750) (g' := (mkF m 57 #[.val (.ref x0), .val (.ref b0), .val (.int 0), .val (.int 3), .val .null, .val (.ref b_733)] [])) st750 ?_
        obtain ⟨fs, hr, hrun, hended, hW, hsame⟩ := X750.leave (v := none) (fun _ => rfl)
        refine own_end (X750.returnOut hx Bd.returns (hb hby d2_57) hr) ⟨_, hrun, hended, _, _, rfl, ?_, ⟨_, rfl⟩, hW, hsame.mono (by decide) (by decide)⟩
        have F753 : Arv Z h750 b_733 kb_733 .byte (6 : Int32) [(.int (own_lo c0)), (.int (own_hi c0)), (.int (own_lo c1)), (.int (own_hi c1)), (.int (own_lo c2)), (.int (own_hi c2))] (.int 0) := (Arv.other (Arv.other P734 W745 (Ne.symm ne738)) W750 (Ne.symm ne738))
        have F754 : Fld Z h750 x0 "java/lang/String" "coder" "B" (.int 1) := (Fld.other W750 F747 (Or.inr (slot_ne (Or.inr (own_k hw 19 rfl)) (Or.inr (own_k hw 18 rfl)) (by decide) (t := .byte) (t' := (.array .byte)) (by decide) (by decide))))
        have F755 : Exa Z h750 x0 "java/lang/String" := (Exa.wr W750 F749)
        show own_n4_3Q Z _ _ _ _ _ _ _ h0 n0 _ T750.heap _
        rw [e750]
        exact ⟨b_733, kb_733, (1 : Int32), (6 : Int32), [(.int (own_lo c0)), (.int (own_hi c0)), (.int (own_lo c1)), (.int (own_hi c1)), (.int (own_lo c2)), (.int (own_hi c2))], rfl, N750, K751, F755, F754, F752, F753, (Nat.le_trans K0.1 P735), (Or.inr ⟨rfl, rfl, rfl⟩)⟩
      ·
        obtain ⟨_, _, ⟨T756, L756, k756, n756⟩, -, X756, ⟨Lc756, hQ756, l756, y756, z756⟩, st756⟩ := Jvm.LawKit.callS X683 hx (y := yN2) hown (mvT hZ (own_k hw 34 rfl)) (mvT hZ (own_k hw 35 rfl)) (mvT hZ (own_k hw 36 rfl)) (mvT hZ (own_k hw 37 rfl)) (by decide) (backOf (W := 0) (own_k3_3_3 l Z a0 hw [] b0 kc c0 c1 c2 h0 n0 Z0 pr1 pr4 pr5 pr6 pr11 pr12 pr13 pr14 hf684 hf708 hf732) hZ (own_k hw 37 rfl) (own_k hw 36 rfl) (by decide) (by decide)) (g := (mkF m 36 #[.val (.ref x0), .val (.ref b0), .val (.int 0), .val (.int 3), .val .null, .unset] [(.int 3), (.int 0), (.ref b0)])) rfl hml.symm  (argsL := [(.ref b0), (.int 0), (.int 3)]) (rest := []) (lenOf own_pd14 rfl) rfl (own_w0 rfl rfl) (hb hby d2_36) (fun _ _ => ⟨rfl, e683, (by decide : 0 + 1 ≤ 3), (by decide : 0 + 3 ≤ 9)⟩)
        dsimp only [Pt.U, Pt.locs, Pt.cells, Pt.slots] at X756 l756 y756 z756 st756 hQ756
        subst l756 y756 z756
        obtain ⟨b_756, kb_756, rfl, N756, K756_, P757, P758⟩ := hQ756
        have N759 := Fr.app N0 N756
        have Z760 : n0 ≤ T756.heap.size := Nat.le_trans Z0 K756_.1
        have K760 : Keep h0 T756.heap [x0] := (Keep.trans K0 K756_ all0)
        have ne761 : x0 ≠ b_756 := Nat.ne_of_lt (Nat.lt_of_lt_of_le pr7.lt P758)
        have ne762 : b0 ≠ b_756 := Nat.ne_of_lt (Nat.lt_of_lt_of_le pr11.lt P758)
        have ge763 : n0 ≤ b_756 := Nat.le_trans Z0 P758
        refine own_st (T' := T756) (g' := (mkF m 39 #[.val (.ref x0), .val (.ref b0), .val (.int 0), .val (.int 3), .val .null, .unset] [(.ref b_756)])) st756 ?_
        refine own_st (T' := T756) (g' := (mkF m 45 #[.val (.ref x0), .val (.ref b0), .val (.int 0), .val (.int 3), .val .null, .val (.ref b_756)] [(.int 3), (.ref b_756), (.ref x0)])) (fun _ kt => XS.astore X756.here hx rfl (hb hby d2_39) rfl rfl (l' := #[.val (.ref x0), .val (.ref b0), .val (.int 0), .val (.int 3), .val .null, .val (.ref b_756)]) rfl (XS.aloadN X756.here hx rfl (hb hby d2_41) rfl rfl (XS.aload X756.here hx rfl (hb hby d2_42) rfl rfl (XS.iloadN X756.here hx rfl (hb hby d2_44) rfl kt)))) ?_
        obtain ⟨_, _, ⟨T764, L764, k764, n764⟩, -, X764, ⟨Lc764, hQ764, l764, y764, z764⟩, st764⟩ := Jvm.LawKit.callS X756 hx (y := yN3) hown (mvT hZ (own_k hw 41 rfl)) (mvT hZ (own_k hw 42 rfl)) (mvT hZ (own_k hw 36 rfl)) (mvT hZ (own_k hw 43 rfl)) (by decide) (backOf (W := 1) (own_cf3_0 l Z a0 hw [] b_756 kb_756 [(.int c0.toInt8.toInt32), (.int c1.toInt8.toInt32), (.int c2.toInt8.toInt32)] T756.heap n0 Z760 P757) hZ (own_k hw 43 rfl) (own_k hw 36 rfl) (by decide) (by decide)) (g := (mkF m 45 #[.val (.ref x0), .val (.ref b0), .val (.int 0), .val (.int 3), .val .null, .val (.ref b_756)] [(.int 3), (.ref b_756), (.ref x0)])) rfl hml.symm  (argsL := [(.ref b_756), (.int 3)]) (rest := [(.ref x0)]) (lenOf own_pd15 rfl) rfl (own_w0 rfl rfl) (hb hby d2_45) (fun _ _ => ⟨rfl, rfl, (by decide : 1 + 0 ≤ 3), (by decide : 3 + 0 ≤ 9)⟩)
        dsimp only [Pt.U, Pt.locs, Pt.cells, Pt.slots] at X764 l764 y764 z764 st764 hQ764
        subst l764 y764 z764
        obtain ⟨rfl, N764, e764⟩ := hQ764
        have N765 := Fr.app N759 N764
        refine own_st (T' := T764) (g' := (mkF m 48 #[.val (.ref x0), .val (.ref b0), .val (.int 0), .val (.int 3), .val .null, .val (.ref b_756)] [(.int 0), (.ref x0)])) st764 ?_
        have F766 : Fld Z T756.heap x0 "java/lang/String" "coder" "B" (.int 0) := (Fld.keep pr10 K756_ nin0)
        have F767 : Exa Z T756.heap x0 "java/lang/String" := (Exa.keep pr7 K756_)
        obtain ⟨T768, h768, X768, e768, W768, st768⟩ := putF X764 hx hZ hown (host := "") (Or.inl (own_k hw 23 rfl)) Via.refl e764 F766 F767 (Or.inr ⟨(own_k hw 19 rfl), rfl, hnm⟩) (own_k hw 3 rfl) (ty := .byte) (by decide) rfl rfl (g := (mkF m 48 #[.val (.ref x0), .val (.ref b0), .val (.int 0), .val (.int 3), .val .null, .val (.ref b_756)] [(.int 0), (.ref x0)])) rfl rfl (hb hby d2_48)
        have N768 := Fr.snoc X768 N765 pr8
        have Z769 : n0 ≤ h768.size := Nat.le_trans Z760 (Nat.le_of_eq (Wr.size W768).symm)
        have K769 : Keep h0 h768 [x0] := (Keep.wr K760 W768 (Or.inl (List.mem_of_getElem? (i := 0) rfl)))
        have F770 : Fld Z h768 x0 "java/lang/String" "coder" "B" (.int 0) := Fld.same W768 F766
        refine own_st (T' := T768) (g' := (mkF m 51 #[.val (.ref x0), .val (.ref b0), .val (.int 0), .val (.int 3), .val .null, .val (.ref b_756)] [])) st768 ?_
        refine own_st (T' := T768) (g' := (mkF m 54 #[.val (.ref x0), .val (.ref b0), .val (.int 0), .val (.int 3), .val .null, .val (.ref b_756)] [(.ref b_756), (.ref x0)])) (fun _ kt => XS.aloadN X768.here hx rfl (hb hby d2_51) rfl rfl (XS.aload X768.here hx rfl (hb hby d2_52) rfl rfl kt)) ?_
        have F771 : Fld Z h768 x0 "java/lang/String" "value" "[B" .null := (Fld.other W768 (Fld.keep pr9 K756_ nin0) (Or.inr (slot_ne (Or.inr (own_k hw 18 rfl)) (Or.inr (own_k hw 19 rfl)) (by decide) (t := (.array .byte)) (t' := .byte) (by decide) (by decide))))
        have F772 : Exa Z h768 x0 "java/lang/String" := (Exa.wr W768 F767)
        obtain ⟨T773, h773, X773, e773, W773, st773⟩ := putF X768 hx hZ hown (host := "") (Or.inl (own_k hw 22 rfl)) Via.refl e768 F771 F772 (Or.inr ⟨(own_k hw 18 rfl), rfl, hnm⟩) (own_k hw 3 rfl) (ty := (.array .byte)) (by decide) rfl rfl (g := (mkF m 54 #[.val (.ref x0), .val (.ref b0), .val (.int 0), .val (.int 3), .val .null, .val (.ref b_756)] [(.ref b_756), (.ref x0)])) rfl rfl (hb hby d2_54)
        have N773 := Fr.snoc X773 N768 pr8
        have Z774 : n0 ≤ h773.size := Nat.le_trans Z769 (Nat.le_of_eq (Wr.size W773).symm)
        have K774 : Keep h0 h773 [x0] := (Keep.wr K769 W773 (Or.inl (List.mem_of_getElem? (i := 0) rfl)))
        have F775 : Fld Z h773 x0 "java/lang/String" "value" "[B" (.ref b_756) := Fld.same W773 F771
        refine own_st (T' := T773) (g' := (mkF m 57 #[.val (.ref x0), .val (.ref b0), .val (.int 0), .val (.int 3), .val .null, .val (.ref b_756)] [])) st773 ?_
        obtain ⟨fs, hr, hrun, hended, hW, hsame⟩ := X773.leave (v := none) (fun _ => rfl)
        refine own_end (X773.returnOut hx Bd.returns (hb hby d2_57) hr) ⟨_, hrun, hended, _, _, rfl, ?_, ⟨_, rfl⟩, hW, hsame.mono (by decide) (by decide)⟩
        have F776 : Arv Z h773 b_756 kb_756 .byte (3 : Int32) [(.int c0.toInt8.toInt32), (.int c1.toInt8.toInt32), (.int c2.toInt8.toInt32)] (.int 0) := (Arv.other (Arv.other P757 W768 (Ne.symm ne761)) W773 (Ne.symm ne761))
        have F777 : Fld Z h773 x0 "java/lang/String" "coder" "B" (.int 0) := (Fld.other W773 F770 (Or.inr (slot_ne (Or.inr (own_k hw 19 rfl)) (Or.inr (own_k hw 18 rfl)) (by decide) (t := .byte) (t' := (.array .byte)) (by decide) (by decide))))
        have F778 : Exa Z h773 x0 "java/lang/String" := (Exa.wr W773 F772)
        show own_n4_3Q Z _ _ _ _ _ _ _ h0 n0 _ T773.heap _
        rw [e773]
        exact ⟨b_756, kb_756, (0 : Int32), (3 : Int32), [(.int c0.toInt8.toInt32), (.int c1.toInt8.toInt32), (.int c2.toInt8.toInt32)], rfl, N773, K774, F778, F777, F775, F776, (Nat.le_trans K0.1 P758), (Or.inl ⟨rfl, rfl, rfl, hf684, hf708, hf732⟩)⟩
def own_n1_3Q (Z : State) (x0 : Addr) (b0 : Addr) (zc : Int32) (kc : ClassId) (c0 : Int32) (c1 : Int32) (c2 : Int32) (h0 : Heap) (n0 : Nat) (v : Option Value) (h : Heap) (L : List Loc) : Prop := ∃ (t : Addr), ∃ (kb : ClassId), ∃ (cd : Int32), ∃ (zz : Int32), ∃ (vl : List Value), v = none ∧ Fr n0 L ∧ Keep h0 h [x0] ∧ (Exa Z h x0 "java/lang/String") ∧ (Fld Z h x0 "java/lang/String" "coder" "B" (.int cd)) ∧ (Fld Z h x0 "java/lang/String" "value" "[B" (.ref t)) ∧ (Arv Z h t kb .byte zz vl (.int 0)) ∧ (h0.size ≤ t) ∧ ((cd = 0 ∧ zz = 3 ∧ vl = [(.int c0.toInt8.toInt32), (.int c1.toInt8.toInt32), (.int c2.toInt8.toInt32)] ∧ ¬ (255 : Int32) < c0 ∧ ¬ (255 : Int32) < c1 ∧ ¬ (255 : Int32) < c2) ∨ (cd = 1 ∧ zz = 6 ∧ vl = [(.int (own_lo c0)), (.int (own_hi c0)), (.int (own_lo c1)), (.int (own_hi c1)), (.int (own_lo c2)), (.int (own_hi c2))]))
abbrev own_n1_3R : Room := { frames := 5, cells := 3, slots := 9, locals := 140 }
theorem own_n1_3 (l : Launch) (Z : State) (a0 : Array Value) (hw : ∀ d ∈ tables_1, d.before a0 Z = true) (ws : List Jvm.Cond) (x0 : Addr) (b0 : Addr) (zc : Int32) (kc : ClassId) (c0 : Int32) (c1 : Int32) (c2 : Int32) (h0 : Heap) (n0 : Nat) (Z0 : n0 ≤ h0.size) (pr1 : Old Z n0 h0) (pr2 : Sta Z Z.heap "java/lang/String" "COMPACT_STRINGS" "Z" (.int zc)) (pr3 : ¬ zc = 0) (pr4 : Sta Z Z.heap "java/lang/StringUTF16" "$assertionsDisabled" "Z" (.int 1)) (pr5 : Sta Z Z.heap "java/lang/StringUTF16" "HI_BYTE_SHIFT" "I" (.int 0)) (pr6 : Sta Z Z.heap "java/lang/StringUTF16" "LO_BYTE_SHIFT" "I" (.int 8)) (pr7 : Exa Z h0 x0 "java/lang/String") (pr8 : n0 ≤ x0) (pr9 : Fld Z h0 x0 "java/lang/String" "value" "[B" .null) (pr10 : Fld Z h0 x0 "java/lang/String" "coder" "B" (.int 0)) (pr11 : Arv Z h0 b0 kc .char (3 : Int32) [(.int c0), (.int c1), (.int c2)] (.int 0)) (pr12 : own_c16 c0) (pr13 : own_c16 c1) (pr14 : own_c16 c2) :
    own_M l yN12 jdk_42_method_3_code 2 none ws own_n1_3R #[(.ref x0), (.ref b0)] Z h0 (own_n1_3Q Z x0 b0 zc kc c0 c1 c2 h0 n0) := by
  refine own_go (plainFor_of_name own_pn2) (fun m => own_ef13 m x0 b0 ) ?_
  intro p e s m below meth c s₁ Bd hx hby hml hZ hh hown hnm X0 e0
  have N0 := Fr.nil n0
  have K0 : Keep h0 h0 [x0] := Keep.refl h0 _
  refine own_st (T' := s₁) (g' := (mkF m 4 #[.val (.ref x0), .val (.ref b0)] [(.ref b0), (.int 0), (.ref b0), (.ref x0)])) (fun _ kt => XS.aloadN X0.here hx rfl (hb hby d1_0) rfl rfl (XS.aloadN X0.here hx rfl (hb hby d1_1) rfl rfl (XS.iconst X0.here hx rfl (hb hby d1_2) (XS.aloadN X0.here hx rfl (hb hby d1_3) rfl rfl kt)))) ?_
  refine own_st (T' := s₁) (g' := (mkF m 5 #[.val (.ref x0), .val (.ref b0)] [(.int 3), (.int 0), (.ref b0), (.ref x0)])) (own_alen X0 hx hZ e0 pr11 (g := (mkF m 4 #[.val (.ref x0), .val (.ref b0)] [(.ref b0), (.int 0), (.ref b0), (.ref x0)])) rfl rfl (hb hby d1_4)) ?_
  refine own_st (T' := s₁) (g' := (mkF m 6 #[.val (.ref x0), .val (.ref b0)] [.null, (.int 3), (.int 0), (.ref b0), (.ref x0)])) (fun _ kt => XS.aconstNull X0.here hx rfl (hb hby d1_5) kt) ?_
  obtain ⟨_, _, ⟨T779, L779, k779, n779⟩, -, X779, ⟨Lc779, hQ779, l779, y779, z779⟩, st779⟩ := X0.specialBack hx (y := yN11) rfl hown (mvT hZ (own_k hw 9 rfl)) (mvT hZ (own_k hw 10 rfl)) (mvT hZ (own_k hw 12 rfl)) (by decide) (backOf (W := 0) (own_n4_3 l Z a0 hw [] x0 b0 zc kc c0 c1 c2 h0 n0 Z0 pr1 pr2 pr3 pr4 pr5 pr6 pr7 pr8 pr9 pr10 pr11 pr12 pr13 pr14) hZ (own_k hw 12 rfl) (own_k hw 4 rfl) (by decide) (by decide)) (g := (mkF m 6 #[.val (.ref x0), .val (.ref b0)] [.null, (.int 3), (.int 0), (.ref b0), (.ref x0)])) rfl hml.symm (Steps.refl _) (a := x0) (argsL := [(.ref b0), (.int 0), (.int 3), .null]) (rest := []) (lenOf own_pd16 rfl) rfl (own_w0 rfl rfl) (hb hby d1_6) (fun _ _ => ⟨rfl, e0, (by decide : 0 + 3 ≤ 3), (by decide : 0 + 9 ≤ 9)⟩)
  dsimp only [Pt.U, Pt.locs, Pt.cells, Pt.slots] at X779 l779 y779 z779 st779 hQ779
  subst l779 y779 z779
  obtain ⟨t_779, kb_779, cd_779, zz_779, vl_779, rfl, N779, K779_, P780, P781, P782, P783, P784, q785⟩ := hQ779
  have N786 := Fr.app N0 N779
  have Z787 : n0 ≤ T779.heap.size := Nat.le_trans Z0 K779_.1
  have K787 : Keep h0 T779.heap [x0] := (Keep.trans K0 K779_ (allS (Or.inl (List.mem_of_getElem? (i := 0) rfl)) all0))
  have ne788 : b0 ≠ t_779 := Nat.ne_of_lt (Nat.lt_of_lt_of_le pr11.lt P784)
  have ge789 : n0 ≤ t_779 := Nat.le_trans Z0 P784
  refine own_tr (T' := T779) (g' := (mkF m 9 #[.val (.ref x0), .val (.ref b0)] [])) st779 ?_
  obtain ⟨fs, hr, hrun, hended, hW, hsame⟩ := X779.leave (v := none) (fun _ => rfl)
  refine own_end (X779.returnOut hx Bd.returns (hb hby d1_9) hr) ⟨_, hrun, hended, _, _, rfl, ?_, ⟨_, rfl⟩, hW, hsame.mono (by decide) (by decide)⟩
  show own_n1_3Q Z _ _ _ _ _ _ _ h0 n0 _ T779.heap _
  show own_n1_3Q Z _ _ _ _ _ _ _ h0 n0 _ T779.heap _
  exact ⟨t_779, kb_779, cd_779, zz_779, vl_779, rfl, N786, K787, P780, P781, P782, P783, (Nat.le_trans K0.1 P784), q785⟩
def own_nl4Q (Z : State)  (h0 : Heap) (n0 : Nat) (v : Option Value) (h : Heap) (L : List Loc) : Prop := v = some (.int 8) ∧ Fr n0 L ∧ h = h0
abbrev own_nl4R : Room := { frames := 0, cells := 0, slots := 0, locals := 0 }
theorem own_nl4 (l : Launch) (Z : State) (a0 : Array Value) (hw : ∀ d ∈ tables_1, d.before a0 Z = true) (ws : List Jvm.Cond)  (h0 : Heap) (n0 : Nat) (Z0 : n0 ≤ h0.size)  :
    own_M l yN13 jdk_52_method_3_code 1 (some .int) ws own_nl4R #[(.int 4)] Z h0 (own_nl4Q Z  h0 n0) := by
  refine own_go (plainFor_of_name own_pn3) (fun m => own_ef8 m (4 : Int32) ) ?_
  intro p e s m below meth c s₁ Bd hx hby hml hZ hh hown hnm X0 e0
  have N0 := Fr.nil n0
  refine own_st (T' := s₁) (g' := (mkF m 13 #[.val (.int 4)] [(.int 4)])) (fun _ kt => XS.iloadN X0.here hx rfl (hb hby d19_0) rfl (XS.ifYes X0.here hx rfl (pc0 := 1) (pc' := 12) rfl (hb hby d19_1) rfl (XT.i0_ge_t (by decide)) (by decide) (by decide) (XS.iloadN X0.here hx rfl (hb hby d19_12) rfl kt))) ?_
  refine own_st (T' := s₁) (g' := (mkF m 15 #[.val (.int 4)] [(.int 1073741823), (.int 4)])) (Stand.ldcInt X0 hx hown (mvT hZ (own_k hw 89 rfl)) (g := (mkF m 13 #[.val (.int 4)] [(.int 4)])) rfl (hb hby d19_13)) ?_
  refine own_st (T' := s₁) (g' := (mkF m 58 #[.val (.int 4)] [(.int 8)])) (fun _ kt => XS.icmpYes X0.here hx rfl (pc0 := 15) (pc' := 55) rfl (hb hby d19_15) rfl (XT.ii_lt_t (by decide)) (by decide) (by decide) (XS.iloadN X0.here hx rfl (hb hby d19_55) rfl (XS.iconst X0.here hx rfl (hb hby d19_56) (XT.ishl X0.here hx rfl (hb hby d19_57) rfl kt)))) ?_
  obtain ⟨fs, hr, hrun, hended, hW, hsame⟩ := X0.leave (v := some (.int 8)) (fun h => by rw [Bd.returns] at h; cases h)
  refine own_end (own_retI X0 hx Bd.returns (hb hby d19_58) hr) ⟨_, hrun, hended, _, _, rfl, ?_, ⟨_, rfl⟩, hW, hsame.mono (by decide) (by decide)⟩
  show own_nl4Q Z  h0 n0 _ s₁.heap _
  rw [e0]
  exact ⟨rfl, N0, rfl⟩
def own_nf4Q (Z : State)  (h0 : Heap) (n0 : Nat) (v : Option Value) (h : Heap) (L : List Loc) : Prop := ∃ (b : Addr), ∃ (kb : ClassId), v = some (.ref b) ∧ Fr n0 L ∧ Keep h0 h [] ∧ (Arv Z h b kb .byte (8 : Int32) [(.int 0), (.int 0), (.int 0), (.int 0), (.int 0), (.int 0), (.int 0), (.int 0)] (.int 0)) ∧ (h0.size ≤ b)
abbrev own_nf4R : Room := { frames := 1, cells := 1, slots := 8, locals := 12 }
theorem own_nf4 (l : Launch) (Z : State) (a0 : Array Value) (hw : ∀ d ∈ tables_1, d.before a0 Z = true) (ws : List Jvm.Cond)  (h0 : Heap) (n0 : Nat) (Z0 : n0 ≤ h0.size)  :
    own_M l yN14 jdk_52_method_2_code 1 (some (.array .byte)) ws own_nf4R #[(.int 4)] Z h0 (own_nf4Q Z  h0 n0) := by
  refine own_go (plainFor_of_name own_pn3) (fun m => own_ef8 m (4 : Int32) ) ?_
  intro p e s m below meth c s₁ Bd hx hby hml hZ hh hown hnm X0 e0
  have N0 := Fr.nil n0
  have K0 : Keep h0 h0 [] := Keep.refl h0 _
  refine own_st (T' := s₁) (g' := (mkF m 1 #[.val (.int 4)] [(.int 4)])) (fun _ kt => XS.iloadN X0.here hx rfl (hb hby d18_0) rfl kt) ?_
  obtain ⟨_, _, ⟨T790, L790, k790, n790⟩, -, X790, ⟨Lc790, hQ790, l790, y790, z790⟩, st790⟩ := Jvm.LawKit.callS X0 hx (y := yN13) hown (mvT hZ (own_k hw 86 rfl)) (mvT hZ (own_k hw 87 rfl)) (mvT hZ (own_k hw 36 rfl)) (mvT hZ (own_k hw 88 rfl)) (by decide) (backOf (W := 0) (own_nl4 l Z a0 hw []  h0 n0 Z0 ) hZ (own_k hw 88 rfl) (own_k hw 36 rfl) (by decide) (by decide)) (g := (mkF m 1 #[.val (.int 4)] [(.int 4)])) rfl hml.symm  (argsL := [(.int 4)]) (rest := []) (lenOf own_pd10 rfl) rfl (own_w0 rfl rfl) (hb hby d18_1) (fun _ _ => ⟨rfl, e0, (by decide : 0 + 0 ≤ 1), (by decide : 0 + 0 ≤ 8)⟩)
  dsimp only [Pt.U, Pt.locs, Pt.cells, Pt.slots] at X790 l790 y790 z790 st790 hQ790
  subst l790 y790 z790
  obtain ⟨rfl, N790, e790⟩ := hQ790
  have N791 := Fr.app N0 N790
  refine own_st (T' := T790) (g' := (mkF m 4 #[.val (.int 4)] [(.int 8)])) st790 ?_
  obtain ⟨T792, h792, k792, X792, e792, E792, A792, st792⟩ := newP X790 hx hZ (aty := .byte) (own_k hw 17 rfl) e790 (g := (mkF m 4 #[.val (.int 4)] [(.int 8)])) rfl (hb hby d18_4) rfl (by decide) (cap := 8) (by decide) (by decide) (by decide) (by decide)
  obtain ⟨b792, g792⟩ : ∃ z, z = h0.size := ⟨_, rfl⟩
  rw [← g792] at A792 st792
  have Z793 : n0 ≤ h792.size := Nat.le_trans Z0 E792.1
  have K793 : Keep h0 h792 [] := (Keep.ext K0 E792)
  have ge_b792 : n0 ≤ b792 := Nat.le_trans Z0 (Nat.le_of_eq g792.symm)
  have F794 : Arv Z h792 b792 k792 .byte (8 : Int32) [(.int 0), (.int 0), (.int 0), (.int 0), (.int 0), (.int 0), (.int 0), (.int 0)] (.int 0) := (Arv.new A792 (by decide)).pad (pad_rep [] (.int 0) 8)
  refine own_st (T' := T792) (g' := (mkF m 6 #[.val (.int 4)] [(.ref b792)])) st792 ?_
  obtain ⟨fs, hr, hrun, hended, hW, hsame⟩ := X792.leave (v := some (.ref b792)) (fun h => by rw [Bd.returns] at h; cases h)
  refine own_end (own_retA X792 hx Bd.returns rfl rfl rfl (hb hby d18_6) hr) ⟨_, hrun, hended, _, _, rfl, ?_, ⟨_, rfl⟩, hW, hsame.mono (by decide) (by decide)⟩
  show own_nf4Q Z  h0 n0 _ T792.heap _
  rw [e792]
  exact ⟨b792, k792, rfl, N791, K793, F794, (Nat.le_trans K0.1 (Nat.le_of_eq g792.symm))⟩
def own_tb4Q (Z : State) (x0 : Addr) (kc : ClassId) (c0 : Int32) (c1 : Int32) (c2 : Int32) (c3 : Int32) (h0 : Heap) (n0 : Nat) (v : Option Value) (h : Heap) (L : List Loc) : Prop := ∃ (b : Addr), ∃ (kb : ClassId), v = some (.ref b) ∧ Fr n0 L ∧ Keep h0 h [] ∧ (Arv Z h b kb .byte (8 : Int32) [(.int (own_lo c0)), (.int (own_hi c0)), (.int (own_lo c1)), (.int (own_hi c1)), (.int (own_lo c2)), (.int (own_hi c2)), (.int (own_lo c3)), (.int (own_hi c3))] (.int 0)) ∧ (h0.size ≤ b)
abbrev own_tb4R : Room := { frames := 2, cells := 1, slots := 8, locals := 24 }
theorem own_tb4 (l : Launch) (Z : State) (a0 : Array Value) (hw : ∀ d ∈ tables_1, d.before a0 Z = true) (ws : List Jvm.Cond) (x0 : Addr) (kc : ClassId) (c0 : Int32) (c1 : Int32) (c2 : Int32) (c3 : Int32) (h0 : Heap) (n0 : Nat) (Z0 : n0 ≤ h0.size) (pr1 : Old Z n0 h0) (pr2 : Sta Z Z.heap "java/lang/StringUTF16" "$assertionsDisabled" "Z" (.int 1)) (pr3 : Sta Z Z.heap "java/lang/StringUTF16" "HI_BYTE_SHIFT" "I" (.int 0)) (pr4 : Sta Z Z.heap "java/lang/StringUTF16" "LO_BYTE_SHIFT" "I" (.int 8)) (pr5 : Arv Z h0 x0 kc .char (4 : Int32) [(.int c0), (.int c1), (.int c2), (.int c3)] (.int 0)) :
    own_M l yN5 jdk_52_method_14_code 5 (some (.array .byte)) ws own_tb4R #[(.ref x0), (.int 0), (.int 4)] Z h0 (own_tb4Q Z x0 kc c0 c1 c2 c3 h0 n0) := by
  refine own_go (plainFor_of_name own_pn3) (fun m => own_ef9 m x0 (0 : Int32) (4 : Int32) ) ?_
  intro p e s m below meth c s₁ Bd hx hby hml hZ hh hown hnm X0 e0
  have N0 := Fr.nil n0
  have K0 : Keep h0 h0 [] := Keep.refl h0 _
  refine own_st (T' := s₁) (g' := (mkF m 1 #[.val (.ref x0), .val (.int 0), .val (.int 4), .unset, .unset] [(.int 4)])) (fun _ kt => XS.iloadN X0.here hx rfl (hb hby d17_0) rfl kt) ?_
  obtain ⟨_, _, ⟨T795, L795, k795, n795⟩, -, X795, ⟨Lc795, hQ795, l795, y795, z795⟩, st795⟩ := Jvm.LawKit.callS X0 hx (y := yN14) hown (mvT hZ (own_k hw 83 rfl)) (mvT hZ (own_k hw 84 rfl)) (mvT hZ (own_k hw 36 rfl)) (mvT hZ (own_k hw 85 rfl)) (by decide) (backOf (W := 0) (own_nf4 l Z a0 hw []  h0 n0 Z0 ) hZ (own_k hw 85 rfl) (own_k hw 36 rfl) (by decide) (by decide)) (g := (mkF m 1 #[.val (.ref x0), .val (.int 0), .val (.int 4), .unset, .unset] [(.int 4)])) rfl hml.symm  (argsL := [(.int 4)]) (rest := []) (lenOf own_pd11 rfl) rfl (own_w0 rfl rfl) (hb hby d17_1) (fun _ _ => ⟨rfl, e0, (by decide : 0 + 1 ≤ 1), (by decide : 0 + 8 ≤ 8)⟩)
  dsimp only [Pt.U, Pt.locs, Pt.cells, Pt.slots] at X795 l795 y795 z795 st795 hQ795
  subst l795 y795 z795
  obtain ⟨b_795, kb_795, rfl, N795, K795_, P796, P797⟩ := hQ795
  have N798 := Fr.app N0 N795
  have Z799 : n0 ≤ T795.heap.size := Nat.le_trans Z0 K795_.1
  have K799 : Keep h0 T795.heap [] := (Keep.trans K0 K795_ all0)
  have ne800 : x0 ≠ b_795 := Nat.ne_of_lt (Nat.lt_of_lt_of_le pr5.lt P797)
  have ge801 : n0 ≤ b_795 := Nat.le_trans Z0 P797
  refine own_st (T' := T795) (g' := (mkF m 4 #[.val (.ref x0), .val (.int 0), .val (.int 4), .unset, .unset] [(.ref b_795)])) st795 ?_
  refine own_st (T' := T795) (g' := (mkF m 19 #[.val (.ref x0), .val (.int 0), .val (.int 4), .val (.ref b_795), .val (.int 0)] [(.int 0), (.ref x0), (.int 0), (.ref b_795)])) (fun _ kt => XS.astoreN X795.here hx rfl (hb hby d17_4) rfl rfl (l' := #[.val (.ref x0), .val (.int 0), .val (.int 4), .val (.ref b_795), .unset]) rfl (XS.iconst X795.here hx rfl (hb hby d17_5) (XS.istore X795.here hx rfl (hb hby d17_6) rfl (l' := #[.val (.ref x0), .val (.int 0), .val (.int 4), .val (.ref b_795), .val (.int 0)]) rfl (XS.iload X795.here hx rfl (hb hby d17_8) rfl (XS.iloadN X795.here hx rfl (hb hby d17_10) rfl (XS.icmpNo X795.here hx rfl (hb hby d17_11) rfl (XT.ii_ge_f (by decide)) (XS.aloadN X795.here hx rfl (hb hby d17_14) rfl rfl (XS.iload X795.here hx rfl (hb hby d17_15) rfl (XS.aloadN X795.here hx rfl (hb hby d17_17) rfl rfl (XS.iloadN X795.here hx rfl (hb hby d17_18) rfl kt)))))))))) ?_
  have F802 : Arv Z T795.heap x0 kc .char (4 : Int32) [(.int c0), (.int c1), (.int c2), (.int c3)] (.int 0) := (Arv.keep pr5 K795_ nin0)
  refine own_st (T' := T795) (g' := (mkF m 20 #[.val (.ref x0), .val (.int 0), .val (.int 4), .val (.ref b_795), .val (.int 0)] [(.int c0), (.int 0), (.ref b_795)])) (own_cal X795 hx hZ rfl F802 ⟨by decide, by decide⟩ rfl (g := (mkF m 19 #[.val (.ref x0), .val (.int 0), .val (.int 4), .val (.ref b_795), .val (.int 0)] [(.int 0), (.ref x0), (.int 0), (.ref b_795)])) rfl rfl (hb hby d17_19)) ?_
  have F803 : Old Z n0 T795.heap := (Old.keep pr1 K795_ all0)
  obtain ⟨_, _, ⟨T804, L804, k804, n804⟩, -, X804, ⟨Lc804, hQ804, l804, y804, z804⟩, st804⟩ := Jvm.LawKit.callS X795 hx (y := yN8) hown (mvT hZ (own_k hw 90 rfl)) (mvT hZ (own_k hw 91 rfl)) (mvT hZ (own_k hw 36 rfl)) (mvT hZ (own_k hw 92 rfl)) (by decide) (backOf (W := 0) (own_pc l Z a0 hw [] b_795 (0 : Int32) c0 kb_795 (8 : Int32) [(.int 0), (.int 0), (.int 0), (.int 0), (.int 0), (.int 0), (.int 0), (.int 0)] T795.heap n0 Z799 F803 pr2 pr3 pr4 ge801 P796 (show ¬ ((0 : Int32) <<< ((1 : Int32) &&& 31)) < 0 ∧ ((0 : Int32) <<< ((1 : Int32) &&& 31)) < (8 : Int32) from (by decide)) (show ¬ (((0 : Int32) <<< ((1 : Int32) &&& 31)) + (1 : Int32)) < 0 ∧ (((0 : Int32) <<< ((1 : Int32) &&& 31)) + (1 : Int32)) < (8 : Int32) from (by decide)) (show ((0 : Int32) <<< ((1 : Int32) &&& 31)).toNatClampNeg < [(.int 0), (.int 0), (.int 0), (.int 0), (.int 0), (.int 0), (.int 0), (.int 0)].length from (show _ < 8 from by decide)) (show (((0 : Int32) <<< ((1 : Int32) &&& 31)) + (1 : Int32)).toNatClampNeg < [(.int 0), (.int 0), (.int 0), (.int 0), (.int 0), (.int 0), (.int 0), (.int 0)].length from (show _ < 8 from by decide))) hZ (own_k hw 92 rfl) (own_k hw 36 rfl) (by decide) (by decide)) (g := (mkF m 20 #[.val (.ref x0), .val (.int 0), .val (.int 4), .val (.ref b_795), .val (.int 0)] [(.int c0), (.int 0), (.ref b_795)])) rfl hml.symm  (argsL := [(.ref b_795), (.int 0), (.int c0)]) (rest := []) (lenOf own_pd12 rfl) rfl (own_w0 rfl rfl) (hb hby d17_20) (fun _ _ => ⟨rfl, rfl, (by decide : 1 + 0 ≤ 1), (by decide : 8 + 0 ≤ 8)⟩)
  dsimp only [Pt.U, Pt.locs, Pt.cells, Pt.slots] at X804 l804 y804 z804 st804 hQ804
  subst l804 y804 z804
  obtain ⟨rfl, N804, K804_, P805⟩ := hQ804
  have N806 := Fr.app N798 N804
  have Z807 : n0 ≤ T804.heap.size := Nat.le_trans Z799 K804_.1
  have K807 : Keep h0 T804.heap [] := (Keep.trans K799 K804_ (allS (Or.inr (Nat.le_trans K0.1 P797)) all0))
  have F808 : Arv Z T804.heap b_795 kb_795 .byte (8 : Int32) [(.int (own_lo c0)), (.int (own_hi c0)), (.int 0), (.int 0), (.int 0), (.int 0), (.int 0), (.int 0)] (.int 0) := P805
  refine own_st (T' := T804) (g' := (mkF m 23 #[.val (.ref x0), .val (.int 0), .val (.int 4), .val (.ref b_795), .val (.int 0)] [])) st804 ?_
  refine own_st (T' := T804) (g' := (mkF m 19 #[.val (.ref x0), .val (.int 1), .val (.int 4), .val (.ref b_795), .val (.int 1)] [(.int 1), (.ref x0), (.int 1), (.ref b_795)])) (fun _ kt => XS.iinc X804.here hx rfl (hb hby d17_23) rfl (l' := #[.val (.ref x0), .val (.int 1), .val (.int 4), .val (.ref b_795), .val (.int 0)]) rfl (XS.iinc X804.here hx rfl (hb hby d17_26) rfl (l' := #[.val (.ref x0), .val (.int 1), .val (.int 4), .val (.ref b_795), .val (.int 1)]) rfl (XS.goto X804.here hx rfl (pc0 := 29) (pc' := 8) rfl (hb hby d17_29) (by decide) (by decide) (XS.iload X804.here hx rfl (hb hby d17_8) rfl (XS.iloadN X804.here hx rfl (hb hby d17_10) rfl (XS.icmpNo X804.here hx rfl (hb hby d17_11) rfl (XT.ii_ge_f (by decide)) (XS.aloadN X804.here hx rfl (hb hby d17_14) rfl rfl (XS.iload X804.here hx rfl (hb hby d17_15) rfl (XS.aloadN X804.here hx rfl (hb hby d17_17) rfl rfl (XS.iloadN X804.here hx rfl (hb hby d17_18) rfl kt)))))))))) ?_
  have F809 : Arv Z T804.heap x0 kc .char (4 : Int32) [(.int c0), (.int c1), (.int c2), (.int c3)] (.int 0) := (Arv.keep F802 K804_ (ninS ne800 nin0))
  refine own_st (T' := T804) (g' := (mkF m 20 #[.val (.ref x0), .val (.int 1), .val (.int 4), .val (.ref b_795), .val (.int 1)] [(.int c1), (.int 1), (.ref b_795)])) (own_cal X804 hx hZ rfl F809 ⟨by decide, by decide⟩ rfl (g := (mkF m 19 #[.val (.ref x0), .val (.int 1), .val (.int 4), .val (.ref b_795), .val (.int 1)] [(.int 1), (.ref x0), (.int 1), (.ref b_795)])) rfl rfl (hb hby d17_19)) ?_
  have F810 : Old Z n0 T804.heap := (Old.keep F803 K804_ (allS ge801 all0))
  obtain ⟨_, _, ⟨T811, L811, k811, n811⟩, -, X811, ⟨Lc811, hQ811, l811, y811, z811⟩, st811⟩ := Jvm.LawKit.callS X804 hx (y := yN8) hown (mvT hZ (own_k hw 90 rfl)) (mvT hZ (own_k hw 91 rfl)) (mvT hZ (own_k hw 36 rfl)) (mvT hZ (own_k hw 92 rfl)) (by decide) (backOf (W := 0) (own_pc l Z a0 hw [] b_795 (1 : Int32) c1 kb_795 (8 : Int32) [(.int (own_lo c0)), (.int (own_hi c0)), (.int 0), (.int 0), (.int 0), (.int 0), (.int 0), (.int 0)] T804.heap n0 Z807 F810 pr2 pr3 pr4 ge801 F808 (show ¬ ((1 : Int32) <<< ((1 : Int32) &&& 31)) < 0 ∧ ((1 : Int32) <<< ((1 : Int32) &&& 31)) < (8 : Int32) from (by decide)) (show ¬ (((1 : Int32) <<< ((1 : Int32) &&& 31)) + (1 : Int32)) < 0 ∧ (((1 : Int32) <<< ((1 : Int32) &&& 31)) + (1 : Int32)) < (8 : Int32) from (by decide)) (show ((1 : Int32) <<< ((1 : Int32) &&& 31)).toNatClampNeg < [(.int (own_lo c0)), (.int (own_hi c0)), (.int 0), (.int 0), (.int 0), (.int 0), (.int 0), (.int 0)].length from (show _ < 8 from by decide)) (show (((1 : Int32) <<< ((1 : Int32) &&& 31)) + (1 : Int32)).toNatClampNeg < [(.int (own_lo c0)), (.int (own_hi c0)), (.int 0), (.int 0), (.int 0), (.int 0), (.int 0), (.int 0)].length from (show _ < 8 from by decide))) hZ (own_k hw 92 rfl) (own_k hw 36 rfl) (by decide) (by decide)) (g := (mkF m 20 #[.val (.ref x0), .val (.int 1), .val (.int 4), .val (.ref b_795), .val (.int 1)] [(.int c1), (.int 1), (.ref b_795)])) rfl hml.symm  (argsL := [(.ref b_795), (.int 1), (.int c1)]) (rest := []) (lenOf own_pd12 rfl) rfl (own_w0 rfl rfl) (hb hby d17_20) (fun _ _ => ⟨rfl, rfl, (by decide : 1 + 0 ≤ 1), (by decide : 8 + 0 ≤ 8)⟩)
  dsimp only [Pt.U, Pt.locs, Pt.cells, Pt.slots] at X811 l811 y811 z811 st811 hQ811
  subst l811 y811 z811
  obtain ⟨rfl, N811, K811_, P812⟩ := hQ811
  have N813 := Fr.app N806 N811
  have Z814 : n0 ≤ T811.heap.size := Nat.le_trans Z807 K811_.1
  have K814 : Keep h0 T811.heap [] := (Keep.trans K807 K811_ (allS (Or.inr (Nat.le_trans K0.1 P797)) all0))
  have F815 : Arv Z T811.heap b_795 kb_795 .byte (8 : Int32) [(.int (own_lo c0)), (.int (own_hi c0)), (.int (own_lo c1)), (.int (own_hi c1)), (.int 0), (.int 0), (.int 0), (.int 0)] (.int 0) := P812
  refine own_st (T' := T811) (g' := (mkF m 23 #[.val (.ref x0), .val (.int 1), .val (.int 4), .val (.ref b_795), .val (.int 1)] [])) st811 ?_
  refine own_st (T' := T811) (g' := (mkF m 19 #[.val (.ref x0), .val (.int 2), .val (.int 4), .val (.ref b_795), .val (.int 2)] [(.int 2), (.ref x0), (.int 2), (.ref b_795)])) (fun _ kt => XS.iinc X811.here hx rfl (hb hby d17_23) rfl (l' := #[.val (.ref x0), .val (.int 2), .val (.int 4), .val (.ref b_795), .val (.int 1)]) rfl (XS.iinc X811.here hx rfl (hb hby d17_26) rfl (l' := #[.val (.ref x0), .val (.int 2), .val (.int 4), .val (.ref b_795), .val (.int 2)]) rfl (XS.goto X811.here hx rfl (pc0 := 29) (pc' := 8) rfl (hb hby d17_29) (by decide) (by decide) (XS.iload X811.here hx rfl (hb hby d17_8) rfl (XS.iloadN X811.here hx rfl (hb hby d17_10) rfl (XS.icmpNo X811.here hx rfl (hb hby d17_11) rfl (XT.ii_ge_f (by decide)) (XS.aloadN X811.here hx rfl (hb hby d17_14) rfl rfl (XS.iload X811.here hx rfl (hb hby d17_15) rfl (XS.aloadN X811.here hx rfl (hb hby d17_17) rfl rfl (XS.iloadN X811.here hx rfl (hb hby d17_18) rfl kt)))))))))) ?_
  have F816 : Arv Z T811.heap x0 kc .char (4 : Int32) [(.int c0), (.int c1), (.int c2), (.int c3)] (.int 0) := (Arv.keep F809 K811_ (ninS ne800 nin0))
  refine own_st (T' := T811) (g' := (mkF m 20 #[.val (.ref x0), .val (.int 2), .val (.int 4), .val (.ref b_795), .val (.int 2)] [(.int c2), (.int 2), (.ref b_795)])) (own_cal X811 hx hZ rfl F816 ⟨by decide, by decide⟩ rfl (g := (mkF m 19 #[.val (.ref x0), .val (.int 2), .val (.int 4), .val (.ref b_795), .val (.int 2)] [(.int 2), (.ref x0), (.int 2), (.ref b_795)])) rfl rfl (hb hby d17_19)) ?_
  have F817 : Old Z n0 T811.heap := (Old.keep F810 K811_ (allS ge801 all0))
  obtain ⟨_, _, ⟨T818, L818, k818, n818⟩, -, X818, ⟨Lc818, hQ818, l818, y818, z818⟩, st818⟩ := Jvm.LawKit.callS X811 hx (y := yN8) hown (mvT hZ (own_k hw 90 rfl)) (mvT hZ (own_k hw 91 rfl)) (mvT hZ (own_k hw 36 rfl)) (mvT hZ (own_k hw 92 rfl)) (by decide) (backOf (W := 0) (own_pc l Z a0 hw [] b_795 (2 : Int32) c2 kb_795 (8 : Int32) [(.int (own_lo c0)), (.int (own_hi c0)), (.int (own_lo c1)), (.int (own_hi c1)), (.int 0), (.int 0), (.int 0), (.int 0)] T811.heap n0 Z814 F817 pr2 pr3 pr4 ge801 F815 (show ¬ ((2 : Int32) <<< ((1 : Int32) &&& 31)) < 0 ∧ ((2 : Int32) <<< ((1 : Int32) &&& 31)) < (8 : Int32) from (by decide)) (show ¬ (((2 : Int32) <<< ((1 : Int32) &&& 31)) + (1 : Int32)) < 0 ∧ (((2 : Int32) <<< ((1 : Int32) &&& 31)) + (1 : Int32)) < (8 : Int32) from (by decide)) (show ((2 : Int32) <<< ((1 : Int32) &&& 31)).toNatClampNeg < [(.int (own_lo c0)), (.int (own_hi c0)), (.int (own_lo c1)), (.int (own_hi c1)), (.int 0), (.int 0), (.int 0), (.int 0)].length from (show _ < 8 from by decide)) (show (((2 : Int32) <<< ((1 : Int32) &&& 31)) + (1 : Int32)).toNatClampNeg < [(.int (own_lo c0)), (.int (own_hi c0)), (.int (own_lo c1)), (.int (own_hi c1)), (.int 0), (.int 0), (.int 0), (.int 0)].length from (show _ < 8 from by decide))) hZ (own_k hw 92 rfl) (own_k hw 36 rfl) (by decide) (by decide)) (g := (mkF m 20 #[.val (.ref x0), .val (.int 2), .val (.int 4), .val (.ref b_795), .val (.int 2)] [(.int c2), (.int 2), (.ref b_795)])) rfl hml.symm  (argsL := [(.ref b_795), (.int 2), (.int c2)]) (rest := []) (lenOf own_pd12 rfl) rfl (own_w0 rfl rfl) (hb hby d17_20) (fun _ _ => ⟨rfl, rfl, (by decide : 1 + 0 ≤ 1), (by decide : 8 + 0 ≤ 8)⟩)
  dsimp only [Pt.U, Pt.locs, Pt.cells, Pt.slots] at X818 l818 y818 z818 st818 hQ818
  subst l818 y818 z818
  obtain ⟨rfl, N818, K818_, P819⟩ := hQ818
  have N820 := Fr.app N813 N818
  have Z821 : n0 ≤ T818.heap.size := Nat.le_trans Z814 K818_.1
  have K821 : Keep h0 T818.heap [] := (Keep.trans K814 K818_ (allS (Or.inr (Nat.le_trans K0.1 P797)) all0))
  have F822 : Arv Z T818.heap b_795 kb_795 .byte (8 : Int32) [(.int (own_lo c0)), (.int (own_hi c0)), (.int (own_lo c1)), (.int (own_hi c1)), (.int (own_lo c2)), (.int (own_hi c2)), (.int 0), (.int 0)] (.int 0) := P819
  refine own_st (T' := T818) (g' := (mkF m 23 #[.val (.ref x0), .val (.int 2), .val (.int 4), .val (.ref b_795), .val (.int 2)] [])) st818 ?_
  refine own_st (T' := T818) (g' := (mkF m 19 #[.val (.ref x0), .val (.int 3), .val (.int 4), .val (.ref b_795), .val (.int 3)] [(.int 3), (.ref x0), (.int 3), (.ref b_795)])) (fun _ kt => XS.iinc X818.here hx rfl (hb hby d17_23) rfl (l' := #[.val (.ref x0), .val (.int 3), .val (.int 4), .val (.ref b_795), .val (.int 2)]) rfl (XS.iinc X818.here hx rfl (hb hby d17_26) rfl (l' := #[.val (.ref x0), .val (.int 3), .val (.int 4), .val (.ref b_795), .val (.int 3)]) rfl (XS.goto X818.here hx rfl (pc0 := 29) (pc' := 8) rfl (hb hby d17_29) (by decide) (by decide) (XS.iload X818.here hx rfl (hb hby d17_8) rfl (XS.iloadN X818.here hx rfl (hb hby d17_10) rfl (XS.icmpNo X818.here hx rfl (hb hby d17_11) rfl (XT.ii_ge_f (by decide)) (XS.aloadN X818.here hx rfl (hb hby d17_14) rfl rfl (XS.iload X818.here hx rfl (hb hby d17_15) rfl (XS.aloadN X818.here hx rfl (hb hby d17_17) rfl rfl (XS.iloadN X818.here hx rfl (hb hby d17_18) rfl kt)))))))))) ?_
  have F823 : Arv Z T818.heap x0 kc .char (4 : Int32) [(.int c0), (.int c1), (.int c2), (.int c3)] (.int 0) := (Arv.keep F816 K818_ (ninS ne800 nin0))
  refine own_st (T' := T818) (g' := (mkF m 20 #[.val (.ref x0), .val (.int 3), .val (.int 4), .val (.ref b_795), .val (.int 3)] [(.int c3), (.int 3), (.ref b_795)])) (own_cal X818 hx hZ rfl F823 ⟨by decide, by decide⟩ rfl (g := (mkF m 19 #[.val (.ref x0), .val (.int 3), .val (.int 4), .val (.ref b_795), .val (.int 3)] [(.int 3), (.ref x0), (.int 3), (.ref b_795)])) rfl rfl (hb hby d17_19)) ?_
  have F824 : Old Z n0 T818.heap := (Old.keep F817 K818_ (allS ge801 all0))
  obtain ⟨_, _, ⟨T825, L825, k825, n825⟩, -, X825, ⟨Lc825, hQ825, l825, y825, z825⟩, st825⟩ := Jvm.LawKit.callS X818 hx (y := yN8) hown (mvT hZ (own_k hw 90 rfl)) (mvT hZ (own_k hw 91 rfl)) (mvT hZ (own_k hw 36 rfl)) (mvT hZ (own_k hw 92 rfl)) (by decide) (backOf (W := 0) (own_pc l Z a0 hw [] b_795 (3 : Int32) c3 kb_795 (8 : Int32) [(.int (own_lo c0)), (.int (own_hi c0)), (.int (own_lo c1)), (.int (own_hi c1)), (.int (own_lo c2)), (.int (own_hi c2)), (.int 0), (.int 0)] T818.heap n0 Z821 F824 pr2 pr3 pr4 ge801 F822 (show ¬ ((3 : Int32) <<< ((1 : Int32) &&& 31)) < 0 ∧ ((3 : Int32) <<< ((1 : Int32) &&& 31)) < (8 : Int32) from (by decide)) (show ¬ (((3 : Int32) <<< ((1 : Int32) &&& 31)) + (1 : Int32)) < 0 ∧ (((3 : Int32) <<< ((1 : Int32) &&& 31)) + (1 : Int32)) < (8 : Int32) from (by decide)) (show ((3 : Int32) <<< ((1 : Int32) &&& 31)).toNatClampNeg < [(.int (own_lo c0)), (.int (own_hi c0)), (.int (own_lo c1)), (.int (own_hi c1)), (.int (own_lo c2)), (.int (own_hi c2)), (.int 0), (.int 0)].length from (show _ < 8 from by decide)) (show (((3 : Int32) <<< ((1 : Int32) &&& 31)) + (1 : Int32)).toNatClampNeg < [(.int (own_lo c0)), (.int (own_hi c0)), (.int (own_lo c1)), (.int (own_hi c1)), (.int (own_lo c2)), (.int (own_hi c2)), (.int 0), (.int 0)].length from (show _ < 8 from by decide))) hZ (own_k hw 92 rfl) (own_k hw 36 rfl) (by decide) (by decide)) (g := (mkF m 20 #[.val (.ref x0), .val (.int 3), .val (.int 4), .val (.ref b_795), .val (.int 3)] [(.int c3), (.int 3), (.ref b_795)])) rfl hml.symm  (argsL := [(.ref b_795), (.int 3), (.int c3)]) (rest := []) (lenOf own_pd12 rfl) rfl (own_w0 rfl rfl) (hb hby d17_20) (fun _ _ => ⟨rfl, rfl, (by decide : 1 + 0 ≤ 1), (by decide : 8 + 0 ≤ 8)⟩)
  dsimp only [Pt.U, Pt.locs, Pt.cells, Pt.slots] at X825 l825 y825 z825 st825 hQ825
  subst l825 y825 z825
  obtain ⟨rfl, N825, K825_, P826⟩ := hQ825
  have N827 := Fr.app N820 N825
  have Z828 : n0 ≤ T825.heap.size := Nat.le_trans Z821 K825_.1
  have K828 : Keep h0 T825.heap [] := (Keep.trans K821 K825_ (allS (Or.inr (Nat.le_trans K0.1 P797)) all0))
  have F829 : Arv Z T825.heap b_795 kb_795 .byte (8 : Int32) [(.int (own_lo c0)), (.int (own_hi c0)), (.int (own_lo c1)), (.int (own_hi c1)), (.int (own_lo c2)), (.int (own_hi c2)), (.int (own_lo c3)), (.int (own_hi c3))] (.int 0) := P826
  refine own_st (T' := T825) (g' := (mkF m 23 #[.val (.ref x0), .val (.int 3), .val (.int 4), .val (.ref b_795), .val (.int 3)] [])) st825 ?_
  refine own_st (T' := T825) (g' := (mkF m 33 #[.val (.ref x0), .val (.int 4), .val (.int 4), .val (.ref b_795), .val (.int 4)] [(.ref b_795)])) (fun _ kt => XS.iinc X825.here hx rfl (hb hby d17_23) rfl (l' := #[.val (.ref x0), .val (.int 4), .val (.int 4), .val (.ref b_795), .val (.int 3)]) rfl (XS.iinc X825.here hx rfl (hb hby d17_26) rfl (l' := #[.val (.ref x0), .val (.int 4), .val (.int 4), .val (.ref b_795), .val (.int 4)]) rfl (XS.goto X825.here hx rfl (pc0 := 29) (pc' := 8) rfl (hb hby d17_29) (by decide) (by decide) (XS.iload X825.here hx rfl (hb hby d17_8) rfl (XS.iloadN X825.here hx rfl (hb hby d17_10) rfl (XS.icmpYes X825.here hx rfl (pc0 := 11) (pc' := 32) rfl (hb hby d17_11) rfl (XT.ii_ge_t (by decide)) (by decide) (by decide) (XS.aloadN X825.here hx rfl (hb hby d17_32) rfl rfl kt))))))) ?_
  obtain ⟨fs, hr, hrun, hended, hW, hsame⟩ := X825.leave (v := some (.ref b_795)) (fun h => by rw [Bd.returns] at h; cases h)
  refine own_end (own_retA X825 hx Bd.returns rfl rfl rfl (hb hby d17_33) hr) ⟨_, hrun, hended, _, _, rfl, ?_, ⟨_, rfl⟩, hW, hsame.mono (by decide) (by decide)⟩
  show own_tb4Q Z _ _ _ _ _ _ h0 n0 _ T825.heap _
  show own_tb4Q Z _ _ _ _ _ _ h0 n0 _ T825.heap _
  exact ⟨b_795, kb_795, rfl, N827, K828, F829, (Nat.le_trans K0.1 P797)⟩
def own_cf4_0Q (Z : State) (t : Addr) (kb : ClassId) (vl : List Value) (h0 : Heap) (n0 : Nat) (v : Option Value) (h : Heap) (L : List Loc) : Prop := v = some (.int 0) ∧ Fr n0 L ∧ h = h0
abbrev own_cf4_0R : Room := { frames := 0, cells := 0, slots := 0, locals := 0 }
theorem own_cf4_0 (l : Launch) (Z : State) (a0 : Array Value) (hw : ∀ d ∈ tables_1, d.before a0 Z = true) (ws : List Jvm.Cond) (t : Addr) (kb : ClassId) (vl : List Value) (h0 : Heap) (n0 : Nat) (Z0 : n0 ≤ h0.size) (pr1 : Arv Z h0 t kb .byte (4 : Int32) vl (.int 0)) :
    own_M l yN3 jdk_52_method_15_code 2 (some .byte) ws own_cf4_0R #[(.ref t), (.int 4)] Z h0 (own_cf4_0Q Z t kb vl h0 n0) := by
  refine own_go (plainFor_of_name own_pn3) (fun m => own_ef4 m t (4 : Int32) ) ?_
  intro p e s m below meth c s₁ Bd hx hby hml hZ hh hown hnm X0 e0
  have N0 := Fr.nil n0
  refine own_st (T' := s₁) (g' := (mkF m 2 #[.val (.ref t), .val (.int 4)] [(.ref t), (.int 4)])) (fun _ kt => XS.iloadN X0.here hx rfl (hb hby d8_0) rfl (XS.aloadN X0.here hx rfl (hb hby d8_1) rfl rfl kt)) ?_
  refine own_st (T' := s₁) (g' := (mkF m 3 #[.val (.ref t), .val (.int 4)] [(.int 4), (.int 4)])) (own_alen X0 hx hZ e0 pr1 (g := (mkF m 2 #[.val (.ref t), .val (.int 4)] [(.ref t), (.int 4)])) rfl rfl (hb hby d8_2)) ?_
  refine own_st (T' := s₁) (g' := (mkF m 8 #[.val (.ref t), .val (.int 4)] [(.int ((XT.ushr (0 : Int32) (31 : Int32)).toInt8.toInt32))])) (fun _ kt => XS.isub X0.here hx rfl (hb hby d8_3) rfl (XS.bipush X0.here hx rfl (hb hby d8_4) (XT.iushr X0.here hx rfl (hb hby d8_6) rfl (XT.i2b X0.here hx rfl (hb hby d8_7) rfl kt)))) ?_
  obtain ⟨fs, hr, hrun, hended, hW, hsame⟩ := X0.leave (v := some (.int (nar .byte ((XT.ushr (0 : Int32) (31 : Int32)).toInt8.toInt32)))) (fun h => by rw [Bd.returns] at h; cases h)
  refine own_end (retN X0 hx (t := .byte) Bd.returns (by simp) (hb hby d8_8) hr) ⟨_, hrun, hended, _, _, rfl, ?_, ⟨_, rfl⟩, hW, hsame.mono (by decide) (by decide)⟩
  show own_cf4_0Q Z _ _ _ h0 n0 _ s₁.heap _
  rw [e0]
  exact ⟨(congrArg (fun z => some (Value.int z)) (by decide)), N0, rfl⟩
def own_cf4_1Q (Z : State) (t : Addr) (kb : ClassId) (vl : List Value) (h0 : Heap) (n0 : Nat) (v : Option Value) (h : Heap) (L : List Loc) : Prop := v = some (.int 1) ∧ Fr n0 L ∧ h = h0
abbrev own_cf4_1R : Room := { frames := 0, cells := 0, slots := 0, locals := 0 }
theorem own_cf4_1 (l : Launch) (Z : State) (a0 : Array Value) (hw : ∀ d ∈ tables_1, d.before a0 Z = true) (ws : List Jvm.Cond) (t : Addr) (kb : ClassId) (vl : List Value) (h0 : Heap) (n0 : Nat) (Z0 : n0 ≤ h0.size) (pr1 : Arv Z h0 t kb .byte (8 : Int32) vl (.int 0)) :
    own_M l yN3 jdk_52_method_15_code 2 (some .byte) ws own_cf4_1R #[(.ref t), (.int 4)] Z h0 (own_cf4_1Q Z t kb vl h0 n0) := by
  refine own_go (plainFor_of_name own_pn3) (fun m => own_ef4 m t (4 : Int32) ) ?_
  intro p e s m below meth c s₁ Bd hx hby hml hZ hh hown hnm X0 e0
  have N0 := Fr.nil n0
  refine own_st (T' := s₁) (g' := (mkF m 2 #[.val (.ref t), .val (.int 4)] [(.ref t), (.int 4)])) (fun _ kt => XS.iloadN X0.here hx rfl (hb hby d8_0) rfl (XS.aloadN X0.here hx rfl (hb hby d8_1) rfl rfl kt)) ?_
  refine own_st (T' := s₁) (g' := (mkF m 3 #[.val (.ref t), .val (.int 4)] [(.int 8), (.int 4)])) (own_alen X0 hx hZ e0 pr1 (g := (mkF m 2 #[.val (.ref t), .val (.int 4)] [(.ref t), (.int 4)])) rfl rfl (hb hby d8_2)) ?_
  refine own_st (T' := s₁) (g' := (mkF m 8 #[.val (.ref t), .val (.int 4)] [(.int ((XT.ushr (-4 : Int32) (31 : Int32)).toInt8.toInt32))])) (fun _ kt => XS.isub X0.here hx rfl (hb hby d8_3) rfl (XS.bipush X0.here hx rfl (hb hby d8_4) (XT.iushr X0.here hx rfl (hb hby d8_6) rfl (XT.i2b X0.here hx rfl (hb hby d8_7) rfl kt)))) ?_
  obtain ⟨fs, hr, hrun, hended, hW, hsame⟩ := X0.leave (v := some (.int (nar .byte ((XT.ushr (-4 : Int32) (31 : Int32)).toInt8.toInt32)))) (fun h => by rw [Bd.returns] at h; cases h)
  refine own_end (retN X0 hx (t := .byte) Bd.returns (by simp) (hb hby d8_8) hr) ⟨_, hrun, hended, _, _, rfl, ?_, ⟨_, rfl⟩, hW, hsame.mono (by decide) (by decide)⟩
  show own_cf4_1Q Z _ _ _ h0 n0 _ s₁.heap _
  rw [e0]
  exact ⟨(congrArg (fun z => some (Value.int z)) (by decide)), N0, rfl⟩
def own_k5_4_0Q (Z : State) (x0 : Addr) (kc : ClassId) (d0 : Addr) (kd : ClassId) (c0 : Int32) (c1 : Int32) (c2 : Int32) (c3 : Int32) (h0 : Heap) (n0 : Nat) (v : Option Value) (h : Heap) (L : List Loc) : Prop := v = some (.int 0) ∧ Fr n0 L ∧ Keep h0 h [d0] ∧ (Arv Z h d0 kd .byte (4 : Int32) [(.int 0), (.int 0), (.int 0), (.int 0)] (.int 0))
abbrev own_k5_4_0R : Room := { frames := 0, cells := 0, slots := 0, locals := 0 }
theorem own_k5_4_0 (l : Launch) (Z : State) (a0 : Array Value) (hw : ∀ d ∈ tables_1, d.before a0 Z = true) (ws : List Jvm.Cond) (x0 : Addr) (kc : ClassId) (d0 : Addr) (kd : ClassId) (c0 : Int32) (c1 : Int32) (c2 : Int32) (c3 : Int32) (h0 : Heap) (n0 : Nat) (Z0 : n0 ≤ h0.size) (pr1 : Arv Z h0 x0 kc .char (4 : Int32) [(.int c0), (.int c1), (.int c2), (.int c3)] (.int 0)) (pr2 : Arv Z h0 d0 kd .byte (4 : Int32) [(.int 0), (.int 0), (.int 0), (.int 0)] (.int 0)) (pr3 : n0 ≤ d0) (pr4 : x0 ≠ d0) (pr5 : (255 : Int32) < c0) :
    own_M l yN1 jdk_52_method_21_code 7 (some .int) ws own_k5_4_0R #[(.ref x0), (.int 0), (.ref d0), (.int 0), (.int 4)] Z h0 (own_k5_4_0Q Z x0 kc d0 kd c0 c1 c2 c3 h0 n0) := by
  refine own_go (plainFor_of_name own_pn3) (fun m => own_ef10 m x0 (0 : Int32) d0 (0 : Int32) (4 : Int32) ) ?_
  intro p e s m below meth c s₁ Bd hx hby hml hZ hh hown hnm X0 e0
  have N0 := Fr.nil n0
  have K0 : Keep h0 h0 [d0] := Keep.refl h0 _
  refine own_st (T' := s₁) (g' := (mkF m 12 #[.val (.ref x0), .val (.int 0), .val (.ref d0), .val (.int 0), .val (.int 4), .val (.int 0), .unset] [(.int 0), (.ref x0)])) (fun _ kt => XS.iconst X0.here hx rfl (hb hby d7_0) (XS.istore X0.here hx rfl (hb hby d7_1) rfl (l' := #[.val (.ref x0), .val (.int 0), .val (.ref d0), .val (.int 0), .val (.int 4), .val (.int 0), .unset]) rfl (XS.iload X0.here hx rfl (hb hby d7_3) rfl (XS.iload X0.here hx rfl (hb hby d7_5) rfl (XS.icmpNo X0.here hx rfl (hb hby d7_7) rfl (XT.ii_ge_f (by decide)) (XS.aloadN X0.here hx rfl (hb hby d7_10) rfl rfl (XS.iloadN X0.here hx rfl (hb hby d7_11) rfl kt))))))) ?_
  refine own_st (T' := s₁) (g' := (mkF m 13 #[.val (.ref x0), .val (.int 0), .val (.ref d0), .val (.int 0), .val (.int 4), .val (.int 0), .unset] [(.int c0)])) (own_cal X0 hx hZ e0 pr1 ⟨by decide, by decide⟩ rfl (g := (mkF m 12 #[.val (.ref x0), .val (.int 0), .val (.ref d0), .val (.int 0), .val (.int 4), .val (.int 0), .unset] [(.int 0), (.ref x0)])) rfl rfl (hb hby d7_12)) ?_
  refine own_st (T' := s₁) (g' := (mkF m 25 #[.val (.ref x0), .val (.int 0), .val (.ref d0), .val (.int 0), .val (.int 4), .val (.int 0), .val (.int c0)] [(.int 0)])) (fun _ kt => XS.istore X0.here hx rfl (hb hby d7_13) rfl (l' := #[.val (.ref x0), .val (.int 0), .val (.ref d0), .val (.int 0), .val (.int 4), .val (.int 0), .val (.int c0)]) rfl (XS.iload X0.here hx rfl (hb hby d7_15) rfl (XS.sipush X0.here hx rfl (hb hby d7_17) (XS.icmpNo X0.here hx rfl (hb hby d7_20) rfl (XT.ii_le_f pr5) (XS.iload X0.here hx rfl (hb hby d7_23) rfl kt))))) ?_
  obtain ⟨fs, hr, hrun, hended, hW, hsame⟩ := X0.leave (v := some (.int 0)) (fun h => by rw [Bd.returns] at h; cases h)
  refine own_end (own_retI X0 hx Bd.returns (hb hby d7_25) hr) ⟨_, hrun, hended, _, _, rfl, ?_, ⟨_, rfl⟩, hW, hsame.mono (by decide) (by decide)⟩
  show own_k5_4_0Q Z _ _ _ _ _ _ _ _ h0 n0 _ s₁.heap _
  rw [e0]
  exact ⟨rfl, N0, K0, pr2⟩
def own_k3_4_0Q (Z : State) (x0 : Addr) (kc : ClassId) (c0 : Int32) (c1 : Int32) (c2 : Int32) (c3 : Int32) (h0 : Heap) (n0 : Nat) (v : Option Value) (h : Heap) (L : List Loc) : Prop := ∃ (b : Addr), ∃ (kb : ClassId), v = some (.ref b) ∧ Fr n0 L ∧ Keep h0 h [] ∧ (Arv Z h b kb .byte (8 : Int32) [(.int (own_lo c0)), (.int (own_hi c0)), (.int (own_lo c1)), (.int (own_hi c1)), (.int (own_lo c2)), (.int (own_hi c2)), (.int (own_lo c3)), (.int (own_hi c3))] (.int 0)) ∧ (h0.size ≤ b)
abbrev own_k3_4_0R : Room := { frames := 3, cells := 2, slots := 12, locals := 40 }
theorem own_k3_4_0 (l : Launch) (Z : State) (a0 : Array Value) (hw : ∀ d ∈ tables_1, d.before a0 Z = true) (ws : List Jvm.Cond) (x0 : Addr) (kc : ClassId) (c0 : Int32) (c1 : Int32) (c2 : Int32) (c3 : Int32) (h0 : Heap) (n0 : Nat) (Z0 : n0 ≤ h0.size) (pr1 : Old Z n0 h0) (pr2 : Sta Z Z.heap "java/lang/StringUTF16" "$assertionsDisabled" "Z" (.int 1)) (pr3 : Sta Z Z.heap "java/lang/StringUTF16" "HI_BYTE_SHIFT" "I" (.int 0)) (pr4 : Sta Z Z.heap "java/lang/StringUTF16" "LO_BYTE_SHIFT" "I" (.int 8)) (pr5 : Arv Z h0 x0 kc .char (4 : Int32) [(.int c0), (.int c1), (.int c2), (.int c3)] (.int 0)) (pr6 : own_c16 c0) (pr7 : own_c16 c1) (pr8 : own_c16 c2) (pr9 : own_c16 c3) (pr10 : (255 : Int32) < c0) :
    own_M l yN2 jdk_52_method_16_code 6 (some (.array .byte)) ws own_k3_4_0R #[(.ref x0), (.int 0), (.int 4)] Z h0 (own_k3_4_0Q Z x0 kc c0 c1 c2 c3 h0 n0) := by
  refine own_go (plainFor_of_name own_pn3) (fun m => own_ef11 m x0 (0 : Int32) (4 : Int32) ) ?_
  intro p e s m below meth c s₁ Bd hx hby hml hZ hh hown hnm X0 e0
  have N0 := Fr.nil n0
  have K0 : Keep h0 h0 [] := Keep.refl h0 _
  refine own_st (T' := s₁) (g' := (mkF m 1 #[.val (.ref x0), .val (.int 0), .val (.int 4), .unset, .unset, .unset] [(.int 4)])) (fun _ kt => XS.iloadN X0.here hx rfl (hb hby d6_0) rfl kt) ?_
  obtain ⟨T830, h830, k830, X830, e830, E830, A830, st830⟩ := newP X0 hx hZ (aty := .byte) (own_k hw 17 rfl) e0 (g := (mkF m 1 #[.val (.ref x0), .val (.int 0), .val (.int 4), .unset, .unset, .unset] [(.int 4)])) rfl (hb hby d6_1) rfl (by decide) (cap := 4) (by decide) (by decide) (by decide) (by decide)
  obtain ⟨b830, g830⟩ : ∃ z, z = h0.size := ⟨_, rfl⟩
  rw [← g830] at A830 st830
  have ne831 : x0 ≠ b830 := by rw [g830]; exact Nat.ne_of_lt pr5.lt
  have Z832 : n0 ≤ h830.size := Nat.le_trans Z0 E830.1
  have K832 : Keep h0 h830 [] := (Keep.ext K0 E830)
  have ge_b830 : n0 ≤ b830 := Nat.le_trans Z0 (Nat.le_of_eq g830.symm)
  have F833 : Arv Z h830 b830 k830 .byte (4 : Int32) [(.int 0), (.int 0), (.int 0), (.int 0)] (.int 0) := (Arv.new A830 (by decide)).pad (pad_rep [] (.int 0) 4)
  refine own_st (T' := T830) (g' := (mkF m 3 #[.val (.ref x0), .val (.int 0), .val (.int 4), .unset, .unset, .unset] [(.ref b830)])) st830 ?_
  refine own_st (T' := T830) (g' := (mkF m 9 #[.val (.ref x0), .val (.int 0), .val (.int 4), .val (.ref b830), .unset, .unset] [(.int 4), (.int 0), (.ref b830), (.int 0), (.ref x0)])) (fun _ kt => XS.astoreN X830.here hx rfl (hb hby d6_3) rfl rfl (l' := #[.val (.ref x0), .val (.int 0), .val (.int 4), .val (.ref b830), .unset, .unset]) rfl (XS.aloadN X830.here hx rfl (hb hby d6_4) rfl rfl (XS.iloadN X830.here hx rfl (hb hby d6_5) rfl (XS.aloadN X830.here hx rfl (hb hby d6_6) rfl rfl (XS.iconst X830.here hx rfl (hb hby d6_7) (XS.iloadN X830.here hx rfl (hb hby d6_8) rfl kt)))))) ?_
  have F834 : Arv Z h830 x0 kc .char (4 : Int32) [(.int c0), (.int c1), (.int c2), (.int c3)] (.int 0) := (pr5.ext E830)
  obtain ⟨_, _, ⟨T835, L835, k835, n835⟩, -, X835, ⟨Lc835, hQ835, l835, y835, z835⟩, st835⟩ := Jvm.LawKit.callS X830 hx (y := yN1) hown (mvT hZ (own_k hw 38 rfl)) (mvT hZ (own_k hw 39 rfl)) (mvT hZ (own_k hw 36 rfl)) (mvT hZ (own_k hw 40 rfl)) (by decide) (backOf (W := 0) (own_k5_4_0 l Z a0 hw [] x0 kc b830 k830 c0 c1 c2 c3 h830 n0 Z832 F834 F833 ge_b830 ne831 pr10) hZ (own_k hw 40 rfl) (own_k hw 36 rfl) (by decide) (by decide)) (g := (mkF m 9 #[.val (.ref x0), .val (.int 0), .val (.int 4), .val (.ref b830), .unset, .unset] [(.int 4), (.int 0), (.ref b830), (.int 0), (.ref x0)])) rfl hml.symm  (argsL := [(.ref x0), (.int 0), (.ref b830), (.int 0), (.int 4)]) (rest := []) (lenOf own_pd13 rfl) rfl (own_w0 rfl rfl) (hb hby d6_9) (fun _ _ => ⟨rfl, e830, (by decide : 1 + 0 ≤ 2), (by decide : 4 + 0 ≤ 12)⟩)
  dsimp only [Pt.U, Pt.locs, Pt.cells, Pt.slots] at X835 l835 y835 z835 st835 hQ835
  subst l835 y835 z835
  obtain ⟨rfl, N835, K835_, P836⟩ := hQ835
  have N837 := Fr.app N0 N835
  have Z838 : n0 ≤ T835.heap.size := Nat.le_trans Z832 K835_.1
  have K838 : Keep h0 T835.heap [] := (Keep.trans K832 K835_ (allS (Or.inr (Nat.le_trans K0.1 (Nat.le_of_eq g830.symm))) all0))
  refine own_st (T' := T835) (g' := (mkF m 12 #[.val (.ref x0), .val (.int 0), .val (.int 4), .val (.ref b830), .unset, .unset] [(.int 0)])) st835 ?_
  refine own_st (T' := T835) (g' := (mkF m 23 #[.val (.ref x0), .val (.int 0), .val (.int 4), .val (.ref b830), .val (.int 0), .unset] [(.int 4), (.int 0), (.ref x0)])) (fun _ kt => XS.istore X835.here hx rfl (hb hby d6_12) rfl (l' := #[.val (.ref x0), .val (.int 0), .val (.int 4), .val (.ref b830), .val (.int 0), .unset]) rfl (XS.iload X835.here hx rfl (hb hby d6_14) rfl (XS.iloadN X835.here hx rfl (hb hby d6_16) rfl (XS.icmpNo X835.here hx rfl (hb hby d6_17) rfl (XT.ii_eq_f (by decide)) (XS.aloadN X835.here hx rfl (hb hby d6_20) rfl rfl (XS.iloadN X835.here hx rfl (hb hby d6_21) rfl (XS.iloadN X835.here hx rfl (hb hby d6_22) rfl kt))))))) ?_
  have F839 : Old Z n0 T835.heap := (Old.keep (Old.ext pr1 E830) K835_ (allS ge_b830 all0))
  have F840 : Arv Z T835.heap x0 kc .char (4 : Int32) [(.int c0), (.int c1), (.int c2), (.int c3)] (.int 0) := (Arv.keep F834 K835_ (ninS ne831 nin0))
  obtain ⟨_, _, ⟨T841, L841, k841, n841⟩, -, X841, ⟨Lc841, hQ841, l841, y841, z841⟩, st841⟩ := Jvm.LawKit.callS X835 hx (y := yN5) hown (mvT hZ (own_k hw 80 rfl)) (mvT hZ (own_k hw 81 rfl)) (mvT hZ (own_k hw 36 rfl)) (mvT hZ (own_k hw 82 rfl)) (by decide) (backOf (W := 0) (own_tb4 l Z a0 hw [] x0 kc c0 c1 c2 c3 T835.heap n0 Z838 F839 pr2 pr3 pr4 F840) hZ (own_k hw 82 rfl) (own_k hw 36 rfl) (by decide) (by decide)) (g := (mkF m 23 #[.val (.ref x0), .val (.int 0), .val (.int 4), .val (.ref b830), .val (.int 0), .unset] [(.int 4), (.int 0), (.ref x0)])) rfl hml.symm  (argsL := [(.ref x0), (.int 0), (.int 4)]) (rest := []) (lenOf own_pd14 rfl) rfl (own_w0 rfl rfl) (hb hby d6_23) (fun _ _ => ⟨rfl, rfl, (by decide : 1 + 1 ≤ 2), (by decide : 4 + 8 ≤ 12)⟩)
  dsimp only [Pt.U, Pt.locs, Pt.cells, Pt.slots] at X841 l841 y841 z841 st841 hQ841
  subst l841 y841 z841
  obtain ⟨b_841, kb_841, rfl, N841, K841_, P842, P843⟩ := hQ841
  have N844 := Fr.app N837 N841
  have Z845 : n0 ≤ T841.heap.size := Nat.le_trans Z838 K841_.1
  have K845 : Keep h0 T841.heap [] := (Keep.trans K838 K841_ all0)
  have ne846 : x0 ≠ b_841 := Nat.ne_of_lt (Nat.lt_of_lt_of_le F840.lt P843)
  have ne847 : b830 ≠ b_841 := Nat.ne_of_lt (Nat.lt_of_lt_of_le P836.lt P843)
  have ge848 : n0 ≤ b_841 := Nat.le_trans Z838 P843
  refine own_st (T' := T841) (g' := (mkF m 26 #[.val (.ref x0), .val (.int 0), .val (.int 4), .val (.ref b830), .val (.int 0), .unset] [(.ref b_841)])) st841 ?_
  refine own_st (T' := T841) (g' := (mkF m 32 #[.val (.ref x0), .val (.int 0), .val (.int 4), .val (.ref b830), .val (.int 0), .val (.ref b_841)] [(.int 0), (.ref b_841)])) (fun _ kt => XS.astore X841.here hx rfl (hb hby d6_26) rfl rfl (l' := #[.val (.ref x0), .val (.int 0), .val (.int 4), .val (.ref b830), .val (.int 0), .val (.ref b_841)]) rfl (XS.aload X841.here hx rfl (hb hby d6_28) rfl rfl (XS.iload X841.here hx rfl (hb hby d6_30) rfl kt))) ?_
  have F849 : Old Z n0 T841.heap := (Old.keep F839 K841_ all0)
  obtain ⟨_, _, ⟨T850, L850, k850, n850⟩, -, X850, ⟨Lc850, hQ850, l850, y850, z850⟩, st850⟩ := Jvm.LawKit.callS X841 hx (y := yN6) hown (mvT hZ (own_k hw 96 rfl)) (mvT hZ (own_k hw 97 rfl)) (mvT hZ (own_k hw 36 rfl)) (mvT hZ (own_k hw 98 rfl)) (by decide) (backOf (W := 0) (own_gc l Z a0 hw [] b_841 (0 : Int32) kb_841 (8 : Int32) [(.int (own_lo c0)), (.int (own_hi c0)), (.int (own_lo c1)), (.int (own_hi c1)), (.int (own_lo c2)), (.int (own_hi c2)), (.int (own_lo c3)), (.int (own_hi c3))] c0 T841.heap n0 Z845 F849 pr2 pr3 pr4 P842 pr6 (show own_u (8 : Int32) [(.int (own_lo c0)), (.int (own_hi c0)), (.int (own_lo c1)), (.int (own_hi c1)), (.int (own_lo c2)), (.int (own_hi c2)), (.int (own_lo c3)), (.int (own_hi c3))] (0 : Int32) c0 from ⟨by decide, rfl, by decide, rfl⟩)) hZ (own_k hw 98 rfl) (own_k hw 36 rfl) (by decide) (by decide)) (g := (mkF m 32 #[.val (.ref x0), .val (.int 0), .val (.int 4), .val (.ref b830), .val (.int 0), .val (.ref b_841)] [(.int 0), (.ref b_841)])) rfl hml.symm  (argsL := [(.ref b_841), (.int 0)]) (rest := []) (lenOf own_pd5 rfl) rfl (own_w0 rfl rfl) (hb hby d6_32) (fun _ _ => ⟨rfl, rfl, (by decide : 2 + 0 ≤ 2), (by decide : 12 + 0 ≤ 12)⟩)
  dsimp only [Pt.U, Pt.locs, Pt.cells, Pt.slots] at X850 l850 y850 z850 st850 hQ850
  subst l850 y850 z850
  obtain ⟨rfl, N850, e850⟩ := hQ850
  have N851 := Fr.app N844 N850
  refine own_st (T' := T850) (g' := (mkF m 35 #[.val (.ref x0), .val (.int 0), .val (.int 4), .val (.ref b830), .val (.int 0), .val (.ref b_841)] [(.int c0)])) st850 ?_
  refine own_st (T' := T850) (g' := (mkF m 56 #[.val (.ref x0), .val (.int 0), .val (.int 4), .val (.ref b830), .val (.int 0), .val (.ref b_841)] [(.ref b_841)])) (fun _ kt => XS.sipush X850.here hx rfl (hb hby d6_35) (XS.icmpYes X850.here hx rfl (pc0 := 38) (pc' := 54) rfl (hb hby d6_38) rfl (XT.ii_gt_t pr10) (by decide) (by decide) (XS.aload X850.here hx rfl (hb hby d6_54) rfl rfl kt))) ?_
  obtain ⟨fs, hr, hrun, hended, hW, hsame⟩ := X850.leave (v := some (.ref b_841)) (fun h => by rw [Bd.returns] at h; cases h)
  refine own_end (own_retA X850 hx Bd.returns rfl rfl rfl (hb hby d6_56) hr) ⟨_, hrun, hended, _, _, rfl, ?_, ⟨_, rfl⟩, hW, hsame.mono (by decide) (by decide)⟩
  show own_k3_4_0Q Z _ _ _ _ _ _ h0 n0 _ T850.heap _
  rw [e850]
  exact ⟨b_841, kb_841, rfl, N851, K845, P842, (Nat.le_trans K838.1 P843)⟩
def own_k5_4_1Q (Z : State) (x0 : Addr) (kc : ClassId) (d0 : Addr) (kd : ClassId) (c0 : Int32) (c1 : Int32) (c2 : Int32) (c3 : Int32) (h0 : Heap) (n0 : Nat) (v : Option Value) (h : Heap) (L : List Loc) : Prop := v = some (.int 1) ∧ Fr n0 L ∧ Keep h0 h [d0] ∧ (Arv Z h d0 kd .byte (4 : Int32) [(.int c0.toInt8.toInt32), (.int 0), (.int 0), (.int 0)] (.int 0))
abbrev own_k5_4_1R : Room := { frames := 0, cells := 0, slots := 0, locals := 0 }
theorem own_k5_4_1 (l : Launch) (Z : State) (a0 : Array Value) (hw : ∀ d ∈ tables_1, d.before a0 Z = true) (ws : List Jvm.Cond) (x0 : Addr) (kc : ClassId) (d0 : Addr) (kd : ClassId) (c0 : Int32) (c1 : Int32) (c2 : Int32) (c3 : Int32) (h0 : Heap) (n0 : Nat) (Z0 : n0 ≤ h0.size) (pr1 : Arv Z h0 x0 kc .char (4 : Int32) [(.int c0), (.int c1), (.int c2), (.int c3)] (.int 0)) (pr2 : Arv Z h0 d0 kd .byte (4 : Int32) [(.int 0), (.int 0), (.int 0), (.int 0)] (.int 0)) (pr3 : n0 ≤ d0) (pr4 : x0 ≠ d0) (pr5 : ¬ (255 : Int32) < c0) (pr6 : (255 : Int32) < c1) :
    own_M l yN1 jdk_52_method_21_code 7 (some .int) ws own_k5_4_1R #[(.ref x0), (.int 0), (.ref d0), (.int 0), (.int 4)] Z h0 (own_k5_4_1Q Z x0 kc d0 kd c0 c1 c2 c3 h0 n0) := by
  refine own_go (plainFor_of_name own_pn3) (fun m => own_ef10 m x0 (0 : Int32) d0 (0 : Int32) (4 : Int32) ) ?_
  intro p e s m below meth c s₁ Bd hx hby hml hZ hh hown hnm X0 e0
  have N0 := Fr.nil n0
  have K0 : Keep h0 h0 [d0] := Keep.refl h0 _
  refine own_st (T' := s₁) (g' := (mkF m 12 #[.val (.ref x0), .val (.int 0), .val (.ref d0), .val (.int 0), .val (.int 4), .val (.int 0), .unset] [(.int 0), (.ref x0)])) (fun _ kt => XS.iconst X0.here hx rfl (hb hby d7_0) (XS.istore X0.here hx rfl (hb hby d7_1) rfl (l' := #[.val (.ref x0), .val (.int 0), .val (.ref d0), .val (.int 0), .val (.int 4), .val (.int 0), .unset]) rfl (XS.iload X0.here hx rfl (hb hby d7_3) rfl (XS.iload X0.here hx rfl (hb hby d7_5) rfl (XS.icmpNo X0.here hx rfl (hb hby d7_7) rfl (XT.ii_ge_f (by decide)) (XS.aloadN X0.here hx rfl (hb hby d7_10) rfl rfl (XS.iloadN X0.here hx rfl (hb hby d7_11) rfl kt))))))) ?_
  refine own_st (T' := s₁) (g' := (mkF m 13 #[.val (.ref x0), .val (.int 0), .val (.ref d0), .val (.int 0), .val (.int 4), .val (.int 0), .unset] [(.int c0)])) (own_cal X0 hx hZ e0 pr1 ⟨by decide, by decide⟩ rfl (g := (mkF m 12 #[.val (.ref x0), .val (.int 0), .val (.ref d0), .val (.int 0), .val (.int 4), .val (.int 0), .unset] [(.int 0), (.ref x0)])) rfl rfl (hb hby d7_12)) ?_
  refine own_st (T' := s₁) (g' := (mkF m 31 #[.val (.ref x0), .val (.int 0), .val (.ref d0), .val (.int 0), .val (.int 4), .val (.int 0), .val (.int c0)] [(.int (c0.toInt8.toInt32)), (.int 0), (.ref d0)])) (fun _ kt => XS.istore X0.here hx rfl (hb hby d7_13) rfl (l' := #[.val (.ref x0), .val (.int 0), .val (.ref d0), .val (.int 0), .val (.int 4), .val (.int 0), .val (.int c0)]) rfl (XS.iload X0.here hx rfl (hb hby d7_15) rfl (XS.sipush X0.here hx rfl (hb hby d7_17) (XS.icmpYes X0.here hx rfl (pc0 := 20) (pc' := 26) rfl (hb hby d7_20) rfl (XT.ii_le_t pr5) (by decide) (by decide) (XS.aloadN X0.here hx rfl (hb hby d7_26) rfl rfl (XS.iloadN X0.here hx rfl (hb hby d7_27) rfl (XS.iload X0.here hx rfl (hb hby d7_28) rfl (XT.i2b X0.here hx rfl (hb hby d7_30) rfl kt)))))))) ?_
  obtain ⟨T852, h852, X852, e852, W852, V852, st852⟩ := own_bst X0 hx hZ e0 pr2 ⟨by decide, by decide⟩ (i := 0) rfl (by simp) (y := (c0.toInt8.toInt32)) (own_narb _) (g := (mkF m 31 #[.val (.ref x0), .val (.int 0), .val (.ref d0), .val (.int 0), .val (.int 4), .val (.int 0), .val (.int c0)] [(.int (c0.toInt8.toInt32)), (.int 0), (.ref d0)])) rfl rfl (hb hby d7_31)
  have N852 := Fr.snoc X852 N0 pr3
  have Z853 : n0 ≤ h852.size := Nat.le_trans Z0 (Nat.le_of_eq (Wr.size W852).symm)
  have K853 : Keep h0 h852 [d0] := (Keep.wr K0 W852 (Or.inl (List.mem_of_getElem? (i := 0) rfl)))
  have F854 : Arv Z h852 d0 kd .byte (4 : Int32) [(.int (c0.toInt8.toInt32)), (.int 0), (.int 0), (.int 0)] (.int 0) := V852
  refine own_st (T' := T852) (g' := (mkF m 32 #[.val (.ref x0), .val (.int 0), .val (.ref d0), .val (.int 0), .val (.int 4), .val (.int 0), .val (.int c0)] [])) st852 ?_
  refine own_st (T' := T852) (g' := (mkF m 12 #[.val (.ref x0), .val (.int 1), .val (.ref d0), .val (.int 1), .val (.int 4), .val (.int 1), .val (.int c0)] [(.int 1), (.ref x0)])) (fun _ kt => XS.iinc X852.here hx rfl (hb hby d7_32) rfl (l' := #[.val (.ref x0), .val (.int 1), .val (.ref d0), .val (.int 0), .val (.int 4), .val (.int 0), .val (.int c0)]) rfl (XS.iinc X852.here hx rfl (hb hby d7_35) rfl (l' := #[.val (.ref x0), .val (.int 1), .val (.ref d0), .val (.int 1), .val (.int 4), .val (.int 0), .val (.int c0)]) rfl (XS.iinc X852.here hx rfl (hb hby d7_38) rfl (l' := #[.val (.ref x0), .val (.int 1), .val (.ref d0), .val (.int 1), .val (.int 4), .val (.int 1), .val (.int c0)]) rfl (XS.goto X852.here hx rfl (pc0 := 41) (pc' := 3) rfl (hb hby d7_41) (by decide) (by decide) (XS.iload X852.here hx rfl (hb hby d7_3) rfl (XS.iload X852.here hx rfl (hb hby d7_5) rfl (XS.icmpNo X852.here hx rfl (hb hby d7_7) rfl (XT.ii_ge_f (by decide)) (XS.aloadN X852.here hx rfl (hb hby d7_10) rfl rfl (XS.iloadN X852.here hx rfl (hb hby d7_11) rfl kt))))))))) ?_
  have F855 : Arv Z h852 x0 kc .char (4 : Int32) [(.int c0), (.int c1), (.int c2), (.int c3)] (.int 0) := (Arv.other pr1 W852 pr4)
  refine own_st (T' := T852) (g' := (mkF m 13 #[.val (.ref x0), .val (.int 1), .val (.ref d0), .val (.int 1), .val (.int 4), .val (.int 1), .val (.int c0)] [(.int c1)])) (own_cal X852 hx hZ e852 F855 ⟨by decide, by decide⟩ rfl (g := (mkF m 12 #[.val (.ref x0), .val (.int 1), .val (.ref d0), .val (.int 1), .val (.int 4), .val (.int 1), .val (.int c0)] [(.int 1), (.ref x0)])) rfl rfl (hb hby d7_12)) ?_
  refine own_st (T' := T852) (g' := (mkF m 25 #[.val (.ref x0), .val (.int 1), .val (.ref d0), .val (.int 1), .val (.int 4), .val (.int 1), .val (.int c1)] [(.int 1)])) (fun _ kt => XS.istore X852.here hx rfl (hb hby d7_13) rfl (l' := #[.val (.ref x0), .val (.int 1), .val (.ref d0), .val (.int 1), .val (.int 4), .val (.int 1), .val (.int c1)]) rfl (XS.iload X852.here hx rfl (hb hby d7_15) rfl (XS.sipush X852.here hx rfl (hb hby d7_17) (XS.icmpNo X852.here hx rfl (hb hby d7_20) rfl (XT.ii_le_f pr6) (XS.iload X852.here hx rfl (hb hby d7_23) rfl kt))))) ?_
  obtain ⟨fs, hr, hrun, hended, hW, hsame⟩ := X852.leave (v := some (.int 1)) (fun h => by rw [Bd.returns] at h; cases h)
  refine own_end (own_retI X852 hx Bd.returns (hb hby d7_25) hr) ⟨_, hrun, hended, _, _, rfl, ?_, ⟨_, rfl⟩, hW, hsame.mono (by decide) (by decide)⟩
  show own_k5_4_1Q Z _ _ _ _ _ _ _ _ h0 n0 _ T852.heap _
  rw [e852]
  exact ⟨rfl, N852, K853, F854⟩
def own_k3_4_1Q (Z : State) (x0 : Addr) (kc : ClassId) (c0 : Int32) (c1 : Int32) (c2 : Int32) (c3 : Int32) (h0 : Heap) (n0 : Nat) (v : Option Value) (h : Heap) (L : List Loc) : Prop := ∃ (b : Addr), ∃ (kb : ClassId), v = some (.ref b) ∧ Fr n0 L ∧ Keep h0 h [] ∧ (Arv Z h b kb .byte (8 : Int32) [(.int (own_lo c0)), (.int (own_hi c0)), (.int (own_lo c1)), (.int (own_hi c1)), (.int (own_lo c2)), (.int (own_hi c2)), (.int (own_lo c3)), (.int (own_hi c3))] (.int 0)) ∧ (h0.size ≤ b)
abbrev own_k3_4_1R : Room := { frames := 3, cells := 2, slots := 12, locals := 40 }
theorem own_k3_4_1 (l : Launch) (Z : State) (a0 : Array Value) (hw : ∀ d ∈ tables_1, d.before a0 Z = true) (ws : List Jvm.Cond) (x0 : Addr) (kc : ClassId) (c0 : Int32) (c1 : Int32) (c2 : Int32) (c3 : Int32) (h0 : Heap) (n0 : Nat) (Z0 : n0 ≤ h0.size) (pr1 : Old Z n0 h0) (pr2 : Sta Z Z.heap "java/lang/StringUTF16" "$assertionsDisabled" "Z" (.int 1)) (pr3 : Sta Z Z.heap "java/lang/StringUTF16" "HI_BYTE_SHIFT" "I" (.int 0)) (pr4 : Sta Z Z.heap "java/lang/StringUTF16" "LO_BYTE_SHIFT" "I" (.int 8)) (pr5 : Arv Z h0 x0 kc .char (4 : Int32) [(.int c0), (.int c1), (.int c2), (.int c3)] (.int 0)) (pr6 : own_c16 c0) (pr7 : own_c16 c1) (pr8 : own_c16 c2) (pr9 : own_c16 c3) (pr10 : ¬ (255 : Int32) < c0) (pr11 : (255 : Int32) < c1) :
    own_M l yN2 jdk_52_method_16_code 6 (some (.array .byte)) ws own_k3_4_1R #[(.ref x0), (.int 0), (.int 4)] Z h0 (own_k3_4_1Q Z x0 kc c0 c1 c2 c3 h0 n0) := by
  refine own_go (plainFor_of_name own_pn3) (fun m => own_ef11 m x0 (0 : Int32) (4 : Int32) ) ?_
  intro p e s m below meth c s₁ Bd hx hby hml hZ hh hown hnm X0 e0
  have N0 := Fr.nil n0
  have K0 : Keep h0 h0 [] := Keep.refl h0 _
  refine own_st (T' := s₁) (g' := (mkF m 1 #[.val (.ref x0), .val (.int 0), .val (.int 4), .unset, .unset, .unset] [(.int 4)])) (fun _ kt => XS.iloadN X0.here hx rfl (hb hby d6_0) rfl kt) ?_
  obtain ⟨T856, h856, k856, X856, e856, E856, A856, st856⟩ := newP X0 hx hZ (aty := .byte) (own_k hw 17 rfl) e0 (g := (mkF m 1 #[.val (.ref x0), .val (.int 0), .val (.int 4), .unset, .unset, .unset] [(.int 4)])) rfl (hb hby d6_1) rfl (by decide) (cap := 4) (by decide) (by decide) (by decide) (by decide)
  obtain ⟨b856, g856⟩ : ∃ z, z = h0.size := ⟨_, rfl⟩
  rw [← g856] at A856 st856
  have ne857 : x0 ≠ b856 := by rw [g856]; exact Nat.ne_of_lt pr5.lt
  have Z858 : n0 ≤ h856.size := Nat.le_trans Z0 E856.1
  have K858 : Keep h0 h856 [] := (Keep.ext K0 E856)
  have ge_b856 : n0 ≤ b856 := Nat.le_trans Z0 (Nat.le_of_eq g856.symm)
  have F859 : Arv Z h856 b856 k856 .byte (4 : Int32) [(.int 0), (.int 0), (.int 0), (.int 0)] (.int 0) := (Arv.new A856 (by decide)).pad (pad_rep [] (.int 0) 4)
  refine own_st (T' := T856) (g' := (mkF m 3 #[.val (.ref x0), .val (.int 0), .val (.int 4), .unset, .unset, .unset] [(.ref b856)])) st856 ?_
  refine own_st (T' := T856) (g' := (mkF m 9 #[.val (.ref x0), .val (.int 0), .val (.int 4), .val (.ref b856), .unset, .unset] [(.int 4), (.int 0), (.ref b856), (.int 0), (.ref x0)])) (fun _ kt => XS.astoreN X856.here hx rfl (hb hby d6_3) rfl rfl (l' := #[.val (.ref x0), .val (.int 0), .val (.int 4), .val (.ref b856), .unset, .unset]) rfl (XS.aloadN X856.here hx rfl (hb hby d6_4) rfl rfl (XS.iloadN X856.here hx rfl (hb hby d6_5) rfl (XS.aloadN X856.here hx rfl (hb hby d6_6) rfl rfl (XS.iconst X856.here hx rfl (hb hby d6_7) (XS.iloadN X856.here hx rfl (hb hby d6_8) rfl kt)))))) ?_
  have F860 : Arv Z h856 x0 kc .char (4 : Int32) [(.int c0), (.int c1), (.int c2), (.int c3)] (.int 0) := (pr5.ext E856)
  obtain ⟨_, _, ⟨T861, L861, k861, n861⟩, -, X861, ⟨Lc861, hQ861, l861, y861, z861⟩, st861⟩ := Jvm.LawKit.callS X856 hx (y := yN1) hown (mvT hZ (own_k hw 38 rfl)) (mvT hZ (own_k hw 39 rfl)) (mvT hZ (own_k hw 36 rfl)) (mvT hZ (own_k hw 40 rfl)) (by decide) (backOf (W := 0) (own_k5_4_1 l Z a0 hw [] x0 kc b856 k856 c0 c1 c2 c3 h856 n0 Z858 F860 F859 ge_b856 ne857 pr10 pr11) hZ (own_k hw 40 rfl) (own_k hw 36 rfl) (by decide) (by decide)) (g := (mkF m 9 #[.val (.ref x0), .val (.int 0), .val (.int 4), .val (.ref b856), .unset, .unset] [(.int 4), (.int 0), (.ref b856), (.int 0), (.ref x0)])) rfl hml.symm  (argsL := [(.ref x0), (.int 0), (.ref b856), (.int 0), (.int 4)]) (rest := []) (lenOf own_pd13 rfl) rfl (own_w0 rfl rfl) (hb hby d6_9) (fun _ _ => ⟨rfl, e856, (by decide : 1 + 0 ≤ 2), (by decide : 4 + 0 ≤ 12)⟩)
  dsimp only [Pt.U, Pt.locs, Pt.cells, Pt.slots] at X861 l861 y861 z861 st861 hQ861
  subst l861 y861 z861
  obtain ⟨rfl, N861, K861_, P862⟩ := hQ861
  have N863 := Fr.app N0 N861
  have Z864 : n0 ≤ T861.heap.size := Nat.le_trans Z858 K861_.1
  have K864 : Keep h0 T861.heap [] := (Keep.trans K858 K861_ (allS (Or.inr (Nat.le_trans K0.1 (Nat.le_of_eq g856.symm))) all0))
  refine own_st (T' := T861) (g' := (mkF m 12 #[.val (.ref x0), .val (.int 0), .val (.int 4), .val (.ref b856), .unset, .unset] [(.int 1)])) st861 ?_
  refine own_st (T' := T861) (g' := (mkF m 23 #[.val (.ref x0), .val (.int 0), .val (.int 4), .val (.ref b856), .val (.int 1), .unset] [(.int 4), (.int 0), (.ref x0)])) (fun _ kt => XS.istore X861.here hx rfl (hb hby d6_12) rfl (l' := #[.val (.ref x0), .val (.int 0), .val (.int 4), .val (.ref b856), .val (.int 1), .unset]) rfl (XS.iload X861.here hx rfl (hb hby d6_14) rfl (XS.iloadN X861.here hx rfl (hb hby d6_16) rfl (XS.icmpNo X861.here hx rfl (hb hby d6_17) rfl (XT.ii_eq_f (by decide)) (XS.aloadN X861.here hx rfl (hb hby d6_20) rfl rfl (XS.iloadN X861.here hx rfl (hb hby d6_21) rfl (XS.iloadN X861.here hx rfl (hb hby d6_22) rfl kt))))))) ?_
  have F865 : Old Z n0 T861.heap := (Old.keep (Old.ext pr1 E856) K861_ (allS ge_b856 all0))
  have F866 : Arv Z T861.heap x0 kc .char (4 : Int32) [(.int c0), (.int c1), (.int c2), (.int c3)] (.int 0) := (Arv.keep F860 K861_ (ninS ne857 nin0))
  obtain ⟨_, _, ⟨T867, L867, k867, n867⟩, -, X867, ⟨Lc867, hQ867, l867, y867, z867⟩, st867⟩ := Jvm.LawKit.callS X861 hx (y := yN5) hown (mvT hZ (own_k hw 80 rfl)) (mvT hZ (own_k hw 81 rfl)) (mvT hZ (own_k hw 36 rfl)) (mvT hZ (own_k hw 82 rfl)) (by decide) (backOf (W := 0) (own_tb4 l Z a0 hw [] x0 kc c0 c1 c2 c3 T861.heap n0 Z864 F865 pr2 pr3 pr4 F866) hZ (own_k hw 82 rfl) (own_k hw 36 rfl) (by decide) (by decide)) (g := (mkF m 23 #[.val (.ref x0), .val (.int 0), .val (.int 4), .val (.ref b856), .val (.int 1), .unset] [(.int 4), (.int 0), (.ref x0)])) rfl hml.symm  (argsL := [(.ref x0), (.int 0), (.int 4)]) (rest := []) (lenOf own_pd14 rfl) rfl (own_w0 rfl rfl) (hb hby d6_23) (fun _ _ => ⟨rfl, rfl, (by decide : 1 + 1 ≤ 2), (by decide : 4 + 8 ≤ 12)⟩)
  dsimp only [Pt.U, Pt.locs, Pt.cells, Pt.slots] at X867 l867 y867 z867 st867 hQ867
  subst l867 y867 z867
  obtain ⟨b_867, kb_867, rfl, N867, K867_, P868, P869⟩ := hQ867
  have N870 := Fr.app N863 N867
  have Z871 : n0 ≤ T867.heap.size := Nat.le_trans Z864 K867_.1
  have K871 : Keep h0 T867.heap [] := (Keep.trans K864 K867_ all0)
  have ne872 : x0 ≠ b_867 := Nat.ne_of_lt (Nat.lt_of_lt_of_le F866.lt P869)
  have ne873 : b856 ≠ b_867 := Nat.ne_of_lt (Nat.lt_of_lt_of_le P862.lt P869)
  have ge874 : n0 ≤ b_867 := Nat.le_trans Z864 P869
  refine own_st (T' := T867) (g' := (mkF m 26 #[.val (.ref x0), .val (.int 0), .val (.int 4), .val (.ref b856), .val (.int 1), .unset] [(.ref b_867)])) st867 ?_
  refine own_st (T' := T867) (g' := (mkF m 32 #[.val (.ref x0), .val (.int 0), .val (.int 4), .val (.ref b856), .val (.int 1), .val (.ref b_867)] [(.int 1), (.ref b_867)])) (fun _ kt => XS.astore X867.here hx rfl (hb hby d6_26) rfl rfl (l' := #[.val (.ref x0), .val (.int 0), .val (.int 4), .val (.ref b856), .val (.int 1), .val (.ref b_867)]) rfl (XS.aload X867.here hx rfl (hb hby d6_28) rfl rfl (XS.iload X867.here hx rfl (hb hby d6_30) rfl kt))) ?_
  have F875 : Old Z n0 T867.heap := (Old.keep F865 K867_ all0)
  obtain ⟨_, _, ⟨T876, L876, k876, n876⟩, -, X876, ⟨Lc876, hQ876, l876, y876, z876⟩, st876⟩ := Jvm.LawKit.callS X867 hx (y := yN6) hown (mvT hZ (own_k hw 96 rfl)) (mvT hZ (own_k hw 97 rfl)) (mvT hZ (own_k hw 36 rfl)) (mvT hZ (own_k hw 98 rfl)) (by decide) (backOf (W := 0) (own_gc l Z a0 hw [] b_867 (1 : Int32) kb_867 (8 : Int32) [(.int (own_lo c0)), (.int (own_hi c0)), (.int (own_lo c1)), (.int (own_hi c1)), (.int (own_lo c2)), (.int (own_hi c2)), (.int (own_lo c3)), (.int (own_hi c3))] c1 T867.heap n0 Z871 F875 pr2 pr3 pr4 P868 pr7 (show own_u (8 : Int32) [(.int (own_lo c0)), (.int (own_hi c0)), (.int (own_lo c1)), (.int (own_hi c1)), (.int (own_lo c2)), (.int (own_hi c2)), (.int (own_lo c3)), (.int (own_hi c3))] (1 : Int32) c1 from ⟨by decide, rfl, by decide, rfl⟩)) hZ (own_k hw 98 rfl) (own_k hw 36 rfl) (by decide) (by decide)) (g := (mkF m 32 #[.val (.ref x0), .val (.int 0), .val (.int 4), .val (.ref b856), .val (.int 1), .val (.ref b_867)] [(.int 1), (.ref b_867)])) rfl hml.symm  (argsL := [(.ref b_867), (.int 1)]) (rest := []) (lenOf own_pd5 rfl) rfl (own_w0 rfl rfl) (hb hby d6_32) (fun _ _ => ⟨rfl, rfl, (by decide : 2 + 0 ≤ 2), (by decide : 12 + 0 ≤ 12)⟩)
  dsimp only [Pt.U, Pt.locs, Pt.cells, Pt.slots] at X876 l876 y876 z876 st876 hQ876
  subst l876 y876 z876
  obtain ⟨rfl, N876, e876⟩ := hQ876
  have N877 := Fr.app N870 N876
  refine own_st (T' := T876) (g' := (mkF m 35 #[.val (.ref x0), .val (.int 0), .val (.int 4), .val (.ref b856), .val (.int 1), .val (.ref b_867)] [(.int c1)])) st876 ?_
  refine own_st (T' := T876) (g' := (mkF m 56 #[.val (.ref x0), .val (.int 0), .val (.int 4), .val (.ref b856), .val (.int 1), .val (.ref b_867)] [(.ref b_867)])) (fun _ kt => XS.sipush X876.here hx rfl (hb hby d6_35) (XS.icmpYes X876.here hx rfl (pc0 := 38) (pc' := 54) rfl (hb hby d6_38) rfl (XT.ii_gt_t pr11) (by decide) (by decide) (XS.aload X876.here hx rfl (hb hby d6_54) rfl rfl kt))) ?_
  obtain ⟨fs, hr, hrun, hended, hW, hsame⟩ := X876.leave (v := some (.ref b_867)) (fun h => by rw [Bd.returns] at h; cases h)
  refine own_end (own_retA X876 hx Bd.returns rfl rfl rfl (hb hby d6_56) hr) ⟨_, hrun, hended, _, _, rfl, ?_, ⟨_, rfl⟩, hW, hsame.mono (by decide) (by decide)⟩
  show own_k3_4_1Q Z _ _ _ _ _ _ h0 n0 _ T876.heap _
  rw [e876]
  exact ⟨b_867, kb_867, rfl, N877, K871, P868, (Nat.le_trans K864.1 P869)⟩
def own_k5_4_2Q (Z : State) (x0 : Addr) (kc : ClassId) (d0 : Addr) (kd : ClassId) (c0 : Int32) (c1 : Int32) (c2 : Int32) (c3 : Int32) (h0 : Heap) (n0 : Nat) (v : Option Value) (h : Heap) (L : List Loc) : Prop := v = some (.int 2) ∧ Fr n0 L ∧ Keep h0 h [d0] ∧ (Arv Z h d0 kd .byte (4 : Int32) [(.int c0.toInt8.toInt32), (.int c1.toInt8.toInt32), (.int 0), (.int 0)] (.int 0))
abbrev own_k5_4_2R : Room := { frames := 0, cells := 0, slots := 0, locals := 0 }
theorem own_k5_4_2 (l : Launch) (Z : State) (a0 : Array Value) (hw : ∀ d ∈ tables_1, d.before a0 Z = true) (ws : List Jvm.Cond) (x0 : Addr) (kc : ClassId) (d0 : Addr) (kd : ClassId) (c0 : Int32) (c1 : Int32) (c2 : Int32) (c3 : Int32) (h0 : Heap) (n0 : Nat) (Z0 : n0 ≤ h0.size) (pr1 : Arv Z h0 x0 kc .char (4 : Int32) [(.int c0), (.int c1), (.int c2), (.int c3)] (.int 0)) (pr2 : Arv Z h0 d0 kd .byte (4 : Int32) [(.int 0), (.int 0), (.int 0), (.int 0)] (.int 0)) (pr3 : n0 ≤ d0) (pr4 : x0 ≠ d0) (pr5 : ¬ (255 : Int32) < c0) (pr6 : ¬ (255 : Int32) < c1) (pr7 : (255 : Int32) < c2) :
    own_M l yN1 jdk_52_method_21_code 7 (some .int) ws own_k5_4_2R #[(.ref x0), (.int 0), (.ref d0), (.int 0), (.int 4)] Z h0 (own_k5_4_2Q Z x0 kc d0 kd c0 c1 c2 c3 h0 n0) := by
  refine own_go (plainFor_of_name own_pn3) (fun m => own_ef10 m x0 (0 : Int32) d0 (0 : Int32) (4 : Int32) ) ?_
  intro p e s m below meth c s₁ Bd hx hby hml hZ hh hown hnm X0 e0
  have N0 := Fr.nil n0
  have K0 : Keep h0 h0 [d0] := Keep.refl h0 _
  refine own_st (T' := s₁) (g' := (mkF m 12 #[.val (.ref x0), .val (.int 0), .val (.ref d0), .val (.int 0), .val (.int 4), .val (.int 0), .unset] [(.int 0), (.ref x0)])) (fun _ kt => XS.iconst X0.here hx rfl (hb hby d7_0) (XS.istore X0.here hx rfl (hb hby d7_1) rfl (l' := #[.val (.ref x0), .val (.int 0), .val (.ref d0), .val (.int 0), .val (.int 4), .val (.int 0), .unset]) rfl (XS.iload X0.here hx rfl (hb hby d7_3) rfl (XS.iload X0.here hx rfl (hb hby d7_5) rfl (XS.icmpNo X0.here hx rfl (hb hby d7_7) rfl (XT.ii_ge_f (by decide)) (XS.aloadN X0.here hx rfl (hb hby d7_10) rfl rfl (XS.iloadN X0.here hx rfl (hb hby d7_11) rfl kt))))))) ?_
  refine own_st (T' := s₁) (g' := (mkF m 13 #[.val (.ref x0), .val (.int 0), .val (.ref d0), .val (.int 0), .val (.int 4), .val (.int 0), .unset] [(.int c0)])) (own_cal X0 hx hZ e0 pr1 ⟨by decide, by decide⟩ rfl (g := (mkF m 12 #[.val (.ref x0), .val (.int 0), .val (.ref d0), .val (.int 0), .val (.int 4), .val (.int 0), .unset] [(.int 0), (.ref x0)])) rfl rfl (hb hby d7_12)) ?_
  refine own_st (T' := s₁) (g' := (mkF m 31 #[.val (.ref x0), .val (.int 0), .val (.ref d0), .val (.int 0), .val (.int 4), .val (.int 0), .val (.int c0)] [(.int (c0.toInt8.toInt32)), (.int 0), (.ref d0)])) (fun _ kt => XS.istore X0.here hx rfl (hb hby d7_13) rfl (l' := #[.val (.ref x0), .val (.int 0), .val (.ref d0), .val (.int 0), .val (.int 4), .val (.int 0), .val (.int c0)]) rfl (XS.iload X0.here hx rfl (hb hby d7_15) rfl (XS.sipush X0.here hx rfl (hb hby d7_17) (XS.icmpYes X0.here hx rfl (pc0 := 20) (pc' := 26) rfl (hb hby d7_20) rfl (XT.ii_le_t pr5) (by decide) (by decide) (XS.aloadN X0.here hx rfl (hb hby d7_26) rfl rfl (XS.iloadN X0.here hx rfl (hb hby d7_27) rfl (XS.iload X0.here hx rfl (hb hby d7_28) rfl (XT.i2b X0.here hx rfl (hb hby d7_30) rfl kt)))))))) ?_
  obtain ⟨T878, h878, X878, e878, W878, V878, st878⟩ := own_bst X0 hx hZ e0 pr2 ⟨by decide, by decide⟩ (i := 0) rfl (by simp) (y := (c0.toInt8.toInt32)) (own_narb _) (g := (mkF m 31 #[.val (.ref x0), .val (.int 0), .val (.ref d0), .val (.int 0), .val (.int 4), .val (.int 0), .val (.int c0)] [(.int (c0.toInt8.toInt32)), (.int 0), (.ref d0)])) rfl rfl (hb hby d7_31)
  have N878 := Fr.snoc X878 N0 pr3
  have Z879 : n0 ≤ h878.size := Nat.le_trans Z0 (Nat.le_of_eq (Wr.size W878).symm)
  have K879 : Keep h0 h878 [d0] := (Keep.wr K0 W878 (Or.inl (List.mem_of_getElem? (i := 0) rfl)))
  have F880 : Arv Z h878 d0 kd .byte (4 : Int32) [(.int (c0.toInt8.toInt32)), (.int 0), (.int 0), (.int 0)] (.int 0) := V878
  refine own_st (T' := T878) (g' := (mkF m 32 #[.val (.ref x0), .val (.int 0), .val (.ref d0), .val (.int 0), .val (.int 4), .val (.int 0), .val (.int c0)] [])) st878 ?_
  refine own_st (T' := T878) (g' := (mkF m 12 #[.val (.ref x0), .val (.int 1), .val (.ref d0), .val (.int 1), .val (.int 4), .val (.int 1), .val (.int c0)] [(.int 1), (.ref x0)])) (fun _ kt => XS.iinc X878.here hx rfl (hb hby d7_32) rfl (l' := #[.val (.ref x0), .val (.int 1), .val (.ref d0), .val (.int 0), .val (.int 4), .val (.int 0), .val (.int c0)]) rfl (XS.iinc X878.here hx rfl (hb hby d7_35) rfl (l' := #[.val (.ref x0), .val (.int 1), .val (.ref d0), .val (.int 1), .val (.int 4), .val (.int 0), .val (.int c0)]) rfl (XS.iinc X878.here hx rfl (hb hby d7_38) rfl (l' := #[.val (.ref x0), .val (.int 1), .val (.ref d0), .val (.int 1), .val (.int 4), .val (.int 1), .val (.int c0)]) rfl (XS.goto X878.here hx rfl (pc0 := 41) (pc' := 3) rfl (hb hby d7_41) (by decide) (by decide) (XS.iload X878.here hx rfl (hb hby d7_3) rfl (XS.iload X878.here hx rfl (hb hby d7_5) rfl (XS.icmpNo X878.here hx rfl (hb hby d7_7) rfl (XT.ii_ge_f (by decide)) (XS.aloadN X878.here hx rfl (hb hby d7_10) rfl rfl (XS.iloadN X878.here hx rfl (hb hby d7_11) rfl kt))))))))) ?_
  have F881 : Arv Z h878 x0 kc .char (4 : Int32) [(.int c0), (.int c1), (.int c2), (.int c3)] (.int 0) := (Arv.other pr1 W878 pr4)
  refine own_st (T' := T878) (g' := (mkF m 13 #[.val (.ref x0), .val (.int 1), .val (.ref d0), .val (.int 1), .val (.int 4), .val (.int 1), .val (.int c0)] [(.int c1)])) (own_cal X878 hx hZ e878 F881 ⟨by decide, by decide⟩ rfl (g := (mkF m 12 #[.val (.ref x0), .val (.int 1), .val (.ref d0), .val (.int 1), .val (.int 4), .val (.int 1), .val (.int c0)] [(.int 1), (.ref x0)])) rfl rfl (hb hby d7_12)) ?_
  refine own_st (T' := T878) (g' := (mkF m 31 #[.val (.ref x0), .val (.int 1), .val (.ref d0), .val (.int 1), .val (.int 4), .val (.int 1), .val (.int c1)] [(.int (c1.toInt8.toInt32)), (.int 1), (.ref d0)])) (fun _ kt => XS.istore X878.here hx rfl (hb hby d7_13) rfl (l' := #[.val (.ref x0), .val (.int 1), .val (.ref d0), .val (.int 1), .val (.int 4), .val (.int 1), .val (.int c1)]) rfl (XS.iload X878.here hx rfl (hb hby d7_15) rfl (XS.sipush X878.here hx rfl (hb hby d7_17) (XS.icmpYes X878.here hx rfl (pc0 := 20) (pc' := 26) rfl (hb hby d7_20) rfl (XT.ii_le_t pr6) (by decide) (by decide) (XS.aloadN X878.here hx rfl (hb hby d7_26) rfl rfl (XS.iloadN X878.here hx rfl (hb hby d7_27) rfl (XS.iload X878.here hx rfl (hb hby d7_28) rfl (XT.i2b X878.here hx rfl (hb hby d7_30) rfl kt)))))))) ?_
  obtain ⟨T882, h882, X882, e882, W882, V882, st882⟩ := own_bst X878 hx hZ e878 F880 ⟨by decide, by decide⟩ (i := 1) rfl (by simp) (y := (c1.toInt8.toInt32)) (own_narb _) (g := (mkF m 31 #[.val (.ref x0), .val (.int 1), .val (.ref d0), .val (.int 1), .val (.int 4), .val (.int 1), .val (.int c1)] [(.int (c1.toInt8.toInt32)), (.int 1), (.ref d0)])) rfl rfl (hb hby d7_31)
  have N882 := Fr.snoc X882 N878 pr3
  have Z883 : n0 ≤ h882.size := Nat.le_trans Z879 (Nat.le_of_eq (Wr.size W882).symm)
  have K883 : Keep h0 h882 [d0] := (Keep.wr K879 W882 (Or.inl (List.mem_of_getElem? (i := 0) rfl)))
  have F884 : Arv Z h882 d0 kd .byte (4 : Int32) [(.int (c0.toInt8.toInt32)), (.int (c1.toInt8.toInt32)), (.int 0), (.int 0)] (.int 0) := V882
  refine own_st (T' := T882) (g' := (mkF m 32 #[.val (.ref x0), .val (.int 1), .val (.ref d0), .val (.int 1), .val (.int 4), .val (.int 1), .val (.int c1)] [])) st882 ?_
  refine own_st (T' := T882) (g' := (mkF m 12 #[.val (.ref x0), .val (.int 2), .val (.ref d0), .val (.int 2), .val (.int 4), .val (.int 2), .val (.int c1)] [(.int 2), (.ref x0)])) (fun _ kt => XS.iinc X882.here hx rfl (hb hby d7_32) rfl (l' := #[.val (.ref x0), .val (.int 2), .val (.ref d0), .val (.int 1), .val (.int 4), .val (.int 1), .val (.int c1)]) rfl (XS.iinc X882.here hx rfl (hb hby d7_35) rfl (l' := #[.val (.ref x0), .val (.int 2), .val (.ref d0), .val (.int 2), .val (.int 4), .val (.int 1), .val (.int c1)]) rfl (XS.iinc X882.here hx rfl (hb hby d7_38) rfl (l' := #[.val (.ref x0), .val (.int 2), .val (.ref d0), .val (.int 2), .val (.int 4), .val (.int 2), .val (.int c1)]) rfl (XS.goto X882.here hx rfl (pc0 := 41) (pc' := 3) rfl (hb hby d7_41) (by decide) (by decide) (XS.iload X882.here hx rfl (hb hby d7_3) rfl (XS.iload X882.here hx rfl (hb hby d7_5) rfl (XS.icmpNo X882.here hx rfl (hb hby d7_7) rfl (XT.ii_ge_f (by decide)) (XS.aloadN X882.here hx rfl (hb hby d7_10) rfl rfl (XS.iloadN X882.here hx rfl (hb hby d7_11) rfl kt))))))))) ?_
  have F885 : Arv Z h882 x0 kc .char (4 : Int32) [(.int c0), (.int c1), (.int c2), (.int c3)] (.int 0) := (Arv.other F881 W882 pr4)
  refine own_st (T' := T882) (g' := (mkF m 13 #[.val (.ref x0), .val (.int 2), .val (.ref d0), .val (.int 2), .val (.int 4), .val (.int 2), .val (.int c1)] [(.int c2)])) (own_cal X882 hx hZ e882 F885 ⟨by decide, by decide⟩ rfl (g := (mkF m 12 #[.val (.ref x0), .val (.int 2), .val (.ref d0), .val (.int 2), .val (.int 4), .val (.int 2), .val (.int c1)] [(.int 2), (.ref x0)])) rfl rfl (hb hby d7_12)) ?_
  refine own_st (T' := T882) (g' := (mkF m 25 #[.val (.ref x0), .val (.int 2), .val (.ref d0), .val (.int 2), .val (.int 4), .val (.int 2), .val (.int c2)] [(.int 2)])) (fun _ kt => XS.istore X882.here hx rfl (hb hby d7_13) rfl (l' := #[.val (.ref x0), .val (.int 2), .val (.ref d0), .val (.int 2), .val (.int 4), .val (.int 2), .val (.int c2)]) rfl (XS.iload X882.here hx rfl (hb hby d7_15) rfl (XS.sipush X882.here hx rfl (hb hby d7_17) (XS.icmpNo X882.here hx rfl (hb hby d7_20) rfl (XT.ii_le_f pr7) (XS.iload X882.here hx rfl (hb hby d7_23) rfl kt))))) ?_
  obtain ⟨fs, hr, hrun, hended, hW, hsame⟩ := X882.leave (v := some (.int 2)) (fun h => by rw [Bd.returns] at h; cases h)
  refine own_end (own_retI X882 hx Bd.returns (hb hby d7_25) hr) ⟨_, hrun, hended, _, _, rfl, ?_, ⟨_, rfl⟩, hW, hsame.mono (by decide) (by decide)⟩
  show own_k5_4_2Q Z _ _ _ _ _ _ _ _ h0 n0 _ T882.heap _
  rw [e882]
  exact ⟨rfl, N882, K883, F884⟩
def own_k3_4_2Q (Z : State) (x0 : Addr) (kc : ClassId) (c0 : Int32) (c1 : Int32) (c2 : Int32) (c3 : Int32) (h0 : Heap) (n0 : Nat) (v : Option Value) (h : Heap) (L : List Loc) : Prop := ∃ (b : Addr), ∃ (kb : ClassId), v = some (.ref b) ∧ Fr n0 L ∧ Keep h0 h [] ∧ (Arv Z h b kb .byte (8 : Int32) [(.int (own_lo c0)), (.int (own_hi c0)), (.int (own_lo c1)), (.int (own_hi c1)), (.int (own_lo c2)), (.int (own_hi c2)), (.int (own_lo c3)), (.int (own_hi c3))] (.int 0)) ∧ (h0.size ≤ b)
abbrev own_k3_4_2R : Room := { frames := 3, cells := 2, slots := 12, locals := 40 }
theorem own_k3_4_2 (l : Launch) (Z : State) (a0 : Array Value) (hw : ∀ d ∈ tables_1, d.before a0 Z = true) (ws : List Jvm.Cond) (x0 : Addr) (kc : ClassId) (c0 : Int32) (c1 : Int32) (c2 : Int32) (c3 : Int32) (h0 : Heap) (n0 : Nat) (Z0 : n0 ≤ h0.size) (pr1 : Old Z n0 h0) (pr2 : Sta Z Z.heap "java/lang/StringUTF16" "$assertionsDisabled" "Z" (.int 1)) (pr3 : Sta Z Z.heap "java/lang/StringUTF16" "HI_BYTE_SHIFT" "I" (.int 0)) (pr4 : Sta Z Z.heap "java/lang/StringUTF16" "LO_BYTE_SHIFT" "I" (.int 8)) (pr5 : Arv Z h0 x0 kc .char (4 : Int32) [(.int c0), (.int c1), (.int c2), (.int c3)] (.int 0)) (pr6 : own_c16 c0) (pr7 : own_c16 c1) (pr8 : own_c16 c2) (pr9 : own_c16 c3) (pr10 : ¬ (255 : Int32) < c0) (pr11 : ¬ (255 : Int32) < c1) (pr12 : (255 : Int32) < c2) :
    own_M l yN2 jdk_52_method_16_code 6 (some (.array .byte)) ws own_k3_4_2R #[(.ref x0), (.int 0), (.int 4)] Z h0 (own_k3_4_2Q Z x0 kc c0 c1 c2 c3 h0 n0) := by
  refine own_go (plainFor_of_name own_pn3) (fun m => own_ef11 m x0 (0 : Int32) (4 : Int32) ) ?_
  intro p e s m below meth c s₁ Bd hx hby hml hZ hh hown hnm X0 e0
  have N0 := Fr.nil n0
  have K0 : Keep h0 h0 [] := Keep.refl h0 _
  refine own_st (T' := s₁) (g' := (mkF m 1 #[.val (.ref x0), .val (.int 0), .val (.int 4), .unset, .unset, .unset] [(.int 4)])) (fun _ kt => XS.iloadN X0.here hx rfl (hb hby d6_0) rfl kt) ?_
  obtain ⟨T886, h886, k886, X886, e886, E886, A886, st886⟩ := newP X0 hx hZ (aty := .byte) (own_k hw 17 rfl) e0 (g := (mkF m 1 #[.val (.ref x0), .val (.int 0), .val (.int 4), .unset, .unset, .unset] [(.int 4)])) rfl (hb hby d6_1) rfl (by decide) (cap := 4) (by decide) (by decide) (by decide) (by decide)
  obtain ⟨b886, g886⟩ : ∃ z, z = h0.size := ⟨_, rfl⟩
  rw [← g886] at A886 st886
  have ne887 : x0 ≠ b886 := by rw [g886]; exact Nat.ne_of_lt pr5.lt
  have Z888 : n0 ≤ h886.size := Nat.le_trans Z0 E886.1
  have K888 : Keep h0 h886 [] := (Keep.ext K0 E886)
  have ge_b886 : n0 ≤ b886 := Nat.le_trans Z0 (Nat.le_of_eq g886.symm)
  have F889 : Arv Z h886 b886 k886 .byte (4 : Int32) [(.int 0), (.int 0), (.int 0), (.int 0)] (.int 0) := (Arv.new A886 (by decide)).pad (pad_rep [] (.int 0) 4)
  refine own_st (T' := T886) (g' := (mkF m 3 #[.val (.ref x0), .val (.int 0), .val (.int 4), .unset, .unset, .unset] [(.ref b886)])) st886 ?_
  refine own_st (T' := T886) (g' := (mkF m 9 #[.val (.ref x0), .val (.int 0), .val (.int 4), .val (.ref b886), .unset, .unset] [(.int 4), (.int 0), (.ref b886), (.int 0), (.ref x0)])) (fun _ kt => XS.astoreN X886.here hx rfl (hb hby d6_3) rfl rfl (l' := #[.val (.ref x0), .val (.int 0), .val (.int 4), .val (.ref b886), .unset, .unset]) rfl (XS.aloadN X886.here hx rfl (hb hby d6_4) rfl rfl (XS.iloadN X886.here hx rfl (hb hby d6_5) rfl (XS.aloadN X886.here hx rfl (hb hby d6_6) rfl rfl (XS.iconst X886.here hx rfl (hb hby d6_7) (XS.iloadN X886.here hx rfl (hb hby d6_8) rfl kt)))))) ?_
  have F890 : Arv Z h886 x0 kc .char (4 : Int32) [(.int c0), (.int c1), (.int c2), (.int c3)] (.int 0) := (pr5.ext E886)
  obtain ⟨_, _, ⟨T891, L891, k891, n891⟩, -, X891, ⟨Lc891, hQ891, l891, y891, z891⟩, st891⟩ := Jvm.LawKit.callS X886 hx (y := yN1) hown (mvT hZ (own_k hw 38 rfl)) (mvT hZ (own_k hw 39 rfl)) (mvT hZ (own_k hw 36 rfl)) (mvT hZ (own_k hw 40 rfl)) (by decide) (backOf (W := 0) (own_k5_4_2 l Z a0 hw [] x0 kc b886 k886 c0 c1 c2 c3 h886 n0 Z888 F890 F889 ge_b886 ne887 pr10 pr11 pr12) hZ (own_k hw 40 rfl) (own_k hw 36 rfl) (by decide) (by decide)) (g := (mkF m 9 #[.val (.ref x0), .val (.int 0), .val (.int 4), .val (.ref b886), .unset, .unset] [(.int 4), (.int 0), (.ref b886), (.int 0), (.ref x0)])) rfl hml.symm  (argsL := [(.ref x0), (.int 0), (.ref b886), (.int 0), (.int 4)]) (rest := []) (lenOf own_pd13 rfl) rfl (own_w0 rfl rfl) (hb hby d6_9) (fun _ _ => ⟨rfl, e886, (by decide : 1 + 0 ≤ 2), (by decide : 4 + 0 ≤ 12)⟩)
  dsimp only [Pt.U, Pt.locs, Pt.cells, Pt.slots] at X891 l891 y891 z891 st891 hQ891
  subst l891 y891 z891
  obtain ⟨rfl, N891, K891_, P892⟩ := hQ891
  have N893 := Fr.app N0 N891
  have Z894 : n0 ≤ T891.heap.size := Nat.le_trans Z888 K891_.1
  have K894 : Keep h0 T891.heap [] := (Keep.trans K888 K891_ (allS (Or.inr (Nat.le_trans K0.1 (Nat.le_of_eq g886.symm))) all0))
  refine own_st (T' := T891) (g' := (mkF m 12 #[.val (.ref x0), .val (.int 0), .val (.int 4), .val (.ref b886), .unset, .unset] [(.int 2)])) st891 ?_
  refine own_st (T' := T891) (g' := (mkF m 23 #[.val (.ref x0), .val (.int 0), .val (.int 4), .val (.ref b886), .val (.int 2), .unset] [(.int 4), (.int 0), (.ref x0)])) (fun _ kt => XS.istore X891.here hx rfl (hb hby d6_12) rfl (l' := #[.val (.ref x0), .val (.int 0), .val (.int 4), .val (.ref b886), .val (.int 2), .unset]) rfl (XS.iload X891.here hx rfl (hb hby d6_14) rfl (XS.iloadN X891.here hx rfl (hb hby d6_16) rfl (XS.icmpNo X891.here hx rfl (hb hby d6_17) rfl (XT.ii_eq_f (by decide)) (XS.aloadN X891.here hx rfl (hb hby d6_20) rfl rfl (XS.iloadN X891.here hx rfl (hb hby d6_21) rfl (XS.iloadN X891.here hx rfl (hb hby d6_22) rfl kt))))))) ?_
  have F895 : Old Z n0 T891.heap := (Old.keep (Old.ext pr1 E886) K891_ (allS ge_b886 all0))
  have F896 : Arv Z T891.heap x0 kc .char (4 : Int32) [(.int c0), (.int c1), (.int c2), (.int c3)] (.int 0) := (Arv.keep F890 K891_ (ninS ne887 nin0))
  obtain ⟨_, _, ⟨T897, L897, k897, n897⟩, -, X897, ⟨Lc897, hQ897, l897, y897, z897⟩, st897⟩ := Jvm.LawKit.callS X891 hx (y := yN5) hown (mvT hZ (own_k hw 80 rfl)) (mvT hZ (own_k hw 81 rfl)) (mvT hZ (own_k hw 36 rfl)) (mvT hZ (own_k hw 82 rfl)) (by decide) (backOf (W := 0) (own_tb4 l Z a0 hw [] x0 kc c0 c1 c2 c3 T891.heap n0 Z894 F895 pr2 pr3 pr4 F896) hZ (own_k hw 82 rfl) (own_k hw 36 rfl) (by decide) (by decide)) (g := (mkF m 23 #[.val (.ref x0), .val (.int 0), .val (.int 4), .val (.ref b886), .val (.int 2), .unset] [(.int 4), (.int 0), (.ref x0)])) rfl hml.symm  (argsL := [(.ref x0), (.int 0), (.int 4)]) (rest := []) (lenOf own_pd14 rfl) rfl (own_w0 rfl rfl) (hb hby d6_23) (fun _ _ => ⟨rfl, rfl, (by decide : 1 + 1 ≤ 2), (by decide : 4 + 8 ≤ 12)⟩)
  dsimp only [Pt.U, Pt.locs, Pt.cells, Pt.slots] at X897 l897 y897 z897 st897 hQ897
  subst l897 y897 z897
  obtain ⟨b_897, kb_897, rfl, N897, K897_, P898, P899⟩ := hQ897
  have N900 := Fr.app N893 N897
  have Z901 : n0 ≤ T897.heap.size := Nat.le_trans Z894 K897_.1
  have K901 : Keep h0 T897.heap [] := (Keep.trans K894 K897_ all0)
  have ne902 : x0 ≠ b_897 := Nat.ne_of_lt (Nat.lt_of_lt_of_le F896.lt P899)
  have ne903 : b886 ≠ b_897 := Nat.ne_of_lt (Nat.lt_of_lt_of_le P892.lt P899)
  have ge904 : n0 ≤ b_897 := Nat.le_trans Z894 P899
  refine own_st (T' := T897) (g' := (mkF m 26 #[.val (.ref x0), .val (.int 0), .val (.int 4), .val (.ref b886), .val (.int 2), .unset] [(.ref b_897)])) st897 ?_
  refine own_st (T' := T897) (g' := (mkF m 32 #[.val (.ref x0), .val (.int 0), .val (.int 4), .val (.ref b886), .val (.int 2), .val (.ref b_897)] [(.int 2), (.ref b_897)])) (fun _ kt => XS.astore X897.here hx rfl (hb hby d6_26) rfl rfl (l' := #[.val (.ref x0), .val (.int 0), .val (.int 4), .val (.ref b886), .val (.int 2), .val (.ref b_897)]) rfl (XS.aload X897.here hx rfl (hb hby d6_28) rfl rfl (XS.iload X897.here hx rfl (hb hby d6_30) rfl kt))) ?_
  have F905 : Old Z n0 T897.heap := (Old.keep F895 K897_ all0)
  obtain ⟨_, _, ⟨T906, L906, k906, n906⟩, -, X906, ⟨Lc906, hQ906, l906, y906, z906⟩, st906⟩ := Jvm.LawKit.callS X897 hx (y := yN6) hown (mvT hZ (own_k hw 96 rfl)) (mvT hZ (own_k hw 97 rfl)) (mvT hZ (own_k hw 36 rfl)) (mvT hZ (own_k hw 98 rfl)) (by decide) (backOf (W := 0) (own_gc l Z a0 hw [] b_897 (2 : Int32) kb_897 (8 : Int32) [(.int (own_lo c0)), (.int (own_hi c0)), (.int (own_lo c1)), (.int (own_hi c1)), (.int (own_lo c2)), (.int (own_hi c2)), (.int (own_lo c3)), (.int (own_hi c3))] c2 T897.heap n0 Z901 F905 pr2 pr3 pr4 P898 pr8 (show own_u (8 : Int32) [(.int (own_lo c0)), (.int (own_hi c0)), (.int (own_lo c1)), (.int (own_hi c1)), (.int (own_lo c2)), (.int (own_hi c2)), (.int (own_lo c3)), (.int (own_hi c3))] (2 : Int32) c2 from ⟨by decide, rfl, by decide, rfl⟩)) hZ (own_k hw 98 rfl) (own_k hw 36 rfl) (by decide) (by decide)) (g := (mkF m 32 #[.val (.ref x0), .val (.int 0), .val (.int 4), .val (.ref b886), .val (.int 2), .val (.ref b_897)] [(.int 2), (.ref b_897)])) rfl hml.symm  (argsL := [(.ref b_897), (.int 2)]) (rest := []) (lenOf own_pd5 rfl) rfl (own_w0 rfl rfl) (hb hby d6_32) (fun _ _ => ⟨rfl, rfl, (by decide : 2 + 0 ≤ 2), (by decide : 12 + 0 ≤ 12)⟩)
  dsimp only [Pt.U, Pt.locs, Pt.cells, Pt.slots] at X906 l906 y906 z906 st906 hQ906
  subst l906 y906 z906
  obtain ⟨rfl, N906, e906⟩ := hQ906
  have N907 := Fr.app N900 N906
  refine own_st (T' := T906) (g' := (mkF m 35 #[.val (.ref x0), .val (.int 0), .val (.int 4), .val (.ref b886), .val (.int 2), .val (.ref b_897)] [(.int c2)])) st906 ?_
  refine own_st (T' := T906) (g' := (mkF m 56 #[.val (.ref x0), .val (.int 0), .val (.int 4), .val (.ref b886), .val (.int 2), .val (.ref b_897)] [(.ref b_897)])) (fun _ kt => XS.sipush X906.here hx rfl (hb hby d6_35) (XS.icmpYes X906.here hx rfl (pc0 := 38) (pc' := 54) rfl (hb hby d6_38) rfl (XT.ii_gt_t pr12) (by decide) (by decide) (XS.aload X906.here hx rfl (hb hby d6_54) rfl rfl kt))) ?_
  obtain ⟨fs, hr, hrun, hended, hW, hsame⟩ := X906.leave (v := some (.ref b_897)) (fun h => by rw [Bd.returns] at h; cases h)
  refine own_end (own_retA X906 hx Bd.returns rfl rfl rfl (hb hby d6_56) hr) ⟨_, hrun, hended, _, _, rfl, ?_, ⟨_, rfl⟩, hW, hsame.mono (by decide) (by decide)⟩
  show own_k3_4_2Q Z _ _ _ _ _ _ h0 n0 _ T906.heap _
  rw [e906]
  exact ⟨b_897, kb_897, rfl, N907, K901, P898, (Nat.le_trans K894.1 P899)⟩
def own_k5_4_3Q (Z : State) (x0 : Addr) (kc : ClassId) (d0 : Addr) (kd : ClassId) (c0 : Int32) (c1 : Int32) (c2 : Int32) (c3 : Int32) (h0 : Heap) (n0 : Nat) (v : Option Value) (h : Heap) (L : List Loc) : Prop := v = some (.int 3) ∧ Fr n0 L ∧ Keep h0 h [d0] ∧ (Arv Z h d0 kd .byte (4 : Int32) [(.int c0.toInt8.toInt32), (.int c1.toInt8.toInt32), (.int c2.toInt8.toInt32), (.int 0)] (.int 0))
abbrev own_k5_4_3R : Room := { frames := 0, cells := 0, slots := 0, locals := 0 }
theorem own_k5_4_3 (l : Launch) (Z : State) (a0 : Array Value) (hw : ∀ d ∈ tables_1, d.before a0 Z = true) (ws : List Jvm.Cond) (x0 : Addr) (kc : ClassId) (d0 : Addr) (kd : ClassId) (c0 : Int32) (c1 : Int32) (c2 : Int32) (c3 : Int32) (h0 : Heap) (n0 : Nat) (Z0 : n0 ≤ h0.size) (pr1 : Arv Z h0 x0 kc .char (4 : Int32) [(.int c0), (.int c1), (.int c2), (.int c3)] (.int 0)) (pr2 : Arv Z h0 d0 kd .byte (4 : Int32) [(.int 0), (.int 0), (.int 0), (.int 0)] (.int 0)) (pr3 : n0 ≤ d0) (pr4 : x0 ≠ d0) (pr5 : ¬ (255 : Int32) < c0) (pr6 : ¬ (255 : Int32) < c1) (pr7 : ¬ (255 : Int32) < c2) (pr8 : (255 : Int32) < c3) :
    own_M l yN1 jdk_52_method_21_code 7 (some .int) ws own_k5_4_3R #[(.ref x0), (.int 0), (.ref d0), (.int 0), (.int 4)] Z h0 (own_k5_4_3Q Z x0 kc d0 kd c0 c1 c2 c3 h0 n0) := by
  refine own_go (plainFor_of_name own_pn3) (fun m => own_ef10 m x0 (0 : Int32) d0 (0 : Int32) (4 : Int32) ) ?_
  intro p e s m below meth c s₁ Bd hx hby hml hZ hh hown hnm X0 e0
  have N0 := Fr.nil n0
  have K0 : Keep h0 h0 [d0] := Keep.refl h0 _
  refine own_st (T' := s₁) (g' := (mkF m 12 #[.val (.ref x0), .val (.int 0), .val (.ref d0), .val (.int 0), .val (.int 4), .val (.int 0), .unset] [(.int 0), (.ref x0)])) (fun _ kt => XS.iconst X0.here hx rfl (hb hby d7_0) (XS.istore X0.here hx rfl (hb hby d7_1) rfl (l' := #[.val (.ref x0), .val (.int 0), .val (.ref d0), .val (.int 0), .val (.int 4), .val (.int 0), .unset]) rfl (XS.iload X0.here hx rfl (hb hby d7_3) rfl (XS.iload X0.here hx rfl (hb hby d7_5) rfl (XS.icmpNo X0.here hx rfl (hb hby d7_7) rfl (XT.ii_ge_f (by decide)) (XS.aloadN X0.here hx rfl (hb hby d7_10) rfl rfl (XS.iloadN X0.here hx rfl (hb hby d7_11) rfl kt))))))) ?_
  refine own_st (T' := s₁) (g' := (mkF m 13 #[.val (.ref x0), .val (.int 0), .val (.ref d0), .val (.int 0), .val (.int 4), .val (.int 0), .unset] [(.int c0)])) (own_cal X0 hx hZ e0 pr1 ⟨by decide, by decide⟩ rfl (g := (mkF m 12 #[.val (.ref x0), .val (.int 0), .val (.ref d0), .val (.int 0), .val (.int 4), .val (.int 0), .unset] [(.int 0), (.ref x0)])) rfl rfl (hb hby d7_12)) ?_
  refine own_st (T' := s₁) (g' := (mkF m 31 #[.val (.ref x0), .val (.int 0), .val (.ref d0), .val (.int 0), .val (.int 4), .val (.int 0), .val (.int c0)] [(.int (c0.toInt8.toInt32)), (.int 0), (.ref d0)])) (fun _ kt => XS.istore X0.here hx rfl (hb hby d7_13) rfl (l' := #[.val (.ref x0), .val (.int 0), .val (.ref d0), .val (.int 0), .val (.int 4), .val (.int 0), .val (.int c0)]) rfl (XS.iload X0.here hx rfl (hb hby d7_15) rfl (XS.sipush X0.here hx rfl (hb hby d7_17) (XS.icmpYes X0.here hx rfl (pc0 := 20) (pc' := 26) rfl (hb hby d7_20) rfl (XT.ii_le_t pr5) (by decide) (by decide) (XS.aloadN X0.here hx rfl (hb hby d7_26) rfl rfl (XS.iloadN X0.here hx rfl (hb hby d7_27) rfl (XS.iload X0.here hx rfl (hb hby d7_28) rfl (XT.i2b X0.here hx rfl (hb hby d7_30) rfl kt)))))))) ?_
  obtain ⟨T908, h908, X908, e908, W908, V908, st908⟩ := own_bst X0 hx hZ e0 pr2 ⟨by decide, by decide⟩ (i := 0) rfl (by simp) (y := (c0.toInt8.toInt32)) (own_narb _) (g := (mkF m 31 #[.val (.ref x0), .val (.int 0), .val (.ref d0), .val (.int 0), .val (.int 4), .val (.int 0), .val (.int c0)] [(.int (c0.toInt8.toInt32)), (.int 0), (.ref d0)])) rfl rfl (hb hby d7_31)
  have N908 := Fr.snoc X908 N0 pr3
  have Z909 : n0 ≤ h908.size := Nat.le_trans Z0 (Nat.le_of_eq (Wr.size W908).symm)
  have K909 : Keep h0 h908 [d0] := (Keep.wr K0 W908 (Or.inl (List.mem_of_getElem? (i := 0) rfl)))
  have F910 : Arv Z h908 d0 kd .byte (4 : Int32) [(.int (c0.toInt8.toInt32)), (.int 0), (.int 0), (.int 0)] (.int 0) := V908
  refine own_st (T' := T908) (g' := (mkF m 32 #[.val (.ref x0), .val (.int 0), .val (.ref d0), .val (.int 0), .val (.int 4), .val (.int 0), .val (.int c0)] [])) st908 ?_
  refine own_st (T' := T908) (g' := (mkF m 12 #[.val (.ref x0), .val (.int 1), .val (.ref d0), .val (.int 1), .val (.int 4), .val (.int 1), .val (.int c0)] [(.int 1), (.ref x0)])) (fun _ kt => XS.iinc X908.here hx rfl (hb hby d7_32) rfl (l' := #[.val (.ref x0), .val (.int 1), .val (.ref d0), .val (.int 0), .val (.int 4), .val (.int 0), .val (.int c0)]) rfl (XS.iinc X908.here hx rfl (hb hby d7_35) rfl (l' := #[.val (.ref x0), .val (.int 1), .val (.ref d0), .val (.int 1), .val (.int 4), .val (.int 0), .val (.int c0)]) rfl (XS.iinc X908.here hx rfl (hb hby d7_38) rfl (l' := #[.val (.ref x0), .val (.int 1), .val (.ref d0), .val (.int 1), .val (.int 4), .val (.int 1), .val (.int c0)]) rfl (XS.goto X908.here hx rfl (pc0 := 41) (pc' := 3) rfl (hb hby d7_41) (by decide) (by decide) (XS.iload X908.here hx rfl (hb hby d7_3) rfl (XS.iload X908.here hx rfl (hb hby d7_5) rfl (XS.icmpNo X908.here hx rfl (hb hby d7_7) rfl (XT.ii_ge_f (by decide)) (XS.aloadN X908.here hx rfl (hb hby d7_10) rfl rfl (XS.iloadN X908.here hx rfl (hb hby d7_11) rfl kt))))))))) ?_
  have F911 : Arv Z h908 x0 kc .char (4 : Int32) [(.int c0), (.int c1), (.int c2), (.int c3)] (.int 0) := (Arv.other pr1 W908 pr4)
  refine own_st (T' := T908) (g' := (mkF m 13 #[.val (.ref x0), .val (.int 1), .val (.ref d0), .val (.int 1), .val (.int 4), .val (.int 1), .val (.int c0)] [(.int c1)])) (own_cal X908 hx hZ e908 F911 ⟨by decide, by decide⟩ rfl (g := (mkF m 12 #[.val (.ref x0), .val (.int 1), .val (.ref d0), .val (.int 1), .val (.int 4), .val (.int 1), .val (.int c0)] [(.int 1), (.ref x0)])) rfl rfl (hb hby d7_12)) ?_
  refine own_st (T' := T908) (g' := (mkF m 31 #[.val (.ref x0), .val (.int 1), .val (.ref d0), .val (.int 1), .val (.int 4), .val (.int 1), .val (.int c1)] [(.int (c1.toInt8.toInt32)), (.int 1), (.ref d0)])) (fun _ kt => XS.istore X908.here hx rfl (hb hby d7_13) rfl (l' := #[.val (.ref x0), .val (.int 1), .val (.ref d0), .val (.int 1), .val (.int 4), .val (.int 1), .val (.int c1)]) rfl (XS.iload X908.here hx rfl (hb hby d7_15) rfl (XS.sipush X908.here hx rfl (hb hby d7_17) (XS.icmpYes X908.here hx rfl (pc0 := 20) (pc' := 26) rfl (hb hby d7_20) rfl (XT.ii_le_t pr6) (by decide) (by decide) (XS.aloadN X908.here hx rfl (hb hby d7_26) rfl rfl (XS.iloadN X908.here hx rfl (hb hby d7_27) rfl (XS.iload X908.here hx rfl (hb hby d7_28) rfl (XT.i2b X908.here hx rfl (hb hby d7_30) rfl kt)))))))) ?_
  obtain ⟨T912, h912, X912, e912, W912, V912, st912⟩ := own_bst X908 hx hZ e908 F910 ⟨by decide, by decide⟩ (i := 1) rfl (by simp) (y := (c1.toInt8.toInt32)) (own_narb _) (g := (mkF m 31 #[.val (.ref x0), .val (.int 1), .val (.ref d0), .val (.int 1), .val (.int 4), .val (.int 1), .val (.int c1)] [(.int (c1.toInt8.toInt32)), (.int 1), (.ref d0)])) rfl rfl (hb hby d7_31)
  have N912 := Fr.snoc X912 N908 pr3
  have Z913 : n0 ≤ h912.size := Nat.le_trans Z909 (Nat.le_of_eq (Wr.size W912).symm)
  have K913 : Keep h0 h912 [d0] := (Keep.wr K909 W912 (Or.inl (List.mem_of_getElem? (i := 0) rfl)))
  have F914 : Arv Z h912 d0 kd .byte (4 : Int32) [(.int (c0.toInt8.toInt32)), (.int (c1.toInt8.toInt32)), (.int 0), (.int 0)] (.int 0) := V912
  refine own_st (T' := T912) (g' := (mkF m 32 #[.val (.ref x0), .val (.int 1), .val (.ref d0), .val (.int 1), .val (.int 4), .val (.int 1), .val (.int c1)] [])) st912 ?_
  refine own_st (T' := T912) (g' := (mkF m 12 #[.val (.ref x0), .val (.int 2), .val (.ref d0), .val (.int 2), .val (.int 4), .val (.int 2), .val (.int c1)] [(.int 2), (.ref x0)])) (fun _ kt => XS.iinc X912.here hx rfl (hb hby d7_32) rfl (l' := #[.val (.ref x0), .val (.int 2), .val (.ref d0), .val (.int 1), .val (.int 4), .val (.int 1), .val (.int c1)]) rfl (XS.iinc X912.here hx rfl (hb hby d7_35) rfl (l' := #[.val (.ref x0), .val (.int 2), .val (.ref d0), .val (.int 2), .val (.int 4), .val (.int 1), .val (.int c1)]) rfl (XS.iinc X912.here hx rfl (hb hby d7_38) rfl (l' := #[.val (.ref x0), .val (.int 2), .val (.ref d0), .val (.int 2), .val (.int 4), .val (.int 2), .val (.int c1)]) rfl (XS.goto X912.here hx rfl (pc0 := 41) (pc' := 3) rfl (hb hby d7_41) (by decide) (by decide) (XS.iload X912.here hx rfl (hb hby d7_3) rfl (XS.iload X912.here hx rfl (hb hby d7_5) rfl (XS.icmpNo X912.here hx rfl (hb hby d7_7) rfl (XT.ii_ge_f (by decide)) (XS.aloadN X912.here hx rfl (hb hby d7_10) rfl rfl (XS.iloadN X912.here hx rfl (hb hby d7_11) rfl kt))))))))) ?_
  have F915 : Arv Z h912 x0 kc .char (4 : Int32) [(.int c0), (.int c1), (.int c2), (.int c3)] (.int 0) := (Arv.other F911 W912 pr4)
  refine own_st (T' := T912) (g' := (mkF m 13 #[.val (.ref x0), .val (.int 2), .val (.ref d0), .val (.int 2), .val (.int 4), .val (.int 2), .val (.int c1)] [(.int c2)])) (own_cal X912 hx hZ e912 F915 ⟨by decide, by decide⟩ rfl (g := (mkF m 12 #[.val (.ref x0), .val (.int 2), .val (.ref d0), .val (.int 2), .val (.int 4), .val (.int 2), .val (.int c1)] [(.int 2), (.ref x0)])) rfl rfl (hb hby d7_12)) ?_
  refine own_st (T' := T912) (g' := (mkF m 31 #[.val (.ref x0), .val (.int 2), .val (.ref d0), .val (.int 2), .val (.int 4), .val (.int 2), .val (.int c2)] [(.int (c2.toInt8.toInt32)), (.int 2), (.ref d0)])) (fun _ kt => XS.istore X912.here hx rfl (hb hby d7_13) rfl (l' := #[.val (.ref x0), .val (.int 2), .val (.ref d0), .val (.int 2), .val (.int 4), .val (.int 2), .val (.int c2)]) rfl (XS.iload X912.here hx rfl (hb hby d7_15) rfl (XS.sipush X912.here hx rfl (hb hby d7_17) (XS.icmpYes X912.here hx rfl (pc0 := 20) (pc' := 26) rfl (hb hby d7_20) rfl (XT.ii_le_t pr7) (by decide) (by decide) (XS.aloadN X912.here hx rfl (hb hby d7_26) rfl rfl (XS.iloadN X912.here hx rfl (hb hby d7_27) rfl (XS.iload X912.here hx rfl (hb hby d7_28) rfl (XT.i2b X912.here hx rfl (hb hby d7_30) rfl kt)))))))) ?_
  obtain ⟨T916, h916, X916, e916, W916, V916, st916⟩ := own_bst X912 hx hZ e912 F914 ⟨by decide, by decide⟩ (i := 2) rfl (by simp) (y := (c2.toInt8.toInt32)) (own_narb _) (g := (mkF m 31 #[.val (.ref x0), .val (.int 2), .val (.ref d0), .val (.int 2), .val (.int 4), .val (.int 2), .val (.int c2)] [(.int (c2.toInt8.toInt32)), (.int 2), (.ref d0)])) rfl rfl (hb hby d7_31)
  have N916 := Fr.snoc X916 N912 pr3
  have Z917 : n0 ≤ h916.size := Nat.le_trans Z913 (Nat.le_of_eq (Wr.size W916).symm)
  have K917 : Keep h0 h916 [d0] := (Keep.wr K913 W916 (Or.inl (List.mem_of_getElem? (i := 0) rfl)))
  have F918 : Arv Z h916 d0 kd .byte (4 : Int32) [(.int (c0.toInt8.toInt32)), (.int (c1.toInt8.toInt32)), (.int (c2.toInt8.toInt32)), (.int 0)] (.int 0) := V916
  refine own_st (T' := T916) (g' := (mkF m 32 #[.val (.ref x0), .val (.int 2), .val (.ref d0), .val (.int 2), .val (.int 4), .val (.int 2), .val (.int c2)] [])) st916 ?_
  refine own_st (T' := T916) (g' := (mkF m 12 #[.val (.ref x0), .val (.int 3), .val (.ref d0), .val (.int 3), .val (.int 4), .val (.int 3), .val (.int c2)] [(.int 3), (.ref x0)])) (fun _ kt => XS.iinc X916.here hx rfl (hb hby d7_32) rfl (l' := #[.val (.ref x0), .val (.int 3), .val (.ref d0), .val (.int 2), .val (.int 4), .val (.int 2), .val (.int c2)]) rfl (XS.iinc X916.here hx rfl (hb hby d7_35) rfl (l' := #[.val (.ref x0), .val (.int 3), .val (.ref d0), .val (.int 3), .val (.int 4), .val (.int 2), .val (.int c2)]) rfl (XS.iinc X916.here hx rfl (hb hby d7_38) rfl (l' := #[.val (.ref x0), .val (.int 3), .val (.ref d0), .val (.int 3), .val (.int 4), .val (.int 3), .val (.int c2)]) rfl (XS.goto X916.here hx rfl (pc0 := 41) (pc' := 3) rfl (hb hby d7_41) (by decide) (by decide) (XS.iload X916.here hx rfl (hb hby d7_3) rfl (XS.iload X916.here hx rfl (hb hby d7_5) rfl (XS.icmpNo X916.here hx rfl (hb hby d7_7) rfl (XT.ii_ge_f (by decide)) (XS.aloadN X916.here hx rfl (hb hby d7_10) rfl rfl (XS.iloadN X916.here hx rfl (hb hby d7_11) rfl kt))))))))) ?_
  have F919 : Arv Z h916 x0 kc .char (4 : Int32) [(.int c0), (.int c1), (.int c2), (.int c3)] (.int 0) := (Arv.other F915 W916 pr4)
  refine own_st (T' := T916) (g' := (mkF m 13 #[.val (.ref x0), .val (.int 3), .val (.ref d0), .val (.int 3), .val (.int 4), .val (.int 3), .val (.int c2)] [(.int c3)])) (own_cal X916 hx hZ e916 F919 ⟨by decide, by decide⟩ rfl (g := (mkF m 12 #[.val (.ref x0), .val (.int 3), .val (.ref d0), .val (.int 3), .val (.int 4), .val (.int 3), .val (.int c2)] [(.int 3), (.ref x0)])) rfl rfl (hb hby d7_12)) ?_
  refine own_st (T' := T916) (g' := (mkF m 25 #[.val (.ref x0), .val (.int 3), .val (.ref d0), .val (.int 3), .val (.int 4), .val (.int 3), .val (.int c3)] [(.int 3)])) (fun _ kt => XS.istore X916.here hx rfl (hb hby d7_13) rfl (l' := #[.val (.ref x0), .val (.int 3), .val (.ref d0), .val (.int 3), .val (.int 4), .val (.int 3), .val (.int c3)]) rfl (XS.iload X916.here hx rfl (hb hby d7_15) rfl (XS.sipush X916.here hx rfl (hb hby d7_17) (XS.icmpNo X916.here hx rfl (hb hby d7_20) rfl (XT.ii_le_f pr8) (XS.iload X916.here hx rfl (hb hby d7_23) rfl kt))))) ?_
  obtain ⟨fs, hr, hrun, hended, hW, hsame⟩ := X916.leave (v := some (.int 3)) (fun h => by rw [Bd.returns] at h; cases h)
  refine own_end (own_retI X916 hx Bd.returns (hb hby d7_25) hr) ⟨_, hrun, hended, _, _, rfl, ?_, ⟨_, rfl⟩, hW, hsame.mono (by decide) (by decide)⟩
  show own_k5_4_3Q Z _ _ _ _ _ _ _ _ h0 n0 _ T916.heap _
  rw [e916]
  exact ⟨rfl, N916, K917, F918⟩
def own_k3_4_3Q (Z : State) (x0 : Addr) (kc : ClassId) (c0 : Int32) (c1 : Int32) (c2 : Int32) (c3 : Int32) (h0 : Heap) (n0 : Nat) (v : Option Value) (h : Heap) (L : List Loc) : Prop := ∃ (b : Addr), ∃ (kb : ClassId), v = some (.ref b) ∧ Fr n0 L ∧ Keep h0 h [] ∧ (Arv Z h b kb .byte (8 : Int32) [(.int (own_lo c0)), (.int (own_hi c0)), (.int (own_lo c1)), (.int (own_hi c1)), (.int (own_lo c2)), (.int (own_hi c2)), (.int (own_lo c3)), (.int (own_hi c3))] (.int 0)) ∧ (h0.size ≤ b)
abbrev own_k3_4_3R : Room := { frames := 3, cells := 2, slots := 12, locals := 40 }
theorem own_k3_4_3 (l : Launch) (Z : State) (a0 : Array Value) (hw : ∀ d ∈ tables_1, d.before a0 Z = true) (ws : List Jvm.Cond) (x0 : Addr) (kc : ClassId) (c0 : Int32) (c1 : Int32) (c2 : Int32) (c3 : Int32) (h0 : Heap) (n0 : Nat) (Z0 : n0 ≤ h0.size) (pr1 : Old Z n0 h0) (pr2 : Sta Z Z.heap "java/lang/StringUTF16" "$assertionsDisabled" "Z" (.int 1)) (pr3 : Sta Z Z.heap "java/lang/StringUTF16" "HI_BYTE_SHIFT" "I" (.int 0)) (pr4 : Sta Z Z.heap "java/lang/StringUTF16" "LO_BYTE_SHIFT" "I" (.int 8)) (pr5 : Arv Z h0 x0 kc .char (4 : Int32) [(.int c0), (.int c1), (.int c2), (.int c3)] (.int 0)) (pr6 : own_c16 c0) (pr7 : own_c16 c1) (pr8 : own_c16 c2) (pr9 : own_c16 c3) (pr10 : ¬ (255 : Int32) < c0) (pr11 : ¬ (255 : Int32) < c1) (pr12 : ¬ (255 : Int32) < c2) (pr13 : (255 : Int32) < c3) :
    own_M l yN2 jdk_52_method_16_code 6 (some (.array .byte)) ws own_k3_4_3R #[(.ref x0), (.int 0), (.int 4)] Z h0 (own_k3_4_3Q Z x0 kc c0 c1 c2 c3 h0 n0) := by
  refine own_go (plainFor_of_name own_pn3) (fun m => own_ef11 m x0 (0 : Int32) (4 : Int32) ) ?_
  intro p e s m below meth c s₁ Bd hx hby hml hZ hh hown hnm X0 e0
  have N0 := Fr.nil n0
  have K0 : Keep h0 h0 [] := Keep.refl h0 _
  refine own_st (T' := s₁) (g' := (mkF m 1 #[.val (.ref x0), .val (.int 0), .val (.int 4), .unset, .unset, .unset] [(.int 4)])) (fun _ kt => XS.iloadN X0.here hx rfl (hb hby d6_0) rfl kt) ?_
  obtain ⟨T920, h920, k920, X920, e920, E920, A920, st920⟩ := newP X0 hx hZ (aty := .byte) (own_k hw 17 rfl) e0 (g := (mkF m 1 #[.val (.ref x0), .val (.int 0), .val (.int 4), .unset, .unset, .unset] [(.int 4)])) rfl (hb hby d6_1) rfl (by decide) (cap := 4) (by decide) (by decide) (by decide) (by decide)
  obtain ⟨b920, g920⟩ : ∃ z, z = h0.size := ⟨_, rfl⟩
  rw [← g920] at A920 st920
  have ne921 : x0 ≠ b920 := by rw [g920]; exact Nat.ne_of_lt pr5.lt
  have Z922 : n0 ≤ h920.size := Nat.le_trans Z0 E920.1
  have K922 : Keep h0 h920 [] := (Keep.ext K0 E920)
  have ge_b920 : n0 ≤ b920 := Nat.le_trans Z0 (Nat.le_of_eq g920.symm)
  have F923 : Arv Z h920 b920 k920 .byte (4 : Int32) [(.int 0), (.int 0), (.int 0), (.int 0)] (.int 0) := (Arv.new A920 (by decide)).pad (pad_rep [] (.int 0) 4)
  refine own_st (T' := T920) (g' := (mkF m 3 #[.val (.ref x0), .val (.int 0), .val (.int 4), .unset, .unset, .unset] [(.ref b920)])) st920 ?_
  refine own_st (T' := T920) (g' := (mkF m 9 #[.val (.ref x0), .val (.int 0), .val (.int 4), .val (.ref b920), .unset, .unset] [(.int 4), (.int 0), (.ref b920), (.int 0), (.ref x0)])) (fun _ kt => XS.astoreN X920.here hx rfl (hb hby d6_3) rfl rfl (l' := #[.val (.ref x0), .val (.int 0), .val (.int 4), .val (.ref b920), .unset, .unset]) rfl (XS.aloadN X920.here hx rfl (hb hby d6_4) rfl rfl (XS.iloadN X920.here hx rfl (hb hby d6_5) rfl (XS.aloadN X920.here hx rfl (hb hby d6_6) rfl rfl (XS.iconst X920.here hx rfl (hb hby d6_7) (XS.iloadN X920.here hx rfl (hb hby d6_8) rfl kt)))))) ?_
  have F924 : Arv Z h920 x0 kc .char (4 : Int32) [(.int c0), (.int c1), (.int c2), (.int c3)] (.int 0) := (pr5.ext E920)
  obtain ⟨_, _, ⟨T925, L925, k925, n925⟩, -, X925, ⟨Lc925, hQ925, l925, y925, z925⟩, st925⟩ := Jvm.LawKit.callS X920 hx (y := yN1) hown (mvT hZ (own_k hw 38 rfl)) (mvT hZ (own_k hw 39 rfl)) (mvT hZ (own_k hw 36 rfl)) (mvT hZ (own_k hw 40 rfl)) (by decide) (backOf (W := 0) (own_k5_4_3 l Z a0 hw [] x0 kc b920 k920 c0 c1 c2 c3 h920 n0 Z922 F924 F923 ge_b920 ne921 pr10 pr11 pr12 pr13) hZ (own_k hw 40 rfl) (own_k hw 36 rfl) (by decide) (by decide)) (g := (mkF m 9 #[.val (.ref x0), .val (.int 0), .val (.int 4), .val (.ref b920), .unset, .unset] [(.int 4), (.int 0), (.ref b920), (.int 0), (.ref x0)])) rfl hml.symm  (argsL := [(.ref x0), (.int 0), (.ref b920), (.int 0), (.int 4)]) (rest := []) (lenOf own_pd13 rfl) rfl (own_w0 rfl rfl) (hb hby d6_9) (fun _ _ => ⟨rfl, e920, (by decide : 1 + 0 ≤ 2), (by decide : 4 + 0 ≤ 12)⟩)
  dsimp only [Pt.U, Pt.locs, Pt.cells, Pt.slots] at X925 l925 y925 z925 st925 hQ925
  subst l925 y925 z925
  obtain ⟨rfl, N925, K925_, P926⟩ := hQ925
  have N927 := Fr.app N0 N925
  have Z928 : n0 ≤ T925.heap.size := Nat.le_trans Z922 K925_.1
  have K928 : Keep h0 T925.heap [] := (Keep.trans K922 K925_ (allS (Or.inr (Nat.le_trans K0.1 (Nat.le_of_eq g920.symm))) all0))
  refine own_st (T' := T925) (g' := (mkF m 12 #[.val (.ref x0), .val (.int 0), .val (.int 4), .val (.ref b920), .unset, .unset] [(.int 3)])) st925 ?_
  refine own_st (T' := T925) (g' := (mkF m 23 #[.val (.ref x0), .val (.int 0), .val (.int 4), .val (.ref b920), .val (.int 3), .unset] [(.int 4), (.int 0), (.ref x0)])) (fun _ kt => XS.istore X925.here hx rfl (hb hby d6_12) rfl (l' := #[.val (.ref x0), .val (.int 0), .val (.int 4), .val (.ref b920), .val (.int 3), .unset]) rfl (XS.iload X925.here hx rfl (hb hby d6_14) rfl (XS.iloadN X925.here hx rfl (hb hby d6_16) rfl (XS.icmpNo X925.here hx rfl (hb hby d6_17) rfl (XT.ii_eq_f (by decide)) (XS.aloadN X925.here hx rfl (hb hby d6_20) rfl rfl (XS.iloadN X925.here hx rfl (hb hby d6_21) rfl (XS.iloadN X925.here hx rfl (hb hby d6_22) rfl kt))))))) ?_
  have F929 : Old Z n0 T925.heap := (Old.keep (Old.ext pr1 E920) K925_ (allS ge_b920 all0))
  have F930 : Arv Z T925.heap x0 kc .char (4 : Int32) [(.int c0), (.int c1), (.int c2), (.int c3)] (.int 0) := (Arv.keep F924 K925_ (ninS ne921 nin0))
  obtain ⟨_, _, ⟨T931, L931, k931, n931⟩, -, X931, ⟨Lc931, hQ931, l931, y931, z931⟩, st931⟩ := Jvm.LawKit.callS X925 hx (y := yN5) hown (mvT hZ (own_k hw 80 rfl)) (mvT hZ (own_k hw 81 rfl)) (mvT hZ (own_k hw 36 rfl)) (mvT hZ (own_k hw 82 rfl)) (by decide) (backOf (W := 0) (own_tb4 l Z a0 hw [] x0 kc c0 c1 c2 c3 T925.heap n0 Z928 F929 pr2 pr3 pr4 F930) hZ (own_k hw 82 rfl) (own_k hw 36 rfl) (by decide) (by decide)) (g := (mkF m 23 #[.val (.ref x0), .val (.int 0), .val (.int 4), .val (.ref b920), .val (.int 3), .unset] [(.int 4), (.int 0), (.ref x0)])) rfl hml.symm  (argsL := [(.ref x0), (.int 0), (.int 4)]) (rest := []) (lenOf own_pd14 rfl) rfl (own_w0 rfl rfl) (hb hby d6_23) (fun _ _ => ⟨rfl, rfl, (by decide : 1 + 1 ≤ 2), (by decide : 4 + 8 ≤ 12)⟩)
  dsimp only [Pt.U, Pt.locs, Pt.cells, Pt.slots] at X931 l931 y931 z931 st931 hQ931
  subst l931 y931 z931
  obtain ⟨b_931, kb_931, rfl, N931, K931_, P932, P933⟩ := hQ931
  have N934 := Fr.app N927 N931
  have Z935 : n0 ≤ T931.heap.size := Nat.le_trans Z928 K931_.1
  have K935 : Keep h0 T931.heap [] := (Keep.trans K928 K931_ all0)
  have ne936 : x0 ≠ b_931 := Nat.ne_of_lt (Nat.lt_of_lt_of_le F930.lt P933)
  have ne937 : b920 ≠ b_931 := Nat.ne_of_lt (Nat.lt_of_lt_of_le P926.lt P933)
  have ge938 : n0 ≤ b_931 := Nat.le_trans Z928 P933
  refine own_st (T' := T931) (g' := (mkF m 26 #[.val (.ref x0), .val (.int 0), .val (.int 4), .val (.ref b920), .val (.int 3), .unset] [(.ref b_931)])) st931 ?_
  refine own_st (T' := T931) (g' := (mkF m 32 #[.val (.ref x0), .val (.int 0), .val (.int 4), .val (.ref b920), .val (.int 3), .val (.ref b_931)] [(.int 3), (.ref b_931)])) (fun _ kt => XS.astore X931.here hx rfl (hb hby d6_26) rfl rfl (l' := #[.val (.ref x0), .val (.int 0), .val (.int 4), .val (.ref b920), .val (.int 3), .val (.ref b_931)]) rfl (XS.aload X931.here hx rfl (hb hby d6_28) rfl rfl (XS.iload X931.here hx rfl (hb hby d6_30) rfl kt))) ?_
  have F939 : Old Z n0 T931.heap := (Old.keep F929 K931_ all0)
  obtain ⟨_, _, ⟨T940, L940, k940, n940⟩, -, X940, ⟨Lc940, hQ940, l940, y940, z940⟩, st940⟩ := Jvm.LawKit.callS X931 hx (y := yN6) hown (mvT hZ (own_k hw 96 rfl)) (mvT hZ (own_k hw 97 rfl)) (mvT hZ (own_k hw 36 rfl)) (mvT hZ (own_k hw 98 rfl)) (by decide) (backOf (W := 0) (own_gc l Z a0 hw [] b_931 (3 : Int32) kb_931 (8 : Int32) [(.int (own_lo c0)), (.int (own_hi c0)), (.int (own_lo c1)), (.int (own_hi c1)), (.int (own_lo c2)), (.int (own_hi c2)), (.int (own_lo c3)), (.int (own_hi c3))] c3 T931.heap n0 Z935 F939 pr2 pr3 pr4 P932 pr9 (show own_u (8 : Int32) [(.int (own_lo c0)), (.int (own_hi c0)), (.int (own_lo c1)), (.int (own_hi c1)), (.int (own_lo c2)), (.int (own_hi c2)), (.int (own_lo c3)), (.int (own_hi c3))] (3 : Int32) c3 from ⟨by decide, rfl, by decide, rfl⟩)) hZ (own_k hw 98 rfl) (own_k hw 36 rfl) (by decide) (by decide)) (g := (mkF m 32 #[.val (.ref x0), .val (.int 0), .val (.int 4), .val (.ref b920), .val (.int 3), .val (.ref b_931)] [(.int 3), (.ref b_931)])) rfl hml.symm  (argsL := [(.ref b_931), (.int 3)]) (rest := []) (lenOf own_pd5 rfl) rfl (own_w0 rfl rfl) (hb hby d6_32) (fun _ _ => ⟨rfl, rfl, (by decide : 2 + 0 ≤ 2), (by decide : 12 + 0 ≤ 12)⟩)
  dsimp only [Pt.U, Pt.locs, Pt.cells, Pt.slots] at X940 l940 y940 z940 st940 hQ940
  subst l940 y940 z940
  obtain ⟨rfl, N940, e940⟩ := hQ940
  have N941 := Fr.app N934 N940
  refine own_st (T' := T940) (g' := (mkF m 35 #[.val (.ref x0), .val (.int 0), .val (.int 4), .val (.ref b920), .val (.int 3), .val (.ref b_931)] [(.int c3)])) st940 ?_
  refine own_st (T' := T940) (g' := (mkF m 56 #[.val (.ref x0), .val (.int 0), .val (.int 4), .val (.ref b920), .val (.int 3), .val (.ref b_931)] [(.ref b_931)])) (fun _ kt => XS.sipush X940.here hx rfl (hb hby d6_35) (XS.icmpYes X940.here hx rfl (pc0 := 38) (pc' := 54) rfl (hb hby d6_38) rfl (XT.ii_gt_t pr13) (by decide) (by decide) (XS.aload X940.here hx rfl (hb hby d6_54) rfl rfl kt))) ?_
  obtain ⟨fs, hr, hrun, hended, hW, hsame⟩ := X940.leave (v := some (.ref b_931)) (fun h => by rw [Bd.returns] at h; cases h)
  refine own_end (own_retA X940 hx Bd.returns rfl rfl rfl (hb hby d6_56) hr) ⟨_, hrun, hended, _, _, rfl, ?_, ⟨_, rfl⟩, hW, hsame.mono (by decide) (by decide)⟩
  show own_k3_4_3Q Z _ _ _ _ _ _ h0 n0 _ T940.heap _
  rw [e940]
  exact ⟨b_931, kb_931, rfl, N941, K935, P932, (Nat.le_trans K928.1 P933)⟩
def own_k5_4_4Q (Z : State) (x0 : Addr) (kc : ClassId) (d0 : Addr) (kd : ClassId) (c0 : Int32) (c1 : Int32) (c2 : Int32) (c3 : Int32) (h0 : Heap) (n0 : Nat) (v : Option Value) (h : Heap) (L : List Loc) : Prop := v = some (.int 4) ∧ Fr n0 L ∧ Keep h0 h [d0] ∧ (Arv Z h d0 kd .byte (4 : Int32) [(.int c0.toInt8.toInt32), (.int c1.toInt8.toInt32), (.int c2.toInt8.toInt32), (.int c3.toInt8.toInt32)] (.int 0))
abbrev own_k5_4_4R : Room := { frames := 0, cells := 0, slots := 0, locals := 0 }
theorem own_k5_4_4 (l : Launch) (Z : State) (a0 : Array Value) (hw : ∀ d ∈ tables_1, d.before a0 Z = true) (ws : List Jvm.Cond) (x0 : Addr) (kc : ClassId) (d0 : Addr) (kd : ClassId) (c0 : Int32) (c1 : Int32) (c2 : Int32) (c3 : Int32) (h0 : Heap) (n0 : Nat) (Z0 : n0 ≤ h0.size) (pr1 : Arv Z h0 x0 kc .char (4 : Int32) [(.int c0), (.int c1), (.int c2), (.int c3)] (.int 0)) (pr2 : Arv Z h0 d0 kd .byte (4 : Int32) [(.int 0), (.int 0), (.int 0), (.int 0)] (.int 0)) (pr3 : n0 ≤ d0) (pr4 : x0 ≠ d0) (pr5 : ¬ (255 : Int32) < c0) (pr6 : ¬ (255 : Int32) < c1) (pr7 : ¬ (255 : Int32) < c2) (pr8 : ¬ (255 : Int32) < c3) :
    own_M l yN1 jdk_52_method_21_code 7 (some .int) ws own_k5_4_4R #[(.ref x0), (.int 0), (.ref d0), (.int 0), (.int 4)] Z h0 (own_k5_4_4Q Z x0 kc d0 kd c0 c1 c2 c3 h0 n0) := by
  refine own_go (plainFor_of_name own_pn3) (fun m => own_ef10 m x0 (0 : Int32) d0 (0 : Int32) (4 : Int32) ) ?_
  intro p e s m below meth c s₁ Bd hx hby hml hZ hh hown hnm X0 e0
  have N0 := Fr.nil n0
  have K0 : Keep h0 h0 [d0] := Keep.refl h0 _
  refine own_st (T' := s₁) (g' := (mkF m 12 #[.val (.ref x0), .val (.int 0), .val (.ref d0), .val (.int 0), .val (.int 4), .val (.int 0), .unset] [(.int 0), (.ref x0)])) (fun _ kt => XS.iconst X0.here hx rfl (hb hby d7_0) (XS.istore X0.here hx rfl (hb hby d7_1) rfl (l' := #[.val (.ref x0), .val (.int 0), .val (.ref d0), .val (.int 0), .val (.int 4), .val (.int 0), .unset]) rfl (XS.iload X0.here hx rfl (hb hby d7_3) rfl (XS.iload X0.here hx rfl (hb hby d7_5) rfl (XS.icmpNo X0.here hx rfl (hb hby d7_7) rfl (XT.ii_ge_f (by decide)) (XS.aloadN X0.here hx rfl (hb hby d7_10) rfl rfl (XS.iloadN X0.here hx rfl (hb hby d7_11) rfl kt))))))) ?_
  refine own_st (T' := s₁) (g' := (mkF m 13 #[.val (.ref x0), .val (.int 0), .val (.ref d0), .val (.int 0), .val (.int 4), .val (.int 0), .unset] [(.int c0)])) (own_cal X0 hx hZ e0 pr1 ⟨by decide, by decide⟩ rfl (g := (mkF m 12 #[.val (.ref x0), .val (.int 0), .val (.ref d0), .val (.int 0), .val (.int 4), .val (.int 0), .unset] [(.int 0), (.ref x0)])) rfl rfl (hb hby d7_12)) ?_
  refine own_st (T' := s₁) (g' := (mkF m 31 #[.val (.ref x0), .val (.int 0), .val (.ref d0), .val (.int 0), .val (.int 4), .val (.int 0), .val (.int c0)] [(.int (c0.toInt8.toInt32)), (.int 0), (.ref d0)])) (fun _ kt => XS.istore X0.here hx rfl (hb hby d7_13) rfl (l' := #[.val (.ref x0), .val (.int 0), .val (.ref d0), .val (.int 0), .val (.int 4), .val (.int 0), .val (.int c0)]) rfl (XS.iload X0.here hx rfl (hb hby d7_15) rfl (XS.sipush X0.here hx rfl (hb hby d7_17) (XS.icmpYes X0.here hx rfl (pc0 := 20) (pc' := 26) rfl (hb hby d7_20) rfl (XT.ii_le_t pr5) (by decide) (by decide) (XS.aloadN X0.here hx rfl (hb hby d7_26) rfl rfl (XS.iloadN X0.here hx rfl (hb hby d7_27) rfl (XS.iload X0.here hx rfl (hb hby d7_28) rfl (XT.i2b X0.here hx rfl (hb hby d7_30) rfl kt)))))))) ?_
  obtain ⟨T942, h942, X942, e942, W942, V942, st942⟩ := own_bst X0 hx hZ e0 pr2 ⟨by decide, by decide⟩ (i := 0) rfl (by simp) (y := (c0.toInt8.toInt32)) (own_narb _) (g := (mkF m 31 #[.val (.ref x0), .val (.int 0), .val (.ref d0), .val (.int 0), .val (.int 4), .val (.int 0), .val (.int c0)] [(.int (c0.toInt8.toInt32)), (.int 0), (.ref d0)])) rfl rfl (hb hby d7_31)
  have N942 := Fr.snoc X942 N0 pr3
  have Z943 : n0 ≤ h942.size := Nat.le_trans Z0 (Nat.le_of_eq (Wr.size W942).symm)
  have K943 : Keep h0 h942 [d0] := (Keep.wr K0 W942 (Or.inl (List.mem_of_getElem? (i := 0) rfl)))
  have F944 : Arv Z h942 d0 kd .byte (4 : Int32) [(.int (c0.toInt8.toInt32)), (.int 0), (.int 0), (.int 0)] (.int 0) := V942
  refine own_st (T' := T942) (g' := (mkF m 32 #[.val (.ref x0), .val (.int 0), .val (.ref d0), .val (.int 0), .val (.int 4), .val (.int 0), .val (.int c0)] [])) st942 ?_
  refine own_st (T' := T942) (g' := (mkF m 12 #[.val (.ref x0), .val (.int 1), .val (.ref d0), .val (.int 1), .val (.int 4), .val (.int 1), .val (.int c0)] [(.int 1), (.ref x0)])) (fun _ kt => XS.iinc X942.here hx rfl (hb hby d7_32) rfl (l' := #[.val (.ref x0), .val (.int 1), .val (.ref d0), .val (.int 0), .val (.int 4), .val (.int 0), .val (.int c0)]) rfl (XS.iinc X942.here hx rfl (hb hby d7_35) rfl (l' := #[.val (.ref x0), .val (.int 1), .val (.ref d0), .val (.int 1), .val (.int 4), .val (.int 0), .val (.int c0)]) rfl (XS.iinc X942.here hx rfl (hb hby d7_38) rfl (l' := #[.val (.ref x0), .val (.int 1), .val (.ref d0), .val (.int 1), .val (.int 4), .val (.int 1), .val (.int c0)]) rfl (XS.goto X942.here hx rfl (pc0 := 41) (pc' := 3) rfl (hb hby d7_41) (by decide) (by decide) (XS.iload X942.here hx rfl (hb hby d7_3) rfl (XS.iload X942.here hx rfl (hb hby d7_5) rfl (XS.icmpNo X942.here hx rfl (hb hby d7_7) rfl (XT.ii_ge_f (by decide)) (XS.aloadN X942.here hx rfl (hb hby d7_10) rfl rfl (XS.iloadN X942.here hx rfl (hb hby d7_11) rfl kt))))))))) ?_
  have F945 : Arv Z h942 x0 kc .char (4 : Int32) [(.int c0), (.int c1), (.int c2), (.int c3)] (.int 0) := (Arv.other pr1 W942 pr4)
  refine own_st (T' := T942) (g' := (mkF m 13 #[.val (.ref x0), .val (.int 1), .val (.ref d0), .val (.int 1), .val (.int 4), .val (.int 1), .val (.int c0)] [(.int c1)])) (own_cal X942 hx hZ e942 F945 ⟨by decide, by decide⟩ rfl (g := (mkF m 12 #[.val (.ref x0), .val (.int 1), .val (.ref d0), .val (.int 1), .val (.int 4), .val (.int 1), .val (.int c0)] [(.int 1), (.ref x0)])) rfl rfl (hb hby d7_12)) ?_
  refine own_st (T' := T942) (g' := (mkF m 31 #[.val (.ref x0), .val (.int 1), .val (.ref d0), .val (.int 1), .val (.int 4), .val (.int 1), .val (.int c1)] [(.int (c1.toInt8.toInt32)), (.int 1), (.ref d0)])) (fun _ kt => XS.istore X942.here hx rfl (hb hby d7_13) rfl (l' := #[.val (.ref x0), .val (.int 1), .val (.ref d0), .val (.int 1), .val (.int 4), .val (.int 1), .val (.int c1)]) rfl (XS.iload X942.here hx rfl (hb hby d7_15) rfl (XS.sipush X942.here hx rfl (hb hby d7_17) (XS.icmpYes X942.here hx rfl (pc0 := 20) (pc' := 26) rfl (hb hby d7_20) rfl (XT.ii_le_t pr6) (by decide) (by decide) (XS.aloadN X942.here hx rfl (hb hby d7_26) rfl rfl (XS.iloadN X942.here hx rfl (hb hby d7_27) rfl (XS.iload X942.here hx rfl (hb hby d7_28) rfl (XT.i2b X942.here hx rfl (hb hby d7_30) rfl kt)))))))) ?_
  obtain ⟨T946, h946, X946, e946, W946, V946, st946⟩ := own_bst X942 hx hZ e942 F944 ⟨by decide, by decide⟩ (i := 1) rfl (by simp) (y := (c1.toInt8.toInt32)) (own_narb _) (g := (mkF m 31 #[.val (.ref x0), .val (.int 1), .val (.ref d0), .val (.int 1), .val (.int 4), .val (.int 1), .val (.int c1)] [(.int (c1.toInt8.toInt32)), (.int 1), (.ref d0)])) rfl rfl (hb hby d7_31)
  have N946 := Fr.snoc X946 N942 pr3
  have Z947 : n0 ≤ h946.size := Nat.le_trans Z943 (Nat.le_of_eq (Wr.size W946).symm)
  have K947 : Keep h0 h946 [d0] := (Keep.wr K943 W946 (Or.inl (List.mem_of_getElem? (i := 0) rfl)))
  have F948 : Arv Z h946 d0 kd .byte (4 : Int32) [(.int (c0.toInt8.toInt32)), (.int (c1.toInt8.toInt32)), (.int 0), (.int 0)] (.int 0) := V946
  refine own_st (T' := T946) (g' := (mkF m 32 #[.val (.ref x0), .val (.int 1), .val (.ref d0), .val (.int 1), .val (.int 4), .val (.int 1), .val (.int c1)] [])) st946 ?_
  refine own_st (T' := T946) (g' := (mkF m 12 #[.val (.ref x0), .val (.int 2), .val (.ref d0), .val (.int 2), .val (.int 4), .val (.int 2), .val (.int c1)] [(.int 2), (.ref x0)])) (fun _ kt => XS.iinc X946.here hx rfl (hb hby d7_32) rfl (l' := #[.val (.ref x0), .val (.int 2), .val (.ref d0), .val (.int 1), .val (.int 4), .val (.int 1), .val (.int c1)]) rfl (XS.iinc X946.here hx rfl (hb hby d7_35) rfl (l' := #[.val (.ref x0), .val (.int 2), .val (.ref d0), .val (.int 2), .val (.int 4), .val (.int 1), .val (.int c1)]) rfl (XS.iinc X946.here hx rfl (hb hby d7_38) rfl (l' := #[.val (.ref x0), .val (.int 2), .val (.ref d0), .val (.int 2), .val (.int 4), .val (.int 2), .val (.int c1)]) rfl (XS.goto X946.here hx rfl (pc0 := 41) (pc' := 3) rfl (hb hby d7_41) (by decide) (by decide) (XS.iload X946.here hx rfl (hb hby d7_3) rfl (XS.iload X946.here hx rfl (hb hby d7_5) rfl (XS.icmpNo X946.here hx rfl (hb hby d7_7) rfl (XT.ii_ge_f (by decide)) (XS.aloadN X946.here hx rfl (hb hby d7_10) rfl rfl (XS.iloadN X946.here hx rfl (hb hby d7_11) rfl kt))))))))) ?_
  have F949 : Arv Z h946 x0 kc .char (4 : Int32) [(.int c0), (.int c1), (.int c2), (.int c3)] (.int 0) := (Arv.other F945 W946 pr4)
  refine own_st (T' := T946) (g' := (mkF m 13 #[.val (.ref x0), .val (.int 2), .val (.ref d0), .val (.int 2), .val (.int 4), .val (.int 2), .val (.int c1)] [(.int c2)])) (own_cal X946 hx hZ e946 F949 ⟨by decide, by decide⟩ rfl (g := (mkF m 12 #[.val (.ref x0), .val (.int 2), .val (.ref d0), .val (.int 2), .val (.int 4), .val (.int 2), .val (.int c1)] [(.int 2), (.ref x0)])) rfl rfl (hb hby d7_12)) ?_
  refine own_st (T' := T946) (g' := (mkF m 31 #[.val (.ref x0), .val (.int 2), .val (.ref d0), .val (.int 2), .val (.int 4), .val (.int 2), .val (.int c2)] [(.int (c2.toInt8.toInt32)), (.int 2), (.ref d0)])) (fun _ kt => XS.istore X946.here hx rfl (hb hby d7_13) rfl (l' := #[.val (.ref x0), .val (.int 2), .val (.ref d0), .val (.int 2), .val (.int 4), .val (.int 2), .val (.int c2)]) rfl (XS.iload X946.here hx rfl (hb hby d7_15) rfl (XS.sipush X946.here hx rfl (hb hby d7_17) (XS.icmpYes X946.here hx rfl (pc0 := 20) (pc' := 26) rfl (hb hby d7_20) rfl (XT.ii_le_t pr7) (by decide) (by decide) (XS.aloadN X946.here hx rfl (hb hby d7_26) rfl rfl (XS.iloadN X946.here hx rfl (hb hby d7_27) rfl (XS.iload X946.here hx rfl (hb hby d7_28) rfl (XT.i2b X946.here hx rfl (hb hby d7_30) rfl kt)))))))) ?_
  obtain ⟨T950, h950, X950, e950, W950, V950, st950⟩ := own_bst X946 hx hZ e946 F948 ⟨by decide, by decide⟩ (i := 2) rfl (by simp) (y := (c2.toInt8.toInt32)) (own_narb _) (g := (mkF m 31 #[.val (.ref x0), .val (.int 2), .val (.ref d0), .val (.int 2), .val (.int 4), .val (.int 2), .val (.int c2)] [(.int (c2.toInt8.toInt32)), (.int 2), (.ref d0)])) rfl rfl (hb hby d7_31)
  have N950 := Fr.snoc X950 N946 pr3
  have Z951 : n0 ≤ h950.size := Nat.le_trans Z947 (Nat.le_of_eq (Wr.size W950).symm)
  have K951 : Keep h0 h950 [d0] := (Keep.wr K947 W950 (Or.inl (List.mem_of_getElem? (i := 0) rfl)))
  have F952 : Arv Z h950 d0 kd .byte (4 : Int32) [(.int (c0.toInt8.toInt32)), (.int (c1.toInt8.toInt32)), (.int (c2.toInt8.toInt32)), (.int 0)] (.int 0) := V950
  refine own_st (T' := T950) (g' := (mkF m 32 #[.val (.ref x0), .val (.int 2), .val (.ref d0), .val (.int 2), .val (.int 4), .val (.int 2), .val (.int c2)] [])) st950 ?_
  refine own_st (T' := T950) (g' := (mkF m 12 #[.val (.ref x0), .val (.int 3), .val (.ref d0), .val (.int 3), .val (.int 4), .val (.int 3), .val (.int c2)] [(.int 3), (.ref x0)])) (fun _ kt => XS.iinc X950.here hx rfl (hb hby d7_32) rfl (l' := #[.val (.ref x0), .val (.int 3), .val (.ref d0), .val (.int 2), .val (.int 4), .val (.int 2), .val (.int c2)]) rfl (XS.iinc X950.here hx rfl (hb hby d7_35) rfl (l' := #[.val (.ref x0), .val (.int 3), .val (.ref d0), .val (.int 3), .val (.int 4), .val (.int 2), .val (.int c2)]) rfl (XS.iinc X950.here hx rfl (hb hby d7_38) rfl (l' := #[.val (.ref x0), .val (.int 3), .val (.ref d0), .val (.int 3), .val (.int 4), .val (.int 3), .val (.int c2)]) rfl (XS.goto X950.here hx rfl (pc0 := 41) (pc' := 3) rfl (hb hby d7_41) (by decide) (by decide) (XS.iload X950.here hx rfl (hb hby d7_3) rfl (XS.iload X950.here hx rfl (hb hby d7_5) rfl (XS.icmpNo X950.here hx rfl (hb hby d7_7) rfl (XT.ii_ge_f (by decide)) (XS.aloadN X950.here hx rfl (hb hby d7_10) rfl rfl (XS.iloadN X950.here hx rfl (hb hby d7_11) rfl kt))))))))) ?_
  have F953 : Arv Z h950 x0 kc .char (4 : Int32) [(.int c0), (.int c1), (.int c2), (.int c3)] (.int 0) := (Arv.other F949 W950 pr4)
  refine own_st (T' := T950) (g' := (mkF m 13 #[.val (.ref x0), .val (.int 3), .val (.ref d0), .val (.int 3), .val (.int 4), .val (.int 3), .val (.int c2)] [(.int c3)])) (own_cal X950 hx hZ e950 F953 ⟨by decide, by decide⟩ rfl (g := (mkF m 12 #[.val (.ref x0), .val (.int 3), .val (.ref d0), .val (.int 3), .val (.int 4), .val (.int 3), .val (.int c2)] [(.int 3), (.ref x0)])) rfl rfl (hb hby d7_12)) ?_
  refine own_st (T' := T950) (g' := (mkF m 31 #[.val (.ref x0), .val (.int 3), .val (.ref d0), .val (.int 3), .val (.int 4), .val (.int 3), .val (.int c3)] [(.int (c3.toInt8.toInt32)), (.int 3), (.ref d0)])) (fun _ kt => XS.istore X950.here hx rfl (hb hby d7_13) rfl (l' := #[.val (.ref x0), .val (.int 3), .val (.ref d0), .val (.int 3), .val (.int 4), .val (.int 3), .val (.int c3)]) rfl (XS.iload X950.here hx rfl (hb hby d7_15) rfl (XS.sipush X950.here hx rfl (hb hby d7_17) (XS.icmpYes X950.here hx rfl (pc0 := 20) (pc' := 26) rfl (hb hby d7_20) rfl (XT.ii_le_t pr8) (by decide) (by decide) (XS.aloadN X950.here hx rfl (hb hby d7_26) rfl rfl (XS.iloadN X950.here hx rfl (hb hby d7_27) rfl (XS.iload X950.here hx rfl (hb hby d7_28) rfl (XT.i2b X950.here hx rfl (hb hby d7_30) rfl kt)))))))) ?_
  obtain ⟨T954, h954, X954, e954, W954, V954, st954⟩ := own_bst X950 hx hZ e950 F952 ⟨by decide, by decide⟩ (i := 3) rfl (by simp) (y := (c3.toInt8.toInt32)) (own_narb _) (g := (mkF m 31 #[.val (.ref x0), .val (.int 3), .val (.ref d0), .val (.int 3), .val (.int 4), .val (.int 3), .val (.int c3)] [(.int (c3.toInt8.toInt32)), (.int 3), (.ref d0)])) rfl rfl (hb hby d7_31)
  have N954 := Fr.snoc X954 N950 pr3
  have Z955 : n0 ≤ h954.size := Nat.le_trans Z951 (Nat.le_of_eq (Wr.size W954).symm)
  have K955 : Keep h0 h954 [d0] := (Keep.wr K951 W954 (Or.inl (List.mem_of_getElem? (i := 0) rfl)))
  have F956 : Arv Z h954 d0 kd .byte (4 : Int32) [(.int (c0.toInt8.toInt32)), (.int (c1.toInt8.toInt32)), (.int (c2.toInt8.toInt32)), (.int (c3.toInt8.toInt32))] (.int 0) := V954
  refine own_st (T' := T954) (g' := (mkF m 32 #[.val (.ref x0), .val (.int 3), .val (.ref d0), .val (.int 3), .val (.int 4), .val (.int 3), .val (.int c3)] [])) st954 ?_
  refine own_st (T' := T954) (g' := (mkF m 46 #[.val (.ref x0), .val (.int 4), .val (.ref d0), .val (.int 4), .val (.int 4), .val (.int 4), .val (.int c3)] [(.int 4)])) (fun _ kt => XS.iinc X954.here hx rfl (hb hby d7_32) rfl (l' := #[.val (.ref x0), .val (.int 4), .val (.ref d0), .val (.int 3), .val (.int 4), .val (.int 3), .val (.int c3)]) rfl (XS.iinc X954.here hx rfl (hb hby d7_35) rfl (l' := #[.val (.ref x0), .val (.int 4), .val (.ref d0), .val (.int 4), .val (.int 4), .val (.int 3), .val (.int c3)]) rfl (XS.iinc X954.here hx rfl (hb hby d7_38) rfl (l' := #[.val (.ref x0), .val (.int 4), .val (.ref d0), .val (.int 4), .val (.int 4), .val (.int 4), .val (.int c3)]) rfl (XS.goto X954.here hx rfl (pc0 := 41) (pc' := 3) rfl (hb hby d7_41) (by decide) (by decide) (XS.iload X954.here hx rfl (hb hby d7_3) rfl (XS.iload X954.here hx rfl (hb hby d7_5) rfl (XS.icmpYes X954.here hx rfl (pc0 := 7) (pc' := 44) rfl (hb hby d7_7) rfl (XT.ii_ge_t (by decide)) (by decide) (by decide) (XS.iload X954.here hx rfl (hb hby d7_44) rfl kt)))))))) ?_
  obtain ⟨fs, hr, hrun, hended, hW, hsame⟩ := X954.leave (v := some (.int 4)) (fun h => by rw [Bd.returns] at h; cases h)
  refine own_end (own_retI X954 hx Bd.returns (hb hby d7_46) hr) ⟨_, hrun, hended, _, _, rfl, ?_, ⟨_, rfl⟩, hW, hsame.mono (by decide) (by decide)⟩
  show own_k5_4_4Q Z _ _ _ _ _ _ _ _ h0 n0 _ T954.heap _
  rw [e954]
  exact ⟨rfl, N954, K955, F956⟩
def own_k3_4_4Q (Z : State) (x0 : Addr) (kc : ClassId) (c0 : Int32) (c1 : Int32) (c2 : Int32) (c3 : Int32) (h0 : Heap) (n0 : Nat) (v : Option Value) (h : Heap) (L : List Loc) : Prop := ∃ (b : Addr), ∃ (kb : ClassId), v = some (.ref b) ∧ Fr n0 L ∧ Keep h0 h [] ∧ (Arv Z h b kb .byte (4 : Int32) [(.int c0.toInt8.toInt32), (.int c1.toInt8.toInt32), (.int c2.toInt8.toInt32), (.int c3.toInt8.toInt32)] (.int 0)) ∧ (h0.size ≤ b)
abbrev own_k3_4_4R : Room := { frames := 1, cells := 1, slots := 4, locals := 18 }
theorem own_k3_4_4 (l : Launch) (Z : State) (a0 : Array Value) (hw : ∀ d ∈ tables_1, d.before a0 Z = true) (ws : List Jvm.Cond) (x0 : Addr) (kc : ClassId) (c0 : Int32) (c1 : Int32) (c2 : Int32) (c3 : Int32) (h0 : Heap) (n0 : Nat) (Z0 : n0 ≤ h0.size) (pr1 : Old Z n0 h0) (pr2 : Sta Z Z.heap "java/lang/StringUTF16" "$assertionsDisabled" "Z" (.int 1)) (pr3 : Sta Z Z.heap "java/lang/StringUTF16" "HI_BYTE_SHIFT" "I" (.int 0)) (pr4 : Sta Z Z.heap "java/lang/StringUTF16" "LO_BYTE_SHIFT" "I" (.int 8)) (pr5 : Arv Z h0 x0 kc .char (4 : Int32) [(.int c0), (.int c1), (.int c2), (.int c3)] (.int 0)) (pr6 : own_c16 c0) (pr7 : own_c16 c1) (pr8 : own_c16 c2) (pr9 : own_c16 c3) (pr10 : ¬ (255 : Int32) < c0) (pr11 : ¬ (255 : Int32) < c1) (pr12 : ¬ (255 : Int32) < c2) (pr13 : ¬ (255 : Int32) < c3) :
    own_M l yN2 jdk_52_method_16_code 6 (some (.array .byte)) ws own_k3_4_4R #[(.ref x0), (.int 0), (.int 4)] Z h0 (own_k3_4_4Q Z x0 kc c0 c1 c2 c3 h0 n0) := by
  refine own_go (plainFor_of_name own_pn3) (fun m => own_ef11 m x0 (0 : Int32) (4 : Int32) ) ?_
  intro p e s m below meth c s₁ Bd hx hby hml hZ hh hown hnm X0 e0
  have N0 := Fr.nil n0
  have K0 : Keep h0 h0 [] := Keep.refl h0 _
  refine own_st (T' := s₁) (g' := (mkF m 1 #[.val (.ref x0), .val (.int 0), .val (.int 4), .unset, .unset, .unset] [(.int 4)])) (fun _ kt => XS.iloadN X0.here hx rfl (hb hby d6_0) rfl kt) ?_
  obtain ⟨T957, h957, k957, X957, e957, E957, A957, st957⟩ := newP X0 hx hZ (aty := .byte) (own_k hw 17 rfl) e0 (g := (mkF m 1 #[.val (.ref x0), .val (.int 0), .val (.int 4), .unset, .unset, .unset] [(.int 4)])) rfl (hb hby d6_1) rfl (by decide) (cap := 4) (by decide) (by decide) (by decide) (by decide)
  obtain ⟨b957, g957⟩ : ∃ z, z = h0.size := ⟨_, rfl⟩
  rw [← g957] at A957 st957
  have ne958 : x0 ≠ b957 := by rw [g957]; exact Nat.ne_of_lt pr5.lt
  have Z959 : n0 ≤ h957.size := Nat.le_trans Z0 E957.1
  have K959 : Keep h0 h957 [] := (Keep.ext K0 E957)
  have ge_b957 : n0 ≤ b957 := Nat.le_trans Z0 (Nat.le_of_eq g957.symm)
  have F960 : Arv Z h957 b957 k957 .byte (4 : Int32) [(.int 0), (.int 0), (.int 0), (.int 0)] (.int 0) := (Arv.new A957 (by decide)).pad (pad_rep [] (.int 0) 4)
  refine own_st (T' := T957) (g' := (mkF m 3 #[.val (.ref x0), .val (.int 0), .val (.int 4), .unset, .unset, .unset] [(.ref b957)])) st957 ?_
  refine own_st (T' := T957) (g' := (mkF m 9 #[.val (.ref x0), .val (.int 0), .val (.int 4), .val (.ref b957), .unset, .unset] [(.int 4), (.int 0), (.ref b957), (.int 0), (.ref x0)])) (fun _ kt => XS.astoreN X957.here hx rfl (hb hby d6_3) rfl rfl (l' := #[.val (.ref x0), .val (.int 0), .val (.int 4), .val (.ref b957), .unset, .unset]) rfl (XS.aloadN X957.here hx rfl (hb hby d6_4) rfl rfl (XS.iloadN X957.here hx rfl (hb hby d6_5) rfl (XS.aloadN X957.here hx rfl (hb hby d6_6) rfl rfl (XS.iconst X957.here hx rfl (hb hby d6_7) (XS.iloadN X957.here hx rfl (hb hby d6_8) rfl kt)))))) ?_
  have F961 : Arv Z h957 x0 kc .char (4 : Int32) [(.int c0), (.int c1), (.int c2), (.int c3)] (.int 0) := (pr5.ext E957)
  obtain ⟨_, _, ⟨T962, L962, k962, n962⟩, -, X962, ⟨Lc962, hQ962, l962, y962, z962⟩, st962⟩ := Jvm.LawKit.callS X957 hx (y := yN1) hown (mvT hZ (own_k hw 38 rfl)) (mvT hZ (own_k hw 39 rfl)) (mvT hZ (own_k hw 36 rfl)) (mvT hZ (own_k hw 40 rfl)) (by decide) (backOf (W := 0) (own_k5_4_4 l Z a0 hw [] x0 kc b957 k957 c0 c1 c2 c3 h957 n0 Z959 F961 F960 ge_b957 ne958 pr10 pr11 pr12 pr13) hZ (own_k hw 40 rfl) (own_k hw 36 rfl) (by decide) (by decide)) (g := (mkF m 9 #[.val (.ref x0), .val (.int 0), .val (.int 4), .val (.ref b957), .unset, .unset] [(.int 4), (.int 0), (.ref b957), (.int 0), (.ref x0)])) rfl hml.symm  (argsL := [(.ref x0), (.int 0), (.ref b957), (.int 0), (.int 4)]) (rest := []) (lenOf own_pd13 rfl) rfl (own_w0 rfl rfl) (hb hby d6_9) (fun _ _ => ⟨rfl, e957, (by decide : 1 + 0 ≤ 1), (by decide : 4 + 0 ≤ 4)⟩)
  dsimp only [Pt.U, Pt.locs, Pt.cells, Pt.slots] at X962 l962 y962 z962 st962 hQ962
  subst l962 y962 z962
  obtain ⟨rfl, N962, K962_, P963⟩ := hQ962
  have N964 := Fr.app N0 N962
  have Z965 : n0 ≤ T962.heap.size := Nat.le_trans Z959 K962_.1
  have K965 : Keep h0 T962.heap [] := (Keep.trans K959 K962_ (allS (Or.inr (Nat.le_trans K0.1 (Nat.le_of_eq g957.symm))) all0))
  refine own_st (T' := T962) (g' := (mkF m 12 #[.val (.ref x0), .val (.int 0), .val (.int 4), .val (.ref b957), .unset, .unset] [(.int 4)])) st962 ?_
  refine own_st (T' := T962) (g' := (mkF m 58 #[.val (.ref x0), .val (.int 0), .val (.int 4), .val (.ref b957), .val (.int 4), .unset] [(.ref b957)])) (fun _ kt => XS.istore X962.here hx rfl (hb hby d6_12) rfl (l' := #[.val (.ref x0), .val (.int 0), .val (.int 4), .val (.ref b957), .val (.int 4), .unset]) rfl (XS.iload X962.here hx rfl (hb hby d6_14) rfl (XS.iloadN X962.here hx rfl (hb hby d6_16) rfl (XS.icmpYes X962.here hx rfl (pc0 := 17) (pc' := 57) rfl (hb hby d6_17) rfl (XT.ii_eq_t (by decide)) (by decide) (by decide) (XS.aloadN X962.here hx rfl (hb hby d6_57) rfl rfl kt))))) ?_
  obtain ⟨fs, hr, hrun, hended, hW, hsame⟩ := X962.leave (v := some (.ref b957)) (fun h => by rw [Bd.returns] at h; cases h)
  refine own_end (own_retA X962 hx Bd.returns rfl rfl rfl (hb hby d6_58) hr) ⟨_, hrun, hended, _, _, rfl, ?_, ⟨_, rfl⟩, hW, hsame.mono (by decide) (by decide)⟩
  show own_k3_4_4Q Z _ _ _ _ _ _ h0 n0 _ T962.heap _
  show own_k3_4_4Q Z _ _ _ _ _ _ h0 n0 _ T962.heap _
  exact ⟨b957, k957, rfl, N964, K965, P963, (Nat.le_trans K0.1 (Nat.le_of_eq g957.symm))⟩
def own_n4_4Q (Z : State) (x0 : Addr) (b0 : Addr) (zc : Int32) (kc : ClassId) (c0 : Int32) (c1 : Int32) (c2 : Int32) (c3 : Int32) (h0 : Heap) (n0 : Nat) (v : Option Value) (h : Heap) (L : List Loc) : Prop := ∃ (t : Addr), ∃ (kb : ClassId), ∃ (cd : Int32), ∃ (zz : Int32), ∃ (vl : List Value), v = none ∧ Fr n0 L ∧ Keep h0 h [x0] ∧ (Exa Z h x0 "java/lang/String") ∧ (Fld Z h x0 "java/lang/String" "coder" "B" (.int cd)) ∧ (Fld Z h x0 "java/lang/String" "value" "[B" (.ref t)) ∧ (Arv Z h t kb .byte zz vl (.int 0)) ∧ (h0.size ≤ t) ∧ ((cd = 0 ∧ zz = 4 ∧ vl = [(.int c0.toInt8.toInt32), (.int c1.toInt8.toInt32), (.int c2.toInt8.toInt32), (.int c3.toInt8.toInt32)] ∧ ¬ (255 : Int32) < c0 ∧ ¬ (255 : Int32) < c1 ∧ ¬ (255 : Int32) < c2 ∧ ¬ (255 : Int32) < c3) ∨ (cd = 1 ∧ zz = 8 ∧ vl = [(.int (own_lo c0)), (.int (own_hi c0)), (.int (own_lo c1)), (.int (own_hi c1)), (.int (own_lo c2)), (.int (own_hi c2)), (.int (own_lo c3)), (.int (own_hi c3))]))
abbrev own_n4_4R : Room := { frames := 4, cells := 3, slots := 12, locals := 110 }
theorem own_n4_4 (l : Launch) (Z : State) (a0 : Array Value) (hw : ∀ d ∈ tables_1, d.before a0 Z = true) (ws : List Jvm.Cond) (x0 : Addr) (b0 : Addr) (zc : Int32) (kc : ClassId) (c0 : Int32) (c1 : Int32) (c2 : Int32) (c3 : Int32) (h0 : Heap) (n0 : Nat) (Z0 : n0 ≤ h0.size) (pr1 : Old Z n0 h0) (pr2 : Sta Z Z.heap "java/lang/String" "COMPACT_STRINGS" "Z" (.int zc)) (pr3 : ¬ zc = 0) (pr4 : Sta Z Z.heap "java/lang/StringUTF16" "$assertionsDisabled" "Z" (.int 1)) (pr5 : Sta Z Z.heap "java/lang/StringUTF16" "HI_BYTE_SHIFT" "I" (.int 0)) (pr6 : Sta Z Z.heap "java/lang/StringUTF16" "LO_BYTE_SHIFT" "I" (.int 8)) (pr7 : Exa Z h0 x0 "java/lang/String") (pr8 : n0 ≤ x0) (pr9 : Fld Z h0 x0 "java/lang/String" "value" "[B" .null) (pr10 : Fld Z h0 x0 "java/lang/String" "coder" "B" (.int 0)) (pr11 : Arv Z h0 b0 kc .char (4 : Int32) [(.int c0), (.int c1), (.int c2), (.int c3)] (.int 0)) (pr12 : own_c16 c0) (pr13 : own_c16 c1) (pr14 : own_c16 c2) (pr15 : own_c16 c3) :
    own_M l yN11 jdk_42_method_149_code 6 none ws own_n4_4R #[(.ref x0), (.ref b0), (.int 0), (.int 4), .null] Z h0 (own_n4_4Q Z x0 b0 zc kc c0 c1 c2 c3 h0 n0) := by
  refine own_go (plainFor_of_name own_pn2) (fun m => own_ef12 m x0 b0 (0 : Int32) (4 : Int32) ) ?_
  intro p e s m below meth c s₁ Bd hx hby hml hZ hh hown hnm X0 e0
  have N0 := Fr.nil n0
  have K0 : Keep h0 h0 [x0] := Keep.refl h0 _
  refine own_st (T' := s₁) (g' := (mkF m 1 #[.val (.ref x0), .val (.ref b0), .val (.int 0), .val (.int 4), .val .null, .unset] [(.ref x0)])) (fun _ kt => XS.aloadN X0.here hx rfl (hb hby d2_0) rfl rfl kt) ?_
  obtain ⟨T966, X966, e966, st966⟩ := initO X0 hx hZ hown (own_k hw 13 rfl) (own_k hw 14 rfl) (own_k hw 15 rfl) e0 (g := (mkF m 1 #[.val (.ref x0), .val (.ref b0), .val (.int 0), .val (.int 4), .val .null, .unset] [(.ref x0)])) rfl hml.symm rfl (hb hby d2_1) (by decide) (W := 0) (own_w0 rfl rfl) (by decide)
  refine own_st (T' := T966) (g' := (mkF m 4 #[.val (.ref x0), .val (.ref b0), .val (.int 0), .val (.int 4), .val .null, .unset] [])) st966 ?_
  refine own_st (T' := T966) (g' := (mkF m 27 #[.val (.ref x0), .val (.ref b0), .val (.int 0), .val (.int 4), .val .null, .unset] [])) (fun _ kt => XS.iloadN X966.here hx rfl (hb hby d2_4) rfl (XS.ifYes X966.here hx rfl (pc0 := 5) (pc' := 27) rfl (hb hby d2_5) rfl (XT.i0_ne_t (by decide)) (by decide) (by decide) kt)) ?_
  obtain ⟨T967, X967, e967, st967⟩ := getS2 X966 hx hZ hown (host := "") (Or.inl (own_k hw 33 rfl)) Via.refl e966 (Sta.ext pr1.2 pr2) (g := (mkF m 27 #[.val (.ref x0), .val (.ref b0), .val (.int 0), .val (.int 4), .val .null, .unset] [])) rfl (hb hby d2_27)
  refine own_st (T' := T967) (g' := (mkF m 30 #[.val (.ref x0), .val (.ref b0), .val (.int 0), .val (.int 4), .val .null, .unset] [(.int zc)])) st967 ?_
  refine own_st (T' := T967) (g' := (mkF m 36 #[.val (.ref x0), .val (.ref b0), .val (.int 0), .val (.int 4), .val .null, .unset] [(.int 4), (.int 0), (.ref b0)])) (fun _ kt => XS.ifNo X967.here hx rfl (hb hby d2_30) rfl (XT.i0_eq_f pr3) (XS.aloadN X967.here hx rfl (hb hby d2_33) rfl rfl (XS.iloadN X967.here hx rfl (hb hby d2_34) rfl (XS.iloadN X967.here hx rfl (hb hby d2_35) rfl kt)))) ?_
  by_cases hf968 : (255 : Int32) < c0
  ·
    obtain ⟨_, _, ⟨T969, L969, k969, n969⟩, -, X969, ⟨Lc969, hQ969, l969, y969, z969⟩, st969⟩ := Jvm.LawKit.callS X967 hx (y := yN2) hown (mvT hZ (own_k hw 34 rfl)) (mvT hZ (own_k hw 35 rfl)) (mvT hZ (own_k hw 36 rfl)) (mvT hZ (own_k hw 37 rfl)) (by decide) (backOf (W := 0) (own_k3_4_0 l Z a0 hw [] b0 kc c0 c1 c2 c3 h0 n0 Z0 pr1 pr4 pr5 pr6 pr11 pr12 pr13 pr14 pr15 hf968) hZ (own_k hw 37 rfl) (own_k hw 36 rfl) (by decide) (by decide)) (g := (mkF m 36 #[.val (.ref x0), .val (.ref b0), .val (.int 0), .val (.int 4), .val .null, .unset] [(.int 4), (.int 0), (.ref b0)])) rfl hml.symm  (argsL := [(.ref b0), (.int 0), (.int 4)]) (rest := []) (lenOf own_pd14 rfl) rfl (own_w0 rfl rfl) (hb hby d2_36) (fun _ _ => ⟨rfl, e967, (by decide : 0 + 2 ≤ 3), (by decide : 0 + 12 ≤ 12)⟩)
    dsimp only [Pt.U, Pt.locs, Pt.cells, Pt.slots] at X969 l969 y969 z969 st969 hQ969
    subst l969 y969 z969
    obtain ⟨b_969, kb_969, rfl, N969, K969_, P970, P971⟩ := hQ969
    have N972 := Fr.app N0 N969
    have Z973 : n0 ≤ T969.heap.size := Nat.le_trans Z0 K969_.1
    have K973 : Keep h0 T969.heap [x0] := (Keep.trans K0 K969_ all0)
    have ne974 : x0 ≠ b_969 := Nat.ne_of_lt (Nat.lt_of_lt_of_le pr7.lt P971)
    have ne975 : b0 ≠ b_969 := Nat.ne_of_lt (Nat.lt_of_lt_of_le pr11.lt P971)
    have ge976 : n0 ≤ b_969 := Nat.le_trans Z0 P971
    refine own_st (T' := T969) (g' := (mkF m 39 #[.val (.ref x0), .val (.ref b0), .val (.int 0), .val (.int 4), .val .null, .unset] [(.ref b_969)])) st969 ?_
    refine own_st (T' := T969) (g' := (mkF m 45 #[.val (.ref x0), .val (.ref b0), .val (.int 0), .val (.int 4), .val .null, .val (.ref b_969)] [(.int 4), (.ref b_969), (.ref x0)])) (fun _ kt => XS.astore X969.here hx rfl (hb hby d2_39) rfl rfl (l' := #[.val (.ref x0), .val (.ref b0), .val (.int 0), .val (.int 4), .val .null, .val (.ref b_969)]) rfl (XS.aloadN X969.here hx rfl (hb hby d2_41) rfl rfl (XS.aload X969.here hx rfl (hb hby d2_42) rfl rfl (XS.iloadN X969.here hx rfl (hb hby d2_44) rfl kt)))) ?_
    obtain ⟨_, _, ⟨T977, L977, k977, n977⟩, -, X977, ⟨Lc977, hQ977, l977, y977, z977⟩, st977⟩ := Jvm.LawKit.callS X969 hx (y := yN3) hown (mvT hZ (own_k hw 41 rfl)) (mvT hZ (own_k hw 42 rfl)) (mvT hZ (own_k hw 36 rfl)) (mvT hZ (own_k hw 43 rfl)) (by decide) (backOf (W := 1) (own_cf4_1 l Z a0 hw [] b_969 kb_969 [(.int (own_lo c0)), (.int (own_hi c0)), (.int (own_lo c1)), (.int (own_hi c1)), (.int (own_lo c2)), (.int (own_hi c2)), (.int (own_lo c3)), (.int (own_hi c3))] T969.heap n0 Z973 P970) hZ (own_k hw 43 rfl) (own_k hw 36 rfl) (by decide) (by decide)) (g := (mkF m 45 #[.val (.ref x0), .val (.ref b0), .val (.int 0), .val (.int 4), .val .null, .val (.ref b_969)] [(.int 4), (.ref b_969), (.ref x0)])) rfl hml.symm  (argsL := [(.ref b_969), (.int 4)]) (rest := [(.ref x0)]) (lenOf own_pd15 rfl) rfl (own_w0 rfl rfl) (hb hby d2_45) (fun _ _ => ⟨rfl, rfl, (by decide : 2 + 0 ≤ 3), (by decide : 12 + 0 ≤ 12)⟩)
    dsimp only [Pt.U, Pt.locs, Pt.cells, Pt.slots] at X977 l977 y977 z977 st977 hQ977
    subst l977 y977 z977
    obtain ⟨rfl, N977, e977⟩ := hQ977
    have N978 := Fr.app N972 N977
    refine own_st (T' := T977) (g' := (mkF m 48 #[.val (.ref x0), .val (.ref b0), .val (.int 0), .val (.int 4), .val .null, .val (.ref b_969)] [(.int 1), (.ref x0)])) st977 ?_
    have F979 : Fld Z T969.heap x0 "java/lang/String" "coder" "B" (.int 0) := (Fld.keep pr10 K969_ nin0)
    have F980 : Exa Z T969.heap x0 "java/lang/String" := (Exa.keep pr7 K969_)
    obtain ⟨T981, h981, X981, e981, W981, st981⟩ := putF X977 hx hZ hown (host := "") (Or.inl (own_k hw 23 rfl)) Via.refl e977 F979 F980 (Or.inr ⟨(own_k hw 19 rfl), rfl, hnm⟩) (own_k hw 3 rfl) (ty := .byte) (by decide) rfl rfl (g := (mkF m 48 #[.val (.ref x0), .val (.ref b0), .val (.int 0), .val (.int 4), .val .null, .val (.ref b_969)] [(.int 1), (.ref x0)])) rfl rfl (hb hby d2_48)
    have N981 := Fr.snoc X981 N978 pr8
    have Z982 : n0 ≤ h981.size := Nat.le_trans Z973 (Nat.le_of_eq (Wr.size W981).symm)
    have K982 : Keep h0 h981 [x0] := (Keep.wr K973 W981 (Or.inl (List.mem_of_getElem? (i := 0) rfl)))
    have F983 : Fld Z h981 x0 "java/lang/String" "coder" "B" (.int 1) := Fld.same W981 F979
    refine own_st (T' := T981) (g' := (mkF m 51 #[.val (.ref x0), .val (.ref b0), .val (.int 0), .val (.int 4), .val .null, .val (.ref b_969)] [])) st981 ?_
    refine own_st (T' := T981) (g' := (mkF m 54 #[.val (.ref x0), .val (.ref b0), .val (.int 0), .val (.int 4), .val .null, .val (.ref b_969)] [(.ref b_969), (.ref x0)])) (fun _ kt => XS.aloadN X981.here hx rfl (hb hby d2_51) rfl rfl (XS.aload X981.here hx rfl (hb hby d2_52) rfl rfl kt)) ?_
    have F984 : Fld Z h981 x0 "java/lang/String" "value" "[B" .null := (Fld.other W981 (Fld.keep pr9 K969_ nin0) (Or.inr (slot_ne (Or.inr (own_k hw 18 rfl)) (Or.inr (own_k hw 19 rfl)) (by decide) (t := (.array .byte)) (t' := .byte) (by decide) (by decide))))
    have F985 : Exa Z h981 x0 "java/lang/String" := (Exa.wr W981 F980)
    obtain ⟨T986, h986, X986, e986, W986, st986⟩ := putF X981 hx hZ hown (host := "") (Or.inl (own_k hw 22 rfl)) Via.refl e981 F984 F985 (Or.inr ⟨(own_k hw 18 rfl), rfl, hnm⟩) (own_k hw 3 rfl) (ty := (.array .byte)) (by decide) rfl rfl (g := (mkF m 54 #[.val (.ref x0), .val (.ref b0), .val (.int 0), .val (.int 4), .val .null, .val (.ref b_969)] [(.ref b_969), (.ref x0)])) rfl rfl (hb hby d2_54)
    have N986 := Fr.snoc X986 N981 pr8
    have Z987 : n0 ≤ h986.size := Nat.le_trans Z982 (Nat.le_of_eq (Wr.size W986).symm)
    have K987 : Keep h0 h986 [x0] := (Keep.wr K982 W986 (Or.inl (List.mem_of_getElem? (i := 0) rfl)))
    have F988 : Fld Z h986 x0 "java/lang/String" "value" "[B" (.ref b_969) := Fld.same W986 F984
    refine own_st (T' := T986) (g' := (mkF m 57 #[.val (.ref x0), .val (.ref b0), .val (.int 0), .val (.int 4), .val .null, .val (.ref b_969)] [])) st986 ?_
    obtain ⟨fs, hr, hrun, hended, hW, hsame⟩ := X986.leave (v := none) (fun _ => rfl)
    refine own_end (X986.returnOut hx Bd.returns (hb hby d2_57) hr) ⟨_, hrun, hended, _, _, rfl, ?_, ⟨_, rfl⟩, hW, hsame.mono (by decide) (by decide)⟩
    have F989 : Arv Z h986 b_969 kb_969 .byte (8 : Int32) [(.int (own_lo c0)), (.int (own_hi c0)), (.int (own_lo c1)), (.int (own_hi c1)), (.int (own_lo c2)), (.int (own_hi c2)), (.int (own_lo c3)), (.int (own_hi c3))] (.int 0) := (Arv.other (Arv.other P970 W981 (Ne.symm ne974)) W986 (Ne.symm ne974))
    have F990 : Fld Z h986 x0 "java/lang/String" "coder" "B" (.int 1) := (Fld.other W986 F983 (Or.inr (slot_ne (Or.inr (own_k hw 19 rfl)) (Or.inr (own_k hw 18 rfl)) (by decide) (t := .byte) (t' := (.array .byte)) (by decide) (by decide))))
    have F991 : Exa Z h986 x0 "java/lang/String" := (Exa.wr W986 F985)
    show own_n4_4Q Z _ _ _ _ _ _ _ _ h0 n0 _ T986.heap _
    rw [e986]
    exact ⟨b_969, kb_969, (1 : Int32), (8 : Int32), [(.int (own_lo c0)), (.int (own_hi c0)), (.int (own_lo c1)), (.int (own_hi c1)), (.int (own_lo c2)), (.int (own_hi c2)), (.int (own_lo c3)), (.int (own_hi c3))], rfl, N986, K987, F991, F990, F988, F989, (Nat.le_trans K0.1 P971), (Or.inr ⟨rfl, rfl, rfl⟩)⟩
  ·
    by_cases hf992 : (255 : Int32) < c1
    ·
      obtain ⟨_, _, ⟨T993, L993, k993, n993⟩, -, X993, ⟨Lc993, hQ993, l993, y993, z993⟩, st993⟩ := Jvm.LawKit.callS X967 hx (y := yN2) hown (mvT hZ (own_k hw 34 rfl)) (mvT hZ (own_k hw 35 rfl)) (mvT hZ (own_k hw 36 rfl)) (mvT hZ (own_k hw 37 rfl)) (by decide) (backOf (W := 0) (own_k3_4_1 l Z a0 hw [] b0 kc c0 c1 c2 c3 h0 n0 Z0 pr1 pr4 pr5 pr6 pr11 pr12 pr13 pr14 pr15 hf968 hf992) hZ (own_k hw 37 rfl) (own_k hw 36 rfl) (by decide) (by decide)) (g := (mkF m 36 #[.val (.ref x0), .val (.ref b0), .val (.int 0), .val (.int 4), .val .null, .unset] [(.int 4), (.int 0), (.ref b0)])) rfl hml.symm  (argsL := [(.ref b0), (.int 0), (.int 4)]) (rest := []) (lenOf own_pd14 rfl) rfl (own_w0 rfl rfl) (hb hby d2_36) (fun _ _ => ⟨rfl, e967, (by decide : 0 + 2 ≤ 3), (by decide : 0 + 12 ≤ 12)⟩)
      dsimp only [Pt.U, Pt.locs, Pt.cells, Pt.slots] at X993 l993 y993 z993 st993 hQ993
      subst l993 y993 z993
      obtain ⟨b_993, kb_993, rfl, N993, K993_, P994, P995⟩ := hQ993
      have N996 := Fr.app N0 N993
      have Z997 : n0 ≤ T993.heap.size := Nat.le_trans Z0 K993_.1
      have K997 : Keep h0 T993.heap [x0] := (Keep.trans K0 K993_ all0)
      have ne998 : x0 ≠ b_993 := Nat.ne_of_lt (Nat.lt_of_lt_of_le pr7.lt P995)
      have ne999 : b0 ≠ b_993 := Nat.ne_of_lt (Nat.lt_of_lt_of_le pr11.lt P995)
      have ge1000 : n0 ≤ b_993 := Nat.le_trans Z0 P995
      refine own_st (T' := T993) (g' := (mkF m 39 #[.val (.ref x0), .val (.ref b0), .val (.int 0), .val (.int 4), .val .null, .unset] [(.ref b_993)])) st993 ?_
      refine own_st (T' := T993) (g' := (mkF m 45 #[.val (.ref x0), .val (.ref b0), .val (.int 0), .val (.int 4), .val .null, .val (.ref b_993)] [(.int 4), (.ref b_993), (.ref x0)])) (fun _ kt => XS.astore X993.here hx rfl (hb hby d2_39) rfl rfl (l' := #[.val (.ref x0), .val (.ref b0), .val (.int 0), .val (.int 4), .val .null, .val (.ref b_993)]) rfl (XS.aloadN X993.here hx rfl (hb hby d2_41) rfl rfl (XS.aload X993.here hx rfl (hb hby d2_42) rfl rfl (XS.iloadN X993.here hx rfl (hb hby d2_44) rfl kt)))) ?_
      obtain ⟨_, _, ⟨T1001, L1001, k1001, n1001⟩, -, X1001, ⟨Lc1001, hQ1001, l1001, y1001, z1001⟩, st1001⟩ := Jvm.LawKit.callS X993 hx (y := yN3) hown (mvT hZ (own_k hw 41 rfl)) (mvT hZ (own_k hw 42 rfl)) (mvT hZ (own_k hw 36 rfl)) (mvT hZ (own_k hw 43 rfl)) (by decide) (backOf (W := 1) (own_cf4_1 l Z a0 hw [] b_993 kb_993 [(.int (own_lo c0)), (.int (own_hi c0)), (.int (own_lo c1)), (.int (own_hi c1)), (.int (own_lo c2)), (.int (own_hi c2)), (.int (own_lo c3)), (.int (own_hi c3))] T993.heap n0 Z997 P994) hZ (own_k hw 43 rfl) (own_k hw 36 rfl) (by decide) (by decide)) (g := (mkF m 45 #[.val (.ref x0), .val (.ref b0), .val (.int 0), .val (.int 4), .val .null, .val (.ref b_993)] [(.int 4), (.ref b_993), (.ref x0)])) rfl hml.symm  (argsL := [(.ref b_993), (.int 4)]) (rest := [(.ref x0)]) (lenOf own_pd15 rfl) rfl (own_w0 rfl rfl) (hb hby d2_45) (fun _ _ => ⟨rfl, rfl, (by decide : 2 + 0 ≤ 3), (by decide : 12 + 0 ≤ 12)⟩)
      dsimp only [Pt.U, Pt.locs, Pt.cells, Pt.slots] at X1001 l1001 y1001 z1001 st1001 hQ1001
      subst l1001 y1001 z1001
      obtain ⟨rfl, N1001, e1001⟩ := hQ1001
      have N1002 := Fr.app N996 N1001
      refine own_st (T' := T1001) (g' := (mkF m 48 #[.val (.ref x0), .val (.ref b0), .val (.int 0), .val (.int 4), .val .null, .val (.ref b_993)] [(.int 1), (.ref x0)])) st1001 ?_
      have F1003 : Fld Z T993.heap x0 "java/lang/String" "coder" "B" (.int 0) := (Fld.keep pr10 K993_ nin0)
      have F1004 : Exa Z T993.heap x0 "java/lang/String" := (Exa.keep pr7 K993_)
      obtain ⟨T1005, h1005, X1005, e1005, W1005, st1005⟩ := putF X1001 hx hZ hown (host := "") (Or.inl (own_k hw 23 rfl)) Via.refl e1001 F1003 F1004 (Or.inr ⟨(own_k hw 19 rfl), rfl, hnm⟩) (own_k hw 3 rfl) (ty := .byte) (by decide) rfl rfl (g := (mkF m 48 #[.val (.ref x0), .val (.ref b0), .val (.int 0), .val (.int 4), .val .null, .val (.ref b_993)] [(.int 1), (.ref x0)])) rfl rfl (hb hby d2_48)
      have N1005 := Fr.snoc X1005 N1002 pr8
      have Z1006 : n0 ≤ h1005.size := Nat.le_trans Z997 (Nat.le_of_eq (Wr.size W1005).symm)
      have K1006 : Keep h0 h1005 [x0] := (Keep.wr K997 W1005 (Or.inl (List.mem_of_getElem? (i := 0) rfl)))
      have F1007 : Fld Z h1005 x0 "java/lang/String" "coder" "B" (.int 1) := Fld.same W1005 F1003
      refine own_st (T' := T1005) (g' := (mkF m 51 #[.val (.ref x0), .val (.ref b0), .val (.int 0), .val (.int 4), .val .null, .val (.ref b_993)] [])) st1005 ?_
      refine own_st (T' := T1005) (g' := (mkF m 54 #[.val (.ref x0), .val (.ref b0), .val (.int 0), .val (.int 4), .val .null, .val (.ref b_993)] [(.ref b_993), (.ref x0)])) (fun _ kt => XS.aloadN X1005.here hx rfl (hb hby d2_51) rfl rfl (XS.aload X1005.here hx rfl (hb hby d2_52) rfl rfl kt)) ?_
      have F1008 : Fld Z h1005 x0 "java/lang/String" "value" "[B" .null := (Fld.other W1005 (Fld.keep pr9 K993_ nin0) (Or.inr (slot_ne (Or.inr (own_k hw 18 rfl)) (Or.inr (own_k hw 19 rfl)) (by decide) (t := (.array .byte)) (t' := .byte) (by decide) (by decide))))
      have F1009 : Exa Z h1005 x0 "java/lang/String" := (Exa.wr W1005 F1004)
      obtain ⟨T1010, h1010, X1010, e1010, W1010, st1010⟩ := putF X1005 hx hZ hown (host := "") (Or.inl (own_k hw 22 rfl)) Via.refl e1005 F1008 F1009 (Or.inr ⟨(own_k hw 18 rfl), rfl, hnm⟩) (own_k hw 3 rfl) (ty := (.array .byte)) (by decide) rfl rfl (g := (mkF m 54 #[.val (.ref x0), .val (.ref b0), .val (.int 0), .val (.int 4), .val .null, .val (.ref b_993)] [(.ref b_993), (.ref x0)])) rfl rfl (hb hby d2_54)
      have N1010 := Fr.snoc X1010 N1005 pr8
      have Z1011 : n0 ≤ h1010.size := Nat.le_trans Z1006 (Nat.le_of_eq (Wr.size W1010).symm)
      have K1011 : Keep h0 h1010 [x0] := (Keep.wr K1006 W1010 (Or.inl (List.mem_of_getElem? (i := 0) rfl)))
      have F1012 : Fld Z h1010 x0 "java/lang/String" "value" "[B" (.ref b_993) := Fld.same W1010 F1008
      refine own_st (T' := T1010) (g' := (mkF m 57 #[.val (.ref x0), .val (.ref b0), .val (.int 0), .val (.int 4), .val .null, .val (.ref b_993)] [])) st1010 ?_
      obtain ⟨fs, hr, hrun, hended, hW, hsame⟩ := X1010.leave (v := none) (fun _ => rfl)
      refine own_end (X1010.returnOut hx Bd.returns (hb hby d2_57) hr) ⟨_, hrun, hended, _, _, rfl, ?_, ⟨_, rfl⟩, hW, hsame.mono (by decide) (by decide)⟩
      have F1013 : Arv Z h1010 b_993 kb_993 .byte (8 : Int32) [(.int (own_lo c0)), (.int (own_hi c0)), (.int (own_lo c1)), (.int (own_hi c1)), (.int (own_lo c2)), (.int (own_hi c2)), (.int (own_lo c3)), (.int (own_hi c3))] (.int 0) := (Arv.other (Arv.other P994 W1005 (Ne.symm ne998)) W1010 (Ne.symm ne998))
      have F1014 : Fld Z h1010 x0 "java/lang/String" "coder" "B" (.int 1) := (Fld.other W1010 F1007 (Or.inr (slot_ne (Or.inr (own_k hw 19 rfl)) (Or.inr (own_k hw 18 rfl)) (by decide) (t := .byte) (t' := (.array .byte)) (by decide) (by decide))))
      have F1015 : Exa Z h1010 x0 "java/lang/String" := (Exa.wr W1010 F1009)
      show own_n4_4Q Z _ _ _ _ _ _ _ _ h0 n0 _ T1010.heap _
      rw [e1010]
      exact ⟨b_993, kb_993, (1 : Int32), (8 : Int32), [(.int (own_lo c0)), (.int (own_hi c0)), (.int (own_lo c1)), (.int (own_hi c1)), (.int (own_lo c2)), (.int (own_hi c2)), (.int (own_lo c3)), (.int (own_hi c3))], rfl, N1010, K1011, F1015, F1014, F1012, F1013, (Nat.le_trans K0.1 P995), (Or.inr ⟨rfl, rfl, rfl⟩)⟩
    ·
      by_cases hf1016 : (255 : Int32) < c2
      ·
        obtain ⟨_, _, ⟨T1017, L1017, k1017, n1017⟩, -, X1017, ⟨Lc1017, hQ1017, l1017, y1017, z1017⟩, st1017⟩ := Jvm.LawKit.callS X967 hx (y := yN2) hown (mvT hZ (own_k hw 34 rfl)) (mvT hZ (own_k hw 35 rfl)) (mvT hZ (own_k hw 36 rfl)) (mvT hZ (own_k hw 37 rfl)) (by decide) (backOf (W := 0) (own_k3_4_2 l Z a0 hw [] b0 kc c0 c1 c2 c3 h0 n0 Z0 pr1 pr4 pr5 pr6 pr11 pr12 pr13 pr14 pr15 hf968 hf992 hf1016) hZ (own_k hw 37 rfl) (own_k hw 36 rfl) (by decide) (by decide)) (g := (mkF m 36 #[.val (.ref x0), .val (.ref b0), .val (.int 0), .val (.int 4), .val .null, .unset] [(.int 4), (.int 0), (.ref b0)])) rfl hml.symm  (argsL := [(.ref b0), (.int 0), (.int 4)]) (rest := []) (lenOf own_pd14 rfl) rfl (own_w0 rfl rfl) (hb hby d2_36) (fun _ _ => ⟨rfl, e967, (by decide : 0 + 2 ≤ 3), (by decide : 0 + 12 ≤ 12)⟩)
        dsimp only [Pt.U, Pt.locs, Pt.cells, Pt.slots] at X1017 l1017 y1017 z1017 st1017 hQ1017
        subst l1017 y1017 z1017
        obtain ⟨b_1017, kb_1017, rfl, N1017, K1017_, P1018, P1019⟩ := hQ1017
        have N1020 := Fr.app N0 N1017
        have Z1021 : n0 ≤ T1017.heap.size := Nat.le_trans Z0 K1017_.1
        have K1021 : Keep h0 T1017.heap [x0] := (Keep.trans K0 K1017_ all0)
        have ne1022 : x0 ≠ b_1017 := Nat.ne_of_lt (Nat.lt_of_lt_of_le pr7.lt P1019)
        have ne1023 : b0 ≠ b_1017 := Nat.ne_of_lt (Nat.lt_of_lt_of_le pr11.lt P1019)
        have ge1024 : n0 ≤ b_1017 := Nat.le_trans Z0 P1019
        refine own_st (T' := T1017) (g' := (mkF m 39 #[.val (.ref x0), .val (.ref b0), .val (.int 0), .val (.int 4), .val .null, .unset] [(.ref b_1017)])) st1017 ?_
        refine own_st (T' := T1017) (g' := (mkF m 45 #[.val (.ref x0), .val (.ref b0), .val (.int 0), .val (.int 4), .val .null, .val (.ref b_1017)] [(.int 4), (.ref b_1017), (.ref x0)])) (fun _ kt => XS.astore X1017.here hx rfl (hb hby d2_39) rfl rfl (l' := #[.val (.ref x0), .val (.ref b0), .val (.int 0), .val (.int 4), .val .null, .val (.ref b_1017)]) rfl (XS.aloadN X1017.here hx rfl (hb hby d2_41) rfl rfl (XS.aload X1017.here hx rfl (hb hby d2_42) rfl rfl (XS.iloadN X1017.here hx rfl (hb hby d2_44) rfl kt)))) ?_
        obtain ⟨_, _, ⟨T1025, L1025, k1025, n1025⟩, -, X1025, ⟨Lc1025, hQ1025, l1025, y1025, z1025⟩, st1025⟩ := Jvm.LawKit.callS X1017 hx (y := yN3) hown (mvT hZ (own_k hw 41 rfl)) (mvT hZ (own_k hw 42 rfl)) (mvT hZ (own_k hw 36 rfl)) (mvT hZ (own_k hw 43 rfl)) (by decide) (backOf (W := 1) (own_cf4_1 l Z a0 hw [] b_1017 kb_1017 [(.int (own_lo c0)), (.int (own_hi c0)), (.int (own_lo c1)), (.int (own_hi c1)), (.int (own_lo c2)), (.int (own_hi c2)), (.int (own_lo c3)), (.int (own_hi c3))] T1017.heap n0 Z1021 P1018) hZ (own_k hw 43 rfl) (own_k hw 36 rfl) (by decide) (by decide)) (g := (mkF m 45 #[.val (.ref x0), .val (.ref b0), .val (.int 0), .val (.int 4), .val .null, .val (.ref b_1017)] [(.int 4), (.ref b_1017), (.ref x0)])) rfl hml.symm  (argsL := [(.ref b_1017), (.int 4)]) (rest := [(.ref x0)]) (lenOf own_pd15 rfl) rfl (own_w0 rfl rfl) (hb hby d2_45) (fun _ _ => ⟨rfl, rfl, (by decide : 2 + 0 ≤ 3), (by decide : 12 + 0 ≤ 12)⟩)
        dsimp only [Pt.U, Pt.locs, Pt.cells, Pt.slots] at X1025 l1025 y1025 z1025 st1025 hQ1025
        subst l1025 y1025 z1025
        obtain ⟨rfl, N1025, e1025⟩ := hQ1025
        have N1026 := Fr.app N1020 N1025
        refine own_st (T' := T1025) (g' := (mkF m 48 #[.val (.ref x0), .val (.ref b0), .val (.int 0), .val (.int 4), .val .null, .val (.ref b_1017)] [(.int 1), (.ref x0)])) st1025 ?_
        have F1027 : Fld Z T1017.heap x0 "java/lang/String" "coder" "B" (.int 0) := (Fld.keep pr10 K1017_ nin0)
        have F1028 : Exa Z T1017.heap x0 "java/lang/String" := (Exa.keep pr7 K1017_)
        obtain ⟨T1029, h1029, X1029, e1029, W1029, st1029⟩ := putF X1025 hx hZ hown (host := "") (Or.inl (own_k hw 23 rfl)) Via.refl e1025 F1027 F1028 (Or.inr ⟨(own_k hw 19 rfl), rfl, hnm⟩) (own_k hw 3 rfl) (ty := .byte) (by decide) rfl rfl (g := (mkF m 48 #[.val (.ref x0), .val (.ref b0), .val (.int 0), .val (.int 4), .val .null, .val (.ref b_1017)] [(.int 1), (.ref x0)])) rfl rfl (hb hby d2_48)
        have N1029 := Fr.snoc X1029 N1026 pr8
        have Z1030 : n0 ≤ h1029.size := Nat.le_trans Z1021 (Nat.le_of_eq (Wr.size W1029).symm)
        have K1030 : Keep h0 h1029 [x0] := (Keep.wr K1021 W1029 (Or.inl (List.mem_of_getElem? (i := 0) rfl)))
        have F1031 : Fld Z h1029 x0 "java/lang/String" "coder" "B" (.int 1) := Fld.same W1029 F1027
        refine own_st (T' := T1029) (g' := (mkF m 51 #[.val (.ref x0), .val (.ref b0), .val (.int 0), .val (.int 4), .val .null, .val (.ref b_1017)] [])) st1029 ?_
        refine own_st (T' := T1029) (g' := (mkF m 54 #[.val (.ref x0), .val (.ref b0), .val (.int 0), .val (.int 4), .val .null, .val (.ref b_1017)] [(.ref b_1017), (.ref x0)])) (fun _ kt => XS.aloadN X1029.here hx rfl (hb hby d2_51) rfl rfl (XS.aload X1029.here hx rfl (hb hby d2_52) rfl rfl kt)) ?_
        have F1032 : Fld Z h1029 x0 "java/lang/String" "value" "[B" .null := (Fld.other W1029 (Fld.keep pr9 K1017_ nin0) (Or.inr (slot_ne (Or.inr (own_k hw 18 rfl)) (Or.inr (own_k hw 19 rfl)) (by decide) (t := (.array .byte)) (t' := .byte) (by decide) (by decide))))
        have F1033 : Exa Z h1029 x0 "java/lang/String" := (Exa.wr W1029 F1028)
        obtain ⟨T1034, h1034, X1034, e1034, W1034, st1034⟩ := putF X1029 hx hZ hown (host := "") (Or.inl (own_k hw 22 rfl)) Via.refl e1029 F1032 F1033 (Or.inr ⟨(own_k hw 18 rfl), rfl, hnm⟩) (own_k hw 3 rfl) (ty := (.array .byte)) (by decide) rfl rfl (g := (mkF m 54 #[.val (.ref x0), .val (.ref b0), .val (.int 0), .val (.int 4), .val .null, .val (.ref b_1017)] [(.ref b_1017), (.ref x0)])) rfl rfl (hb hby d2_54)
        have N1034 := Fr.snoc X1034 N1029 pr8
        have Z1035 : n0 ≤ h1034.size := Nat.le_trans Z1030 (Nat.le_of_eq (Wr.size W1034).symm)
        have K1035 : Keep h0 h1034 [x0] := (Keep.wr K1030 W1034 (Or.inl (List.mem_of_getElem? (i := 0) rfl)))
        have F1036 : Fld Z h1034 x0 "java/lang/String" "value" "[B" (.ref b_1017) := Fld.same W1034 F1032
        refine own_st (T' := T1034) (g' := (mkF m 57 #[.val (.ref x0), .val (.ref b0), .val (.int 0), .val (.int 4), .val .null, .val (.ref b_1017)] [])) st1034 ?_
        obtain ⟨fs, hr, hrun, hended, hW, hsame⟩ := X1034.leave (v := none) (fun _ => rfl)
        refine own_end (X1034.returnOut hx Bd.returns (hb hby d2_57) hr) ⟨_, hrun, hended, _, _, rfl, ?_, ⟨_, rfl⟩, hW, hsame.mono (by decide) (by decide)⟩
        have F1037 : Arv Z h1034 b_1017 kb_1017 .byte (8 : Int32) [(.int (own_lo c0)), (.int (own_hi c0)), (.int (own_lo c1)), (.int (own_hi c1)), (.int (own_lo c2)), (.int (own_hi c2)), (.int (own_lo c3)), (.int (own_hi c3))] (.int 0) := (Arv.other (Arv.other P1018 W1029 (Ne.symm ne1022)) W1034 (Ne.symm ne1022))
        have F1038 : Fld Z h1034 x0 "java/lang/String" "coder" "B" (.int 1) := (Fld.other W1034 F1031 (Or.inr (slot_ne (Or.inr (own_k hw 19 rfl)) (Or.inr (own_k hw 18 rfl)) (by decide) (t := .byte) (t' := (.array .byte)) (by decide) (by decide))))
        have F1039 : Exa Z h1034 x0 "java/lang/String" := (Exa.wr W1034 F1033)
        show own_n4_4Q Z _ _ _ _ _ _ _ _ h0 n0 _ T1034.heap _
        rw [e1034]
        exact ⟨b_1017, kb_1017, (1 : Int32), (8 : Int32), [(.int (own_lo c0)), (.int (own_hi c0)), (.int (own_lo c1)), (.int (own_hi c1)), (.int (own_lo c2)), (.int (own_hi c2)), (.int (own_lo c3)), (.int (own_hi c3))], rfl, N1034, K1035, F1039, F1038, F1036, F1037, (Nat.le_trans K0.1 P1019), (Or.inr ⟨rfl, rfl, rfl⟩)⟩
      ·
        by_cases hf1040 : (255 : Int32) < c3
        ·
          obtain ⟨_, _, ⟨T1041, L1041, k1041, n1041⟩, -, X1041, ⟨Lc1041, hQ1041, l1041, y1041, z1041⟩, st1041⟩ := Jvm.LawKit.callS X967 hx (y := yN2) hown (mvT hZ (own_k hw 34 rfl)) (mvT hZ (own_k hw 35 rfl)) (mvT hZ (own_k hw 36 rfl)) (mvT hZ (own_k hw 37 rfl)) (by decide) (backOf (W := 0) (own_k3_4_3 l Z a0 hw [] b0 kc c0 c1 c2 c3 h0 n0 Z0 pr1 pr4 pr5 pr6 pr11 pr12 pr13 pr14 pr15 hf968 hf992 hf1016 hf1040) hZ (own_k hw 37 rfl) (own_k hw 36 rfl) (by decide) (by decide)) (g := (mkF m 36 #[.val (.ref x0), .val (.ref b0), .val (.int 0), .val (.int 4), .val .null, .unset] [(.int 4), (.int 0), (.ref b0)])) rfl hml.symm  (argsL := [(.ref b0), (.int 0), (.int 4)]) (rest := []) (lenOf own_pd14 rfl) rfl (own_w0 rfl rfl) (hb hby d2_36) (fun _ _ => ⟨rfl, e967, (by decide : 0 + 2 ≤ 3), (by decide : 0 + 12 ≤ 12)⟩)
          dsimp only [Pt.U, Pt.locs, Pt.cells, Pt.slots] at X1041 l1041 y1041 z1041 st1041 hQ1041
          subst l1041 y1041 z1041
          obtain ⟨b_1041, kb_1041, rfl, N1041, K1041_, P1042, P1043⟩ := hQ1041
          have N1044 := Fr.app N0 N1041
          have Z1045 : n0 ≤ T1041.heap.size := Nat.le_trans Z0 K1041_.1
          have K1045 : Keep h0 T1041.heap [x0] := (Keep.trans K0 K1041_ all0)
          have ne1046 : x0 ≠ b_1041 := Nat.ne_of_lt (Nat.lt_of_lt_of_le pr7.lt P1043)
          have ne1047 : b0 ≠ b_1041 := Nat.ne_of_lt (Nat.lt_of_lt_of_le pr11.lt P1043)
          have ge1048 : n0 ≤ b_1041 := Nat.le_trans Z0 P1043
          refine own_st (T' := T1041) (g' := (mkF m 39 #[.val (.ref x0), .val (.ref b0), .val (.int 0), .val (.int 4), .val .null, .unset] [(.ref b_1041)])) st1041 ?_
          refine own_st (T' := T1041) (g' := (mkF m 45 #[.val (.ref x0), .val (.ref b0), .val (.int 0), .val (.int 4), .val .null, .val (.ref b_1041)] [(.int 4), (.ref b_1041), (.ref x0)])) (fun _ kt => XS.astore X1041.here hx rfl (hb hby d2_39) rfl rfl (l' := #[.val (.ref x0), .val (.ref b0), .val (.int 0), .val (.int 4), .val .null, .val (.ref b_1041)]) rfl (XS.aloadN X1041.here hx rfl (hb hby d2_41) rfl rfl (XS.aload X1041.here hx rfl (hb hby d2_42) rfl rfl (XS.iloadN X1041.here hx rfl (hb hby d2_44) rfl kt)))) ?_
          obtain ⟨_, _, ⟨T1049, L1049, k1049, n1049⟩, -, X1049, ⟨Lc1049, hQ1049, l1049, y1049, z1049⟩, st1049⟩ := Jvm.LawKit.callS X1041 hx (y := yN3) hown (mvT hZ (own_k hw 41 rfl)) (mvT hZ (own_k hw 42 rfl)) (mvT hZ (own_k hw 36 rfl)) (mvT hZ (own_k hw 43 rfl)) (by decide) (backOf (W := 1) (own_cf4_1 l Z a0 hw [] b_1041 kb_1041 [(.int (own_lo c0)), (.int (own_hi c0)), (.int (own_lo c1)), (.int (own_hi c1)), (.int (own_lo c2)), (.int (own_hi c2)), (.int (own_lo c3)), (.int (own_hi c3))] T1041.heap n0 Z1045 P1042) hZ (own_k hw 43 rfl) (own_k hw 36 rfl) (by decide) (by decide)) (g := (mkF m 45 #[.val (.ref x0), .val (.ref b0), .val (.int 0), .val (.int 4), .val .null, .val (.ref b_1041)] [(.int 4), (.ref b_1041), (.ref x0)])) rfl hml.symm  (argsL := [(.ref b_1041), (.int 4)]) (rest := [(.ref x0)]) (lenOf own_pd15 rfl) rfl (own_w0 rfl rfl) (hb hby d2_45) (fun _ _ => ⟨rfl, rfl, (by decide : 2 + 0 ≤ 3), (by decide : 12 + 0 ≤ 12)⟩)
          dsimp only [Pt.U, Pt.locs, Pt.cells, Pt.slots] at X1049 l1049 y1049 z1049 st1049 hQ1049
          subst l1049 y1049 z1049
          obtain ⟨rfl, N1049, e1049⟩ := hQ1049
          have N1050 := Fr.app N1044 N1049
          refine own_st (T' := T1049) (g' := (mkF m 48 #[.val (.ref x0), .val (.ref b0), .val (.int 0), .val (.int 4), .val .null, .val (.ref b_1041)] [(.int 1), (.ref x0)])) st1049 ?_
          have F1051 : Fld Z T1041.heap x0 "java/lang/String" "coder" "B" (.int 0) := (Fld.keep pr10 K1041_ nin0)
          have F1052 : Exa Z T1041.heap x0 "java/lang/String" := (Exa.keep pr7 K1041_)
          obtain ⟨T1053, h1053, X1053, e1053, W1053, st1053⟩ := putF X1049 hx hZ hown (host := "") (Or.inl (own_k hw 23 rfl)) Via.refl e1049 F1051 F1052 (Or.inr ⟨(own_k hw 19 rfl), rfl, hnm⟩) (own_k hw 3 rfl) (ty := .byte) (by decide) rfl rfl (g := (mkF m 48 #[.val (.ref x0), .val (.ref b0), .val (.int 0), .val (.int 4), .val .null, .val (.ref b_1041)] [(.int 1), (.ref x0)])) rfl rfl (hb hby d2_48)
          have N1053 := Fr.snoc X1053 N1050 pr8
          have Z1054 : n0 ≤ h1053.size := Nat.le_trans Z1045 (Nat.le_of_eq (Wr.size W1053).symm)
          have K1054 : Keep h0 h1053 [x0] := (Keep.wr K1045 W1053 (Or.inl (List.mem_of_getElem? (i := 0) rfl)))
          have F1055 : Fld Z h1053 x0 "java/lang/String" "coder" "B" (.int 1) := Fld.same W1053 F1051
          refine own_st (T' := T1053) (g' := (mkF m 51 #[.val (.ref x0), .val (.ref b0), .val (.int 0), .val (.int 4), .val .null, .val (.ref b_1041)] [])) st1053 ?_
          refine own_st (T' := T1053) (g' := (mkF m 54 #[.val (.ref x0), .val (.ref b0), .val (.int 0), .val (.int 4), .val .null, .val (.ref b_1041)] [(.ref b_1041), (.ref x0)])) (fun _ kt => XS.aloadN X1053.here hx rfl (hb hby d2_51) rfl rfl (XS.aload X1053.here hx rfl (hb hby d2_52) rfl rfl kt)) ?_
          have F1056 : Fld Z h1053 x0 "java/lang/String" "value" "[B" .null := (Fld.other W1053 (Fld.keep pr9 K1041_ nin0) (Or.inr (slot_ne (Or.inr (own_k hw 18 rfl)) (Or.inr (own_k hw 19 rfl)) (by decide) (t := (.array .byte)) (t' := .byte) (by decide) (by decide))))
          have F1057 : Exa Z h1053 x0 "java/lang/String" := (Exa.wr W1053 F1052)
          obtain ⟨T1058, h1058, X1058, e1058, W1058, st1058⟩ := putF X1053 hx hZ hown (host := "") (Or.inl (own_k hw 22 rfl)) Via.refl e1053 F1056 F1057 (Or.inr ⟨(own_k hw 18 rfl), rfl, hnm⟩) (own_k hw 3 rfl) (ty := (.array .byte)) (by decide) rfl rfl (g := (mkF m 54 #[.val (.ref x0), .val (.ref b0), .val (.int 0), .val (.int 4), .val .null, .val (.ref b_1041)] [(.ref b_1041), (.ref x0)])) rfl rfl (hb hby d2_54)
          have N1058 := Fr.snoc X1058 N1053 pr8
          have Z1059 : n0 ≤ h1058.size := Nat.le_trans Z1054 (Nat.le_of_eq (Wr.size W1058).symm)
          have K1059 : Keep h0 h1058 [x0] := (Keep.wr K1054 W1058 (Or.inl (List.mem_of_getElem? (i := 0) rfl)))
          have F1060 : Fld Z h1058 x0 "java/lang/String" "value" "[B" (.ref b_1041) := Fld.same W1058 F1056
          refine own_st (T' := T1058) (g' := (mkF m 57 #[.val (.ref x0), .val (.ref b0), .val (.int 0), .val (.int 4), .val .null, .val (.ref b_1041)] [])) st1058 ?_
          obtain ⟨fs, hr, hrun, hended, hW, hsame⟩ := X1058.leave (v := none) (fun _ => rfl)
          refine own_end (X1058.returnOut hx Bd.returns (hb hby d2_57) hr) ⟨_, hrun, hended, _, _, rfl, ?_, ⟨_, rfl⟩, hW, hsame.mono (by decide) (by decide)⟩
          have F1061 : Arv Z h1058 b_1041 kb_1041 .byte (8 : Int32) [(.int (own_lo c0)), (.int (own_hi c0)), (.int (own_lo c1)), (.int (own_hi c1)), (.int (own_lo c2)), (.int (own_hi c2)), (.int (own_lo c3)), (.int (own_hi c3))] (.int 0) := (Arv.other (Arv.other P1042 W1053 (Ne.symm ne1046)) W1058 (Ne.symm ne1046))
          have F1062 : Fld Z h1058 x0 "java/lang/String" "coder" "B" (.int 1) := (Fld.other W1058 F1055 (Or.inr (slot_ne (Or.inr (own_k hw 19 rfl)) (Or.inr (own_k hw 18 rfl)) (by decide) (t := .byte) (t' := (.array .byte)) (by decide) (by decide))))
          have F1063 : Exa Z h1058 x0 "java/lang/String" := (Exa.wr W1058 F1057)
          show own_n4_4Q Z _ _ _ _ _ _ _ _ h0 n0 _ T1058.heap _
          rw [e1058]
          exact ⟨b_1041, kb_1041, (1 : Int32), (8 : Int32), [(.int (own_lo c0)), (.int (own_hi c0)), (.int (own_lo c1)), (.int (own_hi c1)), (.int (own_lo c2)), (.int (own_hi c2)), (.int (own_lo c3)), (.int (own_hi c3))], rfl, N1058, K1059, F1063, F1062, F1060, F1061, (Nat.le_trans K0.1 P1043), (Or.inr ⟨rfl, rfl, rfl⟩)⟩
        ·
          obtain ⟨_, _, ⟨T1064, L1064, k1064, n1064⟩, -, X1064, ⟨Lc1064, hQ1064, l1064, y1064, z1064⟩, st1064⟩ := Jvm.LawKit.callS X967 hx (y := yN2) hown (mvT hZ (own_k hw 34 rfl)) (mvT hZ (own_k hw 35 rfl)) (mvT hZ (own_k hw 36 rfl)) (mvT hZ (own_k hw 37 rfl)) (by decide) (backOf (W := 0) (own_k3_4_4 l Z a0 hw [] b0 kc c0 c1 c2 c3 h0 n0 Z0 pr1 pr4 pr5 pr6 pr11 pr12 pr13 pr14 pr15 hf968 hf992 hf1016 hf1040) hZ (own_k hw 37 rfl) (own_k hw 36 rfl) (by decide) (by decide)) (g := (mkF m 36 #[.val (.ref x0), .val (.ref b0), .val (.int 0), .val (.int 4), .val .null, .unset] [(.int 4), (.int 0), (.ref b0)])) rfl hml.symm  (argsL := [(.ref b0), (.int 0), (.int 4)]) (rest := []) (lenOf own_pd14 rfl) rfl (own_w0 rfl rfl) (hb hby d2_36) (fun _ _ => ⟨rfl, e967, (by decide : 0 + 1 ≤ 3), (by decide : 0 + 4 ≤ 12)⟩)
          dsimp only [Pt.U, Pt.locs, Pt.cells, Pt.slots] at X1064 l1064 y1064 z1064 st1064 hQ1064
          subst l1064 y1064 z1064
          obtain ⟨b_1064, kb_1064, rfl, N1064, K1064_, P1065, P1066⟩ := hQ1064
          have N1067 := Fr.app N0 N1064
          have Z1068 : n0 ≤ T1064.heap.size := Nat.le_trans Z0 K1064_.1
          have K1068 : Keep h0 T1064.heap [x0] := (Keep.trans K0 K1064_ all0)
          have ne1069 : x0 ≠ b_1064 := Nat.ne_of_lt (Nat.lt_of_lt_of_le pr7.lt P1066)
          have ne1070 : b0 ≠ b_1064 := Nat.ne_of_lt (Nat.lt_of_lt_of_le pr11.lt P1066)
          have ge1071 : n0 ≤ b_1064 := Nat.le_trans Z0 P1066
          refine own_st (T' := T1064) (g' := (mkF m 39 #[.val (.ref x0), .val (.ref b0), .val (.int 0), .val (.int 4), .val .null, .unset] [(.ref b_1064)])) st1064 ?_
          refine own_st (T' := T1064) (g' := (mkF m 45 #[.val (.ref x0), .val (.ref b0), .val (.int 0), .val (.int 4), .val .null, .val (.ref b_1064)] [(.int 4), (.ref b_1064), (.ref x0)])) (fun _ kt => XS.astore X1064.here hx rfl (hb hby d2_39) rfl rfl (l' := #[.val (.ref x0), .val (.ref b0), .val (.int 0), .val (.int 4), .val .null, .val (.ref b_1064)]) rfl (XS.aloadN X1064.here hx rfl (hb hby d2_41) rfl rfl (XS.aload X1064.here hx rfl (hb hby d2_42) rfl rfl (XS.iloadN X1064.here hx rfl (hb hby d2_44) rfl kt)))) ?_
          obtain ⟨_, _, ⟨T1072, L1072, k1072, n1072⟩, -, X1072, ⟨Lc1072, hQ1072, l1072, y1072, z1072⟩, st1072⟩ := Jvm.LawKit.callS X1064 hx (y := yN3) hown (mvT hZ (own_k hw 41 rfl)) (mvT hZ (own_k hw 42 rfl)) (mvT hZ (own_k hw 36 rfl)) (mvT hZ (own_k hw 43 rfl)) (by decide) (backOf (W := 1) (own_cf4_0 l Z a0 hw [] b_1064 kb_1064 [(.int c0.toInt8.toInt32), (.int c1.toInt8.toInt32), (.int c2.toInt8.toInt32), (.int c3.toInt8.toInt32)] T1064.heap n0 Z1068 P1065) hZ (own_k hw 43 rfl) (own_k hw 36 rfl) (by decide) (by decide)) (g := (mkF m 45 #[.val (.ref x0), .val (.ref b0), .val (.int 0), .val (.int 4), .val .null, .val (.ref b_1064)] [(.int 4), (.ref b_1064), (.ref x0)])) rfl hml.symm  (argsL := [(.ref b_1064), (.int 4)]) (rest := [(.ref x0)]) (lenOf own_pd15 rfl) rfl (own_w0 rfl rfl) (hb hby d2_45) (fun _ _ => ⟨rfl, rfl, (by decide : 1 + 0 ≤ 3), (by decide : 4 + 0 ≤ 12)⟩)
          dsimp only [Pt.U, Pt.locs, Pt.cells, Pt.slots] at X1072 l1072 y1072 z1072 st1072 hQ1072
          subst l1072 y1072 z1072
          obtain ⟨rfl, N1072, e1072⟩ := hQ1072
          have N1073 := Fr.app N1067 N1072
          refine own_st (T' := T1072) (g' := (mkF m 48 #[.val (.ref x0), .val (.ref b0), .val (.int 0), .val (.int 4), .val .null, .val (.ref b_1064)] [(.int 0), (.ref x0)])) st1072 ?_
          have F1074 : Fld Z T1064.heap x0 "java/lang/String" "coder" "B" (.int 0) := (Fld.keep pr10 K1064_ nin0)
          have F1075 : Exa Z T1064.heap x0 "java/lang/String" := (Exa.keep pr7 K1064_)
          obtain ⟨T1076, h1076, X1076, e1076, W1076, st1076⟩ := putF X1072 hx hZ hown (host := "") (Or.inl (own_k hw 23 rfl)) Via.refl e1072 F1074 F1075 (Or.inr ⟨(own_k hw 19 rfl), rfl, hnm⟩) (own_k hw 3 rfl) (ty := .byte) (by decide) rfl rfl (g := (mkF m 48 #[.val (.ref x0), .val (.ref b0), .val (.int 0), .val (.int 4), .val .null, .val (.ref b_1064)] [(.int 0), (.ref x0)])) rfl rfl (hb hby d2_48)
          have N1076 := Fr.snoc X1076 N1073 pr8
          have Z1077 : n0 ≤ h1076.size := Nat.le_trans Z1068 (Nat.le_of_eq (Wr.size W1076).symm)
          have K1077 : Keep h0 h1076 [x0] := (Keep.wr K1068 W1076 (Or.inl (List.mem_of_getElem? (i := 0) rfl)))
          have F1078 : Fld Z h1076 x0 "java/lang/String" "coder" "B" (.int 0) := Fld.same W1076 F1074
          refine own_st (T' := T1076) (g' := (mkF m 51 #[.val (.ref x0), .val (.ref b0), .val (.int 0), .val (.int 4), .val .null, .val (.ref b_1064)] [])) st1076 ?_
          refine own_st (T' := T1076) (g' := (mkF m 54 #[.val (.ref x0), .val (.ref b0), .val (.int 0), .val (.int 4), .val .null, .val (.ref b_1064)] [(.ref b_1064), (.ref x0)])) (fun _ kt => XS.aloadN X1076.here hx rfl (hb hby d2_51) rfl rfl (XS.aload X1076.here hx rfl (hb hby d2_52) rfl rfl kt)) ?_
          have F1079 : Fld Z h1076 x0 "java/lang/String" "value" "[B" .null := (Fld.other W1076 (Fld.keep pr9 K1064_ nin0) (Or.inr (slot_ne (Or.inr (own_k hw 18 rfl)) (Or.inr (own_k hw 19 rfl)) (by decide) (t := (.array .byte)) (t' := .byte) (by decide) (by decide))))
          have F1080 : Exa Z h1076 x0 "java/lang/String" := (Exa.wr W1076 F1075)
          obtain ⟨T1081, h1081, X1081, e1081, W1081, st1081⟩ := putF X1076 hx hZ hown (host := "") (Or.inl (own_k hw 22 rfl)) Via.refl e1076 F1079 F1080 (Or.inr ⟨(own_k hw 18 rfl), rfl, hnm⟩) (own_k hw 3 rfl) (ty := (.array .byte)) (by decide) rfl rfl (g := (mkF m 54 #[.val (.ref x0), .val (.ref b0), .val (.int 0), .val (.int 4), .val .null, .val (.ref b_1064)] [(.ref b_1064), (.ref x0)])) rfl rfl (hb hby d2_54)
          have N1081 := Fr.snoc X1081 N1076 pr8
          have Z1082 : n0 ≤ h1081.size := Nat.le_trans Z1077 (Nat.le_of_eq (Wr.size W1081).symm)
          have K1082 : Keep h0 h1081 [x0] := (Keep.wr K1077 W1081 (Or.inl (List.mem_of_getElem? (i := 0) rfl)))
          have F1083 : Fld Z h1081 x0 "java/lang/String" "value" "[B" (.ref b_1064) := Fld.same W1081 F1079
          refine own_st (T' := T1081) (g' := (mkF m 57 #[.val (.ref x0), .val (.ref b0), .val (.int 0), .val (.int 4), .val .null, .val (.ref b_1064)] [])) st1081 ?_
          obtain ⟨fs, hr, hrun, hended, hW, hsame⟩ := X1081.leave (v := none) (fun _ => rfl)
          refine own_end (X1081.returnOut hx Bd.returns (hb hby d2_57) hr) ⟨_, hrun, hended, _, _, rfl, ?_, ⟨_, rfl⟩, hW, hsame.mono (by decide) (by decide)⟩
          have F1084 : Arv Z h1081 b_1064 kb_1064 .byte (4 : Int32) [(.int c0.toInt8.toInt32), (.int c1.toInt8.toInt32), (.int c2.toInt8.toInt32), (.int c3.toInt8.toInt32)] (.int 0) := (Arv.other (Arv.other P1065 W1076 (Ne.symm ne1069)) W1081 (Ne.symm ne1069))
          have F1085 : Fld Z h1081 x0 "java/lang/String" "coder" "B" (.int 0) := (Fld.other W1081 F1078 (Or.inr (slot_ne (Or.inr (own_k hw 19 rfl)) (Or.inr (own_k hw 18 rfl)) (by decide) (t := .byte) (t' := (.array .byte)) (by decide) (by decide))))
          have F1086 : Exa Z h1081 x0 "java/lang/String" := (Exa.wr W1081 F1080)
          show own_n4_4Q Z _ _ _ _ _ _ _ _ h0 n0 _ T1081.heap _
          rw [e1081]
          exact ⟨b_1064, kb_1064, (0 : Int32), (4 : Int32), [(.int c0.toInt8.toInt32), (.int c1.toInt8.toInt32), (.int c2.toInt8.toInt32), (.int c3.toInt8.toInt32)], rfl, N1081, K1082, F1086, F1085, F1083, F1084, (Nat.le_trans K0.1 P1066), (Or.inl ⟨rfl, rfl, rfl, hf968, hf992, hf1016, hf1040⟩)⟩
def own_n1_4Q (Z : State) (x0 : Addr) (b0 : Addr) (zc : Int32) (kc : ClassId) (c0 : Int32) (c1 : Int32) (c2 : Int32) (c3 : Int32) (h0 : Heap) (n0 : Nat) (v : Option Value) (h : Heap) (L : List Loc) : Prop := ∃ (t : Addr), ∃ (kb : ClassId), ∃ (cd : Int32), ∃ (zz : Int32), ∃ (vl : List Value), v = none ∧ Fr n0 L ∧ Keep h0 h [x0] ∧ (Exa Z h x0 "java/lang/String") ∧ (Fld Z h x0 "java/lang/String" "coder" "B" (.int cd)) ∧ (Fld Z h x0 "java/lang/String" "value" "[B" (.ref t)) ∧ (Arv Z h t kb .byte zz vl (.int 0)) ∧ (h0.size ≤ t) ∧ ((cd = 0 ∧ zz = 4 ∧ vl = [(.int c0.toInt8.toInt32), (.int c1.toInt8.toInt32), (.int c2.toInt8.toInt32), (.int c3.toInt8.toInt32)] ∧ ¬ (255 : Int32) < c0 ∧ ¬ (255 : Int32) < c1 ∧ ¬ (255 : Int32) < c2 ∧ ¬ (255 : Int32) < c3) ∨ (cd = 1 ∧ zz = 8 ∧ vl = [(.int (own_lo c0)), (.int (own_hi c0)), (.int (own_lo c1)), (.int (own_hi c1)), (.int (own_lo c2)), (.int (own_hi c2)), (.int (own_lo c3)), (.int (own_hi c3))]))
abbrev own_n1_4R : Room := { frames := 5, cells := 3, slots := 12, locals := 140 }
theorem own_n1_4 (l : Launch) (Z : State) (a0 : Array Value) (hw : ∀ d ∈ tables_1, d.before a0 Z = true) (ws : List Jvm.Cond) (x0 : Addr) (b0 : Addr) (zc : Int32) (kc : ClassId) (c0 : Int32) (c1 : Int32) (c2 : Int32) (c3 : Int32) (h0 : Heap) (n0 : Nat) (Z0 : n0 ≤ h0.size) (pr1 : Old Z n0 h0) (pr2 : Sta Z Z.heap "java/lang/String" "COMPACT_STRINGS" "Z" (.int zc)) (pr3 : ¬ zc = 0) (pr4 : Sta Z Z.heap "java/lang/StringUTF16" "$assertionsDisabled" "Z" (.int 1)) (pr5 : Sta Z Z.heap "java/lang/StringUTF16" "HI_BYTE_SHIFT" "I" (.int 0)) (pr6 : Sta Z Z.heap "java/lang/StringUTF16" "LO_BYTE_SHIFT" "I" (.int 8)) (pr7 : Exa Z h0 x0 "java/lang/String") (pr8 : n0 ≤ x0) (pr9 : Fld Z h0 x0 "java/lang/String" "value" "[B" .null) (pr10 : Fld Z h0 x0 "java/lang/String" "coder" "B" (.int 0)) (pr11 : Arv Z h0 b0 kc .char (4 : Int32) [(.int c0), (.int c1), (.int c2), (.int c3)] (.int 0)) (pr12 : own_c16 c0) (pr13 : own_c16 c1) (pr14 : own_c16 c2) (pr15 : own_c16 c3) :
    own_M l yN12 jdk_42_method_3_code 2 none ws own_n1_4R #[(.ref x0), (.ref b0)] Z h0 (own_n1_4Q Z x0 b0 zc kc c0 c1 c2 c3 h0 n0) := by
  refine own_go (plainFor_of_name own_pn2) (fun m => own_ef13 m x0 b0 ) ?_
  intro p e s m below meth c s₁ Bd hx hby hml hZ hh hown hnm X0 e0
  have N0 := Fr.nil n0
  have K0 : Keep h0 h0 [x0] := Keep.refl h0 _
  refine own_st (T' := s₁) (g' := (mkF m 4 #[.val (.ref x0), .val (.ref b0)] [(.ref b0), (.int 0), (.ref b0), (.ref x0)])) (fun _ kt => XS.aloadN X0.here hx rfl (hb hby d1_0) rfl rfl (XS.aloadN X0.here hx rfl (hb hby d1_1) rfl rfl (XS.iconst X0.here hx rfl (hb hby d1_2) (XS.aloadN X0.here hx rfl (hb hby d1_3) rfl rfl kt)))) ?_
  refine own_st (T' := s₁) (g' := (mkF m 5 #[.val (.ref x0), .val (.ref b0)] [(.int 4), (.int 0), (.ref b0), (.ref x0)])) (own_alen X0 hx hZ e0 pr11 (g := (mkF m 4 #[.val (.ref x0), .val (.ref b0)] [(.ref b0), (.int 0), (.ref b0), (.ref x0)])) rfl rfl (hb hby d1_4)) ?_
  refine own_st (T' := s₁) (g' := (mkF m 6 #[.val (.ref x0), .val (.ref b0)] [.null, (.int 4), (.int 0), (.ref b0), (.ref x0)])) (fun _ kt => XS.aconstNull X0.here hx rfl (hb hby d1_5) kt) ?_
  obtain ⟨_, _, ⟨T1087, L1087, k1087, n1087⟩, -, X1087, ⟨Lc1087, hQ1087, l1087, y1087, z1087⟩, st1087⟩ := X0.specialBack hx (y := yN11) rfl hown (mvT hZ (own_k hw 9 rfl)) (mvT hZ (own_k hw 10 rfl)) (mvT hZ (own_k hw 12 rfl)) (by decide) (backOf (W := 0) (own_n4_4 l Z a0 hw [] x0 b0 zc kc c0 c1 c2 c3 h0 n0 Z0 pr1 pr2 pr3 pr4 pr5 pr6 pr7 pr8 pr9 pr10 pr11 pr12 pr13 pr14 pr15) hZ (own_k hw 12 rfl) (own_k hw 4 rfl) (by decide) (by decide)) (g := (mkF m 6 #[.val (.ref x0), .val (.ref b0)] [.null, (.int 4), (.int 0), (.ref b0), (.ref x0)])) rfl hml.symm (Steps.refl _) (a := x0) (argsL := [(.ref b0), (.int 0), (.int 4), .null]) (rest := []) (lenOf own_pd16 rfl) rfl (own_w0 rfl rfl) (hb hby d1_6) (fun _ _ => ⟨rfl, e0, (by decide : 0 + 3 ≤ 3), (by decide : 0 + 12 ≤ 12)⟩)
  dsimp only [Pt.U, Pt.locs, Pt.cells, Pt.slots] at X1087 l1087 y1087 z1087 st1087 hQ1087
  subst l1087 y1087 z1087
  obtain ⟨t_1087, kb_1087, cd_1087, zz_1087, vl_1087, rfl, N1087, K1087_, P1088, P1089, P1090, P1091, P1092, q1093⟩ := hQ1087
  have N1094 := Fr.app N0 N1087
  have Z1095 : n0 ≤ T1087.heap.size := Nat.le_trans Z0 K1087_.1
  have K1095 : Keep h0 T1087.heap [x0] := (Keep.trans K0 K1087_ (allS (Or.inl (List.mem_of_getElem? (i := 0) rfl)) all0))
  have ne1096 : b0 ≠ t_1087 := Nat.ne_of_lt (Nat.lt_of_lt_of_le pr11.lt P1092)
  have ge1097 : n0 ≤ t_1087 := Nat.le_trans Z0 P1092
  refine own_tr (T' := T1087) (g' := (mkF m 9 #[.val (.ref x0), .val (.ref b0)] [])) st1087 ?_
  obtain ⟨fs, hr, hrun, hended, hW, hsame⟩ := X1087.leave (v := none) (fun _ => rfl)
  refine own_end (X1087.returnOut hx Bd.returns (hb hby d1_9) hr) ⟨_, hrun, hended, _, _, rfl, ?_, ⟨_, rfl⟩, hW, hsame.mono (by decide) (by decide)⟩
  show own_n1_4Q Z _ _ _ _ _ _ _ _ h0 n0 _ T1087.heap _
  show own_n1_4Q Z _ _ _ _ _ _ _ _ h0 n0 _ T1087.heap _
  exact ⟨t_1087, kb_1087, cd_1087, zz_1087, vl_1087, rfl, N1094, K1095, P1088, P1089, P1090, P1091, (Nat.le_trans K0.1 P1092), q1093⟩
theorem d2_8 : decode jdk_42_method_149_code 8 = .ok (.aload_n 0, 1) := by decide +kernel
theorem d2_9 : decode jdk_42_method_149_code 9 = .ok (.ldc 7, 2) := by decide +kernel
theorem d2_11 : decode jdk_42_method_149_code 11 = .ok (.getfield 9, 3) := by decide +kernel
theorem d2_14 : decode jdk_42_method_149_code 14 = .ok (.putfield 9, 3) := by decide +kernel
theorem d2_17 : decode jdk_42_method_149_code 17 = .ok (.aload_n 0, 1) := by decide +kernel
theorem d2_18 : decode jdk_42_method_149_code 18 = .ok (.ldc 7, 2) := by decide +kernel
theorem d2_20 : decode jdk_42_method_149_code 20 = .ok (.getfield 15, 3) := by decide +kernel
theorem d2_23 : decode jdk_42_method_149_code 23 = .ok (.putfield 15, 3) := by decide +kernel
theorem d2_26 : decode jdk_42_method_149_code 26 = .ok (.return_, 1) := by decide +kernel
def own_e4Q (Z : State) (x0 : Addr) (b0 : Addr) (h0 : Heap) (n0 : Nat) (v : Option Value) (h : Heap) (L : List Loc) : Prop := ∃ (t : Addr), ∃ (kb : ClassId), v = none ∧ Fr n0 L ∧ Keep h0 h [x0] ∧ (Exa Z h x0 "java/lang/String") ∧ (Fld Z h x0 "java/lang/String" "coder" "B" (.int 0)) ∧ (Fld Z h x0 "java/lang/String" "value" "[B" (.ref t)) ∧ (Arv Z h t kb .byte (0 : Int32) [] (.int 0))
abbrev own_e4R : Room := { frames := 1, cells := 4, slots := 8, locals := 20 }
theorem own_e4 (l : Launch) (Z : State) (a0 : Array Value) (hw : ∀ d ∈ tables_1, d.before a0 Z = true) (ws : List Jvm.Cond) (x0 : Addr) (b0 : Addr) (h0 : Heap) (n0 : Nat) (Z0 : n0 ≤ h0.size) (pr1 : Exa Z h0 x0 "java/lang/String") (pr2 : n0 ≤ x0) (pr3 : Fld Z h0 x0 "java/lang/String" "value" "[B" .null) (pr4 : Fld Z h0 x0 "java/lang/String" "coder" "B" (.int 0)) :
    own_MH own_EL l yN11 jdk_42_method_149_code 6 none ws own_e4R #[(.ref x0), (.ref b0), (.int 0), (.int 0), .null] Z h0 (own_e4Q Z x0 b0 h0 n0) := by
  refine own_goH (plainFor_of_name own_pn2) (fun m => own_ef12 m x0 b0 (0 : Int32) (0 : Int32) ) ?_
  intro p e s m below meth c s₁ Bd hx hby hml hZ hh hown hnm X0 e0 hS CR0
  have N0 := Fr.nil n0
  have K0 : Keep h0 h0 [x0] := Keep.refl h0 _
  have hk : h0.size ≤ h0.size := Nat.le_refl _
  refine own_st (T' := s₁) (g' := (mkF m 1 #[.val (.ref x0), .val (.ref b0), .val (.int 0), .val (.int 0), .val .null, .unset] [(.ref x0)])) (fun _ kt => XS.aloadN X0.here hx rfl (hb hby d2_0) rfl rfl kt) ?_
  obtain ⟨T1098, X1098, e1098, st1098⟩ := initO X0 hx hZ hown (own_k hw 13 rfl) (own_k hw 14 rfl) (own_k hw 15 rfl) e0 (g := (mkF m 1 #[.val (.ref x0), .val (.ref b0), .val (.int 0), .val (.int 0), .val .null, .unset] [(.ref x0)])) rfl hml.symm rfl (hb hby d2_1) (by decide) (W := 0) (own_w0 rfl rfl) (by decide)
  refine own_st (T' := T1098) (g' := (mkF m 4 #[.val (.ref x0), .val (.ref b0), .val (.int 0), .val (.int 0), .val .null, .unset] [])) st1098 ?_
  refine own_st (T' := T1098) (g' := (mkF m 9 #[.val (.ref x0), .val (.ref b0), .val (.int 0), .val (.int 0), .val .null, .unset] [(.ref x0)])) (fun _ kt => XS.iloadN X1098.here hx rfl (hb hby d2_4) rfl (XS.ifNo X1098.here hx rfl (hb hby d2_5) rfl (XT.i0_ne_f (by decide)) (XS.aloadN X1098.here hx rfl (hb hby d2_8) rfl rfl kt))) ?_
  obtain ⟨b1099, T1099, h1099, k1099, d1099, kd1099, X1099, e1099, E1099, hS1099, hk1099, hZ1099, hown1099, gE1099, gC1099, gV1099, gA1099, la1099, lb1099, hC1099, -, hsf1099, st1099⟩ := ldcCH X1098 hx hZ hown (own_k hw 16 rfl) (own_wS hw) e1098 hS hk (own_EW hw) (show ("java/lang/String", 7) ∈ own_EL by simp [own_EL]) CR0.1 (vs := []) (z := (0 : Int32)) ⟨by decide +kernel, by first | rfl | decide +kernel⟩ (by decide) rfl (g := (mkF m 9 #[.val (.ref x0), .val (.ref b0), .val (.int 0), .val (.int 0), .val .null, .unset] [(.ref x0)])) rfl (hb hby d2_9) (n := 0) (by decide +kernel) (by decide) (by decide) (by decide)
  have CR1100 : CHr Z own_EL s.vm h0 T1099.vm h1099 := CHr.trans CR0 hC1099
  have Z1101 : n0 ≤ h1099.size := Nat.le_trans Z0 E1099.1
  have hk1101 := Nat.le_trans hk E1099.1
  have K1101 : Keep h0 h1099 [x0] := (Keep.ext K0 E1099)
  have F1102 : Exa Z h1099 x0 "java/lang/String" := (Exa.ext E1099 pr1)
  have F1103 : Fld Z h1099 x0 "java/lang/String" "value" "[B" .null := (Fld.ext E1099 pr3)
  have S1104 : Safe Z own_EL T1099.vm h1099 x0 := (own_safeStr (State.Warmed39.alike hZ1099) F1102 F1103)
  have ne1105 := hsf1099 x0 S1104
  refine own_st (T' := T1099) (g' := (mkF m 11 #[.val (.ref x0), .val (.ref b0), .val (.int 0), .val (.int 0), .val .null, .unset] [(.ref b1099), (.ref x0)])) st1099 ?_
  obtain ⟨T1106, X1106, e1106, st1106⟩ := getF X1099 hx hZ1099 hown1099 (host := "") (Or.inl (own_k hw 22 rfl)) Via.refl e1099 gV1099 (g := (mkF m 11 #[.val (.ref x0), .val (.ref b0), .val (.int 0), .val (.int 0), .val .null, .unset] [(.ref b1099), (.ref x0)])) rfl rfl (hb hby d2_11)
  refine own_st (T' := T1106) (g' := (mkF m 14 #[.val (.ref x0), .val (.ref b0), .val (.int 0), .val (.int 0), .val .null, .unset] [(.ref d1099), (.ref x0)])) st1106 ?_
  obtain ⟨T1107, h1107, X1107, e1107, W1107, st1107⟩ := putF X1106 hx hZ1099 hown1099 (host := "") (Or.inl (own_k hw 22 rfl)) Via.refl e1106 F1103 F1102 (Or.inr ⟨(own_k hw 18 rfl), rfl, hnm⟩) (own_k hw 3 rfl) (ty := (.array .byte)) (by decide) rfl rfl (g := (mkF m 14 #[.val (.ref x0), .val (.ref b0), .val (.int 0), .val (.int 0), .val .null, .unset] [(.ref d1099), (.ref x0)])) rfl rfl (hb hby d2_14)
  have N1107 := Fr.snoc X1107 N0 pr2
  have CR1108 : CHr Z own_EL s.vm h0 T1099.vm h1107 := CHr.trans CR1100 (CHr.wr W1107 S1104 CR1100.1)
  have Z1109 : n0 ≤ h1107.size := Nat.le_trans Z1101 (Nat.le_of_eq (Wr.size W1107).symm)
  have hk1109 := Nat.le_trans hk1099 (Nat.le_of_eq (Wr.size W1107).symm)
  have K1109 : Keep h0 h1107 [x0] := (Keep.wr K1101 W1107 (Or.inl (List.mem_of_getElem? (i := 0) rfl)))
  have F1110 : Fld Z h1107 x0 "java/lang/String" "value" "[B" (.ref d1099) := Fld.same W1107 F1103
  refine own_st (T' := T1107) (g' := (mkF m 17 #[.val (.ref x0), .val (.ref b0), .val (.int 0), .val (.int 0), .val .null, .unset] [])) st1107 ?_
  refine own_st (T' := T1107) (g' := (mkF m 18 #[.val (.ref x0), .val (.ref b0), .val (.int 0), .val (.int 0), .val .null, .unset] [(.ref x0)])) (fun _ kt => XS.aloadN X1107.here hx rfl (hb hby d2_17) rfl rfl kt) ?_
  obtain ⟨b1111, T1111, h1111, k1111, d1111, kd1111, X1111, e1111, E1111, hS1111, hk1111, hZ1111, hown1111, gE1111, gC1111, gV1111, gA1111, la1111, lb1111, hC1111, -, hsf1111, st1111⟩ := ldcCH X1107 hx hZ1099 hown1099 (own_k hw 16 rfl) (own_wS hw) e1107 hS1099 hk1109 (own_EW hw) (show ("java/lang/String", 7) ∈ own_EL by simp [own_EL]) CR1108.1 (vs := []) (z := (0 : Int32)) ⟨by decide +kernel, by first | rfl | decide +kernel⟩ (by decide) rfl (g := (mkF m 18 #[.val (.ref x0), .val (.ref b0), .val (.int 0), .val (.int 0), .val .null, .unset] [(.ref x0)])) rfl (hb hby d2_18) (n := 0) (by decide +kernel) (by decide) (by decide) (by decide)
  have CR1112 : CHr Z own_EL s.vm h0 T1111.vm h1111 := CHr.trans CR1108 hC1111
  have Z1113 : n0 ≤ h1111.size := Nat.le_trans Z1109 E1111.1
  have hk1113 := Nat.le_trans hk1109 E1111.1
  have K1113 : Keep h0 h1111 [x0] := (Keep.ext K1109 E1111)
  have F1114 : Exa Z h1107 x0 "java/lang/String" := (Exa.wr W1107 F1102)
  have F1115 : Safe Z own_EL T1111.vm h1111 x0 := (CHr.safe hC1111 F1114.lt (Safe.wr W1107 S1104 CR1100.1 S1104))
  have ne1116 := hsf1111 x0 F1115
  have F1117 : Exa Z h1111 b1099 "java/lang/String" := (Exa.ext E1111 (Exa.wr W1107 gE1099))
  have F1118 : Fld Z h1111 b1099 "java/lang/String" "value" "[B" (.ref d1099) := (Fld.ext E1111 (Fld.other W1107 gV1099 (Or.inl (Ne.symm ne1105.1))))
  have F1119 : Arv Z h1111 d1099 kd1099 .byte (0 : Int32) [] (.int 0) := ((Arv.other gA1099 W1107 (Ne.symm ne1105.2)).ext E1111)
  refine own_st (T' := T1111) (g' := (mkF m 20 #[.val (.ref x0), .val (.ref b0), .val (.int 0), .val (.int 0), .val .null, .unset] [(.ref b1111), (.ref x0)])) st1111 ?_
  obtain ⟨T1120, X1120, e1120, st1120⟩ := getF X1111 hx hZ1111 hown1111 (host := "") (Or.inl (own_k hw 23 rfl)) Via.refl e1111 gC1111 (g := (mkF m 20 #[.val (.ref x0), .val (.ref b0), .val (.int 0), .val (.int 0), .val .null, .unset] [(.ref b1111), (.ref x0)])) rfl rfl (hb hby d2_20)
  refine own_st (T' := T1120) (g' := (mkF m 23 #[.val (.ref x0), .val (.ref b0), .val (.int 0), .val (.int 0), .val .null, .unset] [(.int 0), (.ref x0)])) st1120 ?_
  have F1121 : Fld Z h1111 x0 "java/lang/String" "coder" "B" (.int 0) := (Fld.ext E1111 (Fld.other W1107 (Fld.ext E1099 pr4) (Or.inr (slot_ne (Or.inr (own_k hw 19 rfl)) (Or.inr (own_k hw 18 rfl)) (by decide) (t := .byte) (t' := (.array .byte)) (by decide) (by decide)))))
  have F1122 : Exa Z h1111 x0 "java/lang/String" := (Exa.ext E1111 (Exa.wr W1107 F1102))
  obtain ⟨T1123, h1123, X1123, e1123, W1123, st1123⟩ := putF X1120 hx hZ1111 hown1111 (host := "") (Or.inl (own_k hw 23 rfl)) Via.refl e1120 F1121 F1122 (Or.inr ⟨(own_k hw 19 rfl), rfl, hnm⟩) (own_k hw 3 rfl) (ty := .byte) (by decide) rfl rfl (g := (mkF m 23 #[.val (.ref x0), .val (.ref b0), .val (.int 0), .val (.int 0), .val .null, .unset] [(.int 0), (.ref x0)])) rfl rfl (hb hby d2_23)
  have N1123 := Fr.snoc X1123 N1107 pr2
  have CR1124 : CHr Z own_EL s.vm h0 T1111.vm h1123 := CHr.trans CR1112 (CHr.wr W1123 F1115 CR1112.1)
  have Z1125 : n0 ≤ h1123.size := Nat.le_trans Z1113 (Nat.le_of_eq (Wr.size W1123).symm)
  have hk1125 := Nat.le_trans hk1111 (Nat.le_of_eq (Wr.size W1123).symm)
  have K1125 : Keep h0 h1123 [x0] := (Keep.wr K1113 W1123 (Or.inl (List.mem_of_getElem? (i := 0) rfl)))
  have F1126 : Fld Z h1123 x0 "java/lang/String" "coder" "B" (.int 0) := Fld.same W1123 F1121
  refine own_st (T' := T1123) (g' := (mkF m 26 #[.val (.ref x0), .val (.ref b0), .val (.int 0), .val (.int 0), .val .null, .unset] [])) st1123 ?_
  obtain ⟨fs, hr, hrun, hended, hE⟩ := Stand.leaveW X1123 hS1111 (by rw [e1123]; exact hk1125) (v := none) (fun _ => rfl)
  refine own_end (X1123.returnOut hx Bd.returns (hb hby d2_26) hr) ⟨_, hrun, hended, _, _, rfl, ?_, (by rw [hh]; show CHr Z own_EL s.vm h0 T1123.vm T1123.heap; rw [e1123]; exact CHr.trans CR1124 (CHv.at X1123 hZ1111 (own_EW hw) CR1124.1)), ⟨hE.1, hE.2.1, hE.2.2.1, hE.2.2.2.mono (by decide) (by decide)⟩⟩
  have F1127 : Fld Z h1123 x0 "java/lang/String" "value" "[B" (.ref d1099) := (Fld.other W1123 (Fld.ext E1111 F1110) (Or.inr (slot_ne (Or.inr (own_k hw 18 rfl)) (Or.inr (own_k hw 19 rfl)) (by decide) (t := (.array .byte)) (t' := .byte) (by decide) (by decide))))
  have F1128 : Arv Z h1123 d1099 kd1099 .byte (0 : Int32) [] (.int 0) := (Arv.other F1119 W1123 (Ne.symm ne1105.2))
  have F1129 : Exa Z h1123 x0 "java/lang/String" := (Exa.wr W1123 F1122)
  show own_e4Q Z _ _ h0 n0 _ T1123.heap _
  rw [e1123]
  exact ⟨d1099, kd1099, rfl, N1123, K1125, F1129, F1126, F1127, F1128⟩
def own_e1Q (Z : State) (x0 : Addr) (b0 : Addr) (kc : ClassId) (vl : List Value) (dd : Value) (h0 : Heap) (n0 : Nat) (v : Option Value) (h : Heap) (L : List Loc) : Prop := ∃ (t : Addr), ∃ (kb : ClassId), v = none ∧ Fr n0 L ∧ Keep h0 h [x0] ∧ (Exa Z h x0 "java/lang/String") ∧ (Fld Z h x0 "java/lang/String" "coder" "B" (.int 0)) ∧ (Fld Z h x0 "java/lang/String" "value" "[B" (.ref t)) ∧ (Arv Z h t kb .byte (0 : Int32) [] (.int 0))
abbrev own_e1R : Room := { frames := 2, cells := 4, slots := 8, locals := 60 }
theorem own_e1 (l : Launch) (Z : State) (a0 : Array Value) (hw : ∀ d ∈ tables_1, d.before a0 Z = true) (ws : List Jvm.Cond) (x0 : Addr) (b0 : Addr) (kc : ClassId) (vl : List Value) (dd : Value) (h0 : Heap) (n0 : Nat) (Z0 : n0 ≤ h0.size) (pr1 : Exa Z h0 x0 "java/lang/String") (pr2 : n0 ≤ x0) (pr3 : Fld Z h0 x0 "java/lang/String" "value" "[B" .null) (pr4 : Fld Z h0 x0 "java/lang/String" "coder" "B" (.int 0)) (pr5 : Arv Z h0 b0 kc .char (0 : Int32) vl dd) :
    own_MH own_EL l yN12 jdk_42_method_3_code 2 none ws own_e1R #[(.ref x0), (.ref b0)] Z h0 (own_e1Q Z x0 b0 kc vl dd h0 n0) := by
  refine own_goH (plainFor_of_name own_pn2) (fun m => own_ef13 m x0 b0 ) ?_
  intro p e s m below meth c s₁ Bd hx hby hml hZ hh hown hnm X0 e0 hS CR0
  have N0 := Fr.nil n0
  have K0 : Keep h0 h0 [x0] := Keep.refl h0 _
  have hk : h0.size ≤ h0.size := Nat.le_refl _
  refine own_st (T' := s₁) (g' := (mkF m 4 #[.val (.ref x0), .val (.ref b0)] [(.ref b0), (.int 0), (.ref b0), (.ref x0)])) (fun _ kt => XS.aloadN X0.here hx rfl (hb hby d1_0) rfl rfl (XS.aloadN X0.here hx rfl (hb hby d1_1) rfl rfl (XS.iconst X0.here hx rfl (hb hby d1_2) (XS.aloadN X0.here hx rfl (hb hby d1_3) rfl rfl kt)))) ?_
  refine own_st (T' := s₁) (g' := (mkF m 5 #[.val (.ref x0), .val (.ref b0)] [(.int 0), (.int 0), (.ref b0), (.ref x0)])) (own_alen X0 hx hZ e0 pr5 (g := (mkF m 4 #[.val (.ref x0), .val (.ref b0)] [(.ref b0), (.int 0), (.ref b0), (.ref x0)])) rfl rfl (hb hby d1_4)) ?_
  refine own_st (T' := s₁) (g' := (mkF m 6 #[.val (.ref x0), .val (.ref b0)] [.null, (.int 0), (.int 0), (.ref b0), (.ref x0)])) (fun _ kt => XS.aconstNull X0.here hx rfl (hb hby d1_5) kt) ?_
  obtain ⟨_, _, ⟨T1130, L1130, k1130, n1130⟩, -, X1130, hS1130, hG1130, ⟨Lc1130, hQ1130, l1130, y1130, z1130, hC1130⟩, st1130⟩ := X0.specialBackS hx (y := yN11) rfl hown (mvT hZ (own_k hw 9 rfl)) (mvT hZ (own_k hw 10 rfl)) (mvT hZ (own_k hw 12 rfl)) (by decide) (backOfSH (W := 0) (own_e4 l Z a0 hw [] x0 b0 h0 n0 Z0 pr1 pr2 pr3 pr4) hZ (own_k hw 12 rfl) (own_k hw 4 rfl) (by decide) (by decide) (own_EW hw) CR0.1) (g := (mkF m 6 #[.val (.ref x0), .val (.ref b0)] [.null, (.int 0), (.int 0), (.ref b0), (.ref x0)])) rfl hml.symm (Steps.refl _) (a := x0) (argsL := [(.ref b0), (.int 0), (.int 0), .null]) (rest := []) (lenOf own_pd16 rfl) rfl (own_w0 rfl rfl) (hb hby d1_6) (fun _ _ => ⟨rfl, e0, (by decide : 0 + 4 ≤ 4), (by decide : 0 + 8 ≤ 8)⟩)
  dsimp only [Pt.U, Pt.locs, Pt.cells, Pt.slots] at X1130 l1130 y1130 z1130 st1130 hQ1130 hS1130 hG1130 hC1130
  subst l1130 y1130 z1130
  obtain ⟨t_1130, kb_1130, rfl, N1130, K1130_, P1131, P1132, P1133, P1134⟩ := hQ1130
  have N1135 := Fr.app N0 N1130
  obtain ⟨X1136, hS1136, hZ1136, hown1136⟩ := rebS hS (by rw [e0]; exact hk) X1130 hS1130 hG1130 hZ hown
  have CR1137 : CHr Z own_EL s.vm h0 T1130.vm T1130.heap := CHr.trans CR0 hC1130
  have Z1138 : n0 ≤ T1130.heap.size := Nat.le_trans Z0 K1130_.1
  have hk1138 := Nat.le_trans hk K1130_.1
  have K1138 : Keep h0 T1130.heap [x0] := (Keep.trans K0 K1130_ (allS (Or.inl (List.mem_of_getElem? (i := 0) rfl)) all0))
  have hk1136 : T1130.heap.size ≤ T1130.heap.size := Nat.le_refl _
  refine own_tr (T' := T1130) (g' := (mkF m 9 #[.val (.ref x0), .val (.ref b0)] [])) st1130 ?_
  obtain ⟨fs, hr, hrun, hended, hE⟩ := Stand.leaveW X1136 hS1136 hk1136 (v := none) (fun _ => rfl)
  refine own_end (X1136.returnOut hx Bd.returns (hb hby d1_9) hr) ⟨_, hrun, hended, _, _, rfl, ?_, (by rw [hh]; show CHr Z own_EL s.vm h0 T1130.vm T1130.heap; exact CHr.trans CR1137 (CHv.at X1136 hZ1136 (own_EW hw) CR1137.1)), ⟨hE.1, hE.2.1, hE.2.2.1, hE.2.2.2.mono (by decide) (by decide)⟩⟩
  show own_e1Q Z _ _ _ _ _ h0 n0 _ T1130.heap _
  show own_e1Q Z _ _ _ _ _ h0 n0 _ T1130.heap _
  exact ⟨t_1130, kb_1130, rfl, N1135, K1138, P1131, P1132, P1133, P1134⟩
theorem own_al1 {c : Int32} (h : own_ok c) : (1 : Int32) = own_al c := by rw [own_al, if_pos h]
theorem own_al0 {c : Int32} (h : ¬ own_ok c) : (0 : Int32) = own_al c := by rw [own_al, if_neg h]
theorem own_fold {c : Int32} (h : own_c16 c) : (¬ (c ||| (32 : Int32)) < 97 ∧ ¬ (122 : Int32) < (c ||| (32 : Int32))) ↔ ((¬ c < 65 ∧ ¬ (90 : Int32) < c) ∨ (¬ c < 97 ∧ ¬ (122 : Int32) < c)) := by
  obtain ⟨n, hn, rfl⟩ := own_c16n h
  obtain ⟨k, e, hk, q⟩ := own_or hn
  rw [e]
  simp only [Int32.lt_iff_toInt_lt, Int32.toInt_ofNat_of_lt (show n < 2 ^ 31 by omega), Int32.toInt_ofNat_of_lt (show k < 2 ^ 31 by omega), show (65 : Int32).toInt = 65 from rfl, show (90 : Int32).toInt = 90 from rfl, show (97 : Int32).toInt = 97 from rfl, show (122 : Int32).toInt = 122 from rfl]
  omega
theorem own_dig {c : Int32} (h : own_c16 c) : (¬ (c - (48 : Int32)) < 0 ∧ ¬ (9 : Int32) < (c - (48 : Int32))) ↔ (¬ c < 48 ∧ ¬ (57 : Int32) < c) := by
  obtain ⟨h1, h2⟩ := h
  simp only [Int32.lt_iff_toInt_lt, Int32.toInt_sub, show (48 : Int32).toInt = 48 from rfl, show (57 : Int32).toInt = 57 from rfl, show (9 : Int32).toInt = 9 from rfl, show (0 : Int32).toInt = 0 from rfl, show (65535 : Int32).toInt = 65535 from rfl, Int.bmod_def] at *
  omega
theorem d9_0 : decode method_2_code 0 = .ok (.iload_n 0, 1) := by decide +kernel
theorem d9_1 : decode method_2_code 1 = .ok (.bipush 32, 2) := by decide +kernel
theorem d9_3 : decode method_2_code 3 = .ok (.ior, 1) := by decide +kernel
theorem d9_4 : decode method_2_code 4 = .ok (.istore_n 1, 1) := by decide +kernel
theorem d9_5 : decode method_2_code 5 = .ok (.iload_n 1, 1) := by decide +kernel
theorem d9_6 : decode method_2_code 6 = .ok (.bipush 97, 2) := by decide +kernel
theorem d9_8 : decode method_2_code 8 = .ok (.if_icmp .lt 11, 3) := by decide +kernel
theorem d9_19 : decode method_2_code 19 = .ok (.iload_n 0, 1) := by decide +kernel
theorem d9_20 : decode method_2_code 20 = .ok (.bipush 48, 2) := by decide +kernel
theorem d9_22 : decode method_2_code 22 = .ok (.isub, 1) := by decide +kernel
theorem d9_23 : decode method_2_code 23 = .ok (.istore_n 2, 1) := by decide +kernel
theorem d9_24 : decode method_2_code 24 = .ok (.iload_n 2, 1) := by decide +kernel
theorem d9_25 : decode method_2_code 25 = .ok (.ifCond .lt 11, 3) := by decide +kernel
theorem d9_36 : decode method_2_code 36 = .ok (.iload_n 0, 1) := by decide +kernel
theorem d9_37 : decode method_2_code 37 = .ok (.bipush 95, 2) := by decide +kernel
theorem d9_39 : decode method_2_code 39 = .ok (.if_icmp .eq 9, 3) := by decide +kernel
theorem d9_48 : decode method_2_code 48 = .ok (.iconst 1, 1) := by decide +kernel
theorem d9_49 : decode method_2_code 49 = .ok (.goto 4, 3) := by decide +kernel
theorem d9_53 : decode method_2_code 53 = .ok (.ireturn, 1) := by decide +kernel
theorem d9_42 : decode method_2_code 42 = .ok (.iload_n 0, 1) := by decide +kernel
theorem d9_43 : decode method_2_code 43 = .ok (.bipush 45, 2) := by decide +kernel
theorem d9_45 : decode method_2_code 45 = .ok (.if_icmp .ne 7, 3) := by decide +kernel
theorem d9_52 : decode method_2_code 52 = .ok (.iconst 0, 1) := by decide +kernel
theorem d9_28 : decode method_2_code 28 = .ok (.iload_n 2, 1) := by decide +kernel
theorem d9_29 : decode method_2_code 29 = .ok (.bipush 9, 2) := by decide +kernel
theorem d9_31 : decode method_2_code 31 = .ok (.if_icmp .gt 5, 3) := by decide +kernel
theorem d9_34 : decode method_2_code 34 = .ok (.iconst 1, 1) := by decide +kernel
theorem d9_35 : decode method_2_code 35 = .ok (.ireturn, 1) := by decide +kernel
theorem d9_11 : decode method_2_code 11 = .ok (.iload_n 1, 1) := by decide +kernel
theorem d9_12 : decode method_2_code 12 = .ok (.bipush 122, 2) := by decide +kernel
theorem d9_14 : decode method_2_code 14 = .ok (.if_icmp .gt 5, 3) := by decide +kernel
theorem d9_17 : decode method_2_code 17 = .ok (.iconst 1, 1) := by decide +kernel
theorem d9_18 : decode method_2_code 18 = .ok (.ireturn, 1) := by decide +kernel
theorem own_ef14 (m : MethodId) (x0 : Int32) : entryFrame m #[(.int x0)] 3 = mkF m 0 #[.val (.int x0), .unset, .unset] [] := by first | (simp [entryFrame, mkF, argsToLocals, Value.category]; done) | rfl
def own_alwQ (Z : State) (u : Int32) (h0 : Heap) (n0 : Nat) (v : Option Value) (h : Heap) (L : List Loc) : Prop := v = some (.int (own_al u)) ∧ Fr n0 L ∧ h = h0
theorem own_pn6 : plainName "com/example/tidelock/tidelock/protocol/ShardIsNamePinLaw" = true := by first | (simp [plainName, overriddenIn]; done) | decide +kernel
abbrev own_alwR : Room := { frames := 0, cells := 0, slots := 0, locals := 0 }
theorem own_alw (l : Launch) (Z : State) (a0 : Array Value) (hw : ∀ d ∈ tables_1, d.before a0 Z = true) (ws : List Jvm.Cond) (u : Int32) (h0 : Heap) (n0 : Nat) (Z0 : n0 ≤ h0.size) (pr1 : own_c16 u) :
    own_M l yN9 method_2_code 3 (some .boolean) ws own_alwR #[(.int u)] Z h0 (own_alwQ Z u h0 n0) := by
  refine own_go (plainFor_of_name own_pn6) (fun m => own_ef14 m u ) ?_
  intro p e s m below meth c s₁ Bd hx hby hml hZ hh hown hnm X0 e0
  have N0 := Fr.nil n0
  refine own_st (T' := s₁) (g' := (mkF m 8 #[.val (.int u), .val (.int (u ||| (32 : Int32))), .unset] [(.int 97), (.int (u ||| (32 : Int32)))])) (fun _ kt => XS.iloadN X0.here hx rfl (hb hby d9_0) rfl (XS.bipush X0.here hx rfl (hb hby d9_1) (XT.ior X0.here hx rfl (hb hby d9_3) rfl (XS.istoreN X0.here hx rfl (hb hby d9_4) rfl (l' := #[.val (.int u), .val (.int (u ||| (32 : Int32))), .unset]) rfl (XS.iloadN X0.here hx rfl (hb hby d9_5) rfl (XS.bipush X0.here hx rfl (hb hby d9_6) kt)))))) ?_
  by_cases hc1139 : (u ||| (32 : Int32)) < (97 : Int32)
  ·
    refine own_st (T' := s₁) (g' := (mkF m 25 #[.val (.int u), .val (.int (u ||| (32 : Int32))), .val (.int (u - (48 : Int32)))] [(.int (u - (48 : Int32)))])) (fun _ kt => XS.icmpYes X0.here hx rfl (pc0 := 8) (pc' := 19) rfl (hb hby d9_8) rfl (XT.ii_lt_t hc1139) (by decide) (by decide) (XS.iloadN X0.here hx rfl (hb hby d9_19) rfl (XS.bipush X0.here hx rfl (hb hby d9_20) (XS.isub X0.here hx rfl (hb hby d9_22) rfl (XS.istoreN X0.here hx rfl (hb hby d9_23) rfl (l' := #[.val (.int u), .val (.int (u ||| (32 : Int32))), .val (.int (u - (48 : Int32)))]) rfl (XS.iloadN X0.here hx rfl (hb hby d9_24) rfl kt)))))) ?_
    by_cases hc1140 : (u - (48 : Int32)) < 0
    ·
      refine own_st (T' := s₁) (g' := (mkF m 39 #[.val (.int u), .val (.int (u ||| (32 : Int32))), .val (.int (u - (48 : Int32)))] [(.int 95), (.int u)])) (fun _ kt => XS.ifYes X0.here hx rfl (pc0 := 25) (pc' := 36) rfl (hb hby d9_25) rfl (XT.i0_lt_t hc1140) (by decide) (by decide) (XS.iloadN X0.here hx rfl (hb hby d9_36) rfl (XS.bipush X0.here hx rfl (hb hby d9_37) kt))) ?_
      by_cases hc1141 : u = (95 : Int32)
      ·
        refine own_st (T' := s₁) (g' := (mkF m 53 #[.val (.int u), .val (.int (u ||| (32 : Int32))), .val (.int (u - (48 : Int32)))] [(.int 1)])) (fun _ kt => XS.icmpYes X0.here hx rfl (pc0 := 39) (pc' := 48) rfl (hb hby d9_39) rfl (XT.ii_eq_t hc1141) (by decide) (by decide) (XS.iconst X0.here hx rfl (hb hby d9_48) (XS.goto X0.here hx rfl (pc0 := 49) (pc' := 53) rfl (hb hby d9_49) (by decide) (by decide) kt))) ?_
        obtain ⟨fs, hr, hrun, hended, hW, hsame⟩ := X0.leave (v := some (.int 1)) (fun h => by rw [Bd.returns] at h; cases h)
        refine own_end (retN X0 hx (t := .boolean) Bd.returns (by simp) (hb hby d9_53) hr) ⟨_, hrun, hended, _, _, rfl, ?_, ⟨_, rfl⟩, hW, hsame.mono (by decide) (by decide)⟩
        show own_alwQ Z _ h0 n0 _ s₁.heap _
        rw [e0]
        exact ⟨(congrArg (fun z => some (Value.int z)) (own_al1 (by have q1 := own_fold pr1; have q2 := own_dig pr1; unfold own_ok; revert hc1139 hc1140 hc1141 q1 q2; generalize (u ||| (32 : Int32)) = y; generalize (u - (48 : Int32)) = x; simp only [Int32.lt_iff_toInt_lt, Int64.lt_iff_toInt_lt, ← Int32.toInt_inj, ← Int64.toInt_inj, Int32.toInt_toInt64, own_t0, own_t9, own_t45, own_t48, own_t57, own_t65, own_t90, own_t95, own_t97, own_t122, own_t255]; intros; omega))), N0, rfl⟩
      ·
        refine own_st (T' := s₁) (g' := (mkF m 45 #[.val (.int u), .val (.int (u ||| (32 : Int32))), .val (.int (u - (48 : Int32)))] [(.int 45), (.int u)])) (fun _ kt => XS.icmpNo X0.here hx rfl (hb hby d9_39) rfl (XT.ii_eq_f hc1141) (XS.iloadN X0.here hx rfl (hb hby d9_42) rfl (XS.bipush X0.here hx rfl (hb hby d9_43) kt))) ?_
        by_cases hc1142 : u = (45 : Int32)
        ·
          refine own_st (T' := s₁) (g' := (mkF m 53 #[.val (.int u), .val (.int (u ||| (32 : Int32))), .val (.int (u - (48 : Int32)))] [(.int 1)])) (fun _ kt => XS.icmpNo X0.here hx rfl (hb hby d9_45) rfl (XT.ii_ne_f hc1142) (XS.iconst X0.here hx rfl (hb hby d9_48) (XS.goto X0.here hx rfl (pc0 := 49) (pc' := 53) rfl (hb hby d9_49) (by decide) (by decide) kt))) ?_
          obtain ⟨fs, hr, hrun, hended, hW, hsame⟩ := X0.leave (v := some (.int 1)) (fun h => by rw [Bd.returns] at h; cases h)
          refine own_end (retN X0 hx (t := .boolean) Bd.returns (by simp) (hb hby d9_53) hr) ⟨_, hrun, hended, _, _, rfl, ?_, ⟨_, rfl⟩, hW, hsame.mono (by decide) (by decide)⟩
          show own_alwQ Z _ h0 n0 _ s₁.heap _
          rw [e0]
          exact ⟨(congrArg (fun z => some (Value.int z)) (own_al1 (by have q1 := own_fold pr1; have q2 := own_dig pr1; unfold own_ok; revert hc1139 hc1140 hc1141 hc1142 q1 q2; generalize (u ||| (32 : Int32)) = y; generalize (u - (48 : Int32)) = x; simp only [Int32.lt_iff_toInt_lt, Int64.lt_iff_toInt_lt, ← Int32.toInt_inj, ← Int64.toInt_inj, Int32.toInt_toInt64, own_t0, own_t9, own_t45, own_t48, own_t57, own_t65, own_t90, own_t95, own_t97, own_t122, own_t255]; intros; omega))), N0, rfl⟩
        ·
          refine own_st (T' := s₁) (g' := (mkF m 53 #[.val (.int u), .val (.int (u ||| (32 : Int32))), .val (.int (u - (48 : Int32)))] [(.int 0)])) (fun _ kt => XS.icmpYes X0.here hx rfl (pc0 := 45) (pc' := 52) rfl (hb hby d9_45) rfl (XT.ii_ne_t hc1142) (by decide) (by decide) (XS.iconst X0.here hx rfl (hb hby d9_52) kt)) ?_
          obtain ⟨fs, hr, hrun, hended, hW, hsame⟩ := X0.leave (v := some (.int 0)) (fun h => by rw [Bd.returns] at h; cases h)
          refine own_end (retN X0 hx (t := .boolean) Bd.returns (by simp) (hb hby d9_53) hr) ⟨_, hrun, hended, _, _, rfl, ?_, ⟨_, rfl⟩, hW, hsame.mono (by decide) (by decide)⟩
          show own_alwQ Z _ h0 n0 _ s₁.heap _
          rw [e0]
          exact ⟨(congrArg (fun z => some (Value.int z)) (own_al0 (by have q1 := own_fold pr1; have q2 := own_dig pr1; unfold own_ok; revert hc1139 hc1140 hc1141 hc1142 q1 q2; generalize (u ||| (32 : Int32)) = y; generalize (u - (48 : Int32)) = x; simp only [Int32.lt_iff_toInt_lt, Int64.lt_iff_toInt_lt, ← Int32.toInt_inj, ← Int64.toInt_inj, Int32.toInt_toInt64, own_t0, own_t9, own_t45, own_t48, own_t57, own_t65, own_t90, own_t95, own_t97, own_t122, own_t255]; intros; omega))), N0, rfl⟩
    ·
      refine own_st (T' := s₁) (g' := (mkF m 31 #[.val (.int u), .val (.int (u ||| (32 : Int32))), .val (.int (u - (48 : Int32)))] [(.int 9), (.int (u - (48 : Int32)))])) (fun _ kt => XS.ifNo X0.here hx rfl (hb hby d9_25) rfl (XT.i0_lt_f hc1140) (XS.iloadN X0.here hx rfl (hb hby d9_28) rfl (XS.bipush X0.here hx rfl (hb hby d9_29) kt))) ?_
      by_cases hc1143 : (9 : Int32) < (u - (48 : Int32))
      ·
        refine own_st (T' := s₁) (g' := (mkF m 39 #[.val (.int u), .val (.int (u ||| (32 : Int32))), .val (.int (u - (48 : Int32)))] [(.int 95), (.int u)])) (fun _ kt => XS.icmpYes X0.here hx rfl (pc0 := 31) (pc' := 36) rfl (hb hby d9_31) rfl (XT.ii_gt_t hc1143) (by decide) (by decide) (XS.iloadN X0.here hx rfl (hb hby d9_36) rfl (XS.bipush X0.here hx rfl (hb hby d9_37) kt))) ?_
        by_cases hc1144 : u = (95 : Int32)
        ·
          refine own_st (T' := s₁) (g' := (mkF m 53 #[.val (.int u), .val (.int (u ||| (32 : Int32))), .val (.int (u - (48 : Int32)))] [(.int 1)])) (fun _ kt => XS.icmpYes X0.here hx rfl (pc0 := 39) (pc' := 48) rfl (hb hby d9_39) rfl (XT.ii_eq_t hc1144) (by decide) (by decide) (XS.iconst X0.here hx rfl (hb hby d9_48) (XS.goto X0.here hx rfl (pc0 := 49) (pc' := 53) rfl (hb hby d9_49) (by decide) (by decide) kt))) ?_
          obtain ⟨fs, hr, hrun, hended, hW, hsame⟩ := X0.leave (v := some (.int 1)) (fun h => by rw [Bd.returns] at h; cases h)
          refine own_end (retN X0 hx (t := .boolean) Bd.returns (by simp) (hb hby d9_53) hr) ⟨_, hrun, hended, _, _, rfl, ?_, ⟨_, rfl⟩, hW, hsame.mono (by decide) (by decide)⟩
          show own_alwQ Z _ h0 n0 _ s₁.heap _
          rw [e0]
          exact ⟨(congrArg (fun z => some (Value.int z)) (own_al1 (by have q1 := own_fold pr1; have q2 := own_dig pr1; unfold own_ok; revert hc1139 hc1140 hc1143 hc1144 q1 q2; generalize (u ||| (32 : Int32)) = y; generalize (u - (48 : Int32)) = x; simp only [Int32.lt_iff_toInt_lt, Int64.lt_iff_toInt_lt, ← Int32.toInt_inj, ← Int64.toInt_inj, Int32.toInt_toInt64, own_t0, own_t9, own_t45, own_t48, own_t57, own_t65, own_t90, own_t95, own_t97, own_t122, own_t255]; intros; omega))), N0, rfl⟩
        ·
          refine own_st (T' := s₁) (g' := (mkF m 45 #[.val (.int u), .val (.int (u ||| (32 : Int32))), .val (.int (u - (48 : Int32)))] [(.int 45), (.int u)])) (fun _ kt => XS.icmpNo X0.here hx rfl (hb hby d9_39) rfl (XT.ii_eq_f hc1144) (XS.iloadN X0.here hx rfl (hb hby d9_42) rfl (XS.bipush X0.here hx rfl (hb hby d9_43) kt))) ?_
          by_cases hc1145 : u = (45 : Int32)
          ·
            refine own_st (T' := s₁) (g' := (mkF m 53 #[.val (.int u), .val (.int (u ||| (32 : Int32))), .val (.int (u - (48 : Int32)))] [(.int 1)])) (fun _ kt => XS.icmpNo X0.here hx rfl (hb hby d9_45) rfl (XT.ii_ne_f hc1145) (XS.iconst X0.here hx rfl (hb hby d9_48) (XS.goto X0.here hx rfl (pc0 := 49) (pc' := 53) rfl (hb hby d9_49) (by decide) (by decide) kt))) ?_
            obtain ⟨fs, hr, hrun, hended, hW, hsame⟩ := X0.leave (v := some (.int 1)) (fun h => by rw [Bd.returns] at h; cases h)
            refine own_end (retN X0 hx (t := .boolean) Bd.returns (by simp) (hb hby d9_53) hr) ⟨_, hrun, hended, _, _, rfl, ?_, ⟨_, rfl⟩, hW, hsame.mono (by decide) (by decide)⟩
            show own_alwQ Z _ h0 n0 _ s₁.heap _
            rw [e0]
            exact ⟨(congrArg (fun z => some (Value.int z)) (own_al1 (by have q1 := own_fold pr1; have q2 := own_dig pr1; unfold own_ok; revert hc1139 hc1140 hc1143 hc1144 hc1145 q1 q2; generalize (u ||| (32 : Int32)) = y; generalize (u - (48 : Int32)) = x; simp only [Int32.lt_iff_toInt_lt, Int64.lt_iff_toInt_lt, ← Int32.toInt_inj, ← Int64.toInt_inj, Int32.toInt_toInt64, own_t0, own_t9, own_t45, own_t48, own_t57, own_t65, own_t90, own_t95, own_t97, own_t122, own_t255]; intros; omega))), N0, rfl⟩
          ·
            refine own_st (T' := s₁) (g' := (mkF m 53 #[.val (.int u), .val (.int (u ||| (32 : Int32))), .val (.int (u - (48 : Int32)))] [(.int 0)])) (fun _ kt => XS.icmpYes X0.here hx rfl (pc0 := 45) (pc' := 52) rfl (hb hby d9_45) rfl (XT.ii_ne_t hc1145) (by decide) (by decide) (XS.iconst X0.here hx rfl (hb hby d9_52) kt)) ?_
            obtain ⟨fs, hr, hrun, hended, hW, hsame⟩ := X0.leave (v := some (.int 0)) (fun h => by rw [Bd.returns] at h; cases h)
            refine own_end (retN X0 hx (t := .boolean) Bd.returns (by simp) (hb hby d9_53) hr) ⟨_, hrun, hended, _, _, rfl, ?_, ⟨_, rfl⟩, hW, hsame.mono (by decide) (by decide)⟩
            show own_alwQ Z _ h0 n0 _ s₁.heap _
            rw [e0]
            exact ⟨(congrArg (fun z => some (Value.int z)) (own_al0 (by have q1 := own_fold pr1; have q2 := own_dig pr1; unfold own_ok; revert hc1139 hc1140 hc1143 hc1144 hc1145 q1 q2; generalize (u ||| (32 : Int32)) = y; generalize (u - (48 : Int32)) = x; simp only [Int32.lt_iff_toInt_lt, Int64.lt_iff_toInt_lt, ← Int32.toInt_inj, ← Int64.toInt_inj, Int32.toInt_toInt64, own_t0, own_t9, own_t45, own_t48, own_t57, own_t65, own_t90, own_t95, own_t97, own_t122, own_t255]; intros; omega))), N0, rfl⟩
      ·
        refine own_st (T' := s₁) (g' := (mkF m 35 #[.val (.int u), .val (.int (u ||| (32 : Int32))), .val (.int (u - (48 : Int32)))] [(.int 1)])) (fun _ kt => XS.icmpNo X0.here hx rfl (hb hby d9_31) rfl (XT.ii_gt_f hc1143) (XS.iconst X0.here hx rfl (hb hby d9_34) kt)) ?_
        obtain ⟨fs, hr, hrun, hended, hW, hsame⟩ := X0.leave (v := some (.int 1)) (fun h => by rw [Bd.returns] at h; cases h)
        refine own_end (retN X0 hx (t := .boolean) Bd.returns (by simp) (hb hby d9_35) hr) ⟨_, hrun, hended, _, _, rfl, ?_, ⟨_, rfl⟩, hW, hsame.mono (by decide) (by decide)⟩
        show own_alwQ Z _ h0 n0 _ s₁.heap _
        rw [e0]
        exact ⟨(congrArg (fun z => some (Value.int z)) (own_al1 (by have q1 := own_fold pr1; have q2 := own_dig pr1; unfold own_ok; revert hc1139 hc1140 hc1143 q1 q2; generalize (u ||| (32 : Int32)) = y; generalize (u - (48 : Int32)) = x; simp only [Int32.lt_iff_toInt_lt, Int64.lt_iff_toInt_lt, ← Int32.toInt_inj, ← Int64.toInt_inj, Int32.toInt_toInt64, own_t0, own_t9, own_t45, own_t48, own_t57, own_t65, own_t90, own_t95, own_t97, own_t122, own_t255]; intros; omega))), N0, rfl⟩
  ·
    refine own_st (T' := s₁) (g' := (mkF m 14 #[.val (.int u), .val (.int (u ||| (32 : Int32))), .unset] [(.int 122), (.int (u ||| (32 : Int32)))])) (fun _ kt => XS.icmpNo X0.here hx rfl (hb hby d9_8) rfl (XT.ii_lt_f hc1139) (XS.iloadN X0.here hx rfl (hb hby d9_11) rfl (XS.bipush X0.here hx rfl (hb hby d9_12) kt))) ?_
    by_cases hc1146 : (122 : Int32) < (u ||| (32 : Int32))
    ·
      refine own_st (T' := s₁) (g' := (mkF m 25 #[.val (.int u), .val (.int (u ||| (32 : Int32))), .val (.int (u - (48 : Int32)))] [(.int (u - (48 : Int32)))])) (fun _ kt => XS.icmpYes X0.here hx rfl (pc0 := 14) (pc' := 19) rfl (hb hby d9_14) rfl (XT.ii_gt_t hc1146) (by decide) (by decide) (XS.iloadN X0.here hx rfl (hb hby d9_19) rfl (XS.bipush X0.here hx rfl (hb hby d9_20) (XS.isub X0.here hx rfl (hb hby d9_22) rfl (XS.istoreN X0.here hx rfl (hb hby d9_23) rfl (l' := #[.val (.int u), .val (.int (u ||| (32 : Int32))), .val (.int (u - (48 : Int32)))]) rfl (XS.iloadN X0.here hx rfl (hb hby d9_24) rfl kt)))))) ?_
      by_cases hc1147 : (u - (48 : Int32)) < 0
      ·
        refine own_st (T' := s₁) (g' := (mkF m 39 #[.val (.int u), .val (.int (u ||| (32 : Int32))), .val (.int (u - (48 : Int32)))] [(.int 95), (.int u)])) (fun _ kt => XS.ifYes X0.here hx rfl (pc0 := 25) (pc' := 36) rfl (hb hby d9_25) rfl (XT.i0_lt_t hc1147) (by decide) (by decide) (XS.iloadN X0.here hx rfl (hb hby d9_36) rfl (XS.bipush X0.here hx rfl (hb hby d9_37) kt))) ?_
        by_cases hc1148 : u = (95 : Int32)
        ·
          refine own_st (T' := s₁) (g' := (mkF m 53 #[.val (.int u), .val (.int (u ||| (32 : Int32))), .val (.int (u - (48 : Int32)))] [(.int 1)])) (fun _ kt => XS.icmpYes X0.here hx rfl (pc0 := 39) (pc' := 48) rfl (hb hby d9_39) rfl (XT.ii_eq_t hc1148) (by decide) (by decide) (XS.iconst X0.here hx rfl (hb hby d9_48) (XS.goto X0.here hx rfl (pc0 := 49) (pc' := 53) rfl (hb hby d9_49) (by decide) (by decide) kt))) ?_
          obtain ⟨fs, hr, hrun, hended, hW, hsame⟩ := X0.leave (v := some (.int 1)) (fun h => by rw [Bd.returns] at h; cases h)
          refine own_end (retN X0 hx (t := .boolean) Bd.returns (by simp) (hb hby d9_53) hr) ⟨_, hrun, hended, _, _, rfl, ?_, ⟨_, rfl⟩, hW, hsame.mono (by decide) (by decide)⟩
          show own_alwQ Z _ h0 n0 _ s₁.heap _
          rw [e0]
          exact ⟨(congrArg (fun z => some (Value.int z)) (own_al1 (by have q1 := own_fold pr1; have q2 := own_dig pr1; unfold own_ok; revert hc1139 hc1146 hc1147 hc1148 q1 q2; generalize (u ||| (32 : Int32)) = y; generalize (u - (48 : Int32)) = x; simp only [Int32.lt_iff_toInt_lt, Int64.lt_iff_toInt_lt, ← Int32.toInt_inj, ← Int64.toInt_inj, Int32.toInt_toInt64, own_t0, own_t9, own_t45, own_t48, own_t57, own_t65, own_t90, own_t95, own_t97, own_t122, own_t255]; intros; omega))), N0, rfl⟩
        ·
          refine own_st (T' := s₁) (g' := (mkF m 45 #[.val (.int u), .val (.int (u ||| (32 : Int32))), .val (.int (u - (48 : Int32)))] [(.int 45), (.int u)])) (fun _ kt => XS.icmpNo X0.here hx rfl (hb hby d9_39) rfl (XT.ii_eq_f hc1148) (XS.iloadN X0.here hx rfl (hb hby d9_42) rfl (XS.bipush X0.here hx rfl (hb hby d9_43) kt))) ?_
          by_cases hc1149 : u = (45 : Int32)
          ·
            refine own_st (T' := s₁) (g' := (mkF m 53 #[.val (.int u), .val (.int (u ||| (32 : Int32))), .val (.int (u - (48 : Int32)))] [(.int 1)])) (fun _ kt => XS.icmpNo X0.here hx rfl (hb hby d9_45) rfl (XT.ii_ne_f hc1149) (XS.iconst X0.here hx rfl (hb hby d9_48) (XS.goto X0.here hx rfl (pc0 := 49) (pc' := 53) rfl (hb hby d9_49) (by decide) (by decide) kt))) ?_
            obtain ⟨fs, hr, hrun, hended, hW, hsame⟩ := X0.leave (v := some (.int 1)) (fun h => by rw [Bd.returns] at h; cases h)
            refine own_end (retN X0 hx (t := .boolean) Bd.returns (by simp) (hb hby d9_53) hr) ⟨_, hrun, hended, _, _, rfl, ?_, ⟨_, rfl⟩, hW, hsame.mono (by decide) (by decide)⟩
            show own_alwQ Z _ h0 n0 _ s₁.heap _
            rw [e0]
            exact ⟨(congrArg (fun z => some (Value.int z)) (own_al1 (by have q1 := own_fold pr1; have q2 := own_dig pr1; unfold own_ok; revert hc1139 hc1146 hc1147 hc1148 hc1149 q1 q2; generalize (u ||| (32 : Int32)) = y; generalize (u - (48 : Int32)) = x; simp only [Int32.lt_iff_toInt_lt, Int64.lt_iff_toInt_lt, ← Int32.toInt_inj, ← Int64.toInt_inj, Int32.toInt_toInt64, own_t0, own_t9, own_t45, own_t48, own_t57, own_t65, own_t90, own_t95, own_t97, own_t122, own_t255]; intros; omega))), N0, rfl⟩
          ·
            refine own_st (T' := s₁) (g' := (mkF m 53 #[.val (.int u), .val (.int (u ||| (32 : Int32))), .val (.int (u - (48 : Int32)))] [(.int 0)])) (fun _ kt => XS.icmpYes X0.here hx rfl (pc0 := 45) (pc' := 52) rfl (hb hby d9_45) rfl (XT.ii_ne_t hc1149) (by decide) (by decide) (XS.iconst X0.here hx rfl (hb hby d9_52) kt)) ?_
            obtain ⟨fs, hr, hrun, hended, hW, hsame⟩ := X0.leave (v := some (.int 0)) (fun h => by rw [Bd.returns] at h; cases h)
            refine own_end (retN X0 hx (t := .boolean) Bd.returns (by simp) (hb hby d9_53) hr) ⟨_, hrun, hended, _, _, rfl, ?_, ⟨_, rfl⟩, hW, hsame.mono (by decide) (by decide)⟩
            show own_alwQ Z _ h0 n0 _ s₁.heap _
            rw [e0]
            exact ⟨(congrArg (fun z => some (Value.int z)) (own_al0 (by have q1 := own_fold pr1; have q2 := own_dig pr1; unfold own_ok; revert hc1139 hc1146 hc1147 hc1148 hc1149 q1 q2; generalize (u ||| (32 : Int32)) = y; generalize (u - (48 : Int32)) = x; simp only [Int32.lt_iff_toInt_lt, Int64.lt_iff_toInt_lt, ← Int32.toInt_inj, ← Int64.toInt_inj, Int32.toInt_toInt64, own_t0, own_t9, own_t45, own_t48, own_t57, own_t65, own_t90, own_t95, own_t97, own_t122, own_t255]; intros; omega))), N0, rfl⟩
      ·
        refine own_st (T' := s₁) (g' := (mkF m 31 #[.val (.int u), .val (.int (u ||| (32 : Int32))), .val (.int (u - (48 : Int32)))] [(.int 9), (.int (u - (48 : Int32)))])) (fun _ kt => XS.ifNo X0.here hx rfl (hb hby d9_25) rfl (XT.i0_lt_f hc1147) (XS.iloadN X0.here hx rfl (hb hby d9_28) rfl (XS.bipush X0.here hx rfl (hb hby d9_29) kt))) ?_
        by_cases hc1150 : (9 : Int32) < (u - (48 : Int32))
        ·
          refine own_st (T' := s₁) (g' := (mkF m 39 #[.val (.int u), .val (.int (u ||| (32 : Int32))), .val (.int (u - (48 : Int32)))] [(.int 95), (.int u)])) (fun _ kt => XS.icmpYes X0.here hx rfl (pc0 := 31) (pc' := 36) rfl (hb hby d9_31) rfl (XT.ii_gt_t hc1150) (by decide) (by decide) (XS.iloadN X0.here hx rfl (hb hby d9_36) rfl (XS.bipush X0.here hx rfl (hb hby d9_37) kt))) ?_
          by_cases hc1151 : u = (95 : Int32)
          ·
            refine own_st (T' := s₁) (g' := (mkF m 53 #[.val (.int u), .val (.int (u ||| (32 : Int32))), .val (.int (u - (48 : Int32)))] [(.int 1)])) (fun _ kt => XS.icmpYes X0.here hx rfl (pc0 := 39) (pc' := 48) rfl (hb hby d9_39) rfl (XT.ii_eq_t hc1151) (by decide) (by decide) (XS.iconst X0.here hx rfl (hb hby d9_48) (XS.goto X0.here hx rfl (pc0 := 49) (pc' := 53) rfl (hb hby d9_49) (by decide) (by decide) kt))) ?_
            obtain ⟨fs, hr, hrun, hended, hW, hsame⟩ := X0.leave (v := some (.int 1)) (fun h => by rw [Bd.returns] at h; cases h)
            refine own_end (retN X0 hx (t := .boolean) Bd.returns (by simp) (hb hby d9_53) hr) ⟨_, hrun, hended, _, _, rfl, ?_, ⟨_, rfl⟩, hW, hsame.mono (by decide) (by decide)⟩
            show own_alwQ Z _ h0 n0 _ s₁.heap _
            rw [e0]
            exact ⟨(congrArg (fun z => some (Value.int z)) (own_al1 (by have q1 := own_fold pr1; have q2 := own_dig pr1; unfold own_ok; revert hc1139 hc1146 hc1147 hc1150 hc1151 q1 q2; generalize (u ||| (32 : Int32)) = y; generalize (u - (48 : Int32)) = x; simp only [Int32.lt_iff_toInt_lt, Int64.lt_iff_toInt_lt, ← Int32.toInt_inj, ← Int64.toInt_inj, Int32.toInt_toInt64, own_t0, own_t9, own_t45, own_t48, own_t57, own_t65, own_t90, own_t95, own_t97, own_t122, own_t255]; intros; omega))), N0, rfl⟩
          ·
            refine own_st (T' := s₁) (g' := (mkF m 45 #[.val (.int u), .val (.int (u ||| (32 : Int32))), .val (.int (u - (48 : Int32)))] [(.int 45), (.int u)])) (fun _ kt => XS.icmpNo X0.here hx rfl (hb hby d9_39) rfl (XT.ii_eq_f hc1151) (XS.iloadN X0.here hx rfl (hb hby d9_42) rfl (XS.bipush X0.here hx rfl (hb hby d9_43) kt))) ?_
            by_cases hc1152 : u = (45 : Int32)
            ·
              refine own_st (T' := s₁) (g' := (mkF m 53 #[.val (.int u), .val (.int (u ||| (32 : Int32))), .val (.int (u - (48 : Int32)))] [(.int 1)])) (fun _ kt => XS.icmpNo X0.here hx rfl (hb hby d9_45) rfl (XT.ii_ne_f hc1152) (XS.iconst X0.here hx rfl (hb hby d9_48) (XS.goto X0.here hx rfl (pc0 := 49) (pc' := 53) rfl (hb hby d9_49) (by decide) (by decide) kt))) ?_
              obtain ⟨fs, hr, hrun, hended, hW, hsame⟩ := X0.leave (v := some (.int 1)) (fun h => by rw [Bd.returns] at h; cases h)
              refine own_end (retN X0 hx (t := .boolean) Bd.returns (by simp) (hb hby d9_53) hr) ⟨_, hrun, hended, _, _, rfl, ?_, ⟨_, rfl⟩, hW, hsame.mono (by decide) (by decide)⟩
              show own_alwQ Z _ h0 n0 _ s₁.heap _
              rw [e0]
              exact ⟨(congrArg (fun z => some (Value.int z)) (own_al1 (by have q1 := own_fold pr1; have q2 := own_dig pr1; unfold own_ok; revert hc1139 hc1146 hc1147 hc1150 hc1151 hc1152 q1 q2; generalize (u ||| (32 : Int32)) = y; generalize (u - (48 : Int32)) = x; simp only [Int32.lt_iff_toInt_lt, Int64.lt_iff_toInt_lt, ← Int32.toInt_inj, ← Int64.toInt_inj, Int32.toInt_toInt64, own_t0, own_t9, own_t45, own_t48, own_t57, own_t65, own_t90, own_t95, own_t97, own_t122, own_t255]; intros; omega))), N0, rfl⟩
            ·
              refine own_st (T' := s₁) (g' := (mkF m 53 #[.val (.int u), .val (.int (u ||| (32 : Int32))), .val (.int (u - (48 : Int32)))] [(.int 0)])) (fun _ kt => XS.icmpYes X0.here hx rfl (pc0 := 45) (pc' := 52) rfl (hb hby d9_45) rfl (XT.ii_ne_t hc1152) (by decide) (by decide) (XS.iconst X0.here hx rfl (hb hby d9_52) kt)) ?_
              obtain ⟨fs, hr, hrun, hended, hW, hsame⟩ := X0.leave (v := some (.int 0)) (fun h => by rw [Bd.returns] at h; cases h)
              refine own_end (retN X0 hx (t := .boolean) Bd.returns (by simp) (hb hby d9_53) hr) ⟨_, hrun, hended, _, _, rfl, ?_, ⟨_, rfl⟩, hW, hsame.mono (by decide) (by decide)⟩
              show own_alwQ Z _ h0 n0 _ s₁.heap _
              rw [e0]
              exact ⟨(congrArg (fun z => some (Value.int z)) (own_al0 (by have q1 := own_fold pr1; have q2 := own_dig pr1; unfold own_ok; revert hc1139 hc1146 hc1147 hc1150 hc1151 hc1152 q1 q2; generalize (u ||| (32 : Int32)) = y; generalize (u - (48 : Int32)) = x; simp only [Int32.lt_iff_toInt_lt, Int64.lt_iff_toInt_lt, ← Int32.toInt_inj, ← Int64.toInt_inj, Int32.toInt_toInt64, own_t0, own_t9, own_t45, own_t48, own_t57, own_t65, own_t90, own_t95, own_t97, own_t122, own_t255]; intros; omega))), N0, rfl⟩
        ·
          refine own_st (T' := s₁) (g' := (mkF m 35 #[.val (.int u), .val (.int (u ||| (32 : Int32))), .val (.int (u - (48 : Int32)))] [(.int 1)])) (fun _ kt => XS.icmpNo X0.here hx rfl (hb hby d9_31) rfl (XT.ii_gt_f hc1150) (XS.iconst X0.here hx rfl (hb hby d9_34) kt)) ?_
          obtain ⟨fs, hr, hrun, hended, hW, hsame⟩ := X0.leave (v := some (.int 1)) (fun h => by rw [Bd.returns] at h; cases h)
          refine own_end (retN X0 hx (t := .boolean) Bd.returns (by simp) (hb hby d9_35) hr) ⟨_, hrun, hended, _, _, rfl, ?_, ⟨_, rfl⟩, hW, hsame.mono (by decide) (by decide)⟩
          show own_alwQ Z _ h0 n0 _ s₁.heap _
          rw [e0]
          exact ⟨(congrArg (fun z => some (Value.int z)) (own_al1 (by have q1 := own_fold pr1; have q2 := own_dig pr1; unfold own_ok; revert hc1139 hc1146 hc1147 hc1150 q1 q2; generalize (u ||| (32 : Int32)) = y; generalize (u - (48 : Int32)) = x; simp only [Int32.lt_iff_toInt_lt, Int64.lt_iff_toInt_lt, ← Int32.toInt_inj, ← Int64.toInt_inj, Int32.toInt_toInt64, own_t0, own_t9, own_t45, own_t48, own_t57, own_t65, own_t90, own_t95, own_t97, own_t122, own_t255]; intros; omega))), N0, rfl⟩
    ·
      refine own_st (T' := s₁) (g' := (mkF m 18 #[.val (.int u), .val (.int (u ||| (32 : Int32))), .unset] [(.int 1)])) (fun _ kt => XS.icmpNo X0.here hx rfl (hb hby d9_14) rfl (XT.ii_gt_f hc1146) (XS.iconst X0.here hx rfl (hb hby d9_17) kt)) ?_
      obtain ⟨fs, hr, hrun, hended, hW, hsame⟩ := X0.leave (v := some (.int 1)) (fun h => by rw [Bd.returns] at h; cases h)
      refine own_end (retN X0 hx (t := .boolean) Bd.returns (by simp) (hb hby d9_18) hr) ⟨_, hrun, hended, _, _, rfl, ?_, ⟨_, rfl⟩, hW, hsame.mono (by decide) (by decide)⟩
      show own_alwQ Z _ h0 n0 _ s₁.heap _
      rw [e0]
      exact ⟨(congrArg (fun z => some (Value.int z)) (own_al1 (by have q1 := own_fold pr1; have q2 := own_dig pr1; unfold own_ok; revert hc1139 hc1146 q1 q2; generalize (u ||| (32 : Int32)) = y; generalize (u - (48 : Int32)) = x; simp only [Int32.lt_iff_toInt_lt, Int64.lt_iff_toInt_lt, ← Int32.toInt_inj, ← Int64.toInt_inj, Int32.toInt_toInt64, own_t0, own_t9, own_t45, own_t48, own_t57, own_t65, own_t90, own_t95, own_t97, own_t122, own_t255]; intros; omega))), N0, rfl⟩
theorem own_okt {c : Int32} (h : ¬ own_al c = 0) : own_ok c := Decidable.byContradiction fun q => h (by rw [own_al, if_neg q])
theorem own_okf {c : Int32} (h : own_al c = 0) (q : own_ok c) : False := by rw [own_al, if_pos q] at h; exact absurd h (by decide)

theorem own_pd17 : parseMethodDescriptor "([C)V" = some ⟨[(.array .char)], none⟩ := by decide +kernel
theorem own_pd18 : parseMethodDescriptor "(Ljava/lang/String;)Z" = some ⟨[(.object "java/lang/String")], some .boolean⟩ := by decide +kernel
theorem own_pd19 : parseMethodDescriptor "(C)Z" = some ⟨[.char], some .boolean⟩ := by decide +kernel
theorem own_ef15 (m : MethodId) (x0 : Int32) (x1 : Int32) (x2 : Int32) (x3 : Int32) (x4 : Int32) : entryFrame m #[(.int x0), (.int x1), (.int x2), (.int x3), (.int x4)] 12 = mkF m 0 #[.val (.int x0), .val (.int x1), .val (.int x2), .val (.int x3), .val (.int x4), .unset, .unset, .unset, .unset, .unset, .unset, .unset] [] := by first | (simp [entryFrame, mkF, argsToLocals, Value.category]; done) | rfl
def own_lawQ (Z : State) (p1 : Int32) (p2 : Int32) (p3 : Int32) (p4 : Int32) (p5 : Int32) (zc : Int32) (fmt : Value) (h0 : Heap) (n0 : Nat) (v : Option Value) (h : Heap) (L : List Loc) : Prop := v = some (.int 1) ∧ Fr n0 L
theorem own_law (l : Launch) (Z : State) (a0 : Array Value) (hw : ∀ d ∈ tables_1, d.before a0 Z = true) (ws : List Jvm.Cond) (p1 : Int32) (p2 : Int32) (p3 : Int32) (p4 : Int32) (p5 : Int32) (zc : Int32) (fmt : Value) (h0 : Heap) (n0 : Nat) (Z0 : n0 ≤ h0.size) (pr1 : Old Z n0 h0) (pr2 : Sta Z Z.heap "java/lang/String" "COMPACT_STRINGS" "Z" (.int zc)) (pr3 : ¬ zc = 0) (pr4 : Sta Z Z.heap "jdk/internal/util/Preconditions" "SIOOBE_FORMATTER" "Ljava/util/function/BiFunction;" fmt) (pr5 : fmt.isRef = true) (pr6 : Sta Z Z.heap "java/lang/StringUTF16" "$assertionsDisabled" "Z" (.int 1)) (pr7 : Sta Z Z.heap "java/lang/StringUTF16" "HI_BYTE_SHIFT" "I" (.int 0)) (pr8 : Sta Z Z.heap "java/lang/StringUTF16" "LO_BYTE_SHIFT" "I" (.int 8)) :
    own_MH own_EL l x code maxLocals ret ws room_1 #[(.int p1), (.int p2), (.int p3), (.int p4), (.int p5)] Z h0 (own_lawQ Z p1 p2 p3 p4 p5 zc fmt h0 n0) := by
  refine own_goH (plainFor_of_name own_pn6) (fun m => own_ef15 m p1 p2 p3 p4 p5 ) ?_
  intro p e s m below meth c s₁ Bd hx hby hml hZ hh hown hnm X0 e0 hS CR0
  have N0 := Fr.nil n0
  have hk : h0.size ≤ h0.size := Nat.le_refl _
  refine own_st (T' := s₁) (g' := (mkF m 1 #[.val (.int p1), .val (.int p2), .val (.int p3), .val (.int p4), .val (.int p5), .unset, .unset, .unset, .unset, .unset, .unset, .unset] [(.int p1)])) (fun _ kt => XS.iloadN X0.here hx rfl (hb hby at_0) rfl kt) ?_
  refine own_st (T' := s₁) (g' := (mkF m 3 #[.val (.int p1), .val (.int p2), .val (.int p3), .val (.int p4), .val (.int p5), .unset, .unset, .unset, .unset, .unset, .unset, .unset] [(.int 2147483647), (.int p1)])) (Stand.ldcInt X0 hx hown (mvT hZ (own_k hw 0 rfl)) (g := (mkF m 1 #[.val (.int p1), .val (.int p2), .val (.int p3), .val (.int p4), .val (.int p5), .unset, .unset, .unset, .unset, .unset, .unset, .unset] [(.int p1)])) rfl (hb hby at_1)) ?_
  refine own_st (T' := s₁) (g' := (mkF m 6 #[.val (.int p1), .val (.int p2), .val (.int p3), .val (.int p4), .val (.int p5), .unset, .unset, .unset, .unset, .unset, .unset, .unset] [(.int ((p1 &&& (2147483647 : Int32)) - ((p1 &&& (2147483647 : Int32)) / (5 : Int32)) * (5 : Int32)))])) (fun _ kt => XS.iand X0.here hx rfl (hb hby at_3) rfl (XS.iconst X0.here hx rfl (hb hby at_4) (XS.irem X0.here hx rfl (hb hby at_5) rfl (by decide) kt))) ?_
  obtain ⟨nn, hnn⟩ : ∃ z : Int32, z = ((p1 &&& (2147483647 : Int32)) - ((p1 &&& (2147483647 : Int32)) / (5 : Int32)) * (5 : Int32)) := ⟨_, rfl⟩
  rw [← hnn]
  refine own_st (T' := s₁) (g' := (mkF m 9 #[.val (.int p1), .val (.int p2), .val (.int p3), .val (.int p4), .val (.int p5), .val (.int nn), .unset, .unset, .unset, .unset, .unset, .unset] [(.int p2)])) (fun _ kt => XS.istore X0.here hx rfl (hb hby at_6) rfl (l' := #[.val (.int p1), .val (.int p2), .val (.int p3), .val (.int p4), .val (.int p5), .val (.int nn), .unset, .unset, .unset, .unset, .unset, .unset]) rfl (XS.iloadN X0.here hx rfl (hb hby at_8) rfl kt)) ?_
  refine own_st (T' := s₁) (g' := (mkF m 11 #[.val (.int p1), .val (.int p2), .val (.int p3), .val (.int p4), .val (.int p5), .val (.int nn), .unset, .unset, .unset, .unset, .unset, .unset] [(.int 65535), (.int p2)])) (Stand.ldcInt X0 hx hown (mvT hZ (own_k hw 1 rfl)) (g := (mkF m 9 #[.val (.int p1), .val (.int p2), .val (.int p3), .val (.int p4), .val (.int p5), .val (.int nn), .unset, .unset, .unset, .unset, .unset, .unset] [(.int p2)])) rfl (hb hby at_9)) ?_
  refine own_st (T' := s₁) (g' := (mkF m 13 #[.val (.int p1), .val (.int p2), .val (.int p3), .val (.int p4), .val (.int p5), .val (.int nn), .unset, .unset, .unset, .unset, .unset, .unset] [(.int ((p2 &&& (65535 : Int32)).toUInt32.toUInt16.toUInt32.toInt32))])) (fun _ kt => XS.iand X0.here hx rfl (hb hby at_11) rfl (XT.i2c X0.here hx rfl (hb hby at_12) rfl kt)) ?_
  obtain ⟨c0, hc0⟩ : ∃ z : Int32, z = ((p2 &&& (65535 : Int32)).toUInt32.toUInt16.toUInt32.toInt32) := ⟨_, rfl⟩
  rw [← hc0]
  have g_c0 : own_c16 c0 := hc0 ▸ own_mk16 _
  refine own_st (T' := s₁) (g' := (mkF m 16 #[.val (.int p1), .val (.int p2), .val (.int p3), .val (.int p4), .val (.int p5), .val (.int nn), .val (.int c0), .unset, .unset, .unset, .unset, .unset] [(.int p3)])) (fun _ kt => XS.istore X0.here hx rfl (hb hby at_13) rfl (l' := #[.val (.int p1), .val (.int p2), .val (.int p3), .val (.int p4), .val (.int p5), .val (.int nn), .val (.int c0), .unset, .unset, .unset, .unset, .unset]) rfl (XS.iloadN X0.here hx rfl (hb hby at_15) rfl kt)) ?_
  refine own_st (T' := s₁) (g' := (mkF m 18 #[.val (.int p1), .val (.int p2), .val (.int p3), .val (.int p4), .val (.int p5), .val (.int nn), .val (.int c0), .unset, .unset, .unset, .unset, .unset] [(.int 65535), (.int p3)])) (Stand.ldcInt X0 hx hown (mvT hZ (own_k hw 1 rfl)) (g := (mkF m 16 #[.val (.int p1), .val (.int p2), .val (.int p3), .val (.int p4), .val (.int p5), .val (.int nn), .val (.int c0), .unset, .unset, .unset, .unset, .unset] [(.int p3)])) rfl (hb hby at_16)) ?_
  refine own_st (T' := s₁) (g' := (mkF m 20 #[.val (.int p1), .val (.int p2), .val (.int p3), .val (.int p4), .val (.int p5), .val (.int nn), .val (.int c0), .unset, .unset, .unset, .unset, .unset] [(.int ((p3 &&& (65535 : Int32)).toUInt32.toUInt16.toUInt32.toInt32))])) (fun _ kt => XS.iand X0.here hx rfl (hb hby at_18) rfl (XT.i2c X0.here hx rfl (hb hby at_19) rfl kt)) ?_
  obtain ⟨c1, hc1⟩ : ∃ z : Int32, z = ((p3 &&& (65535 : Int32)).toUInt32.toUInt16.toUInt32.toInt32) := ⟨_, rfl⟩
  rw [← hc1]
  have g_c1 : own_c16 c1 := hc1 ▸ own_mk16 _
  refine own_st (T' := s₁) (g' := (mkF m 23 #[.val (.int p1), .val (.int p2), .val (.int p3), .val (.int p4), .val (.int p5), .val (.int nn), .val (.int c0), .val (.int c1), .unset, .unset, .unset, .unset] [(.int p4)])) (fun _ kt => XS.istore X0.here hx rfl (hb hby at_20) rfl (l' := #[.val (.int p1), .val (.int p2), .val (.int p3), .val (.int p4), .val (.int p5), .val (.int nn), .val (.int c0), .val (.int c1), .unset, .unset, .unset, .unset]) rfl (XS.iloadN X0.here hx rfl (hb hby at_22) rfl kt)) ?_
  refine own_st (T' := s₁) (g' := (mkF m 25 #[.val (.int p1), .val (.int p2), .val (.int p3), .val (.int p4), .val (.int p5), .val (.int nn), .val (.int c0), .val (.int c1), .unset, .unset, .unset, .unset] [(.int 65535), (.int p4)])) (Stand.ldcInt X0 hx hown (mvT hZ (own_k hw 1 rfl)) (g := (mkF m 23 #[.val (.int p1), .val (.int p2), .val (.int p3), .val (.int p4), .val (.int p5), .val (.int nn), .val (.int c0), .val (.int c1), .unset, .unset, .unset, .unset] [(.int p4)])) rfl (hb hby at_23)) ?_
  refine own_st (T' := s₁) (g' := (mkF m 27 #[.val (.int p1), .val (.int p2), .val (.int p3), .val (.int p4), .val (.int p5), .val (.int nn), .val (.int c0), .val (.int c1), .unset, .unset, .unset, .unset] [(.int ((p4 &&& (65535 : Int32)).toUInt32.toUInt16.toUInt32.toInt32))])) (fun _ kt => XS.iand X0.here hx rfl (hb hby at_25) rfl (XT.i2c X0.here hx rfl (hb hby at_26) rfl kt)) ?_
  obtain ⟨c2, hc2⟩ : ∃ z : Int32, z = ((p4 &&& (65535 : Int32)).toUInt32.toUInt16.toUInt32.toInt32) := ⟨_, rfl⟩
  rw [← hc2]
  have g_c2 : own_c16 c2 := hc2 ▸ own_mk16 _
  refine own_st (T' := s₁) (g' := (mkF m 31 #[.val (.int p1), .val (.int p2), .val (.int p3), .val (.int p4), .val (.int p5), .val (.int nn), .val (.int c0), .val (.int c1), .val (.int c2), .unset, .unset, .unset] [(.int p5)])) (fun _ kt => XS.istore X0.here hx rfl (hb hby at_27) rfl (l' := #[.val (.int p1), .val (.int p2), .val (.int p3), .val (.int p4), .val (.int p5), .val (.int nn), .val (.int c0), .val (.int c1), .val (.int c2), .unset, .unset, .unset]) rfl (XS.iload X0.here hx rfl (hb hby at_29) rfl kt)) ?_
  refine own_st (T' := s₁) (g' := (mkF m 33 #[.val (.int p1), .val (.int p2), .val (.int p3), .val (.int p4), .val (.int p5), .val (.int nn), .val (.int c0), .val (.int c1), .val (.int c2), .unset, .unset, .unset] [(.int 65535), (.int p5)])) (Stand.ldcInt X0 hx hown (mvT hZ (own_k hw 1 rfl)) (g := (mkF m 31 #[.val (.int p1), .val (.int p2), .val (.int p3), .val (.int p4), .val (.int p5), .val (.int nn), .val (.int c0), .val (.int c1), .val (.int c2), .unset, .unset, .unset] [(.int p5)])) rfl (hb hby at_31)) ?_
  refine own_st (T' := s₁) (g' := (mkF m 35 #[.val (.int p1), .val (.int p2), .val (.int p3), .val (.int p4), .val (.int p5), .val (.int nn), .val (.int c0), .val (.int c1), .val (.int c2), .unset, .unset, .unset] [(.int ((p5 &&& (65535 : Int32)).toUInt32.toUInt16.toUInt32.toInt32))])) (fun _ kt => XS.iand X0.here hx rfl (hb hby at_33) rfl (XT.i2c X0.here hx rfl (hb hby at_34) rfl kt)) ?_
  obtain ⟨c3, hc3⟩ : ∃ z : Int32, z = ((p5 &&& (65535 : Int32)).toUInt32.toUInt16.toUInt32.toInt32) := ⟨_, rfl⟩
  rw [← hc3]
  have g_c3 : own_c16 c3 := hc3 ▸ own_mk16 _
  refine own_st (T' := s₁) (g' := (mkF m 39 #[.val (.int p1), .val (.int p2), .val (.int p3), .val (.int p4), .val (.int p5), .val (.int nn), .val (.int c0), .val (.int c1), .val (.int c2), .val (.int c3), .unset, .unset] [(.int nn)])) (fun _ kt => XS.istore X0.here hx rfl (hb hby at_35) rfl (l' := #[.val (.int p1), .val (.int p2), .val (.int p3), .val (.int p4), .val (.int p5), .val (.int nn), .val (.int c0), .val (.int c1), .val (.int c2), .val (.int c3), .unset, .unset]) rfl (XS.iload X0.here hx rfl (hb hby at_37) rfl kt)) ?_
  by_cases hc1153 : nn = 0
  ·
    refine own_st (T' := s₁) (g' := (mkF m 42 #[.val (.int p1), .val (.int p2), .val (.int p3), .val (.int p4), .val (.int p5), .val (.int nn), .val (.int c0), .val (.int c1), .val (.int c2), .val (.int c3), .unset, .unset] [])) (fun _ kt => XS.ifNo X0.here hx rfl (hb hby at_39) rfl (XT.i0_ne_f hc1153) kt) ?_
    obtain ⟨T1154, h1154, X1154, e1154, E1154, A1154, D1154, -, st1154⟩ := newO X0 hx hZ hown (own_k hw 2 rfl) (own_k hw 3 rfl) (own_k hw 4 rfl) e0 (g := (mkF m 42 #[.val (.int p1), .val (.int p2), .val (.int p3), .val (.int p4), .val (.int p5), .val (.int nn), .val (.int c0), .val (.int c1), .val (.int c2), .val (.int c3), .unset, .unset] [])) rfl (hb hby at_42) (by decide) (by decide)
    obtain ⟨b1154, g1154⟩ : ∃ z, z = h0.size := ⟨_, rfl⟩
    rw [← g1154] at A1154 D1154 st1154
    have CR1155 : CHr Z own_EL s.vm h0 s.vm h1154 := CHr.trans CR0 (CHr.ext E1154 CR0.1)
    have Z1156 : n0 ≤ h1154.size := Nat.le_trans Z0 E1154.1
    have hk1156 := Nat.le_trans hk E1154.1
    have ge_b1154 : n0 ≤ b1154 := Nat.le_trans Z0 (Nat.le_of_eq g1154.symm)
    have S1157 : Safe Z own_EL s.vm h1154 b1154 := (Safe.ext E1154 CR0.1 (Safe.new (Nat.le_of_eq g1154.symm)))
    have F1158 : Fld Z h1154 b1154 "java/lang/String" "value" "[B" .null := D1154 (Or.inr (own_k hw 18 rfl)) (ty := (.array .byte)) (by decide)
    have F1159 : Fld Z h1154 b1154 "java/lang/String" "coder" "B" (.int 0) := D1154 (Or.inr (own_k hw 19 rfl)) (ty := .byte) (by decide)
    refine own_st (T' := T1154) (g' := (mkF m 45 #[.val (.int p1), .val (.int p2), .val (.int p3), .val (.int p4), .val (.int p5), .val (.int nn), .val (.int c0), .val (.int c1), .val (.int c2), .val (.int c3), .unset, .unset] [(.ref b1154)])) st1154 ?_
    refine own_st (T' := T1154) (g' := (mkF m 47 #[.val (.int p1), .val (.int p2), .val (.int p3), .val (.int p4), .val (.int p5), .val (.int nn), .val (.int c0), .val (.int c1), .val (.int c2), .val (.int c3), .unset, .unset] [(.int 0), (.ref b1154), (.ref b1154)])) (fun _ kt => XS.dup X1154.here hx rfl (hb hby at_45) rfl rfl (XS.iconst X1154.here hx rfl (hb hby at_46) kt)) ?_
    obtain ⟨T1160, h1160, k1160, X1160, e1160, E1160, A1160, st1160⟩ := newP X1154 hx hZ (aty := .char) (own_k hw 5 rfl) e1154 (g := (mkF m 47 #[.val (.int p1), .val (.int p2), .val (.int p3), .val (.int p4), .val (.int p5), .val (.int nn), .val (.int c0), .val (.int c1), .val (.int c2), .val (.int c3), .unset, .unset] [(.int 0), (.ref b1154), (.ref b1154)])) rfl (hb hby at_47) rfl (by decide) (cap := 0) (by decide) (by decide) (by decide) (by decide)
    obtain ⟨b1160, g1160⟩ : ∃ z, z = h1154.size := ⟨_, rfl⟩
    rw [← g1160] at A1160 st1160
    have ne1161 : b1154 ≠ b1160 := by rw [g1160]; exact Nat.ne_of_lt A1154.lt
    have CR1162 : CHr Z own_EL s.vm h0 s.vm h1160 := CHr.trans CR1155 (CHr.ext E1160 CR1155.1)
    have Z1163 : n0 ≤ h1160.size := Nat.le_trans Z1156 E1160.1
    have hk1163 := Nat.le_trans hk1156 E1160.1
    have ge_b1160 : n0 ≤ b1160 := Nat.le_trans Z1156 (Nat.le_of_eq g1160.symm)
    have S1164 : Safe Z own_EL s.vm h1160 b1160 := (Safe.ext E1160 CR1155.1 (Safe.new (Nat.le_of_eq g1160.symm)))
    have F1165 : Arv Z h1160 b1160 k1160 .char (0 : Int32) [] (.int 0) := (Arv.new A1160 (by decide)).pad (pad_rep [] (.int 0) 0)
    refine own_st (T' := T1160) (g' := (mkF m 49 #[.val (.int p1), .val (.int p2), .val (.int p3), .val (.int p4), .val (.int p5), .val (.int nn), .val (.int c0), .val (.int c1), .val (.int c2), .val (.int c3), .unset, .unset] [(.ref b1160), (.ref b1154), (.ref b1154)])) st1160 ?_
    have F1166 : Exa Z h1160 b1154 "java/lang/String" := (Exa.ext E1160 A1154)
    have F1167 : Fld Z h1160 b1154 "java/lang/String" "value" "[B" .null := (Fld.ext E1160 F1158)
    have F1168 : Fld Z h1160 b1154 "java/lang/String" "coder" "B" (.int 0) := (Fld.ext E1160 F1159)
    obtain ⟨_, _, ⟨T1169, L1169, k1169, n1169⟩, -, X1169, hS1169, hG1169, ⟨Lc1169, hQ1169, l1169, y1169, z1169, hC1169⟩, st1169⟩ := X1160.specialBackS hx (y := yN12) rfl hown (mvT hZ (own_k hw 6 rfl)) (mvT hZ (own_k hw 7 rfl)) (mvT hZ (own_k hw 8 rfl)) (by decide) (backOfSH (W := 1) (own_e1 l Z a0 hw [] b1154 b1160 k1160 [] (.int 0) h1160 n0 Z1163 F1166 ge_b1154 F1167 F1168 F1165) hZ (own_k hw 8 rfl) (own_k hw 4 rfl) (by decide) (by decide) (own_EW hw) CR1162.1) (g := (mkF m 49 #[.val (.int p1), .val (.int p2), .val (.int p3), .val (.int p4), .val (.int p5), .val (.int nn), .val (.int c0), .val (.int c1), .val (.int c2), .val (.int c3), .unset, .unset] [(.ref b1160), (.ref b1154), (.ref b1154)])) rfl hml.symm (Steps.refl _) (a := b1154) (argsL := [(.ref b1160)]) (rest := [(.ref b1154)]) (lenOf own_pd17 rfl) rfl (own_w0 rfl rfl) (hb hby at_49) (fun _ _ => ⟨rfl, e1160, (by decide : 2 + 4 ≤ 24), (by decide : 4 + 8 ≤ 1152)⟩)
    dsimp only [Pt.U, Pt.locs, Pt.cells, Pt.slots] at X1169 l1169 y1169 z1169 st1169 hQ1169 hS1169 hG1169 hC1169
    subst l1169 y1169 z1169
    obtain ⟨t_1169, kb_1169, rfl, N1169, K1169_, P1170, P1171, P1172, P1173⟩ := hQ1169
    have N1174 := Fr.app N0 N1169
    obtain ⟨X1175, hS1175, hZ1175, hown1175⟩ := rebS hS (by rw [e1160]; exact hk1163) X1169 hS1169 hG1169 hZ hown
    have CR1176 : CHr Z own_EL s.vm h0 T1169.vm T1169.heap := CHr.trans CR1162 hC1169
    have Z1177 : n0 ≤ T1169.heap.size := Nat.le_trans Z1163 K1169_.1
    have hk1177 := Nat.le_trans hk1163 K1169_.1
    have hk1175 : T1169.heap.size ≤ T1169.heap.size := Nat.le_refl _
    refine own_tr (T' := T1169) (g' := (mkF m 52 #[.val (.int p1), .val (.int p2), .val (.int p3), .val (.int p4), .val (.int p5), .val (.int nn), .val (.int c0), .val (.int c1), .val (.int c2), .val (.int c3), .unset, .unset] [(.ref b1154)])) st1169 ?_
    refine own_st (T' := T1169) (g' := (mkF m 287 #[.val (.int p1), .val (.int p2), .val (.int p3), .val (.int p4), .val (.int p5), .val (.int nn), .val (.int c0), .val (.int c1), .val (.int c2), .val (.int c3), .val (.ref b1154), .val (.int 0)] [(.ref b1154)])) (fun _ kt => XS.astore X1175.here hx rfl (hb hby at_52) rfl rfl (l' := #[.val (.int p1), .val (.int p2), .val (.int p3), .val (.int p4), .val (.int p5), .val (.int nn), .val (.int c0), .val (.int c1), .val (.int c2), .val (.int c3), .val (.ref b1154), .unset]) rfl (XS.iconst X1175.here hx rfl (hb hby at_54) (XS.istore X1175.here hx rfl (hb hby at_55) rfl (l' := #[.val (.int p1), .val (.int p2), .val (.int p3), .val (.int p4), .val (.int p5), .val (.int nn), .val (.int c0), .val (.int c1), .val (.int c2), .val (.int c3), .val (.ref b1154), .val (.int 0)]) rfl (XS.goto X1175.here hx rfl (pc0 := 57) (pc' := 285) rfl (hb hby at_57) (by decide) (by decide) (XS.aload X1175.here hx rfl (hb hby at_285) rfl rfl kt))))) ?_
    obtain ⟨_, _, ⟨T1178, L1178, k1178, n1178⟩, -, X1178, ⟨Lc1178, hQ1178, l1178, y1178, z1178⟩, st1178⟩ := Jvm.LawKit.callS X1175 hx (y := yN10) hown1175 (mvT hZ1175 (own_k hw 24 rfl)) (mvT hZ1175 (own_k hw 25 rfl)) (mvT hZ1175 (own_k hw 26 rfl)) (mvT hZ1175 (own_k hw 27 rfl)) (by decide) (backOf (W := 0) (own_is0 l Z a0 hw [] b1154 t_1169 kb_1169 [] T1169.heap n0 Z1177 P1170 P1172 P1173) hZ1175 (own_k hw 27 rfl) (own_k hw 26 rfl) (by decide) (by decide)) (g := (mkF m 287 #[.val (.int p1), .val (.int p2), .val (.int p3), .val (.int p4), .val (.int p5), .val (.int nn), .val (.int c0), .val (.int c1), .val (.int c2), .val (.int c3), .val (.ref b1154), .val (.int 0)] [(.ref b1154)])) rfl hml.symm  (argsL := [(.ref b1154)]) (rest := []) (lenOf own_pd18 rfl) rfl (own_w0 rfl rfl) (hb hby at_287) (fun _ _ => ⟨rfl, rfl, (by decide : 6 + 0 ≤ 24), (by decide : 12 + 0 ≤ 1152)⟩)
    dsimp only [Pt.U, Pt.locs, Pt.cells, Pt.slots] at X1178 l1178 y1178 z1178 st1178 hQ1178
    subst l1178 y1178 z1178
    obtain ⟨rfl, N1178, e1178⟩ := hQ1178
    have N1179 := Fr.app N1174 N1178
    refine own_st (T' := T1178) (g' := (mkF m 290 #[.val (.int p1), .val (.int p2), .val (.int p3), .val (.int p4), .val (.int p5), .val (.int nn), .val (.int c0), .val (.int c1), .val (.int c2), .val (.int c3), .val (.ref b1154), .val (.int 0)] [(.int 0)])) st1178 ?_
    refine own_st (T' := T1178) (g' := (mkF m 300 #[.val (.int p1), .val (.int p2), .val (.int p3), .val (.int p4), .val (.int p5), .val (.int nn), .val (.int c0), .val (.int c1), .val (.int c2), .val (.int c3), .val (.ref b1154), .val (.int 0)] [(.int 1)])) (fun _ kt => XS.iload X1178.here hx rfl (hb hby at_290) rfl (XS.icmpNo X1178.here hx rfl (hb hby at_292) rfl (XT.ii_ne_f (by decide)) (XS.iconst X1178.here hx rfl (hb hby at_295) (XS.goto X1178.here hx rfl (pc0 := 296) (pc' := 300) rfl (hb hby at_296) (by decide) (by decide) kt)))) ?_
    obtain ⟨fs, hr, hrun, hended, hE⟩ := Stand.leaveW X1178 hS1175 (by rw [e1178]; exact hk1175) (v := some (.int 1)) (fun h => by rw [Bd.returns] at h; cases h)
    refine own_end (retN X1178 hx (t := .boolean) Bd.returns (by simp) (hb hby at_300) hr) ⟨_, hrun, hended, _, _, rfl, ?_, (by rw [hh]; show CHr Z own_EL s.vm h0 T1178.vm T1178.heap; rw [e1178]; exact CHr.trans CR1176 (CHv.at X1178 hZ1175 (own_EW hw) CR1176.1)), ⟨hE.1, hE.2.1, hE.2.2.1, hE.2.2.2.mono (by decide) (by decide)⟩⟩
    show own_lawQ Z _ _ _ _ _ _ _ h0 n0 _ T1178.heap _
    rw [e1178]
    exact ⟨rfl, N1179⟩
  ·
    refine own_st (T' := s₁) (g' := (mkF m 63 #[.val (.int p1), .val (.int p2), .val (.int p3), .val (.int p4), .val (.int p5), .val (.int nn), .val (.int c0), .val (.int c1), .val (.int c2), .val (.int c3), .unset, .unset] [(.int 1), (.int nn)])) (fun _ kt => XS.ifYes X0.here hx rfl (pc0 := 39) (pc' := 60) rfl (hb hby at_39) rfl (XT.i0_ne_t hc1153) (by decide) (by decide) (XS.iload X0.here hx rfl (hb hby at_60) rfl (XS.iconst X0.here hx rfl (hb hby at_62) kt))) ?_
    by_cases hc1180 : nn = (1 : Int32)
    ·
      refine own_st (T' := s₁) (g' := (mkF m 66 #[.val (.int p1), .val (.int p2), .val (.int p3), .val (.int p4), .val (.int p5), .val (.int nn), .val (.int c0), .val (.int c1), .val (.int c2), .val (.int c3), .unset, .unset] [])) (fun _ kt => XS.icmpNo X0.here hx rfl (hb hby at_63) rfl (XT.ii_ne_f hc1180) kt) ?_
      obtain ⟨T1181, h1181, X1181, e1181, E1181, A1181, D1181, -, st1181⟩ := newO X0 hx hZ hown (own_k hw 2 rfl) (own_k hw 3 rfl) (own_k hw 4 rfl) e0 (g := (mkF m 66 #[.val (.int p1), .val (.int p2), .val (.int p3), .val (.int p4), .val (.int p5), .val (.int nn), .val (.int c0), .val (.int c1), .val (.int c2), .val (.int c3), .unset, .unset] [])) rfl (hb hby at_66) (by decide) (by decide)
      obtain ⟨b1181, g1181⟩ : ∃ z, z = h0.size := ⟨_, rfl⟩
      rw [← g1181] at A1181 D1181 st1181
      have CR1182 : CHr Z own_EL s.vm h0 s.vm h1181 := CHr.trans CR0 (CHr.ext E1181 CR0.1)
      have Z1183 : n0 ≤ h1181.size := Nat.le_trans Z0 E1181.1
      have hk1183 := Nat.le_trans hk E1181.1
      have ge_b1181 : n0 ≤ b1181 := Nat.le_trans Z0 (Nat.le_of_eq g1181.symm)
      have S1184 : Safe Z own_EL s.vm h1181 b1181 := (Safe.ext E1181 CR0.1 (Safe.new (Nat.le_of_eq g1181.symm)))
      have F1185 : Fld Z h1181 b1181 "java/lang/String" "value" "[B" .null := D1181 (Or.inr (own_k hw 18 rfl)) (ty := (.array .byte)) (by decide)
      have F1186 : Fld Z h1181 b1181 "java/lang/String" "coder" "B" (.int 0) := D1181 (Or.inr (own_k hw 19 rfl)) (ty := .byte) (by decide)
      refine own_st (T' := T1181) (g' := (mkF m 69 #[.val (.int p1), .val (.int p2), .val (.int p3), .val (.int p4), .val (.int p5), .val (.int nn), .val (.int c0), .val (.int c1), .val (.int c2), .val (.int c3), .unset, .unset] [(.ref b1181)])) st1181 ?_
      refine own_st (T' := T1181) (g' := (mkF m 71 #[.val (.int p1), .val (.int p2), .val (.int p3), .val (.int p4), .val (.int p5), .val (.int nn), .val (.int c0), .val (.int c1), .val (.int c2), .val (.int c3), .unset, .unset] [(.int 1), (.ref b1181), (.ref b1181)])) (fun _ kt => XS.dup X1181.here hx rfl (hb hby at_69) rfl rfl (XS.iconst X1181.here hx rfl (hb hby at_70) kt)) ?_
      obtain ⟨T1187, h1187, k1187, X1187, e1187, E1187, A1187, st1187⟩ := newP X1181 hx hZ (aty := .char) (own_k hw 5 rfl) e1181 (g := (mkF m 71 #[.val (.int p1), .val (.int p2), .val (.int p3), .val (.int p4), .val (.int p5), .val (.int nn), .val (.int c0), .val (.int c1), .val (.int c2), .val (.int c3), .unset, .unset] [(.int 1), (.ref b1181), (.ref b1181)])) rfl (hb hby at_71) rfl (by decide) (cap := 1) (by decide) (by decide) (by decide) (by decide)
      obtain ⟨b1187, g1187⟩ : ∃ z, z = h1181.size := ⟨_, rfl⟩
      rw [← g1187] at A1187 st1187
      have ne1188 : b1181 ≠ b1187 := by rw [g1187]; exact Nat.ne_of_lt A1181.lt
      have CR1189 : CHr Z own_EL s.vm h0 s.vm h1187 := CHr.trans CR1182 (CHr.ext E1187 CR1182.1)
      have Z1190 : n0 ≤ h1187.size := Nat.le_trans Z1183 E1187.1
      have hk1190 := Nat.le_trans hk1183 E1187.1
      have ge_b1187 : n0 ≤ b1187 := Nat.le_trans Z1183 (Nat.le_of_eq g1187.symm)
      have S1191 : Safe Z own_EL s.vm h1187 b1187 := (Safe.ext E1187 CR1182.1 (Safe.new (Nat.le_of_eq g1187.symm)))
      have F1192 : Arv Z h1187 b1187 k1187 .char (1 : Int32) [(.int 0)] (.int 0) := (Arv.new A1187 (by decide)).pad (pad_rep [] (.int 0) 1)
      refine own_st (T' := T1187) (g' := (mkF m 73 #[.val (.int p1), .val (.int p2), .val (.int p3), .val (.int p4), .val (.int p5), .val (.int nn), .val (.int c0), .val (.int c1), .val (.int c2), .val (.int c3), .unset, .unset] [(.ref b1187), (.ref b1181), (.ref b1181)])) st1187 ?_
      refine own_st (T' := T1187) (g' := (mkF m 77 #[.val (.int p1), .val (.int p2), .val (.int p3), .val (.int p4), .val (.int p5), .val (.int nn), .val (.int c0), .val (.int c1), .val (.int c2), .val (.int c3), .unset, .unset] [(.int c0), (.int 0), (.ref b1187), (.ref b1187), (.ref b1181), (.ref b1181)])) (fun _ kt => XS.dup X1187.here hx rfl (hb hby at_73) rfl rfl (XS.iconst X1187.here hx rfl (hb hby at_74) (XS.iload X1187.here hx rfl (hb hby at_75) rfl kt))) ?_
      obtain ⟨T1193, h1193, X1193, e1193, W1193, V1193, st1193⟩ := own_cst X1187 hx hZ e1187 F1192 ⟨by decide, by decide⟩ (i := 0) rfl (by simp) (y := c0) (own_narc g_c0) (g := (mkF m 77 #[.val (.int p1), .val (.int p2), .val (.int p3), .val (.int p4), .val (.int p5), .val (.int nn), .val (.int c0), .val (.int c1), .val (.int c2), .val (.int c3), .unset, .unset] [(.int c0), (.int 0), (.ref b1187), (.ref b1187), (.ref b1181), (.ref b1181)])) rfl rfl (hb hby at_77)
      have N1193 := Fr.snoc X1193 N0 ge_b1187
      have CR1194 : CHr Z own_EL s.vm h0 s.vm h1193 := CHr.trans CR1189 (CHr.wr W1193 S1191 CR1189.1)
      have Z1195 : n0 ≤ h1193.size := Nat.le_trans Z1190 (Nat.le_of_eq (Wr.size W1193).symm)
      have hk1195 := Nat.le_trans hk1190 (Nat.le_of_eq (Wr.size W1193).symm)
      have F1196 : Arv Z h1193 b1187 k1187 .char (1 : Int32) [(.int c0)] (.int 0) := V1193
      refine own_st (T' := T1193) (g' := (mkF m 78 #[.val (.int p1), .val (.int p2), .val (.int p3), .val (.int p4), .val (.int p5), .val (.int nn), .val (.int c0), .val (.int c1), .val (.int c2), .val (.int c3), .unset, .unset] [(.ref b1187), (.ref b1181), (.ref b1181)])) st1193 ?_
      have F1197 : Old Z n0 h1193 := (Old.wr (Old.ext (Old.ext pr1 E1181) E1187) W1193 ge_b1187)
      have F1198 : Exa Z h1193 b1181 "java/lang/String" := (Exa.wr W1193 (Exa.ext E1187 A1181))
      have F1199 : Fld Z h1193 b1181 "java/lang/String" "value" "[B" .null := (Fld.other W1193 (Fld.ext E1187 F1185) (Or.inl ne1188))
      have F1200 : Fld Z h1193 b1181 "java/lang/String" "coder" "B" (.int 0) := (Fld.other W1193 (Fld.ext E1187 F1186) (Or.inl ne1188))
      obtain ⟨_, _, ⟨T1201, L1201, k1201, n1201⟩, -, X1201, ⟨Lc1201, hQ1201, l1201, y1201, z1201⟩, st1201⟩ := X1193.specialBack hx (y := yN12) rfl hown (mvT hZ (own_k hw 6 rfl)) (mvT hZ (own_k hw 7 rfl)) (mvT hZ (own_k hw 8 rfl)) (by decide) (backOf (W := 1) (own_n1_1 l Z a0 hw [] b1181 b1187 zc k1187 c0 h1193 n0 Z1195 F1197 pr2 pr3 pr6 pr7 pr8 F1198 ge_b1181 F1199 F1200 F1196 g_c0) hZ (own_k hw 8 rfl) (own_k hw 4 rfl) (by decide) (by decide)) (g := (mkF m 78 #[.val (.int p1), .val (.int p2), .val (.int p3), .val (.int p4), .val (.int p5), .val (.int nn), .val (.int c0), .val (.int c1), .val (.int c2), .val (.int c3), .unset, .unset] [(.ref b1187), (.ref b1181), (.ref b1181)])) rfl hml.symm (Steps.refl _) (a := b1181) (argsL := [(.ref b1187)]) (rest := [(.ref b1181)]) (lenOf own_pd17 rfl) rfl (own_w0 rfl rfl) (hb hby at_78) (fun _ _ => ⟨rfl, e1193, (by decide : 2 + 3 ≤ 24), (by decide : 5 + 3 ≤ 1152)⟩)
      dsimp only [Pt.U, Pt.locs, Pt.cells, Pt.slots] at X1201 l1201 y1201 z1201 st1201 hQ1201
      subst l1201 y1201 z1201
      obtain ⟨t_1201, kb_1201, cd_1201, zz_1201, vl_1201, rfl, N1201, K1201_, P1202, P1203, P1204, P1205, P1206, q1207⟩ := hQ1201
      have N1208 := Fr.app N1193 N1201
      have F1209 : Safe Z own_EL s.vm h1193 b1181 := (Safe.wr W1193 S1191 CR1189.1 (Safe.ext E1187 CR1182.1 S1184))
      have CR1210 : CHr Z own_EL s.vm h0 s.vm T1201.heap := CHr.trans CR1194 (CHr.keep K1201_ (sfS F1209 sf0) CR1194.1)
      have Z1211 : n0 ≤ T1201.heap.size := Nat.le_trans Z1195 K1201_.1
      have hk1211 := Nat.le_trans hk1195 K1201_.1
      have ne1212 : b1187 ≠ t_1201 := Nat.ne_of_lt (Nat.lt_of_lt_of_le F1196.lt P1206)
      have ge1213 : n0 ≤ t_1201 := Nat.le_trans Z1195 P1206
      refine own_tr (T' := T1201) (g' := (mkF m 81 #[.val (.int p1), .val (.int p2), .val (.int p3), .val (.int p4), .val (.int p5), .val (.int nn), .val (.int c0), .val (.int c1), .val (.int c2), .val (.int c3), .unset, .unset] [(.ref b1181)])) st1201 ?_
      refine own_st (T' := T1201) (g' := (mkF m 83 #[.val (.int p1), .val (.int p2), .val (.int p3), .val (.int p4), .val (.int p5), .val (.int nn), .val (.int c0), .val (.int c1), .val (.int c2), .val (.int c3), .val (.ref b1181), .unset] [])) (fun _ kt => XS.astore X1201.here hx rfl (hb hby at_81) rfl rfl (l' := #[.val (.int p1), .val (.int p2), .val (.int p3), .val (.int p4), .val (.int p5), .val (.int nn), .val (.int c0), .val (.int c1), .val (.int c2), .val (.int c3), .val (.ref b1181), .unset]) rfl kt) ?_
      refine own_joinHV (α := Int32) X1201 (cells' := 5) (slots' := 8) (gj := fun q => (mkF m 285 #[.val (.int p1), .val (.int p2), .val (.int p3), .val (.int p4), .val (.int p5), .val (.int nn), .val (.int c0), .val (.int c1), .val (.int c2), .val (.int c3), .val (.ref b1181), .val (.int q)] [])) (P := fun vm_ k_ L_ h_ q => (Fr n0 L_) ∧ (n0 ≤ h_.size) ∧ (Old Z n0 h_) ∧ (CHr Z own_EL s.vm h0 vm_ h_) ∧ (s.Since vm_ k_) ∧ (k_ ≤ h_.size) ∧ (Z.Warmed39 (s.setVm vm_).vm) ∧ ((s.setVm vm_).vm.findClass "com/example/tidelock/tidelock/protocol/ShardIsNamePinLaw" = some m.cls) ∧ (Exa Z h_ b1181 "java/lang/String") ∧ (Fld Z h_ b1181 "java/lang/String" "value" "[B" (.ref t_1201)) ∧ (Fld Z h_ b1181 "java/lang/String" "coder" "B" (.int cd_1201)) ∧ (Arv Z h_ b1187 k1187 .char (1 : Int32) [(.int c0)] (.int 0)) ∧ (Arv Z h_ t_1201 kb_1201 .byte zz_1201 vl_1201 (.int 0)) ∧ (q = (own_al c0))) ?_ (fun J1214 => ?_)
      · rintro vm1214 k1214 T1214 L1214 h1214 ex ⟨N1214, Z1214, O1214, CR1214, hS1214, hk1214, hZ1214, hown1214, F1215, F1216, F1217, F1218, F1219, hj1214⟩ X1214 e1214
        try dsimp only at F1215 F1216 F1217 F1218 F1219 hj1214 ⊢
        refine own_st (T' := T1214) (g' := (mkF m 287 #[.val (.int p1), .val (.int p2), .val (.int p3), .val (.int p4), .val (.int p5), .val (.int nn), .val (.int c0), .val (.int c1), .val (.int c2), .val (.int c3), .val (.ref b1181), .val (.int ex)] [(.ref b1181)])) (fun _ kt => XS.aload X1214.here hx rfl (hb hby at_285) rfl rfl kt) ?_
        obtain ⟨_, _, ⟨T1220, L1220, k1220, n1220⟩, -, X1220, ⟨Lc1220, hQ1220, l1220, y1220, z1220⟩, st1220⟩ := Jvm.LawKit.callS X1214 hx (y := yN10) hown1214 (mvT hZ1214 (own_k hw 24 rfl)) (mvT hZ1214 (own_k hw 25 rfl)) (mvT hZ1214 (own_k hw 26 rfl)) (mvT hZ1214 (own_k hw 27 rfl)) (by decide) (backOf (W := 0) (own_is1 l Z a0 hw [] b1181 zc fmt t_1201 kb_1201 cd_1201 zz_1201 vl_1201 c0 h1214 n0 Z1214 O1214 pr2 pr3 pr4 pr5 pr6 pr7 pr8 F1215 F1217 F1216 F1219 q1207 g_c0) hZ1214 (own_k hw 27 rfl) (own_k hw 26 rfl) (by decide) (by decide)) (g := (mkF m 287 #[.val (.int p1), .val (.int p2), .val (.int p3), .val (.int p4), .val (.int p5), .val (.int nn), .val (.int c0), .val (.int c1), .val (.int c2), .val (.int c3), .val (.ref b1181), .val (.int ex)] [(.ref b1181)])) rfl hml.symm  (argsL := [(.ref b1181)]) (rest := []) (lenOf own_pd18 rfl) rfl (own_w0 rfl rfl) (hb hby at_287) (fun _ _ => ⟨rfl, e1214, (by decide : 5 + 0 ≤ 24), (by decide : 8 + 0 ≤ 1152)⟩)
        dsimp only [Pt.U, Pt.locs, Pt.cells, Pt.slots] at X1220 l1220 y1220 z1220 st1220 hQ1220
        subst l1220 y1220 z1220
        obtain ⟨rfl, N1220, e1220⟩ := hQ1220
        have N1221 := Fr.app N1214 N1220
        refine own_st (T' := T1220) (g' := (mkF m 290 #[.val (.int p1), .val (.int p2), .val (.int p3), .val (.int p4), .val (.int p5), .val (.int nn), .val (.int c0), .val (.int c1), .val (.int c2), .val (.int c3), .val (.ref b1181), .val (.int ex)] [(.int (if own_ok c0 then (1 : Int32) else 0))])) st1220 ?_
        refine own_st (T' := T1220) (g' := (mkF m 300 #[.val (.int p1), .val (.int p2), .val (.int p3), .val (.int p4), .val (.int p5), .val (.int nn), .val (.int c0), .val (.int c1), .val (.int c2), .val (.int c3), .val (.ref b1181), .val (.int ex)] [(.int 1)])) (fun _ kt => XS.iload X1220.here hx rfl (hb hby at_290) rfl (XS.icmpNo X1220.here hx rfl (hb hby at_292) rfl (XT.ii_ne_f (by rw [hj1214]; rfl)) (XS.iconst X1220.here hx rfl (hb hby at_295) (XS.goto X1220.here hx rfl (pc0 := 296) (pc' := 300) rfl (hb hby at_296) (by decide) (by decide) kt)))) ?_
        obtain ⟨fs, hr, hrun, hended, hE⟩ := Stand.leaveW X1220 hS1214 (by rw [e1220]; exact hk1214) (v := some (.int 1)) (fun h => by rw [Bd.returns] at h; cases h)
        refine own_end (retN X1220 hx (t := .boolean) Bd.returns (by simp) (hb hby at_300) hr) ⟨_, hrun, hended, _, _, rfl, ?_, (by rw [hh]; show CHr Z own_EL s.vm h0 T1220.vm T1220.heap; rw [e1220]; exact CHr.trans CR1214 (CHv.at X1220 hZ1214 (own_EW hw) CR1214.1)), ⟨hE.1, hE.2.1, hE.2.2.1, hE.2.2.2.mono (by decide) (by decide)⟩⟩
        show own_lawQ Z _ _ _ _ _ _ _ h0 n0 _ T1220.heap _
        rw [e1220]
        exact ⟨rfl, N1221⟩
      ·
        refine own_st (T' := T1201) (g' := (mkF m 85 #[.val (.int p1), .val (.int p2), .val (.int p3), .val (.int p4), .val (.int p5), .val (.int nn), .val (.int c0), .val (.int c1), .val (.int c2), .val (.int c3), .val (.ref b1181), .unset] [(.int c0)])) (fun _ kt => XS.iload X1201.here hx rfl (hb hby at_83) rfl kt) ?_
        obtain ⟨_, _, ⟨T1222, L1222, k1222, n1222⟩, -, X1222, ⟨Lc1222, hQ1222, l1222, y1222, z1222⟩, st1222⟩ := Jvm.LawKit.callS X1201 hx (y := yN9) hown (mvT hZ (own_k hw 44 rfl)) (mvT hZ (own_k hw 45 rfl)) (mvT hZ (own_k hw 46 rfl)) (mvT hZ (own_k hw 47 rfl)) (by decide) (backOf (W := 0) (own_alw l Z a0 hw [] c0 T1201.heap n0 Z1211 g_c0) hZ (own_k hw 47 rfl) (own_k hw 46 rfl) (by decide) (by decide)) (g := (mkF m 85 #[.val (.int p1), .val (.int p2), .val (.int p3), .val (.int p4), .val (.int p5), .val (.int nn), .val (.int c0), .val (.int c1), .val (.int c2), .val (.int c3), .val (.ref b1181), .unset] [(.int c0)])) rfl hml.symm  (argsL := [(.int c0)]) (rest := []) (lenOf own_pd19 rfl) rfl (own_w0 rfl rfl) (hb hby at_85) (fun _ _ => ⟨rfl, rfl, (by decide : 5 + 0 ≤ 24), (by decide : 8 + 0 ≤ 1152)⟩)
        dsimp only [Pt.U, Pt.locs, Pt.cells, Pt.slots] at X1222 l1222 y1222 z1222 st1222 hQ1222
        subst l1222 y1222 z1222
        obtain ⟨rfl, N1222, e1222⟩ := hQ1222
        have N1223 := Fr.app N1208 N1222
        refine own_st (T' := T1222) (g' := (mkF m 88 #[.val (.int p1), .val (.int p2), .val (.int p3), .val (.int p4), .val (.int p5), .val (.int nn), .val (.int c0), .val (.int c1), .val (.int c2), .val (.int c3), .val (.ref b1181), .unset] [(.int (own_al c0))])) st1222 ?_
        refine own_st (T' := T1222) (g' := (mkF m 285 #[.val (.int p1), .val (.int p2), .val (.int p3), .val (.int p4), .val (.int p5), .val (.int nn), .val (.int c0), .val (.int c1), .val (.int c2), .val (.int c3), .val (.ref b1181), .val (.int (own_al c0))] [])) (fun _ kt => XS.istore X1222.here hx rfl (hb hby at_88) rfl (l' := #[.val (.int p1), .val (.int p2), .val (.int p3), .val (.int p4), .val (.int p5), .val (.int nn), .val (.int c0), .val (.int c1), .val (.int c2), .val (.int c3), .val (.ref b1181), .val (.int (own_al c0))]) rfl (XS.goto X1222.here hx rfl (pc0 := 90) (pc' := 285) rfl (hb hby at_90) (by decide) (by decide) kt)) ?_
        have F1224 : Old Z n0 T1201.heap := (Old.keep F1197 K1201_ (allS ge_b1181 all0))
        have F1225 : Arv Z T1201.heap b1187 k1187 .char (1 : Int32) [(.int c0)] (.int 0) := (Arv.keep F1196 K1201_ (ninS (Ne.symm ne1188) nin0))
        exact J1214 _ _ _ _ _ (own_al c0) ⟨N1223, Z1211, F1224, CR1210, hS, hk1211, hZ, hown, P1202, P1204, P1203, F1225, P1205, rfl⟩ (X1222.mono (by decide) (by decide)) e1222
    ·
      refine own_st (T' := s₁) (g' := (mkF m 96 #[.val (.int p1), .val (.int p2), .val (.int p3), .val (.int p4), .val (.int p5), .val (.int nn), .val (.int c0), .val (.int c1), .val (.int c2), .val (.int c3), .unset, .unset] [(.int 2), (.int nn)])) (fun _ kt => XS.icmpYes X0.here hx rfl (pc0 := 63) (pc' := 93) rfl (hb hby at_63) rfl (XT.ii_ne_t hc1180) (by decide) (by decide) (XS.iload X0.here hx rfl (hb hby at_93) rfl (XS.iconst X0.here hx rfl (hb hby at_95) kt))) ?_
      by_cases hc1226 : nn = (2 : Int32)
      ·
        refine own_st (T' := s₁) (g' := (mkF m 99 #[.val (.int p1), .val (.int p2), .val (.int p3), .val (.int p4), .val (.int p5), .val (.int nn), .val (.int c0), .val (.int c1), .val (.int c2), .val (.int c3), .unset, .unset] [])) (fun _ kt => XS.icmpNo X0.here hx rfl (hb hby at_96) rfl (XT.ii_ne_f hc1226) kt) ?_
        obtain ⟨T1227, h1227, X1227, e1227, E1227, A1227, D1227, -, st1227⟩ := newO X0 hx hZ hown (own_k hw 2 rfl) (own_k hw 3 rfl) (own_k hw 4 rfl) e0 (g := (mkF m 99 #[.val (.int p1), .val (.int p2), .val (.int p3), .val (.int p4), .val (.int p5), .val (.int nn), .val (.int c0), .val (.int c1), .val (.int c2), .val (.int c3), .unset, .unset] [])) rfl (hb hby at_99) (by decide) (by decide)
        obtain ⟨b1227, g1227⟩ : ∃ z, z = h0.size := ⟨_, rfl⟩
        rw [← g1227] at A1227 D1227 st1227
        have CR1228 : CHr Z own_EL s.vm h0 s.vm h1227 := CHr.trans CR0 (CHr.ext E1227 CR0.1)
        have Z1229 : n0 ≤ h1227.size := Nat.le_trans Z0 E1227.1
        have hk1229 := Nat.le_trans hk E1227.1
        have ge_b1227 : n0 ≤ b1227 := Nat.le_trans Z0 (Nat.le_of_eq g1227.symm)
        have S1230 : Safe Z own_EL s.vm h1227 b1227 := (Safe.ext E1227 CR0.1 (Safe.new (Nat.le_of_eq g1227.symm)))
        have F1231 : Fld Z h1227 b1227 "java/lang/String" "value" "[B" .null := D1227 (Or.inr (own_k hw 18 rfl)) (ty := (.array .byte)) (by decide)
        have F1232 : Fld Z h1227 b1227 "java/lang/String" "coder" "B" (.int 0) := D1227 (Or.inr (own_k hw 19 rfl)) (ty := .byte) (by decide)
        refine own_st (T' := T1227) (g' := (mkF m 102 #[.val (.int p1), .val (.int p2), .val (.int p3), .val (.int p4), .val (.int p5), .val (.int nn), .val (.int c0), .val (.int c1), .val (.int c2), .val (.int c3), .unset, .unset] [(.ref b1227)])) st1227 ?_
        refine own_st (T' := T1227) (g' := (mkF m 104 #[.val (.int p1), .val (.int p2), .val (.int p3), .val (.int p4), .val (.int p5), .val (.int nn), .val (.int c0), .val (.int c1), .val (.int c2), .val (.int c3), .unset, .unset] [(.int 2), (.ref b1227), (.ref b1227)])) (fun _ kt => XS.dup X1227.here hx rfl (hb hby at_102) rfl rfl (XS.iconst X1227.here hx rfl (hb hby at_103) kt)) ?_
        obtain ⟨T1233, h1233, k1233, X1233, e1233, E1233, A1233, st1233⟩ := newP X1227 hx hZ (aty := .char) (own_k hw 5 rfl) e1227 (g := (mkF m 104 #[.val (.int p1), .val (.int p2), .val (.int p3), .val (.int p4), .val (.int p5), .val (.int nn), .val (.int c0), .val (.int c1), .val (.int c2), .val (.int c3), .unset, .unset] [(.int 2), (.ref b1227), (.ref b1227)])) rfl (hb hby at_104) rfl (by decide) (cap := 2) (by decide) (by decide) (by decide) (by decide)
        obtain ⟨b1233, g1233⟩ : ∃ z, z = h1227.size := ⟨_, rfl⟩
        rw [← g1233] at A1233 st1233
        have ne1234 : b1227 ≠ b1233 := by rw [g1233]; exact Nat.ne_of_lt A1227.lt
        have CR1235 : CHr Z own_EL s.vm h0 s.vm h1233 := CHr.trans CR1228 (CHr.ext E1233 CR1228.1)
        have Z1236 : n0 ≤ h1233.size := Nat.le_trans Z1229 E1233.1
        have hk1236 := Nat.le_trans hk1229 E1233.1
        have ge_b1233 : n0 ≤ b1233 := Nat.le_trans Z1229 (Nat.le_of_eq g1233.symm)
        have S1237 : Safe Z own_EL s.vm h1233 b1233 := (Safe.ext E1233 CR1228.1 (Safe.new (Nat.le_of_eq g1233.symm)))
        have F1238 : Arv Z h1233 b1233 k1233 .char (2 : Int32) [(.int 0), (.int 0)] (.int 0) := (Arv.new A1233 (by decide)).pad (pad_rep [] (.int 0) 2)
        refine own_st (T' := T1233) (g' := (mkF m 106 #[.val (.int p1), .val (.int p2), .val (.int p3), .val (.int p4), .val (.int p5), .val (.int nn), .val (.int c0), .val (.int c1), .val (.int c2), .val (.int c3), .unset, .unset] [(.ref b1233), (.ref b1227), (.ref b1227)])) st1233 ?_
        refine own_st (T' := T1233) (g' := (mkF m 110 #[.val (.int p1), .val (.int p2), .val (.int p3), .val (.int p4), .val (.int p5), .val (.int nn), .val (.int c0), .val (.int c1), .val (.int c2), .val (.int c3), .unset, .unset] [(.int c0), (.int 0), (.ref b1233), (.ref b1233), (.ref b1227), (.ref b1227)])) (fun _ kt => XS.dup X1233.here hx rfl (hb hby at_106) rfl rfl (XS.iconst X1233.here hx rfl (hb hby at_107) (XS.iload X1233.here hx rfl (hb hby at_108) rfl kt))) ?_
        obtain ⟨T1239, h1239, X1239, e1239, W1239, V1239, st1239⟩ := own_cst X1233 hx hZ e1233 F1238 ⟨by decide, by decide⟩ (i := 0) rfl (by simp) (y := c0) (own_narc g_c0) (g := (mkF m 110 #[.val (.int p1), .val (.int p2), .val (.int p3), .val (.int p4), .val (.int p5), .val (.int nn), .val (.int c0), .val (.int c1), .val (.int c2), .val (.int c3), .unset, .unset] [(.int c0), (.int 0), (.ref b1233), (.ref b1233), (.ref b1227), (.ref b1227)])) rfl rfl (hb hby at_110)
        have N1239 := Fr.snoc X1239 N0 ge_b1233
        have CR1240 : CHr Z own_EL s.vm h0 s.vm h1239 := CHr.trans CR1235 (CHr.wr W1239 S1237 CR1235.1)
        have Z1241 : n0 ≤ h1239.size := Nat.le_trans Z1236 (Nat.le_of_eq (Wr.size W1239).symm)
        have hk1241 := Nat.le_trans hk1236 (Nat.le_of_eq (Wr.size W1239).symm)
        have F1242 : Arv Z h1239 b1233 k1233 .char (2 : Int32) [(.int c0), (.int 0)] (.int 0) := V1239
        refine own_st (T' := T1239) (g' := (mkF m 111 #[.val (.int p1), .val (.int p2), .val (.int p3), .val (.int p4), .val (.int p5), .val (.int nn), .val (.int c0), .val (.int c1), .val (.int c2), .val (.int c3), .unset, .unset] [(.ref b1233), (.ref b1227), (.ref b1227)])) st1239 ?_
        refine own_st (T' := T1239) (g' := (mkF m 115 #[.val (.int p1), .val (.int p2), .val (.int p3), .val (.int p4), .val (.int p5), .val (.int nn), .val (.int c0), .val (.int c1), .val (.int c2), .val (.int c3), .unset, .unset] [(.int c1), (.int 1), (.ref b1233), (.ref b1233), (.ref b1227), (.ref b1227)])) (fun _ kt => XS.dup X1239.here hx rfl (hb hby at_111) rfl rfl (XS.iconst X1239.here hx rfl (hb hby at_112) (XS.iload X1239.here hx rfl (hb hby at_113) rfl kt))) ?_
        obtain ⟨T1243, h1243, X1243, e1243, W1243, V1243, st1243⟩ := own_cst X1239 hx hZ e1239 F1242 ⟨by decide, by decide⟩ (i := 1) rfl (by simp) (y := c1) (own_narc g_c1) (g := (mkF m 115 #[.val (.int p1), .val (.int p2), .val (.int p3), .val (.int p4), .val (.int p5), .val (.int nn), .val (.int c0), .val (.int c1), .val (.int c2), .val (.int c3), .unset, .unset] [(.int c1), (.int 1), (.ref b1233), (.ref b1233), (.ref b1227), (.ref b1227)])) rfl rfl (hb hby at_115)
        have N1243 := Fr.snoc X1243 N1239 ge_b1233
        have F1244 : Safe Z own_EL s.vm h1239 b1233 := (Safe.wr W1239 S1237 CR1235.1 S1237)
        have CR1245 : CHr Z own_EL s.vm h0 s.vm h1243 := CHr.trans CR1240 (CHr.wr W1243 F1244 CR1240.1)
        have Z1246 : n0 ≤ h1243.size := Nat.le_trans Z1241 (Nat.le_of_eq (Wr.size W1243).symm)
        have hk1246 := Nat.le_trans hk1241 (Nat.le_of_eq (Wr.size W1243).symm)
        have F1247 : Arv Z h1243 b1233 k1233 .char (2 : Int32) [(.int c0), (.int c1)] (.int 0) := V1243
        refine own_st (T' := T1243) (g' := (mkF m 116 #[.val (.int p1), .val (.int p2), .val (.int p3), .val (.int p4), .val (.int p5), .val (.int nn), .val (.int c0), .val (.int c1), .val (.int c2), .val (.int c3), .unset, .unset] [(.ref b1233), (.ref b1227), (.ref b1227)])) st1243 ?_
        have F1248 : Old Z n0 h1243 := (Old.wr (Old.wr (Old.ext (Old.ext pr1 E1227) E1233) W1239 ge_b1233) W1243 ge_b1233)
        have F1249 : Exa Z h1243 b1227 "java/lang/String" := (Exa.wr W1243 (Exa.wr W1239 (Exa.ext E1233 A1227)))
        have F1250 : Fld Z h1243 b1227 "java/lang/String" "value" "[B" .null := (Fld.other W1243 (Fld.other W1239 (Fld.ext E1233 F1231) (Or.inl ne1234)) (Or.inl ne1234))
        have F1251 : Fld Z h1243 b1227 "java/lang/String" "coder" "B" (.int 0) := (Fld.other W1243 (Fld.other W1239 (Fld.ext E1233 F1232) (Or.inl ne1234)) (Or.inl ne1234))
        obtain ⟨_, _, ⟨T1252, L1252, k1252, n1252⟩, -, X1252, ⟨Lc1252, hQ1252, l1252, y1252, z1252⟩, st1252⟩ := X1243.specialBack hx (y := yN12) rfl hown (mvT hZ (own_k hw 6 rfl)) (mvT hZ (own_k hw 7 rfl)) (mvT hZ (own_k hw 8 rfl)) (by decide) (backOf (W := 1) (own_n1_2 l Z a0 hw [] b1227 b1233 zc k1233 c0 c1 h1243 n0 Z1246 F1248 pr2 pr3 pr6 pr7 pr8 F1249 ge_b1227 F1250 F1251 F1247 g_c0 g_c1) hZ (own_k hw 8 rfl) (own_k hw 4 rfl) (by decide) (by decide)) (g := (mkF m 116 #[.val (.int p1), .val (.int p2), .val (.int p3), .val (.int p4), .val (.int p5), .val (.int nn), .val (.int c0), .val (.int c1), .val (.int c2), .val (.int c3), .unset, .unset] [(.ref b1233), (.ref b1227), (.ref b1227)])) rfl hml.symm (Steps.refl _) (a := b1227) (argsL := [(.ref b1233)]) (rest := [(.ref b1227)]) (lenOf own_pd17 rfl) rfl (own_w0 rfl rfl) (hb hby at_116) (fun _ _ => ⟨rfl, e1243, (by decide : 2 + 3 ≤ 24), (by decide : 6 + 6 ≤ 1152)⟩)
        dsimp only [Pt.U, Pt.locs, Pt.cells, Pt.slots] at X1252 l1252 y1252 z1252 st1252 hQ1252
        subst l1252 y1252 z1252
        obtain ⟨t_1252, kb_1252, cd_1252, zz_1252, vl_1252, rfl, N1252, K1252_, P1253, P1254, P1255, P1256, P1257, q1258⟩ := hQ1252
        have N1259 := Fr.app N1243 N1252
        have F1260 : Safe Z own_EL s.vm h1243 b1227 := (Safe.wr W1243 F1244 CR1240.1 (Safe.wr W1239 S1237 CR1235.1 (Safe.ext E1233 CR1228.1 S1230)))
        have CR1261 : CHr Z own_EL s.vm h0 s.vm T1252.heap := CHr.trans CR1245 (CHr.keep K1252_ (sfS F1260 sf0) CR1245.1)
        have Z1262 : n0 ≤ T1252.heap.size := Nat.le_trans Z1246 K1252_.1
        have hk1262 := Nat.le_trans hk1246 K1252_.1
        have ne1263 : b1233 ≠ t_1252 := Nat.ne_of_lt (Nat.lt_of_lt_of_le F1247.lt P1257)
        have ge1264 : n0 ≤ t_1252 := Nat.le_trans Z1246 P1257
        refine own_tr (T' := T1252) (g' := (mkF m 119 #[.val (.int p1), .val (.int p2), .val (.int p3), .val (.int p4), .val (.int p5), .val (.int nn), .val (.int c0), .val (.int c1), .val (.int c2), .val (.int c3), .unset, .unset] [(.ref b1227)])) st1252 ?_
        refine own_st (T' := T1252) (g' := (mkF m 121 #[.val (.int p1), .val (.int p2), .val (.int p3), .val (.int p4), .val (.int p5), .val (.int nn), .val (.int c0), .val (.int c1), .val (.int c2), .val (.int c3), .val (.ref b1227), .unset] [])) (fun _ kt => XS.astore X1252.here hx rfl (hb hby at_119) rfl rfl (l' := #[.val (.int p1), .val (.int p2), .val (.int p3), .val (.int p4), .val (.int p5), .val (.int nn), .val (.int c0), .val (.int c1), .val (.int c2), .val (.int c3), .val (.ref b1227), .unset]) rfl kt) ?_
        refine own_joinHV (α := Int32) X1252 (cells' := 5) (slots' := 12) (gj := fun q => (mkF m 285 #[.val (.int p1), .val (.int p2), .val (.int p3), .val (.int p4), .val (.int p5), .val (.int nn), .val (.int c0), .val (.int c1), .val (.int c2), .val (.int c3), .val (.ref b1227), .val (.int q)] [])) (P := fun vm_ k_ L_ h_ q => (Fr n0 L_) ∧ (n0 ≤ h_.size) ∧ (Old Z n0 h_) ∧ (CHr Z own_EL s.vm h0 vm_ h_) ∧ (s.Since vm_ k_) ∧ (k_ ≤ h_.size) ∧ (Z.Warmed39 (s.setVm vm_).vm) ∧ ((s.setVm vm_).vm.findClass "com/example/tidelock/tidelock/protocol/ShardIsNamePinLaw" = some m.cls) ∧ (Exa Z h_ b1227 "java/lang/String") ∧ (Fld Z h_ b1227 "java/lang/String" "value" "[B" (.ref t_1252)) ∧ (Fld Z h_ b1227 "java/lang/String" "coder" "B" (.int cd_1252)) ∧ (Arv Z h_ b1233 k1233 .char (2 : Int32) [(.int c0), (.int c1)] (.int 0)) ∧ (Arv Z h_ t_1252 kb_1252 .byte zz_1252 vl_1252 (.int 0)) ∧ (q = (if own_ok c0 ∧ own_ok c1 then (1 : Int32) else 0))) ?_ (fun J1265 => ?_)
        · rintro vm1265 k1265 T1265 L1265 h1265 ex ⟨N1265, Z1265, O1265, CR1265, hS1265, hk1265, hZ1265, hown1265, F1266, F1267, F1268, F1269, F1270, hj1265⟩ X1265 e1265
          try dsimp only at F1266 F1267 F1268 F1269 F1270 hj1265 ⊢
          refine own_st (T' := T1265) (g' := (mkF m 287 #[.val (.int p1), .val (.int p2), .val (.int p3), .val (.int p4), .val (.int p5), .val (.int nn), .val (.int c0), .val (.int c1), .val (.int c2), .val (.int c3), .val (.ref b1227), .val (.int ex)] [(.ref b1227)])) (fun _ kt => XS.aload X1265.here hx rfl (hb hby at_285) rfl rfl kt) ?_
          obtain ⟨_, _, ⟨T1271, L1271, k1271, n1271⟩, -, X1271, ⟨Lc1271, hQ1271, l1271, y1271, z1271⟩, st1271⟩ := Jvm.LawKit.callS X1265 hx (y := yN10) hown1265 (mvT hZ1265 (own_k hw 24 rfl)) (mvT hZ1265 (own_k hw 25 rfl)) (mvT hZ1265 (own_k hw 26 rfl)) (mvT hZ1265 (own_k hw 27 rfl)) (by decide) (backOf (W := 0) (own_is2 l Z a0 hw [] b1227 zc fmt t_1252 kb_1252 cd_1252 zz_1252 vl_1252 c0 c1 h1265 n0 Z1265 O1265 pr2 pr3 pr4 pr5 pr6 pr7 pr8 F1266 F1268 F1267 F1270 q1258 g_c0 g_c1) hZ1265 (own_k hw 27 rfl) (own_k hw 26 rfl) (by decide) (by decide)) (g := (mkF m 287 #[.val (.int p1), .val (.int p2), .val (.int p3), .val (.int p4), .val (.int p5), .val (.int nn), .val (.int c0), .val (.int c1), .val (.int c2), .val (.int c3), .val (.ref b1227), .val (.int ex)] [(.ref b1227)])) rfl hml.symm  (argsL := [(.ref b1227)]) (rest := []) (lenOf own_pd18 rfl) rfl (own_w0 rfl rfl) (hb hby at_287) (fun _ _ => ⟨rfl, e1265, (by decide : 5 + 0 ≤ 24), (by decide : 12 + 0 ≤ 1152)⟩)
          dsimp only [Pt.U, Pt.locs, Pt.cells, Pt.slots] at X1271 l1271 y1271 z1271 st1271 hQ1271
          subst l1271 y1271 z1271
          obtain ⟨rfl, N1271, e1271⟩ := hQ1271
          have N1272 := Fr.app N1265 N1271
          refine own_st (T' := T1271) (g' := (mkF m 290 #[.val (.int p1), .val (.int p2), .val (.int p3), .val (.int p4), .val (.int p5), .val (.int nn), .val (.int c0), .val (.int c1), .val (.int c2), .val (.int c3), .val (.ref b1227), .val (.int ex)] [(.int (if own_ok c0 ∧ own_ok c1 then (1 : Int32) else 0))])) st1271 ?_
          refine own_st (T' := T1271) (g' := (mkF m 300 #[.val (.int p1), .val (.int p2), .val (.int p3), .val (.int p4), .val (.int p5), .val (.int nn), .val (.int c0), .val (.int c1), .val (.int c2), .val (.int c3), .val (.ref b1227), .val (.int ex)] [(.int 1)])) (fun _ kt => XS.iload X1271.here hx rfl (hb hby at_290) rfl (XS.icmpNo X1271.here hx rfl (hb hby at_292) rfl (XT.ii_ne_f hj1265.symm) (XS.iconst X1271.here hx rfl (hb hby at_295) (XS.goto X1271.here hx rfl (pc0 := 296) (pc' := 300) rfl (hb hby at_296) (by decide) (by decide) kt)))) ?_
          obtain ⟨fs, hr, hrun, hended, hE⟩ := Stand.leaveW X1271 hS1265 (by rw [e1271]; exact hk1265) (v := some (.int 1)) (fun h => by rw [Bd.returns] at h; cases h)
          refine own_end (retN X1271 hx (t := .boolean) Bd.returns (by simp) (hb hby at_300) hr) ⟨_, hrun, hended, _, _, rfl, ?_, (by rw [hh]; show CHr Z own_EL s.vm h0 T1271.vm T1271.heap; rw [e1271]; exact CHr.trans CR1265 (CHv.at X1271 hZ1265 (own_EW hw) CR1265.1)), ⟨hE.1, hE.2.1, hE.2.2.1, hE.2.2.2.mono (by decide) (by decide)⟩⟩
          show own_lawQ Z _ _ _ _ _ _ _ h0 n0 _ T1271.heap _
          rw [e1271]
          exact ⟨rfl, N1272⟩
        ·
          refine own_st (T' := T1252) (g' := (mkF m 123 #[.val (.int p1), .val (.int p2), .val (.int p3), .val (.int p4), .val (.int p5), .val (.int nn), .val (.int c0), .val (.int c1), .val (.int c2), .val (.int c3), .val (.ref b1227), .unset] [(.int c0)])) (fun _ kt => XS.iload X1252.here hx rfl (hb hby at_121) rfl kt) ?_
          obtain ⟨_, _, ⟨T1273, L1273, k1273, n1273⟩, -, X1273, ⟨Lc1273, hQ1273, l1273, y1273, z1273⟩, st1273⟩ := Jvm.LawKit.callS X1252 hx (y := yN9) hown (mvT hZ (own_k hw 44 rfl)) (mvT hZ (own_k hw 45 rfl)) (mvT hZ (own_k hw 46 rfl)) (mvT hZ (own_k hw 47 rfl)) (by decide) (backOf (W := 0) (own_alw l Z a0 hw [] c0 T1252.heap n0 Z1262 g_c0) hZ (own_k hw 47 rfl) (own_k hw 46 rfl) (by decide) (by decide)) (g := (mkF m 123 #[.val (.int p1), .val (.int p2), .val (.int p3), .val (.int p4), .val (.int p5), .val (.int nn), .val (.int c0), .val (.int c1), .val (.int c2), .val (.int c3), .val (.ref b1227), .unset] [(.int c0)])) rfl hml.symm  (argsL := [(.int c0)]) (rest := []) (lenOf own_pd19 rfl) rfl (own_w0 rfl rfl) (hb hby at_123) (fun _ _ => ⟨rfl, rfl, (by decide : 5 + 0 ≤ 24), (by decide : 12 + 0 ≤ 1152)⟩)
          dsimp only [Pt.U, Pt.locs, Pt.cells, Pt.slots] at X1273 l1273 y1273 z1273 st1273 hQ1273
          subst l1273 y1273 z1273
          obtain ⟨rfl, N1273, e1273⟩ := hQ1273
          have N1274 := Fr.app N1259 N1273
          refine own_st (T' := T1273) (g' := (mkF m 126 #[.val (.int p1), .val (.int p2), .val (.int p3), .val (.int p4), .val (.int p5), .val (.int nn), .val (.int c0), .val (.int c1), .val (.int c2), .val (.int c3), .val (.ref b1227), .unset] [(.int (own_al c0))])) st1273 ?_
          by_cases hc1275 : (own_al c0) = 0
          ·
            refine own_st (T' := T1273) (g' := (mkF m 285 #[.val (.int p1), .val (.int p2), .val (.int p3), .val (.int p4), .val (.int p5), .val (.int nn), .val (.int c0), .val (.int c1), .val (.int c2), .val (.int c3), .val (.ref b1227), .val (.int 0)] [])) (fun _ kt => XS.ifYes X1273.here hx rfl (pc0 := 126) (pc' := 141) rfl (hb hby at_126) rfl (XT.i0_eq_t hc1275) (by decide) (by decide) (XS.iconst X1273.here hx rfl (hb hby at_141) (XS.istore X1273.here hx rfl (hb hby at_142) rfl (l' := #[.val (.int p1), .val (.int p2), .val (.int p3), .val (.int p4), .val (.int p5), .val (.int nn), .val (.int c0), .val (.int c1), .val (.int c2), .val (.int c3), .val (.ref b1227), .val (.int 0)]) rfl (XS.goto X1273.here hx rfl (pc0 := 144) (pc' := 285) rfl (hb hby at_144) (by decide) (by decide) kt)))) ?_
            have F1276 : Old Z n0 T1252.heap := (Old.keep F1248 K1252_ (allS ge_b1227 all0))
            have F1277 : Arv Z T1252.heap b1233 k1233 .char (2 : Int32) [(.int c0), (.int c1)] (.int 0) := (Arv.keep F1247 K1252_ (ninS (Ne.symm ne1234) nin0))
            exact J1265 _ _ _ _ _ (0 : Int32) ⟨N1274, Z1262, F1276, CR1261, hS, hk1262, hZ, hown, P1253, P1255, P1254, F1277, P1256, (by rw [if_neg (fun q => own_okf hc1275 q.1)])⟩ (X1273.mono (by decide) (by decide)) e1273
          ·
            refine own_st (T' := T1273) (g' := (mkF m 131 #[.val (.int p1), .val (.int p2), .val (.int p3), .val (.int p4), .val (.int p5), .val (.int nn), .val (.int c0), .val (.int c1), .val (.int c2), .val (.int c3), .val (.ref b1227), .unset] [(.int c1)])) (fun _ kt => XS.ifNo X1273.here hx rfl (hb hby at_126) rfl (XT.i0_eq_f hc1275) (XS.iload X1273.here hx rfl (hb hby at_129) rfl kt)) ?_
            obtain ⟨_, _, ⟨T1278, L1278, k1278, n1278⟩, -, X1278, ⟨Lc1278, hQ1278, l1278, y1278, z1278⟩, st1278⟩ := Jvm.LawKit.callS X1273 hx (y := yN9) hown (mvT hZ (own_k hw 44 rfl)) (mvT hZ (own_k hw 45 rfl)) (mvT hZ (own_k hw 46 rfl)) (mvT hZ (own_k hw 47 rfl)) (by decide) (backOf (W := 0) (own_alw l Z a0 hw [] c1 T1252.heap n0 Z1262 g_c1) hZ (own_k hw 47 rfl) (own_k hw 46 rfl) (by decide) (by decide)) (g := (mkF m 131 #[.val (.int p1), .val (.int p2), .val (.int p3), .val (.int p4), .val (.int p5), .val (.int nn), .val (.int c0), .val (.int c1), .val (.int c2), .val (.int c3), .val (.ref b1227), .unset] [(.int c1)])) rfl hml.symm  (argsL := [(.int c1)]) (rest := []) (lenOf own_pd19 rfl) rfl (own_w0 rfl rfl) (hb hby at_131) (fun _ _ => ⟨rfl, e1273, (by decide : 5 + 0 ≤ 24), (by decide : 12 + 0 ≤ 1152)⟩)
            dsimp only [Pt.U, Pt.locs, Pt.cells, Pt.slots] at X1278 l1278 y1278 z1278 st1278 hQ1278
            subst l1278 y1278 z1278
            obtain ⟨rfl, N1278, e1278⟩ := hQ1278
            have N1279 := Fr.app N1274 N1278
            refine own_st (T' := T1278) (g' := (mkF m 134 #[.val (.int p1), .val (.int p2), .val (.int p3), .val (.int p4), .val (.int p5), .val (.int nn), .val (.int c0), .val (.int c1), .val (.int c2), .val (.int c3), .val (.ref b1227), .unset] [(.int (own_al c1))])) st1278 ?_
            by_cases hc1280 : (own_al c1) = 0
            ·
              refine own_st (T' := T1278) (g' := (mkF m 285 #[.val (.int p1), .val (.int p2), .val (.int p3), .val (.int p4), .val (.int p5), .val (.int nn), .val (.int c0), .val (.int c1), .val (.int c2), .val (.int c3), .val (.ref b1227), .val (.int 0)] [])) (fun _ kt => XS.ifYes X1278.here hx rfl (pc0 := 134) (pc' := 141) rfl (hb hby at_134) rfl (XT.i0_eq_t hc1280) (by decide) (by decide) (XS.iconst X1278.here hx rfl (hb hby at_141) (XS.istore X1278.here hx rfl (hb hby at_142) rfl (l' := #[.val (.int p1), .val (.int p2), .val (.int p3), .val (.int p4), .val (.int p5), .val (.int nn), .val (.int c0), .val (.int c1), .val (.int c2), .val (.int c3), .val (.ref b1227), .val (.int 0)]) rfl (XS.goto X1278.here hx rfl (pc0 := 144) (pc' := 285) rfl (hb hby at_144) (by decide) (by decide) kt)))) ?_
              have F1281 : Old Z n0 T1252.heap := (Old.keep F1248 K1252_ (allS ge_b1227 all0))
              have F1282 : Arv Z T1252.heap b1233 k1233 .char (2 : Int32) [(.int c0), (.int c1)] (.int 0) := (Arv.keep F1247 K1252_ (ninS (Ne.symm ne1234) nin0))
              exact J1265 _ _ _ _ _ (0 : Int32) ⟨N1279, Z1262, F1281, CR1261, hS, hk1262, hZ, hown, P1253, P1255, P1254, F1282, P1256, (by rw [if_neg (fun q => own_okf hc1280 q.2)])⟩ (X1278.mono (by decide) (by decide)) e1278
            ·
              refine own_st (T' := T1278) (g' := (mkF m 285 #[.val (.int p1), .val (.int p2), .val (.int p3), .val (.int p4), .val (.int p5), .val (.int nn), .val (.int c0), .val (.int c1), .val (.int c2), .val (.int c3), .val (.ref b1227), .val (.int 1)] [])) (fun _ kt => XS.ifNo X1278.here hx rfl (hb hby at_134) rfl (XT.i0_eq_f hc1280) (XS.iconst X1278.here hx rfl (hb hby at_137) (XS.goto X1278.here hx rfl (pc0 := 138) (pc' := 142) rfl (hb hby at_138) (by decide) (by decide) (XS.istore X1278.here hx rfl (hb hby at_142) rfl (l' := #[.val (.int p1), .val (.int p2), .val (.int p3), .val (.int p4), .val (.int p5), .val (.int nn), .val (.int c0), .val (.int c1), .val (.int c2), .val (.int c3), .val (.ref b1227), .val (.int 1)]) rfl (XS.goto X1278.here hx rfl (pc0 := 144) (pc' := 285) rfl (hb hby at_144) (by decide) (by decide) kt))))) ?_
              have F1283 : Old Z n0 T1252.heap := (Old.keep F1248 K1252_ (allS ge_b1227 all0))
              have F1284 : Arv Z T1252.heap b1233 k1233 .char (2 : Int32) [(.int c0), (.int c1)] (.int 0) := (Arv.keep F1247 K1252_ (ninS (Ne.symm ne1234) nin0))
              exact J1265 _ _ _ _ _ (1 : Int32) ⟨N1279, Z1262, F1283, CR1261, hS, hk1262, hZ, hown, P1253, P1255, P1254, F1284, P1256, (by rw [if_pos ⟨own_okt hc1275, own_okt hc1280⟩])⟩ (X1278.mono (by decide) (by decide)) e1278
      ·
        refine own_st (T' := s₁) (g' := (mkF m 150 #[.val (.int p1), .val (.int p2), .val (.int p3), .val (.int p4), .val (.int p5), .val (.int nn), .val (.int c0), .val (.int c1), .val (.int c2), .val (.int c3), .unset, .unset] [(.int 3), (.int nn)])) (fun _ kt => XS.icmpYes X0.here hx rfl (pc0 := 96) (pc' := 147) rfl (hb hby at_96) rfl (XT.ii_ne_t hc1226) (by decide) (by decide) (XS.iload X0.here hx rfl (hb hby at_147) rfl (XS.iconst X0.here hx rfl (hb hby at_149) kt))) ?_
        by_cases hc1285 : nn = (3 : Int32)
        ·
          refine own_st (T' := s₁) (g' := (mkF m 153 #[.val (.int p1), .val (.int p2), .val (.int p3), .val (.int p4), .val (.int p5), .val (.int nn), .val (.int c0), .val (.int c1), .val (.int c2), .val (.int c3), .unset, .unset] [])) (fun _ kt => XS.icmpNo X0.here hx rfl (hb hby at_150) rfl (XT.ii_ne_f hc1285) kt) ?_
          obtain ⟨T1286, h1286, X1286, e1286, E1286, A1286, D1286, -, st1286⟩ := newO X0 hx hZ hown (own_k hw 2 rfl) (own_k hw 3 rfl) (own_k hw 4 rfl) e0 (g := (mkF m 153 #[.val (.int p1), .val (.int p2), .val (.int p3), .val (.int p4), .val (.int p5), .val (.int nn), .val (.int c0), .val (.int c1), .val (.int c2), .val (.int c3), .unset, .unset] [])) rfl (hb hby at_153) (by decide) (by decide)
          obtain ⟨b1286, g1286⟩ : ∃ z, z = h0.size := ⟨_, rfl⟩
          rw [← g1286] at A1286 D1286 st1286
          have CR1287 : CHr Z own_EL s.vm h0 s.vm h1286 := CHr.trans CR0 (CHr.ext E1286 CR0.1)
          have Z1288 : n0 ≤ h1286.size := Nat.le_trans Z0 E1286.1
          have hk1288 := Nat.le_trans hk E1286.1
          have ge_b1286 : n0 ≤ b1286 := Nat.le_trans Z0 (Nat.le_of_eq g1286.symm)
          have S1289 : Safe Z own_EL s.vm h1286 b1286 := (Safe.ext E1286 CR0.1 (Safe.new (Nat.le_of_eq g1286.symm)))
          have F1290 : Fld Z h1286 b1286 "java/lang/String" "value" "[B" .null := D1286 (Or.inr (own_k hw 18 rfl)) (ty := (.array .byte)) (by decide)
          have F1291 : Fld Z h1286 b1286 "java/lang/String" "coder" "B" (.int 0) := D1286 (Or.inr (own_k hw 19 rfl)) (ty := .byte) (by decide)
          refine own_st (T' := T1286) (g' := (mkF m 156 #[.val (.int p1), .val (.int p2), .val (.int p3), .val (.int p4), .val (.int p5), .val (.int nn), .val (.int c0), .val (.int c1), .val (.int c2), .val (.int c3), .unset, .unset] [(.ref b1286)])) st1286 ?_
          refine own_st (T' := T1286) (g' := (mkF m 158 #[.val (.int p1), .val (.int p2), .val (.int p3), .val (.int p4), .val (.int p5), .val (.int nn), .val (.int c0), .val (.int c1), .val (.int c2), .val (.int c3), .unset, .unset] [(.int 3), (.ref b1286), (.ref b1286)])) (fun _ kt => XS.dup X1286.here hx rfl (hb hby at_156) rfl rfl (XS.iconst X1286.here hx rfl (hb hby at_157) kt)) ?_
          obtain ⟨T1292, h1292, k1292, X1292, e1292, E1292, A1292, st1292⟩ := newP X1286 hx hZ (aty := .char) (own_k hw 5 rfl) e1286 (g := (mkF m 158 #[.val (.int p1), .val (.int p2), .val (.int p3), .val (.int p4), .val (.int p5), .val (.int nn), .val (.int c0), .val (.int c1), .val (.int c2), .val (.int c3), .unset, .unset] [(.int 3), (.ref b1286), (.ref b1286)])) rfl (hb hby at_158) rfl (by decide) (cap := 3) (by decide) (by decide) (by decide) (by decide)
          obtain ⟨b1292, g1292⟩ : ∃ z, z = h1286.size := ⟨_, rfl⟩
          rw [← g1292] at A1292 st1292
          have ne1293 : b1286 ≠ b1292 := by rw [g1292]; exact Nat.ne_of_lt A1286.lt
          have CR1294 : CHr Z own_EL s.vm h0 s.vm h1292 := CHr.trans CR1287 (CHr.ext E1292 CR1287.1)
          have Z1295 : n0 ≤ h1292.size := Nat.le_trans Z1288 E1292.1
          have hk1295 := Nat.le_trans hk1288 E1292.1
          have ge_b1292 : n0 ≤ b1292 := Nat.le_trans Z1288 (Nat.le_of_eq g1292.symm)
          have S1296 : Safe Z own_EL s.vm h1292 b1292 := (Safe.ext E1292 CR1287.1 (Safe.new (Nat.le_of_eq g1292.symm)))
          have F1297 : Arv Z h1292 b1292 k1292 .char (3 : Int32) [(.int 0), (.int 0), (.int 0)] (.int 0) := (Arv.new A1292 (by decide)).pad (pad_rep [] (.int 0) 3)
          refine own_st (T' := T1292) (g' := (mkF m 160 #[.val (.int p1), .val (.int p2), .val (.int p3), .val (.int p4), .val (.int p5), .val (.int nn), .val (.int c0), .val (.int c1), .val (.int c2), .val (.int c3), .unset, .unset] [(.ref b1292), (.ref b1286), (.ref b1286)])) st1292 ?_
          refine own_st (T' := T1292) (g' := (mkF m 164 #[.val (.int p1), .val (.int p2), .val (.int p3), .val (.int p4), .val (.int p5), .val (.int nn), .val (.int c0), .val (.int c1), .val (.int c2), .val (.int c3), .unset, .unset] [(.int c0), (.int 0), (.ref b1292), (.ref b1292), (.ref b1286), (.ref b1286)])) (fun _ kt => XS.dup X1292.here hx rfl (hb hby at_160) rfl rfl (XS.iconst X1292.here hx rfl (hb hby at_161) (XS.iload X1292.here hx rfl (hb hby at_162) rfl kt))) ?_
          obtain ⟨T1298, h1298, X1298, e1298, W1298, V1298, st1298⟩ := own_cst X1292 hx hZ e1292 F1297 ⟨by decide, by decide⟩ (i := 0) rfl (by simp) (y := c0) (own_narc g_c0) (g := (mkF m 164 #[.val (.int p1), .val (.int p2), .val (.int p3), .val (.int p4), .val (.int p5), .val (.int nn), .val (.int c0), .val (.int c1), .val (.int c2), .val (.int c3), .unset, .unset] [(.int c0), (.int 0), (.ref b1292), (.ref b1292), (.ref b1286), (.ref b1286)])) rfl rfl (hb hby at_164)
          have N1298 := Fr.snoc X1298 N0 ge_b1292
          have CR1299 : CHr Z own_EL s.vm h0 s.vm h1298 := CHr.trans CR1294 (CHr.wr W1298 S1296 CR1294.1)
          have Z1300 : n0 ≤ h1298.size := Nat.le_trans Z1295 (Nat.le_of_eq (Wr.size W1298).symm)
          have hk1300 := Nat.le_trans hk1295 (Nat.le_of_eq (Wr.size W1298).symm)
          have F1301 : Arv Z h1298 b1292 k1292 .char (3 : Int32) [(.int c0), (.int 0), (.int 0)] (.int 0) := V1298
          refine own_st (T' := T1298) (g' := (mkF m 165 #[.val (.int p1), .val (.int p2), .val (.int p3), .val (.int p4), .val (.int p5), .val (.int nn), .val (.int c0), .val (.int c1), .val (.int c2), .val (.int c3), .unset, .unset] [(.ref b1292), (.ref b1286), (.ref b1286)])) st1298 ?_
          refine own_st (T' := T1298) (g' := (mkF m 169 #[.val (.int p1), .val (.int p2), .val (.int p3), .val (.int p4), .val (.int p5), .val (.int nn), .val (.int c0), .val (.int c1), .val (.int c2), .val (.int c3), .unset, .unset] [(.int c1), (.int 1), (.ref b1292), (.ref b1292), (.ref b1286), (.ref b1286)])) (fun _ kt => XS.dup X1298.here hx rfl (hb hby at_165) rfl rfl (XS.iconst X1298.here hx rfl (hb hby at_166) (XS.iload X1298.here hx rfl (hb hby at_167) rfl kt))) ?_
          obtain ⟨T1302, h1302, X1302, e1302, W1302, V1302, st1302⟩ := own_cst X1298 hx hZ e1298 F1301 ⟨by decide, by decide⟩ (i := 1) rfl (by simp) (y := c1) (own_narc g_c1) (g := (mkF m 169 #[.val (.int p1), .val (.int p2), .val (.int p3), .val (.int p4), .val (.int p5), .val (.int nn), .val (.int c0), .val (.int c1), .val (.int c2), .val (.int c3), .unset, .unset] [(.int c1), (.int 1), (.ref b1292), (.ref b1292), (.ref b1286), (.ref b1286)])) rfl rfl (hb hby at_169)
          have N1302 := Fr.snoc X1302 N1298 ge_b1292
          have F1303 : Safe Z own_EL s.vm h1298 b1292 := (Safe.wr W1298 S1296 CR1294.1 S1296)
          have CR1304 : CHr Z own_EL s.vm h0 s.vm h1302 := CHr.trans CR1299 (CHr.wr W1302 F1303 CR1299.1)
          have Z1305 : n0 ≤ h1302.size := Nat.le_trans Z1300 (Nat.le_of_eq (Wr.size W1302).symm)
          have hk1305 := Nat.le_trans hk1300 (Nat.le_of_eq (Wr.size W1302).symm)
          have F1306 : Arv Z h1302 b1292 k1292 .char (3 : Int32) [(.int c0), (.int c1), (.int 0)] (.int 0) := V1302
          refine own_st (T' := T1302) (g' := (mkF m 170 #[.val (.int p1), .val (.int p2), .val (.int p3), .val (.int p4), .val (.int p5), .val (.int nn), .val (.int c0), .val (.int c1), .val (.int c2), .val (.int c3), .unset, .unset] [(.ref b1292), (.ref b1286), (.ref b1286)])) st1302 ?_
          refine own_st (T' := T1302) (g' := (mkF m 174 #[.val (.int p1), .val (.int p2), .val (.int p3), .val (.int p4), .val (.int p5), .val (.int nn), .val (.int c0), .val (.int c1), .val (.int c2), .val (.int c3), .unset, .unset] [(.int c2), (.int 2), (.ref b1292), (.ref b1292), (.ref b1286), (.ref b1286)])) (fun _ kt => XS.dup X1302.here hx rfl (hb hby at_170) rfl rfl (XS.iconst X1302.here hx rfl (hb hby at_171) (XS.iload X1302.here hx rfl (hb hby at_172) rfl kt))) ?_
          obtain ⟨T1307, h1307, X1307, e1307, W1307, V1307, st1307⟩ := own_cst X1302 hx hZ e1302 F1306 ⟨by decide, by decide⟩ (i := 2) rfl (by simp) (y := c2) (own_narc g_c2) (g := (mkF m 174 #[.val (.int p1), .val (.int p2), .val (.int p3), .val (.int p4), .val (.int p5), .val (.int nn), .val (.int c0), .val (.int c1), .val (.int c2), .val (.int c3), .unset, .unset] [(.int c2), (.int 2), (.ref b1292), (.ref b1292), (.ref b1286), (.ref b1286)])) rfl rfl (hb hby at_174)
          have N1307 := Fr.snoc X1307 N1302 ge_b1292
          have F1308 : Safe Z own_EL s.vm h1302 b1292 := (Safe.wr W1302 F1303 CR1299.1 F1303)
          have CR1309 : CHr Z own_EL s.vm h0 s.vm h1307 := CHr.trans CR1304 (CHr.wr W1307 F1308 CR1304.1)
          have Z1310 : n0 ≤ h1307.size := Nat.le_trans Z1305 (Nat.le_of_eq (Wr.size W1307).symm)
          have hk1310 := Nat.le_trans hk1305 (Nat.le_of_eq (Wr.size W1307).symm)
          have F1311 : Arv Z h1307 b1292 k1292 .char (3 : Int32) [(.int c0), (.int c1), (.int c2)] (.int 0) := V1307
          refine own_st (T' := T1307) (g' := (mkF m 175 #[.val (.int p1), .val (.int p2), .val (.int p3), .val (.int p4), .val (.int p5), .val (.int nn), .val (.int c0), .val (.int c1), .val (.int c2), .val (.int c3), .unset, .unset] [(.ref b1292), (.ref b1286), (.ref b1286)])) st1307 ?_
          have F1312 : Old Z n0 h1307 := (Old.wr (Old.wr (Old.wr (Old.ext (Old.ext pr1 E1286) E1292) W1298 ge_b1292) W1302 ge_b1292) W1307 ge_b1292)
          have F1313 : Exa Z h1307 b1286 "java/lang/String" := (Exa.wr W1307 (Exa.wr W1302 (Exa.wr W1298 (Exa.ext E1292 A1286))))
          have F1314 : Fld Z h1307 b1286 "java/lang/String" "value" "[B" .null := (Fld.other W1307 (Fld.other W1302 (Fld.other W1298 (Fld.ext E1292 F1290) (Or.inl ne1293)) (Or.inl ne1293)) (Or.inl ne1293))
          have F1315 : Fld Z h1307 b1286 "java/lang/String" "coder" "B" (.int 0) := (Fld.other W1307 (Fld.other W1302 (Fld.other W1298 (Fld.ext E1292 F1291) (Or.inl ne1293)) (Or.inl ne1293)) (Or.inl ne1293))
          obtain ⟨_, _, ⟨T1316, L1316, k1316, n1316⟩, -, X1316, ⟨Lc1316, hQ1316, l1316, y1316, z1316⟩, st1316⟩ := X1307.specialBack hx (y := yN12) rfl hown (mvT hZ (own_k hw 6 rfl)) (mvT hZ (own_k hw 7 rfl)) (mvT hZ (own_k hw 8 rfl)) (by decide) (backOf (W := 1) (own_n1_3 l Z a0 hw [] b1286 b1292 zc k1292 c0 c1 c2 h1307 n0 Z1310 F1312 pr2 pr3 pr6 pr7 pr8 F1313 ge_b1286 F1314 F1315 F1311 g_c0 g_c1 g_c2) hZ (own_k hw 8 rfl) (own_k hw 4 rfl) (by decide) (by decide)) (g := (mkF m 175 #[.val (.int p1), .val (.int p2), .val (.int p3), .val (.int p4), .val (.int p5), .val (.int nn), .val (.int c0), .val (.int c1), .val (.int c2), .val (.int c3), .unset, .unset] [(.ref b1292), (.ref b1286), (.ref b1286)])) rfl hml.symm (Steps.refl _) (a := b1286) (argsL := [(.ref b1292)]) (rest := [(.ref b1286)]) (lenOf own_pd17 rfl) rfl (own_w0 rfl rfl) (hb hby at_175) (fun _ _ => ⟨rfl, e1307, (by decide : 2 + 3 ≤ 24), (by decide : 7 + 9 ≤ 1152)⟩)
          dsimp only [Pt.U, Pt.locs, Pt.cells, Pt.slots] at X1316 l1316 y1316 z1316 st1316 hQ1316
          subst l1316 y1316 z1316
          obtain ⟨t_1316, kb_1316, cd_1316, zz_1316, vl_1316, rfl, N1316, K1316_, P1317, P1318, P1319, P1320, P1321, q1322⟩ := hQ1316
          have N1323 := Fr.app N1307 N1316
          have F1324 : Safe Z own_EL s.vm h1307 b1286 := (Safe.wr W1307 F1308 CR1304.1 (Safe.wr W1302 F1303 CR1299.1 (Safe.wr W1298 S1296 CR1294.1 (Safe.ext E1292 CR1287.1 S1289))))
          have CR1325 : CHr Z own_EL s.vm h0 s.vm T1316.heap := CHr.trans CR1309 (CHr.keep K1316_ (sfS F1324 sf0) CR1309.1)
          have Z1326 : n0 ≤ T1316.heap.size := Nat.le_trans Z1310 K1316_.1
          have hk1326 := Nat.le_trans hk1310 K1316_.1
          have ne1327 : b1292 ≠ t_1316 := Nat.ne_of_lt (Nat.lt_of_lt_of_le F1311.lt P1321)
          have ge1328 : n0 ≤ t_1316 := Nat.le_trans Z1310 P1321
          refine own_tr (T' := T1316) (g' := (mkF m 178 #[.val (.int p1), .val (.int p2), .val (.int p3), .val (.int p4), .val (.int p5), .val (.int nn), .val (.int c0), .val (.int c1), .val (.int c2), .val (.int c3), .unset, .unset] [(.ref b1286)])) st1316 ?_
          refine own_st (T' := T1316) (g' := (mkF m 180 #[.val (.int p1), .val (.int p2), .val (.int p3), .val (.int p4), .val (.int p5), .val (.int nn), .val (.int c0), .val (.int c1), .val (.int c2), .val (.int c3), .val (.ref b1286), .unset] [])) (fun _ kt => XS.astore X1316.here hx rfl (hb hby at_178) rfl rfl (l' := #[.val (.int p1), .val (.int p2), .val (.int p3), .val (.int p4), .val (.int p5), .val (.int nn), .val (.int c0), .val (.int c1), .val (.int c2), .val (.int c3), .val (.ref b1286), .unset]) rfl kt) ?_
          refine own_joinHV (α := Int32) X1316 (cells' := 5) (slots' := 16) (gj := fun q => (mkF m 285 #[.val (.int p1), .val (.int p2), .val (.int p3), .val (.int p4), .val (.int p5), .val (.int nn), .val (.int c0), .val (.int c1), .val (.int c2), .val (.int c3), .val (.ref b1286), .val (.int q)] [])) (P := fun vm_ k_ L_ h_ q => (Fr n0 L_) ∧ (n0 ≤ h_.size) ∧ (Old Z n0 h_) ∧ (CHr Z own_EL s.vm h0 vm_ h_) ∧ (s.Since vm_ k_) ∧ (k_ ≤ h_.size) ∧ (Z.Warmed39 (s.setVm vm_).vm) ∧ ((s.setVm vm_).vm.findClass "com/example/tidelock/tidelock/protocol/ShardIsNamePinLaw" = some m.cls) ∧ (Exa Z h_ b1286 "java/lang/String") ∧ (Fld Z h_ b1286 "java/lang/String" "value" "[B" (.ref t_1316)) ∧ (Fld Z h_ b1286 "java/lang/String" "coder" "B" (.int cd_1316)) ∧ (Arv Z h_ b1292 k1292 .char (3 : Int32) [(.int c0), (.int c1), (.int c2)] (.int 0)) ∧ (Arv Z h_ t_1316 kb_1316 .byte zz_1316 vl_1316 (.int 0)) ∧ (q = (if own_ok c0 ∧ own_ok c1 ∧ own_ok c2 then (1 : Int32) else 0))) ?_ (fun J1329 => ?_)
          · rintro vm1329 k1329 T1329 L1329 h1329 ex ⟨N1329, Z1329, O1329, CR1329, hS1329, hk1329, hZ1329, hown1329, F1330, F1331, F1332, F1333, F1334, hj1329⟩ X1329 e1329
            try dsimp only at F1330 F1331 F1332 F1333 F1334 hj1329 ⊢
            refine own_st (T' := T1329) (g' := (mkF m 287 #[.val (.int p1), .val (.int p2), .val (.int p3), .val (.int p4), .val (.int p5), .val (.int nn), .val (.int c0), .val (.int c1), .val (.int c2), .val (.int c3), .val (.ref b1286), .val (.int ex)] [(.ref b1286)])) (fun _ kt => XS.aload X1329.here hx rfl (hb hby at_285) rfl rfl kt) ?_
            obtain ⟨_, _, ⟨T1335, L1335, k1335, n1335⟩, -, X1335, ⟨Lc1335, hQ1335, l1335, y1335, z1335⟩, st1335⟩ := Jvm.LawKit.callS X1329 hx (y := yN10) hown1329 (mvT hZ1329 (own_k hw 24 rfl)) (mvT hZ1329 (own_k hw 25 rfl)) (mvT hZ1329 (own_k hw 26 rfl)) (mvT hZ1329 (own_k hw 27 rfl)) (by decide) (backOf (W := 0) (own_is3 l Z a0 hw [] b1286 zc fmt t_1316 kb_1316 cd_1316 zz_1316 vl_1316 c0 c1 c2 h1329 n0 Z1329 O1329 pr2 pr3 pr4 pr5 pr6 pr7 pr8 F1330 F1332 F1331 F1334 q1322 g_c0 g_c1 g_c2) hZ1329 (own_k hw 27 rfl) (own_k hw 26 rfl) (by decide) (by decide)) (g := (mkF m 287 #[.val (.int p1), .val (.int p2), .val (.int p3), .val (.int p4), .val (.int p5), .val (.int nn), .val (.int c0), .val (.int c1), .val (.int c2), .val (.int c3), .val (.ref b1286), .val (.int ex)] [(.ref b1286)])) rfl hml.symm  (argsL := [(.ref b1286)]) (rest := []) (lenOf own_pd18 rfl) rfl (own_w0 rfl rfl) (hb hby at_287) (fun _ _ => ⟨rfl, e1329, (by decide : 5 + 0 ≤ 24), (by decide : 16 + 0 ≤ 1152)⟩)
            dsimp only [Pt.U, Pt.locs, Pt.cells, Pt.slots] at X1335 l1335 y1335 z1335 st1335 hQ1335
            subst l1335 y1335 z1335
            obtain ⟨rfl, N1335, e1335⟩ := hQ1335
            have N1336 := Fr.app N1329 N1335
            refine own_st (T' := T1335) (g' := (mkF m 290 #[.val (.int p1), .val (.int p2), .val (.int p3), .val (.int p4), .val (.int p5), .val (.int nn), .val (.int c0), .val (.int c1), .val (.int c2), .val (.int c3), .val (.ref b1286), .val (.int ex)] [(.int (if own_ok c0 ∧ own_ok c1 ∧ own_ok c2 then (1 : Int32) else 0))])) st1335 ?_
            refine own_st (T' := T1335) (g' := (mkF m 300 #[.val (.int p1), .val (.int p2), .val (.int p3), .val (.int p4), .val (.int p5), .val (.int nn), .val (.int c0), .val (.int c1), .val (.int c2), .val (.int c3), .val (.ref b1286), .val (.int ex)] [(.int 1)])) (fun _ kt => XS.iload X1335.here hx rfl (hb hby at_290) rfl (XS.icmpNo X1335.here hx rfl (hb hby at_292) rfl (XT.ii_ne_f hj1329.symm) (XS.iconst X1335.here hx rfl (hb hby at_295) (XS.goto X1335.here hx rfl (pc0 := 296) (pc' := 300) rfl (hb hby at_296) (by decide) (by decide) kt)))) ?_
            obtain ⟨fs, hr, hrun, hended, hE⟩ := Stand.leaveW X1335 hS1329 (by rw [e1335]; exact hk1329) (v := some (.int 1)) (fun h => by rw [Bd.returns] at h; cases h)
            refine own_end (retN X1335 hx (t := .boolean) Bd.returns (by simp) (hb hby at_300) hr) ⟨_, hrun, hended, _, _, rfl, ?_, (by rw [hh]; show CHr Z own_EL s.vm h0 T1335.vm T1335.heap; rw [e1335]; exact CHr.trans CR1329 (CHv.at X1335 hZ1329 (own_EW hw) CR1329.1)), ⟨hE.1, hE.2.1, hE.2.2.1, hE.2.2.2.mono (by decide) (by decide)⟩⟩
            show own_lawQ Z _ _ _ _ _ _ _ h0 n0 _ T1335.heap _
            rw [e1335]
            exact ⟨rfl, N1336⟩
          ·
            refine own_st (T' := T1316) (g' := (mkF m 182 #[.val (.int p1), .val (.int p2), .val (.int p3), .val (.int p4), .val (.int p5), .val (.int nn), .val (.int c0), .val (.int c1), .val (.int c2), .val (.int c3), .val (.ref b1286), .unset] [(.int c0)])) (fun _ kt => XS.iload X1316.here hx rfl (hb hby at_180) rfl kt) ?_
            obtain ⟨_, _, ⟨T1337, L1337, k1337, n1337⟩, -, X1337, ⟨Lc1337, hQ1337, l1337, y1337, z1337⟩, st1337⟩ := Jvm.LawKit.callS X1316 hx (y := yN9) hown (mvT hZ (own_k hw 44 rfl)) (mvT hZ (own_k hw 45 rfl)) (mvT hZ (own_k hw 46 rfl)) (mvT hZ (own_k hw 47 rfl)) (by decide) (backOf (W := 0) (own_alw l Z a0 hw [] c0 T1316.heap n0 Z1326 g_c0) hZ (own_k hw 47 rfl) (own_k hw 46 rfl) (by decide) (by decide)) (g := (mkF m 182 #[.val (.int p1), .val (.int p2), .val (.int p3), .val (.int p4), .val (.int p5), .val (.int nn), .val (.int c0), .val (.int c1), .val (.int c2), .val (.int c3), .val (.ref b1286), .unset] [(.int c0)])) rfl hml.symm  (argsL := [(.int c0)]) (rest := []) (lenOf own_pd19 rfl) rfl (own_w0 rfl rfl) (hb hby at_182) (fun _ _ => ⟨rfl, rfl, (by decide : 5 + 0 ≤ 24), (by decide : 16 + 0 ≤ 1152)⟩)
            dsimp only [Pt.U, Pt.locs, Pt.cells, Pt.slots] at X1337 l1337 y1337 z1337 st1337 hQ1337
            subst l1337 y1337 z1337
            obtain ⟨rfl, N1337, e1337⟩ := hQ1337
            have N1338 := Fr.app N1323 N1337
            refine own_st (T' := T1337) (g' := (mkF m 185 #[.val (.int p1), .val (.int p2), .val (.int p3), .val (.int p4), .val (.int p5), .val (.int nn), .val (.int c0), .val (.int c1), .val (.int c2), .val (.int c3), .val (.ref b1286), .unset] [(.int (own_al c0))])) st1337 ?_
            by_cases hc1339 : (own_al c0) = 0
            ·
              refine own_st (T' := T1337) (g' := (mkF m 285 #[.val (.int p1), .val (.int p2), .val (.int p3), .val (.int p4), .val (.int p5), .val (.int nn), .val (.int c0), .val (.int c1), .val (.int c2), .val (.int c3), .val (.ref b1286), .val (.int 0)] [])) (fun _ kt => XS.ifYes X1337.here hx rfl (pc0 := 185) (pc' := 208) rfl (hb hby at_185) rfl (XT.i0_eq_t hc1339) (by decide) (by decide) (XS.iconst X1337.here hx rfl (hb hby at_208) (XS.istore X1337.here hx rfl (hb hby at_209) rfl (l' := #[.val (.int p1), .val (.int p2), .val (.int p3), .val (.int p4), .val (.int p5), .val (.int nn), .val (.int c0), .val (.int c1), .val (.int c2), .val (.int c3), .val (.ref b1286), .val (.int 0)]) rfl (XS.goto X1337.here hx rfl (pc0 := 211) (pc' := 285) rfl (hb hby at_211) (by decide) (by decide) kt)))) ?_
              have F1340 : Old Z n0 T1316.heap := (Old.keep F1312 K1316_ (allS ge_b1286 all0))
              have F1341 : Arv Z T1316.heap b1292 k1292 .char (3 : Int32) [(.int c0), (.int c1), (.int c2)] (.int 0) := (Arv.keep F1311 K1316_ (ninS (Ne.symm ne1293) nin0))
              exact J1329 _ _ _ _ _ (0 : Int32) ⟨N1338, Z1326, F1340, CR1325, hS, hk1326, hZ, hown, P1317, P1319, P1318, F1341, P1320, (by rw [if_neg (fun q => own_okf hc1339 q.1)])⟩ (X1337.mono (by decide) (by decide)) e1337
            ·
              refine own_st (T' := T1337) (g' := (mkF m 190 #[.val (.int p1), .val (.int p2), .val (.int p3), .val (.int p4), .val (.int p5), .val (.int nn), .val (.int c0), .val (.int c1), .val (.int c2), .val (.int c3), .val (.ref b1286), .unset] [(.int c1)])) (fun _ kt => XS.ifNo X1337.here hx rfl (hb hby at_185) rfl (XT.i0_eq_f hc1339) (XS.iload X1337.here hx rfl (hb hby at_188) rfl kt)) ?_
              obtain ⟨_, _, ⟨T1342, L1342, k1342, n1342⟩, -, X1342, ⟨Lc1342, hQ1342, l1342, y1342, z1342⟩, st1342⟩ := Jvm.LawKit.callS X1337 hx (y := yN9) hown (mvT hZ (own_k hw 44 rfl)) (mvT hZ (own_k hw 45 rfl)) (mvT hZ (own_k hw 46 rfl)) (mvT hZ (own_k hw 47 rfl)) (by decide) (backOf (W := 0) (own_alw l Z a0 hw [] c1 T1316.heap n0 Z1326 g_c1) hZ (own_k hw 47 rfl) (own_k hw 46 rfl) (by decide) (by decide)) (g := (mkF m 190 #[.val (.int p1), .val (.int p2), .val (.int p3), .val (.int p4), .val (.int p5), .val (.int nn), .val (.int c0), .val (.int c1), .val (.int c2), .val (.int c3), .val (.ref b1286), .unset] [(.int c1)])) rfl hml.symm  (argsL := [(.int c1)]) (rest := []) (lenOf own_pd19 rfl) rfl (own_w0 rfl rfl) (hb hby at_190) (fun _ _ => ⟨rfl, e1337, (by decide : 5 + 0 ≤ 24), (by decide : 16 + 0 ≤ 1152)⟩)
              dsimp only [Pt.U, Pt.locs, Pt.cells, Pt.slots] at X1342 l1342 y1342 z1342 st1342 hQ1342
              subst l1342 y1342 z1342
              obtain ⟨rfl, N1342, e1342⟩ := hQ1342
              have N1343 := Fr.app N1338 N1342
              refine own_st (T' := T1342) (g' := (mkF m 193 #[.val (.int p1), .val (.int p2), .val (.int p3), .val (.int p4), .val (.int p5), .val (.int nn), .val (.int c0), .val (.int c1), .val (.int c2), .val (.int c3), .val (.ref b1286), .unset] [(.int (own_al c1))])) st1342 ?_
              by_cases hc1344 : (own_al c1) = 0
              ·
                refine own_st (T' := T1342) (g' := (mkF m 285 #[.val (.int p1), .val (.int p2), .val (.int p3), .val (.int p4), .val (.int p5), .val (.int nn), .val (.int c0), .val (.int c1), .val (.int c2), .val (.int c3), .val (.ref b1286), .val (.int 0)] [])) (fun _ kt => XS.ifYes X1342.here hx rfl (pc0 := 193) (pc' := 208) rfl (hb hby at_193) rfl (XT.i0_eq_t hc1344) (by decide) (by decide) (XS.iconst X1342.here hx rfl (hb hby at_208) (XS.istore X1342.here hx rfl (hb hby at_209) rfl (l' := #[.val (.int p1), .val (.int p2), .val (.int p3), .val (.int p4), .val (.int p5), .val (.int nn), .val (.int c0), .val (.int c1), .val (.int c2), .val (.int c3), .val (.ref b1286), .val (.int 0)]) rfl (XS.goto X1342.here hx rfl (pc0 := 211) (pc' := 285) rfl (hb hby at_211) (by decide) (by decide) kt)))) ?_
                have F1345 : Old Z n0 T1316.heap := (Old.keep F1312 K1316_ (allS ge_b1286 all0))
                have F1346 : Arv Z T1316.heap b1292 k1292 .char (3 : Int32) [(.int c0), (.int c1), (.int c2)] (.int 0) := (Arv.keep F1311 K1316_ (ninS (Ne.symm ne1293) nin0))
                exact J1329 _ _ _ _ _ (0 : Int32) ⟨N1343, Z1326, F1345, CR1325, hS, hk1326, hZ, hown, P1317, P1319, P1318, F1346, P1320, (by rw [if_neg (fun q => own_okf hc1344 q.2.1)])⟩ (X1342.mono (by decide) (by decide)) e1342
              ·
                refine own_st (T' := T1342) (g' := (mkF m 198 #[.val (.int p1), .val (.int p2), .val (.int p3), .val (.int p4), .val (.int p5), .val (.int nn), .val (.int c0), .val (.int c1), .val (.int c2), .val (.int c3), .val (.ref b1286), .unset] [(.int c2)])) (fun _ kt => XS.ifNo X1342.here hx rfl (hb hby at_193) rfl (XT.i0_eq_f hc1344) (XS.iload X1342.here hx rfl (hb hby at_196) rfl kt)) ?_
                obtain ⟨_, _, ⟨T1347, L1347, k1347, n1347⟩, -, X1347, ⟨Lc1347, hQ1347, l1347, y1347, z1347⟩, st1347⟩ := Jvm.LawKit.callS X1342 hx (y := yN9) hown (mvT hZ (own_k hw 44 rfl)) (mvT hZ (own_k hw 45 rfl)) (mvT hZ (own_k hw 46 rfl)) (mvT hZ (own_k hw 47 rfl)) (by decide) (backOf (W := 0) (own_alw l Z a0 hw [] c2 T1316.heap n0 Z1326 g_c2) hZ (own_k hw 47 rfl) (own_k hw 46 rfl) (by decide) (by decide)) (g := (mkF m 198 #[.val (.int p1), .val (.int p2), .val (.int p3), .val (.int p4), .val (.int p5), .val (.int nn), .val (.int c0), .val (.int c1), .val (.int c2), .val (.int c3), .val (.ref b1286), .unset] [(.int c2)])) rfl hml.symm  (argsL := [(.int c2)]) (rest := []) (lenOf own_pd19 rfl) rfl (own_w0 rfl rfl) (hb hby at_198) (fun _ _ => ⟨rfl, e1342, (by decide : 5 + 0 ≤ 24), (by decide : 16 + 0 ≤ 1152)⟩)
                dsimp only [Pt.U, Pt.locs, Pt.cells, Pt.slots] at X1347 l1347 y1347 z1347 st1347 hQ1347
                subst l1347 y1347 z1347
                obtain ⟨rfl, N1347, e1347⟩ := hQ1347
                have N1348 := Fr.app N1343 N1347
                refine own_st (T' := T1347) (g' := (mkF m 201 #[.val (.int p1), .val (.int p2), .val (.int p3), .val (.int p4), .val (.int p5), .val (.int nn), .val (.int c0), .val (.int c1), .val (.int c2), .val (.int c3), .val (.ref b1286), .unset] [(.int (own_al c2))])) st1347 ?_
                by_cases hc1349 : (own_al c2) = 0
                ·
                  refine own_st (T' := T1347) (g' := (mkF m 285 #[.val (.int p1), .val (.int p2), .val (.int p3), .val (.int p4), .val (.int p5), .val (.int nn), .val (.int c0), .val (.int c1), .val (.int c2), .val (.int c3), .val (.ref b1286), .val (.int 0)] [])) (fun _ kt => XS.ifYes X1347.here hx rfl (pc0 := 201) (pc' := 208) rfl (hb hby at_201) rfl (XT.i0_eq_t hc1349) (by decide) (by decide) (XS.iconst X1347.here hx rfl (hb hby at_208) (XS.istore X1347.here hx rfl (hb hby at_209) rfl (l' := #[.val (.int p1), .val (.int p2), .val (.int p3), .val (.int p4), .val (.int p5), .val (.int nn), .val (.int c0), .val (.int c1), .val (.int c2), .val (.int c3), .val (.ref b1286), .val (.int 0)]) rfl (XS.goto X1347.here hx rfl (pc0 := 211) (pc' := 285) rfl (hb hby at_211) (by decide) (by decide) kt)))) ?_
                  have F1350 : Old Z n0 T1316.heap := (Old.keep F1312 K1316_ (allS ge_b1286 all0))
                  have F1351 : Arv Z T1316.heap b1292 k1292 .char (3 : Int32) [(.int c0), (.int c1), (.int c2)] (.int 0) := (Arv.keep F1311 K1316_ (ninS (Ne.symm ne1293) nin0))
                  exact J1329 _ _ _ _ _ (0 : Int32) ⟨N1348, Z1326, F1350, CR1325, hS, hk1326, hZ, hown, P1317, P1319, P1318, F1351, P1320, (by rw [if_neg (fun q => own_okf hc1349 q.2.2)])⟩ (X1347.mono (by decide) (by decide)) e1347
                ·
                  refine own_st (T' := T1347) (g' := (mkF m 285 #[.val (.int p1), .val (.int p2), .val (.int p3), .val (.int p4), .val (.int p5), .val (.int nn), .val (.int c0), .val (.int c1), .val (.int c2), .val (.int c3), .val (.ref b1286), .val (.int 1)] [])) (fun _ kt => XS.ifNo X1347.here hx rfl (hb hby at_201) rfl (XT.i0_eq_f hc1349) (XS.iconst X1347.here hx rfl (hb hby at_204) (XS.goto X1347.here hx rfl (pc0 := 205) (pc' := 209) rfl (hb hby at_205) (by decide) (by decide) (XS.istore X1347.here hx rfl (hb hby at_209) rfl (l' := #[.val (.int p1), .val (.int p2), .val (.int p3), .val (.int p4), .val (.int p5), .val (.int nn), .val (.int c0), .val (.int c1), .val (.int c2), .val (.int c3), .val (.ref b1286), .val (.int 1)]) rfl (XS.goto X1347.here hx rfl (pc0 := 211) (pc' := 285) rfl (hb hby at_211) (by decide) (by decide) kt))))) ?_
                  have F1352 : Old Z n0 T1316.heap := (Old.keep F1312 K1316_ (allS ge_b1286 all0))
                  have F1353 : Arv Z T1316.heap b1292 k1292 .char (3 : Int32) [(.int c0), (.int c1), (.int c2)] (.int 0) := (Arv.keep F1311 K1316_ (ninS (Ne.symm ne1293) nin0))
                  exact J1329 _ _ _ _ _ (1 : Int32) ⟨N1348, Z1326, F1352, CR1325, hS, hk1326, hZ, hown, P1317, P1319, P1318, F1353, P1320, (by rw [if_pos ⟨own_okt hc1339, own_okt hc1344, own_okt hc1349⟩])⟩ (X1347.mono (by decide) (by decide)) e1347
        ·
          refine own_st (T' := s₁) (g' := (mkF m 214 #[.val (.int p1), .val (.int p2), .val (.int p3), .val (.int p4), .val (.int p5), .val (.int nn), .val (.int c0), .val (.int c1), .val (.int c2), .val (.int c3), .unset, .unset] [])) (fun _ kt => XS.icmpYes X0.here hx rfl (pc0 := 150) (pc' := 214) rfl (hb hby at_150) rfl (XT.ii_ne_t hc1285) (by decide) (by decide) kt) ?_
          obtain ⟨T1354, h1354, X1354, e1354, E1354, A1354, D1354, -, st1354⟩ := newO X0 hx hZ hown (own_k hw 2 rfl) (own_k hw 3 rfl) (own_k hw 4 rfl) e0 (g := (mkF m 214 #[.val (.int p1), .val (.int p2), .val (.int p3), .val (.int p4), .val (.int p5), .val (.int nn), .val (.int c0), .val (.int c1), .val (.int c2), .val (.int c3), .unset, .unset] [])) rfl (hb hby at_214) (by decide) (by decide)
          obtain ⟨b1354, g1354⟩ : ∃ z, z = h0.size := ⟨_, rfl⟩
          rw [← g1354] at A1354 D1354 st1354
          have CR1355 : CHr Z own_EL s.vm h0 s.vm h1354 := CHr.trans CR0 (CHr.ext E1354 CR0.1)
          have Z1356 : n0 ≤ h1354.size := Nat.le_trans Z0 E1354.1
          have hk1356 := Nat.le_trans hk E1354.1
          have ge_b1354 : n0 ≤ b1354 := Nat.le_trans Z0 (Nat.le_of_eq g1354.symm)
          have S1357 : Safe Z own_EL s.vm h1354 b1354 := (Safe.ext E1354 CR0.1 (Safe.new (Nat.le_of_eq g1354.symm)))
          have F1358 : Fld Z h1354 b1354 "java/lang/String" "value" "[B" .null := D1354 (Or.inr (own_k hw 18 rfl)) (ty := (.array .byte)) (by decide)
          have F1359 : Fld Z h1354 b1354 "java/lang/String" "coder" "B" (.int 0) := D1354 (Or.inr (own_k hw 19 rfl)) (ty := .byte) (by decide)
          refine own_st (T' := T1354) (g' := (mkF m 217 #[.val (.int p1), .val (.int p2), .val (.int p3), .val (.int p4), .val (.int p5), .val (.int nn), .val (.int c0), .val (.int c1), .val (.int c2), .val (.int c3), .unset, .unset] [(.ref b1354)])) st1354 ?_
          refine own_st (T' := T1354) (g' := (mkF m 219 #[.val (.int p1), .val (.int p2), .val (.int p3), .val (.int p4), .val (.int p5), .val (.int nn), .val (.int c0), .val (.int c1), .val (.int c2), .val (.int c3), .unset, .unset] [(.int 4), (.ref b1354), (.ref b1354)])) (fun _ kt => XS.dup X1354.here hx rfl (hb hby at_217) rfl rfl (XS.iconst X1354.here hx rfl (hb hby at_218) kt)) ?_
          obtain ⟨T1360, h1360, k1360, X1360, e1360, E1360, A1360, st1360⟩ := newP X1354 hx hZ (aty := .char) (own_k hw 5 rfl) e1354 (g := (mkF m 219 #[.val (.int p1), .val (.int p2), .val (.int p3), .val (.int p4), .val (.int p5), .val (.int nn), .val (.int c0), .val (.int c1), .val (.int c2), .val (.int c3), .unset, .unset] [(.int 4), (.ref b1354), (.ref b1354)])) rfl (hb hby at_219) rfl (by decide) (cap := 4) (by decide) (by decide) (by decide) (by decide)
          obtain ⟨b1360, g1360⟩ : ∃ z, z = h1354.size := ⟨_, rfl⟩
          rw [← g1360] at A1360 st1360
          have ne1361 : b1354 ≠ b1360 := by rw [g1360]; exact Nat.ne_of_lt A1354.lt
          have CR1362 : CHr Z own_EL s.vm h0 s.vm h1360 := CHr.trans CR1355 (CHr.ext E1360 CR1355.1)
          have Z1363 : n0 ≤ h1360.size := Nat.le_trans Z1356 E1360.1
          have hk1363 := Nat.le_trans hk1356 E1360.1
          have ge_b1360 : n0 ≤ b1360 := Nat.le_trans Z1356 (Nat.le_of_eq g1360.symm)
          have S1364 : Safe Z own_EL s.vm h1360 b1360 := (Safe.ext E1360 CR1355.1 (Safe.new (Nat.le_of_eq g1360.symm)))
          have F1365 : Arv Z h1360 b1360 k1360 .char (4 : Int32) [(.int 0), (.int 0), (.int 0), (.int 0)] (.int 0) := (Arv.new A1360 (by decide)).pad (pad_rep [] (.int 0) 4)
          refine own_st (T' := T1360) (g' := (mkF m 221 #[.val (.int p1), .val (.int p2), .val (.int p3), .val (.int p4), .val (.int p5), .val (.int nn), .val (.int c0), .val (.int c1), .val (.int c2), .val (.int c3), .unset, .unset] [(.ref b1360), (.ref b1354), (.ref b1354)])) st1360 ?_
          refine own_st (T' := T1360) (g' := (mkF m 225 #[.val (.int p1), .val (.int p2), .val (.int p3), .val (.int p4), .val (.int p5), .val (.int nn), .val (.int c0), .val (.int c1), .val (.int c2), .val (.int c3), .unset, .unset] [(.int c0), (.int 0), (.ref b1360), (.ref b1360), (.ref b1354), (.ref b1354)])) (fun _ kt => XS.dup X1360.here hx rfl (hb hby at_221) rfl rfl (XS.iconst X1360.here hx rfl (hb hby at_222) (XS.iload X1360.here hx rfl (hb hby at_223) rfl kt))) ?_
          obtain ⟨T1366, h1366, X1366, e1366, W1366, V1366, st1366⟩ := own_cst X1360 hx hZ e1360 F1365 ⟨by decide, by decide⟩ (i := 0) rfl (by simp) (y := c0) (own_narc g_c0) (g := (mkF m 225 #[.val (.int p1), .val (.int p2), .val (.int p3), .val (.int p4), .val (.int p5), .val (.int nn), .val (.int c0), .val (.int c1), .val (.int c2), .val (.int c3), .unset, .unset] [(.int c0), (.int 0), (.ref b1360), (.ref b1360), (.ref b1354), (.ref b1354)])) rfl rfl (hb hby at_225)
          have N1366 := Fr.snoc X1366 N0 ge_b1360
          have CR1367 : CHr Z own_EL s.vm h0 s.vm h1366 := CHr.trans CR1362 (CHr.wr W1366 S1364 CR1362.1)
          have Z1368 : n0 ≤ h1366.size := Nat.le_trans Z1363 (Nat.le_of_eq (Wr.size W1366).symm)
          have hk1368 := Nat.le_trans hk1363 (Nat.le_of_eq (Wr.size W1366).symm)
          have F1369 : Arv Z h1366 b1360 k1360 .char (4 : Int32) [(.int c0), (.int 0), (.int 0), (.int 0)] (.int 0) := V1366
          refine own_st (T' := T1366) (g' := (mkF m 226 #[.val (.int p1), .val (.int p2), .val (.int p3), .val (.int p4), .val (.int p5), .val (.int nn), .val (.int c0), .val (.int c1), .val (.int c2), .val (.int c3), .unset, .unset] [(.ref b1360), (.ref b1354), (.ref b1354)])) st1366 ?_
          refine own_st (T' := T1366) (g' := (mkF m 230 #[.val (.int p1), .val (.int p2), .val (.int p3), .val (.int p4), .val (.int p5), .val (.int nn), .val (.int c0), .val (.int c1), .val (.int c2), .val (.int c3), .unset, .unset] [(.int c1), (.int 1), (.ref b1360), (.ref b1360), (.ref b1354), (.ref b1354)])) (fun _ kt => XS.dup X1366.here hx rfl (hb hby at_226) rfl rfl (XS.iconst X1366.here hx rfl (hb hby at_227) (XS.iload X1366.here hx rfl (hb hby at_228) rfl kt))) ?_
          obtain ⟨T1370, h1370, X1370, e1370, W1370, V1370, st1370⟩ := own_cst X1366 hx hZ e1366 F1369 ⟨by decide, by decide⟩ (i := 1) rfl (by simp) (y := c1) (own_narc g_c1) (g := (mkF m 230 #[.val (.int p1), .val (.int p2), .val (.int p3), .val (.int p4), .val (.int p5), .val (.int nn), .val (.int c0), .val (.int c1), .val (.int c2), .val (.int c3), .unset, .unset] [(.int c1), (.int 1), (.ref b1360), (.ref b1360), (.ref b1354), (.ref b1354)])) rfl rfl (hb hby at_230)
          have N1370 := Fr.snoc X1370 N1366 ge_b1360
          have F1371 : Safe Z own_EL s.vm h1366 b1360 := (Safe.wr W1366 S1364 CR1362.1 S1364)
          have CR1372 : CHr Z own_EL s.vm h0 s.vm h1370 := CHr.trans CR1367 (CHr.wr W1370 F1371 CR1367.1)
          have Z1373 : n0 ≤ h1370.size := Nat.le_trans Z1368 (Nat.le_of_eq (Wr.size W1370).symm)
          have hk1373 := Nat.le_trans hk1368 (Nat.le_of_eq (Wr.size W1370).symm)
          have F1374 : Arv Z h1370 b1360 k1360 .char (4 : Int32) [(.int c0), (.int c1), (.int 0), (.int 0)] (.int 0) := V1370
          refine own_st (T' := T1370) (g' := (mkF m 231 #[.val (.int p1), .val (.int p2), .val (.int p3), .val (.int p4), .val (.int p5), .val (.int nn), .val (.int c0), .val (.int c1), .val (.int c2), .val (.int c3), .unset, .unset] [(.ref b1360), (.ref b1354), (.ref b1354)])) st1370 ?_
          refine own_st (T' := T1370) (g' := (mkF m 235 #[.val (.int p1), .val (.int p2), .val (.int p3), .val (.int p4), .val (.int p5), .val (.int nn), .val (.int c0), .val (.int c1), .val (.int c2), .val (.int c3), .unset, .unset] [(.int c2), (.int 2), (.ref b1360), (.ref b1360), (.ref b1354), (.ref b1354)])) (fun _ kt => XS.dup X1370.here hx rfl (hb hby at_231) rfl rfl (XS.iconst X1370.here hx rfl (hb hby at_232) (XS.iload X1370.here hx rfl (hb hby at_233) rfl kt))) ?_
          obtain ⟨T1375, h1375, X1375, e1375, W1375, V1375, st1375⟩ := own_cst X1370 hx hZ e1370 F1374 ⟨by decide, by decide⟩ (i := 2) rfl (by simp) (y := c2) (own_narc g_c2) (g := (mkF m 235 #[.val (.int p1), .val (.int p2), .val (.int p3), .val (.int p4), .val (.int p5), .val (.int nn), .val (.int c0), .val (.int c1), .val (.int c2), .val (.int c3), .unset, .unset] [(.int c2), (.int 2), (.ref b1360), (.ref b1360), (.ref b1354), (.ref b1354)])) rfl rfl (hb hby at_235)
          have N1375 := Fr.snoc X1375 N1370 ge_b1360
          have F1376 : Safe Z own_EL s.vm h1370 b1360 := (Safe.wr W1370 F1371 CR1367.1 F1371)
          have CR1377 : CHr Z own_EL s.vm h0 s.vm h1375 := CHr.trans CR1372 (CHr.wr W1375 F1376 CR1372.1)
          have Z1378 : n0 ≤ h1375.size := Nat.le_trans Z1373 (Nat.le_of_eq (Wr.size W1375).symm)
          have hk1378 := Nat.le_trans hk1373 (Nat.le_of_eq (Wr.size W1375).symm)
          have F1379 : Arv Z h1375 b1360 k1360 .char (4 : Int32) [(.int c0), (.int c1), (.int c2), (.int 0)] (.int 0) := V1375
          refine own_st (T' := T1375) (g' := (mkF m 236 #[.val (.int p1), .val (.int p2), .val (.int p3), .val (.int p4), .val (.int p5), .val (.int nn), .val (.int c0), .val (.int c1), .val (.int c2), .val (.int c3), .unset, .unset] [(.ref b1360), (.ref b1354), (.ref b1354)])) st1375 ?_
          refine own_st (T' := T1375) (g' := (mkF m 240 #[.val (.int p1), .val (.int p2), .val (.int p3), .val (.int p4), .val (.int p5), .val (.int nn), .val (.int c0), .val (.int c1), .val (.int c2), .val (.int c3), .unset, .unset] [(.int c3), (.int 3), (.ref b1360), (.ref b1360), (.ref b1354), (.ref b1354)])) (fun _ kt => XS.dup X1375.here hx rfl (hb hby at_236) rfl rfl (XS.iconst X1375.here hx rfl (hb hby at_237) (XS.iload X1375.here hx rfl (hb hby at_238) rfl kt))) ?_
          obtain ⟨T1380, h1380, X1380, e1380, W1380, V1380, st1380⟩ := own_cst X1375 hx hZ e1375 F1379 ⟨by decide, by decide⟩ (i := 3) rfl (by simp) (y := c3) (own_narc g_c3) (g := (mkF m 240 #[.val (.int p1), .val (.int p2), .val (.int p3), .val (.int p4), .val (.int p5), .val (.int nn), .val (.int c0), .val (.int c1), .val (.int c2), .val (.int c3), .unset, .unset] [(.int c3), (.int 3), (.ref b1360), (.ref b1360), (.ref b1354), (.ref b1354)])) rfl rfl (hb hby at_240)
          have N1380 := Fr.snoc X1380 N1375 ge_b1360
          have F1381 : Safe Z own_EL s.vm h1375 b1360 := (Safe.wr W1375 F1376 CR1372.1 F1376)
          have CR1382 : CHr Z own_EL s.vm h0 s.vm h1380 := CHr.trans CR1377 (CHr.wr W1380 F1381 CR1377.1)
          have Z1383 : n0 ≤ h1380.size := Nat.le_trans Z1378 (Nat.le_of_eq (Wr.size W1380).symm)
          have hk1383 := Nat.le_trans hk1378 (Nat.le_of_eq (Wr.size W1380).symm)
          have F1384 : Arv Z h1380 b1360 k1360 .char (4 : Int32) [(.int c0), (.int c1), (.int c2), (.int c3)] (.int 0) := V1380
          refine own_st (T' := T1380) (g' := (mkF m 241 #[.val (.int p1), .val (.int p2), .val (.int p3), .val (.int p4), .val (.int p5), .val (.int nn), .val (.int c0), .val (.int c1), .val (.int c2), .val (.int c3), .unset, .unset] [(.ref b1360), (.ref b1354), (.ref b1354)])) st1380 ?_
          have F1385 : Old Z n0 h1380 := (Old.wr (Old.wr (Old.wr (Old.wr (Old.ext (Old.ext pr1 E1354) E1360) W1366 ge_b1360) W1370 ge_b1360) W1375 ge_b1360) W1380 ge_b1360)
          have F1386 : Exa Z h1380 b1354 "java/lang/String" := (Exa.wr W1380 (Exa.wr W1375 (Exa.wr W1370 (Exa.wr W1366 (Exa.ext E1360 A1354)))))
          have F1387 : Fld Z h1380 b1354 "java/lang/String" "value" "[B" .null := (Fld.other W1380 (Fld.other W1375 (Fld.other W1370 (Fld.other W1366 (Fld.ext E1360 F1358) (Or.inl ne1361)) (Or.inl ne1361)) (Or.inl ne1361)) (Or.inl ne1361))
          have F1388 : Fld Z h1380 b1354 "java/lang/String" "coder" "B" (.int 0) := (Fld.other W1380 (Fld.other W1375 (Fld.other W1370 (Fld.other W1366 (Fld.ext E1360 F1359) (Or.inl ne1361)) (Or.inl ne1361)) (Or.inl ne1361)) (Or.inl ne1361))
          obtain ⟨_, _, ⟨T1389, L1389, k1389, n1389⟩, -, X1389, ⟨Lc1389, hQ1389, l1389, y1389, z1389⟩, st1389⟩ := X1380.specialBack hx (y := yN12) rfl hown (mvT hZ (own_k hw 6 rfl)) (mvT hZ (own_k hw 7 rfl)) (mvT hZ (own_k hw 8 rfl)) (by decide) (backOf (W := 1) (own_n1_4 l Z a0 hw [] b1354 b1360 zc k1360 c0 c1 c2 c3 h1380 n0 Z1383 F1385 pr2 pr3 pr6 pr7 pr8 F1386 ge_b1354 F1387 F1388 F1384 g_c0 g_c1 g_c2 g_c3) hZ (own_k hw 8 rfl) (own_k hw 4 rfl) (by decide) (by decide)) (g := (mkF m 241 #[.val (.int p1), .val (.int p2), .val (.int p3), .val (.int p4), .val (.int p5), .val (.int nn), .val (.int c0), .val (.int c1), .val (.int c2), .val (.int c3), .unset, .unset] [(.ref b1360), (.ref b1354), (.ref b1354)])) rfl hml.symm (Steps.refl _) (a := b1354) (argsL := [(.ref b1360)]) (rest := [(.ref b1354)]) (lenOf own_pd17 rfl) rfl (own_w0 rfl rfl) (hb hby at_241) (fun _ _ => ⟨rfl, e1380, (by decide : 2 + 3 ≤ 24), (by decide : 8 + 12 ≤ 1152)⟩)
          dsimp only [Pt.U, Pt.locs, Pt.cells, Pt.slots] at X1389 l1389 y1389 z1389 st1389 hQ1389
          subst l1389 y1389 z1389
          obtain ⟨t_1389, kb_1389, cd_1389, zz_1389, vl_1389, rfl, N1389, K1389_, P1390, P1391, P1392, P1393, P1394, q1395⟩ := hQ1389
          have N1396 := Fr.app N1380 N1389
          have F1397 : Safe Z own_EL s.vm h1380 b1354 := (Safe.wr W1380 F1381 CR1377.1 (Safe.wr W1375 F1376 CR1372.1 (Safe.wr W1370 F1371 CR1367.1 (Safe.wr W1366 S1364 CR1362.1 (Safe.ext E1360 CR1355.1 S1357)))))
          have CR1398 : CHr Z own_EL s.vm h0 s.vm T1389.heap := CHr.trans CR1382 (CHr.keep K1389_ (sfS F1397 sf0) CR1382.1)
          have Z1399 : n0 ≤ T1389.heap.size := Nat.le_trans Z1383 K1389_.1
          have hk1399 := Nat.le_trans hk1383 K1389_.1
          have ne1400 : b1360 ≠ t_1389 := Nat.ne_of_lt (Nat.lt_of_lt_of_le F1384.lt P1394)
          have ge1401 : n0 ≤ t_1389 := Nat.le_trans Z1383 P1394
          refine own_tr (T' := T1389) (g' := (mkF m 244 #[.val (.int p1), .val (.int p2), .val (.int p3), .val (.int p4), .val (.int p5), .val (.int nn), .val (.int c0), .val (.int c1), .val (.int c2), .val (.int c3), .unset, .unset] [(.ref b1354)])) st1389 ?_
          refine own_st (T' := T1389) (g' := (mkF m 246 #[.val (.int p1), .val (.int p2), .val (.int p3), .val (.int p4), .val (.int p5), .val (.int nn), .val (.int c0), .val (.int c1), .val (.int c2), .val (.int c3), .val (.ref b1354), .unset] [])) (fun _ kt => XS.astore X1389.here hx rfl (hb hby at_244) rfl rfl (l' := #[.val (.int p1), .val (.int p2), .val (.int p3), .val (.int p4), .val (.int p5), .val (.int nn), .val (.int c0), .val (.int c1), .val (.int c2), .val (.int c3), .val (.ref b1354), .unset]) rfl kt) ?_
          refine own_joinHV (α := Int32) X1389 (cells' := 5) (slots' := 20) (gj := fun q => (mkF m 285 #[.val (.int p1), .val (.int p2), .val (.int p3), .val (.int p4), .val (.int p5), .val (.int nn), .val (.int c0), .val (.int c1), .val (.int c2), .val (.int c3), .val (.ref b1354), .val (.int q)] [])) (P := fun vm_ k_ L_ h_ q => (Fr n0 L_) ∧ (n0 ≤ h_.size) ∧ (Old Z n0 h_) ∧ (CHr Z own_EL s.vm h0 vm_ h_) ∧ (s.Since vm_ k_) ∧ (k_ ≤ h_.size) ∧ (Z.Warmed39 (s.setVm vm_).vm) ∧ ((s.setVm vm_).vm.findClass "com/example/tidelock/tidelock/protocol/ShardIsNamePinLaw" = some m.cls) ∧ (Exa Z h_ b1354 "java/lang/String") ∧ (Fld Z h_ b1354 "java/lang/String" "value" "[B" (.ref t_1389)) ∧ (Fld Z h_ b1354 "java/lang/String" "coder" "B" (.int cd_1389)) ∧ (Arv Z h_ b1360 k1360 .char (4 : Int32) [(.int c0), (.int c1), (.int c2), (.int c3)] (.int 0)) ∧ (Arv Z h_ t_1389 kb_1389 .byte zz_1389 vl_1389 (.int 0)) ∧ (q = (if own_ok c0 ∧ own_ok c1 ∧ own_ok c2 ∧ own_ok c3 then (1 : Int32) else 0))) ?_ (fun J1402 => ?_)
          · rintro vm1402 k1402 T1402 L1402 h1402 ex ⟨N1402, Z1402, O1402, CR1402, hS1402, hk1402, hZ1402, hown1402, F1403, F1404, F1405, F1406, F1407, hj1402⟩ X1402 e1402
            try dsimp only at F1403 F1404 F1405 F1406 F1407 hj1402 ⊢
            refine own_st (T' := T1402) (g' := (mkF m 287 #[.val (.int p1), .val (.int p2), .val (.int p3), .val (.int p4), .val (.int p5), .val (.int nn), .val (.int c0), .val (.int c1), .val (.int c2), .val (.int c3), .val (.ref b1354), .val (.int ex)] [(.ref b1354)])) (fun _ kt => XS.aload X1402.here hx rfl (hb hby at_285) rfl rfl kt) ?_
            obtain ⟨_, _, ⟨T1408, L1408, k1408, n1408⟩, -, X1408, ⟨Lc1408, hQ1408, l1408, y1408, z1408⟩, st1408⟩ := Jvm.LawKit.callS X1402 hx (y := yN10) hown1402 (mvT hZ1402 (own_k hw 24 rfl)) (mvT hZ1402 (own_k hw 25 rfl)) (mvT hZ1402 (own_k hw 26 rfl)) (mvT hZ1402 (own_k hw 27 rfl)) (by decide) (backOf (W := 0) (own_is4 l Z a0 hw [] b1354 zc fmt t_1389 kb_1389 cd_1389 zz_1389 vl_1389 c0 c1 c2 c3 h1402 n0 Z1402 O1402 pr2 pr3 pr4 pr5 pr6 pr7 pr8 F1403 F1405 F1404 F1407 q1395 g_c0 g_c1 g_c2 g_c3) hZ1402 (own_k hw 27 rfl) (own_k hw 26 rfl) (by decide) (by decide)) (g := (mkF m 287 #[.val (.int p1), .val (.int p2), .val (.int p3), .val (.int p4), .val (.int p5), .val (.int nn), .val (.int c0), .val (.int c1), .val (.int c2), .val (.int c3), .val (.ref b1354), .val (.int ex)] [(.ref b1354)])) rfl hml.symm  (argsL := [(.ref b1354)]) (rest := []) (lenOf own_pd18 rfl) rfl (own_w0 rfl rfl) (hb hby at_287) (fun _ _ => ⟨rfl, e1402, (by decide : 5 + 0 ≤ 24), (by decide : 20 + 0 ≤ 1152)⟩)
            dsimp only [Pt.U, Pt.locs, Pt.cells, Pt.slots] at X1408 l1408 y1408 z1408 st1408 hQ1408
            subst l1408 y1408 z1408
            obtain ⟨rfl, N1408, e1408⟩ := hQ1408
            have N1409 := Fr.app N1402 N1408
            refine own_st (T' := T1408) (g' := (mkF m 290 #[.val (.int p1), .val (.int p2), .val (.int p3), .val (.int p4), .val (.int p5), .val (.int nn), .val (.int c0), .val (.int c1), .val (.int c2), .val (.int c3), .val (.ref b1354), .val (.int ex)] [(.int (if own_ok c0 ∧ own_ok c1 ∧ own_ok c2 ∧ own_ok c3 then (1 : Int32) else 0))])) st1408 ?_
            refine own_st (T' := T1408) (g' := (mkF m 300 #[.val (.int p1), .val (.int p2), .val (.int p3), .val (.int p4), .val (.int p5), .val (.int nn), .val (.int c0), .val (.int c1), .val (.int c2), .val (.int c3), .val (.ref b1354), .val (.int ex)] [(.int 1)])) (fun _ kt => XS.iload X1408.here hx rfl (hb hby at_290) rfl (XS.icmpNo X1408.here hx rfl (hb hby at_292) rfl (XT.ii_ne_f hj1402.symm) (XS.iconst X1408.here hx rfl (hb hby at_295) (XS.goto X1408.here hx rfl (pc0 := 296) (pc' := 300) rfl (hb hby at_296) (by decide) (by decide) kt)))) ?_
            obtain ⟨fs, hr, hrun, hended, hE⟩ := Stand.leaveW X1408 hS1402 (by rw [e1408]; exact hk1402) (v := some (.int 1)) (fun h => by rw [Bd.returns] at h; cases h)
            refine own_end (retN X1408 hx (t := .boolean) Bd.returns (by simp) (hb hby at_300) hr) ⟨_, hrun, hended, _, _, rfl, ?_, (by rw [hh]; show CHr Z own_EL s.vm h0 T1408.vm T1408.heap; rw [e1408]; exact CHr.trans CR1402 (CHv.at X1408 hZ1402 (own_EW hw) CR1402.1)), ⟨hE.1, hE.2.1, hE.2.2.1, hE.2.2.2.mono (by decide) (by decide)⟩⟩
            show own_lawQ Z _ _ _ _ _ _ _ h0 n0 _ T1408.heap _
            rw [e1408]
            exact ⟨rfl, N1409⟩
          ·
            refine own_st (T' := T1389) (g' := (mkF m 248 #[.val (.int p1), .val (.int p2), .val (.int p3), .val (.int p4), .val (.int p5), .val (.int nn), .val (.int c0), .val (.int c1), .val (.int c2), .val (.int c3), .val (.ref b1354), .unset] [(.int c0)])) (fun _ kt => XS.iload X1389.here hx rfl (hb hby at_246) rfl kt) ?_
            obtain ⟨_, _, ⟨T1410, L1410, k1410, n1410⟩, -, X1410, ⟨Lc1410, hQ1410, l1410, y1410, z1410⟩, st1410⟩ := Jvm.LawKit.callS X1389 hx (y := yN9) hown (mvT hZ (own_k hw 44 rfl)) (mvT hZ (own_k hw 45 rfl)) (mvT hZ (own_k hw 46 rfl)) (mvT hZ (own_k hw 47 rfl)) (by decide) (backOf (W := 0) (own_alw l Z a0 hw [] c0 T1389.heap n0 Z1399 g_c0) hZ (own_k hw 47 rfl) (own_k hw 46 rfl) (by decide) (by decide)) (g := (mkF m 248 #[.val (.int p1), .val (.int p2), .val (.int p3), .val (.int p4), .val (.int p5), .val (.int nn), .val (.int c0), .val (.int c1), .val (.int c2), .val (.int c3), .val (.ref b1354), .unset] [(.int c0)])) rfl hml.symm  (argsL := [(.int c0)]) (rest := []) (lenOf own_pd19 rfl) rfl (own_w0 rfl rfl) (hb hby at_248) (fun _ _ => ⟨rfl, rfl, (by decide : 5 + 0 ≤ 24), (by decide : 20 + 0 ≤ 1152)⟩)
            dsimp only [Pt.U, Pt.locs, Pt.cells, Pt.slots] at X1410 l1410 y1410 z1410 st1410 hQ1410
            subst l1410 y1410 z1410
            obtain ⟨rfl, N1410, e1410⟩ := hQ1410
            have N1411 := Fr.app N1396 N1410
            refine own_st (T' := T1410) (g' := (mkF m 251 #[.val (.int p1), .val (.int p2), .val (.int p3), .val (.int p4), .val (.int p5), .val (.int nn), .val (.int c0), .val (.int c1), .val (.int c2), .val (.int c3), .val (.ref b1354), .unset] [(.int (own_al c0))])) st1410 ?_
            by_cases hc1412 : (own_al c0) = 0
            ·
              refine own_st (T' := T1410) (g' := (mkF m 285 #[.val (.int p1), .val (.int p2), .val (.int p3), .val (.int p4), .val (.int p5), .val (.int nn), .val (.int c0), .val (.int c1), .val (.int c2), .val (.int c3), .val (.ref b1354), .val (.int 0)] [])) (fun _ kt => XS.ifYes X1410.here hx rfl (pc0 := 251) (pc' := 282) rfl (hb hby at_251) rfl (XT.i0_eq_t hc1412) (by decide) (by decide) (XS.iconst X1410.here hx rfl (hb hby at_282) (XS.istore X1410.here hx rfl (hb hby at_283) rfl (l' := #[.val (.int p1), .val (.int p2), .val (.int p3), .val (.int p4), .val (.int p5), .val (.int nn), .val (.int c0), .val (.int c1), .val (.int c2), .val (.int c3), .val (.ref b1354), .val (.int 0)]) rfl kt))) ?_
              have F1413 : Old Z n0 T1389.heap := (Old.keep F1385 K1389_ (allS ge_b1354 all0))
              have F1414 : Arv Z T1389.heap b1360 k1360 .char (4 : Int32) [(.int c0), (.int c1), (.int c2), (.int c3)] (.int 0) := (Arv.keep F1384 K1389_ (ninS (Ne.symm ne1361) nin0))
              exact J1402 _ _ _ _ _ (0 : Int32) ⟨N1411, Z1399, F1413, CR1398, hS, hk1399, hZ, hown, P1390, P1392, P1391, F1414, P1393, (by rw [if_neg (fun q => own_okf hc1412 q.1)])⟩ (X1410.mono (by decide) (by decide)) e1410
            ·
              refine own_st (T' := T1410) (g' := (mkF m 256 #[.val (.int p1), .val (.int p2), .val (.int p3), .val (.int p4), .val (.int p5), .val (.int nn), .val (.int c0), .val (.int c1), .val (.int c2), .val (.int c3), .val (.ref b1354), .unset] [(.int c1)])) (fun _ kt => XS.ifNo X1410.here hx rfl (hb hby at_251) rfl (XT.i0_eq_f hc1412) (XS.iload X1410.here hx rfl (hb hby at_254) rfl kt)) ?_
              obtain ⟨_, _, ⟨T1415, L1415, k1415, n1415⟩, -, X1415, ⟨Lc1415, hQ1415, l1415, y1415, z1415⟩, st1415⟩ := Jvm.LawKit.callS X1410 hx (y := yN9) hown (mvT hZ (own_k hw 44 rfl)) (mvT hZ (own_k hw 45 rfl)) (mvT hZ (own_k hw 46 rfl)) (mvT hZ (own_k hw 47 rfl)) (by decide) (backOf (W := 0) (own_alw l Z a0 hw [] c1 T1389.heap n0 Z1399 g_c1) hZ (own_k hw 47 rfl) (own_k hw 46 rfl) (by decide) (by decide)) (g := (mkF m 256 #[.val (.int p1), .val (.int p2), .val (.int p3), .val (.int p4), .val (.int p5), .val (.int nn), .val (.int c0), .val (.int c1), .val (.int c2), .val (.int c3), .val (.ref b1354), .unset] [(.int c1)])) rfl hml.symm  (argsL := [(.int c1)]) (rest := []) (lenOf own_pd19 rfl) rfl (own_w0 rfl rfl) (hb hby at_256) (fun _ _ => ⟨rfl, e1410, (by decide : 5 + 0 ≤ 24), (by decide : 20 + 0 ≤ 1152)⟩)
              dsimp only [Pt.U, Pt.locs, Pt.cells, Pt.slots] at X1415 l1415 y1415 z1415 st1415 hQ1415
              subst l1415 y1415 z1415
              obtain ⟨rfl, N1415, e1415⟩ := hQ1415
              have N1416 := Fr.app N1411 N1415
              refine own_st (T' := T1415) (g' := (mkF m 259 #[.val (.int p1), .val (.int p2), .val (.int p3), .val (.int p4), .val (.int p5), .val (.int nn), .val (.int c0), .val (.int c1), .val (.int c2), .val (.int c3), .val (.ref b1354), .unset] [(.int (own_al c1))])) st1415 ?_
              by_cases hc1417 : (own_al c1) = 0
              ·
                refine own_st (T' := T1415) (g' := (mkF m 285 #[.val (.int p1), .val (.int p2), .val (.int p3), .val (.int p4), .val (.int p5), .val (.int nn), .val (.int c0), .val (.int c1), .val (.int c2), .val (.int c3), .val (.ref b1354), .val (.int 0)] [])) (fun _ kt => XS.ifYes X1415.here hx rfl (pc0 := 259) (pc' := 282) rfl (hb hby at_259) rfl (XT.i0_eq_t hc1417) (by decide) (by decide) (XS.iconst X1415.here hx rfl (hb hby at_282) (XS.istore X1415.here hx rfl (hb hby at_283) rfl (l' := #[.val (.int p1), .val (.int p2), .val (.int p3), .val (.int p4), .val (.int p5), .val (.int nn), .val (.int c0), .val (.int c1), .val (.int c2), .val (.int c3), .val (.ref b1354), .val (.int 0)]) rfl kt))) ?_
                have F1418 : Old Z n0 T1389.heap := (Old.keep F1385 K1389_ (allS ge_b1354 all0))
                have F1419 : Arv Z T1389.heap b1360 k1360 .char (4 : Int32) [(.int c0), (.int c1), (.int c2), (.int c3)] (.int 0) := (Arv.keep F1384 K1389_ (ninS (Ne.symm ne1361) nin0))
                exact J1402 _ _ _ _ _ (0 : Int32) ⟨N1416, Z1399, F1418, CR1398, hS, hk1399, hZ, hown, P1390, P1392, P1391, F1419, P1393, (by rw [if_neg (fun q => own_okf hc1417 q.2.1)])⟩ (X1415.mono (by decide) (by decide)) e1415
              ·
                refine own_st (T' := T1415) (g' := (mkF m 264 #[.val (.int p1), .val (.int p2), .val (.int p3), .val (.int p4), .val (.int p5), .val (.int nn), .val (.int c0), .val (.int c1), .val (.int c2), .val (.int c3), .val (.ref b1354), .unset] [(.int c2)])) (fun _ kt => XS.ifNo X1415.here hx rfl (hb hby at_259) rfl (XT.i0_eq_f hc1417) (XS.iload X1415.here hx rfl (hb hby at_262) rfl kt)) ?_
                obtain ⟨_, _, ⟨T1420, L1420, k1420, n1420⟩, -, X1420, ⟨Lc1420, hQ1420, l1420, y1420, z1420⟩, st1420⟩ := Jvm.LawKit.callS X1415 hx (y := yN9) hown (mvT hZ (own_k hw 44 rfl)) (mvT hZ (own_k hw 45 rfl)) (mvT hZ (own_k hw 46 rfl)) (mvT hZ (own_k hw 47 rfl)) (by decide) (backOf (W := 0) (own_alw l Z a0 hw [] c2 T1389.heap n0 Z1399 g_c2) hZ (own_k hw 47 rfl) (own_k hw 46 rfl) (by decide) (by decide)) (g := (mkF m 264 #[.val (.int p1), .val (.int p2), .val (.int p3), .val (.int p4), .val (.int p5), .val (.int nn), .val (.int c0), .val (.int c1), .val (.int c2), .val (.int c3), .val (.ref b1354), .unset] [(.int c2)])) rfl hml.symm  (argsL := [(.int c2)]) (rest := []) (lenOf own_pd19 rfl) rfl (own_w0 rfl rfl) (hb hby at_264) (fun _ _ => ⟨rfl, e1415, (by decide : 5 + 0 ≤ 24), (by decide : 20 + 0 ≤ 1152)⟩)
                dsimp only [Pt.U, Pt.locs, Pt.cells, Pt.slots] at X1420 l1420 y1420 z1420 st1420 hQ1420
                subst l1420 y1420 z1420
                obtain ⟨rfl, N1420, e1420⟩ := hQ1420
                have N1421 := Fr.app N1416 N1420
                refine own_st (T' := T1420) (g' := (mkF m 267 #[.val (.int p1), .val (.int p2), .val (.int p3), .val (.int p4), .val (.int p5), .val (.int nn), .val (.int c0), .val (.int c1), .val (.int c2), .val (.int c3), .val (.ref b1354), .unset] [(.int (own_al c2))])) st1420 ?_
                by_cases hc1422 : (own_al c2) = 0
                ·
                  refine own_st (T' := T1420) (g' := (mkF m 285 #[.val (.int p1), .val (.int p2), .val (.int p3), .val (.int p4), .val (.int p5), .val (.int nn), .val (.int c0), .val (.int c1), .val (.int c2), .val (.int c3), .val (.ref b1354), .val (.int 0)] [])) (fun _ kt => XS.ifYes X1420.here hx rfl (pc0 := 267) (pc' := 282) rfl (hb hby at_267) rfl (XT.i0_eq_t hc1422) (by decide) (by decide) (XS.iconst X1420.here hx rfl (hb hby at_282) (XS.istore X1420.here hx rfl (hb hby at_283) rfl (l' := #[.val (.int p1), .val (.int p2), .val (.int p3), .val (.int p4), .val (.int p5), .val (.int nn), .val (.int c0), .val (.int c1), .val (.int c2), .val (.int c3), .val (.ref b1354), .val (.int 0)]) rfl kt))) ?_
                  have F1423 : Old Z n0 T1389.heap := (Old.keep F1385 K1389_ (allS ge_b1354 all0))
                  have F1424 : Arv Z T1389.heap b1360 k1360 .char (4 : Int32) [(.int c0), (.int c1), (.int c2), (.int c3)] (.int 0) := (Arv.keep F1384 K1389_ (ninS (Ne.symm ne1361) nin0))
                  exact J1402 _ _ _ _ _ (0 : Int32) ⟨N1421, Z1399, F1423, CR1398, hS, hk1399, hZ, hown, P1390, P1392, P1391, F1424, P1393, (by rw [if_neg (fun q => own_okf hc1422 q.2.2.1)])⟩ (X1420.mono (by decide) (by decide)) e1420
                ·
                  refine own_st (T' := T1420) (g' := (mkF m 272 #[.val (.int p1), .val (.int p2), .val (.int p3), .val (.int p4), .val (.int p5), .val (.int nn), .val (.int c0), .val (.int c1), .val (.int c2), .val (.int c3), .val (.ref b1354), .unset] [(.int c3)])) (fun _ kt => XS.ifNo X1420.here hx rfl (hb hby at_267) rfl (XT.i0_eq_f hc1422) (XS.iload X1420.here hx rfl (hb hby at_270) rfl kt)) ?_
                  obtain ⟨_, _, ⟨T1425, L1425, k1425, n1425⟩, -, X1425, ⟨Lc1425, hQ1425, l1425, y1425, z1425⟩, st1425⟩ := Jvm.LawKit.callS X1420 hx (y := yN9) hown (mvT hZ (own_k hw 44 rfl)) (mvT hZ (own_k hw 45 rfl)) (mvT hZ (own_k hw 46 rfl)) (mvT hZ (own_k hw 47 rfl)) (by decide) (backOf (W := 0) (own_alw l Z a0 hw [] c3 T1389.heap n0 Z1399 g_c3) hZ (own_k hw 47 rfl) (own_k hw 46 rfl) (by decide) (by decide)) (g := (mkF m 272 #[.val (.int p1), .val (.int p2), .val (.int p3), .val (.int p4), .val (.int p5), .val (.int nn), .val (.int c0), .val (.int c1), .val (.int c2), .val (.int c3), .val (.ref b1354), .unset] [(.int c3)])) rfl hml.symm  (argsL := [(.int c3)]) (rest := []) (lenOf own_pd19 rfl) rfl (own_w0 rfl rfl) (hb hby at_272) (fun _ _ => ⟨rfl, e1420, (by decide : 5 + 0 ≤ 24), (by decide : 20 + 0 ≤ 1152)⟩)
                  dsimp only [Pt.U, Pt.locs, Pt.cells, Pt.slots] at X1425 l1425 y1425 z1425 st1425 hQ1425
                  subst l1425 y1425 z1425
                  obtain ⟨rfl, N1425, e1425⟩ := hQ1425
                  have N1426 := Fr.app N1421 N1425
                  refine own_st (T' := T1425) (g' := (mkF m 275 #[.val (.int p1), .val (.int p2), .val (.int p3), .val (.int p4), .val (.int p5), .val (.int nn), .val (.int c0), .val (.int c1), .val (.int c2), .val (.int c3), .val (.ref b1354), .unset] [(.int (own_al c3))])) st1425 ?_
                  by_cases hc1427 : (own_al c3) = 0
                  ·
                    refine own_st (T' := T1425) (g' := (mkF m 285 #[.val (.int p1), .val (.int p2), .val (.int p3), .val (.int p4), .val (.int p5), .val (.int nn), .val (.int c0), .val (.int c1), .val (.int c2), .val (.int c3), .val (.ref b1354), .val (.int 0)] [])) (fun _ kt => XS.ifYes X1425.here hx rfl (pc0 := 275) (pc' := 282) rfl (hb hby at_275) rfl (XT.i0_eq_t hc1427) (by decide) (by decide) (XS.iconst X1425.here hx rfl (hb hby at_282) (XS.istore X1425.here hx rfl (hb hby at_283) rfl (l' := #[.val (.int p1), .val (.int p2), .val (.int p3), .val (.int p4), .val (.int p5), .val (.int nn), .val (.int c0), .val (.int c1), .val (.int c2), .val (.int c3), .val (.ref b1354), .val (.int 0)]) rfl kt))) ?_
                    have F1428 : Old Z n0 T1389.heap := (Old.keep F1385 K1389_ (allS ge_b1354 all0))
                    have F1429 : Arv Z T1389.heap b1360 k1360 .char (4 : Int32) [(.int c0), (.int c1), (.int c2), (.int c3)] (.int 0) := (Arv.keep F1384 K1389_ (ninS (Ne.symm ne1361) nin0))
                    exact J1402 _ _ _ _ _ (0 : Int32) ⟨N1426, Z1399, F1428, CR1398, hS, hk1399, hZ, hown, P1390, P1392, P1391, F1429, P1393, (by rw [if_neg (fun q => own_okf hc1427 q.2.2.2)])⟩ (X1425.mono (by decide) (by decide)) e1425
                  ·
                    refine own_st (T' := T1425) (g' := (mkF m 285 #[.val (.int p1), .val (.int p2), .val (.int p3), .val (.int p4), .val (.int p5), .val (.int nn), .val (.int c0), .val (.int c1), .val (.int c2), .val (.int c3), .val (.ref b1354), .val (.int 1)] [])) (fun _ kt => XS.ifNo X1425.here hx rfl (hb hby at_275) rfl (XT.i0_eq_f hc1427) (XS.iconst X1425.here hx rfl (hb hby at_278) (XS.goto X1425.here hx rfl (pc0 := 279) (pc' := 283) rfl (hb hby at_279) (by decide) (by decide) (XS.istore X1425.here hx rfl (hb hby at_283) rfl (l' := #[.val (.int p1), .val (.int p2), .val (.int p3), .val (.int p4), .val (.int p5), .val (.int nn), .val (.int c0), .val (.int c1), .val (.int c2), .val (.int c3), .val (.ref b1354), .val (.int 1)]) rfl kt)))) ?_
                    have F1430 : Old Z n0 T1389.heap := (Old.keep F1385 K1389_ (allS ge_b1354 all0))
                    have F1431 : Arv Z T1389.heap b1360 k1360 .char (4 : Int32) [(.int c0), (.int c1), (.int c2), (.int c3)] (.int 0) := (Arv.keep F1384 K1389_ (ninS (Ne.symm ne1361) nin0))
                    exact J1402 _ _ _ _ _ (1 : Int32) ⟨N1426, Z1399, F1430, CR1398, hS, hk1399, hZ, hown, P1390, P1392, P1391, F1431, P1393, (by rw [if_pos ⟨own_okt hc1412, own_okt hc1417, own_okt hc1422, own_okt hc1427⟩])⟩ (X1425.mono (by decide) (by decide)) e1425
theorem comes_1 {Post : Tables → Env → Array Value → State → Outcome → State → Prop} (hpost : ∀ tb e args s v u, (limb_1_1.after args s (.returned v) u = true ∧ limb_1_2.after args s (.returned v) u = true ∧ True) → ReturnedEndW s (.returned v) u (Jvm.fieldLocs frame_1_writes args s ++ Jvm.arrayLocs frame_1_arrays args s ++ Jvm.staticLocs frame_1_statics s) 24 1152 → Post tb e args s (.returned v) u) :
    ArmFor flags0 classFile x code maxLocals ret World_1 tables_1 room_1 Calls_1 rest_1 Pre_1 Post := by
  intro l hfl _ _ p e ha hc hk s m args below hf hA hF happ hP
  obtain ⟨hcalls, hrest, hpre⟩ := hP
  obtain ⟨-, -, -, hnamed, -, -, -, hat⟩ := (Spec.applies_iff hf).mp happ
  obtain ⟨hg, hn⟩ := and_e (Cond.before_iff.mp (show (Jvm.Cond.and given_1 narrow_1).before args s = true from hpre))
  obtain ⟨g0, hg⟩ := and_e hg
  obtain ⟨g1, hg⟩ := and_e hg
  obtain ⟨g2, hg⟩ := and_e hg
  obtain ⟨g3, hg⟩ := and_e hg
  obtain ⟨g4, hg⟩ := and_e hg
  obtain ⟨w0, w1, w2, w3, w4, rfl⟩ : ∃ w0 w1 w2 w3 w4 : Value, args = #[w0, w1, w2, w3, w4] := by
    have hs : args.size = 5 := by simpa [Cond.value, given_1] using g0
    obtain ⟨L⟩ := args
    match L, hs with
    | [w0, w1, w2, w3, w4], _ => exact ⟨w0, w1, w2, w3, w4, rfl⟩
  have hw := fun d (hd : d ∈ tables_1) => atoms_spec (ws := Jvm.Cond.code x code maxLocals ret :: tables_1) hat d (List.mem_cons_of_mem _ hd)
  have hfit : Fit s := fun {y c} hc i hi => by
    obtain ⟨ha, rfl⟩ := Array.getElem?_eq_some_iff.mp hc
    have q := List.all_eq_true.mp ((Array.all_eq_true_iff_forall_mem.mp hF) _ (Array.getElem_mem ha)) i (List.mem_range.mpr hi)
    simpa [Array.getElem?_eq_getElem hi] using q
  obtain ⟨i0, e0⟩ := is_v g1
  obtain rfl : w0 = (.int i0) := Option.some.inj e0
  obtain ⟨i1, e1⟩ := is_v g2
  obtain rfl : w1 = (.int i1) := Option.some.inj e1
  obtain ⟨i2, e2⟩ := is_v g3
  obtain rfl : w2 = (.int i2) := Option.some.inj e2
  obtain ⟨i3, e3⟩ := is_v g4
  obtain rfl : w3 = (.int i3) := Option.some.inj e3
  obtain ⟨i4, e4⟩ := is_v hg
  obtain rfl : w4 = (.int i4) := Option.some.inj e4
  obtain ⟨hsets, hown0⟩ := atoms_of _ (rest_1_c_eq ▸ (show rest_1_c.before _ s = true from hrest))
  have n5 := not_v (Cond.before_iff.mp (hsets _ (List.mem_of_getElem? (i := 2) rfl)))
  obtain ⟨zc, ez⟩ := is_v (Cond.before_iff.mp (hsets _ (List.mem_of_getElem? (i := 1) rfl)))
  have S1 : Sta s s.heap "java/lang/String" "COMPACT_STRINGS" "Z" (.int zc) := Sta.start ez (Or.inl (hsets _ (List.mem_of_getElem? (i := 0) rfl)))
  have hz : ¬ (zc = (0 : Int32)) := gotF (Cond.eq_ints ez (Term.int_eval (0))) n5
  have hCH : CHv s own_EL s.vm s.heap := CHv.start (own_EW hw) (fun p hp => hcalls.1 p hp) (hsets _ (List.mem_of_getElem? (i := 2) rfl)) (own_k hw 17 rfl) (own_k hw 3 rfl)
  obtain ⟨fmt, e8, r8⟩ := isR_v (Cond.before_iff.mp (hsets _ (List.mem_of_getElem? (i := 8) rfl)))
  have S2 : Sta s s.heap "jdk/internal/util/Preconditions" "SIOOBE_FORMATTER" "Ljava/util/function/BiFunction;" fmt := Sta.start e8 (Or.inl (hsets _ (List.mem_of_getElem? (i := 7) rfl)))
  have y0 := eqv_i (Term.int_eval (1)) (Cond.before_iff.mp (hsets _ (List.mem_of_getElem? (i := 12) rfl)))
  have A0 : Sta s s.heap "java/lang/StringUTF16" "$assertionsDisabled" "Z" (.int 1) := Sta.start y0 (Or.inl (hsets _ (List.mem_of_getElem? (i := 11) rfl)))
  have y1 := eqv_i (Term.int_eval (0)) (Cond.before_iff.mp (hsets _ (List.mem_of_getElem? (i := 15) rfl)))
  have A1 : Sta s s.heap "java/lang/StringUTF16" "HI_BYTE_SHIFT" "I" (.int 0) := Sta.start y1 (Or.inl (hsets _ (List.mem_of_getElem? (i := 14) rfl)))
  have y2 := eqv_i (Term.int_eval (8)) (Cond.before_iff.mp (hsets _ (List.mem_of_getElem? (i := 18) rfl)))
  have A2 : Sta s s.heap "java/lang/StringUTF16" "LO_BYTE_SHIFT" "I" (.int 8) := Sta.start y2 (Or.inl (hsets _ (List.mem_of_getElem? (i := 17) rfl)))
  obtain ⟨n, o, h1, h2, h3, _, L, rfl, ⟨rfl, N⟩, -, hq⟩ := own_law l s _ hw tables_1 i0 i1 i2 i3 i4 zc fmt s.heap s.heap.size (Nat.le_refl _) (Old.start s) S1 hz S2 r8 A0 A1 A2 p e ha hc hk s m _ below hf ((Spec.applies_iff_loose hf).mp happ).1 ⟨rfl, State.Warmed39.refl s, rfl, hCH⟩ trivial
  refine ⟨n, _, h1, h2, h3, hpost _ _ _ _ _ _ ⟨Cond.after_iff.mpr rfl, Cond.after_iff.mpr (eq_i res_at (Term.int_eval (1)) rfl), trivial⟩ ⟨hq.1, hq.2.1, hq.2.2.1, (hq.2.2.2.sift fun y hy => Or.inr (N y hy)).mono (by decide) (by decide)⟩⟩
theorem main_1_1 : Claimed_1_1 := comes_1 fun _ _ _ _ _ _ h hF => ⟨h.1, hF⟩
theorem main_1_2 : Claimed_1_2 := comes_1 fun _ _ _ _ _ _ h hF => ⟨h.2.1, hF⟩
end Jvm.Pilot.@@N@@
namespace Jvm.Pilot.@@N@@
open Jvm Jvm.ClassFile Sem Op Lib Jvm.Free Jvm.Stand Jvm.Pilot.@@N@@.Jvm.D
/-! MADE BY PROGRAM (witnessworld.py) out of the Statement's table words and the real class files: 21 classes; the members and pool entries that the words name. The judged class is class 1, her method 2. -/
namespace start1
open Jvm.ClassFile
def u (s : String) : CpInfo := .utf8 (stringToUtf16 s)
/-- a pool by its gaps: so many unusable entries, then the entry; so many at the end -/
def gap : Nat → List CpInfo → List CpInfo
  | 0, r => r
  | n + 1, r => .unusable :: gap n r
def poolList (es : List (Nat × CpInfo)) (last : Nat) : List CpInfo := es.foldr (fun e r => gap e.1 (e.2 :: r)) (gap last [])
def pool (es : List (Nat × CpInfo)) (last : Nat) : Array CpInfo := ⟨poolList es last⟩
def fileOf (pool : Array CpInfo) (this : Nat) (attrs : Array Attribute := #[]) (ms : Array MethodInfo := #[]) (fl : Nat := 33) (sup : Nat := 0) (ifs : Array Nat := #[]) (fds : Array FieldInfo := #[]) : ClassFile where
  minorVersion := 0
  majorVersion := 65
  constantPool := pool
  accessFlags := fl
  thisClass := this
  superClass := sup
  interfaces := ifs
  fields := fds
  methods := ms
  attributes := attrs
def plain (name : String) (sup : Option ClassId) : Class where
  name := name
  kind := .ordinary
  loader := none
  accessFlags := 33
  super := sup
  interfaces := #[]
  cf := none
  fields := #[]
  methods := #[]
  instanceTypes := #[]
  staticTypes := #[]
  resolved := #[]
  callSites := []
  init := .initialized
  statics := none
  mirror := none

def pool0 : Array CpInfo := pool [(5, u "<init>"), (0, u "()V"), (1, .class_ 10), (1, u "java/lang/Object")] 113

def k0c0 : Code := { maxStack := 0, maxLocals := 1, code := object_method_1_code, exceptionTable := #[], attributes := #[] }
def k0m0 : Method := { name := "<init>", desc := "()V", sig := { parameters := [], returnType := none }, accessFlags := 1, code := some k0c0 }
/-- java/lang/Object -/
def k0 : Class := { plain "java/lang/Object" none with
  accessFlags := 33
  interfaces := #[]
  cf := some (fileOf pool0 8 #[] #[{ accessFlags := 1, nameIndex := 5, descriptorIndex := 6, attributes := #[] }] 33 0 #[] #[])
  fields := #[]
  methods := #[k0m0]
  instanceTypes := #[]
  staticTypes := #[]
  resolved := Array.replicate 124 none
  statics := none }

def pool1 : Array CpInfo := pool [(2, .class_ 4), (1, u "java/lang/Object"), (0, u "<init>"), (0, u "()V"), (0, .integer 2147483647), (0, .integer 65535), (0, .class_ 10), (0, u "java/lang/String"), (0, .methodref 9 12), (0, .nameAndType 5 13), (0, u "([C)V"), (0, .methodref 15 16), (0, .class_ 17), (0, .nameAndType 18 19), (0, u "com/example/tidelock/tidelock/protocol/ShardIsNamePinLaw"), (0, u "allowed"), (0, u "(C)Z"), (0, .methodref 21 22), (0, .class_ 23), (0, .nameAndType 24 25), (0, u "com/example/tidelock/tidelock/protocol/RoutingTable$Shard"), (0, u "isName"), (0, u "(Ljava/lang/String;)Z"), (3, u "law"), (0, u "(IIIII)Z")] 6

def k1m0 : Method := { name := "<init>", desc := "()V", sig := { parameters := [], returnType := none }, accessFlags := 2, code := none }
def k1c1 : Code := { maxStack := 2, maxLocals := 3, code := method_2_code, exceptionTable := #[], attributes := #[] }
def k1m1 : Method := { name := "allowed", desc := "(C)Z", sig := { parameters := [.char], returnType := some .boolean }, accessFlags := 10, code := some k1c1 }
def k1c2 : Code := { maxStack := 6, maxLocals := 12, code := code, exceptionTable := #[], attributes := #[] }
def k1m2 : Method := { name := "law", desc := "(IIIII)Z", sig := { parameters := [.int, .int, .int, .int, .int], returnType := some .boolean }, accessFlags := 9, code := some k1c2 }
/-- com/example/tidelock/tidelock/protocol/ShardIsNamePinLaw -/
def k1 : Class := { plain "com/example/tidelock/tidelock/protocol/ShardIsNamePinLaw" (some 0) with
  accessFlags := 49
  interfaces := #[]
  cf := some (fileOf pool1 15 #[] #[{ accessFlags := 2, nameIndex := 5, descriptorIndex := 6, attributes := #[] }, { accessFlags := 10, nameIndex := 18, descriptorIndex := 19, attributes := #[] }, { accessFlags := 9, nameIndex := 29, descriptorIndex := 30, attributes := #[] }] 49 2 #[] #[])
  fields := #[]
  methods := #[k1m0, k1m1, k1m2]
  instanceTypes := #[]
  staticTypes := #[]
  resolved := Array.replicate 37 none
  statics := none }

def pool2 : Array CpInfo := pool [(1, .class_ 2), (0, u "java/io/Serializable"), (0, .class_ 4), (0, u "java/lang/Object")] 2

/-- java/io/Serializable -/
def k2 : Class := { plain "java/io/Serializable" (some 0) with
  accessFlags := 1537
  interfaces := #[]
  cf := some (fileOf pool2 1 #[] #[] 1537 3 #[] #[])
  fields := #[]
  methods := #[]
  instanceTypes := #[]
  staticTypes := #[]
  resolved := Array.replicate 7 none
  statics := none }

def pool3 : Array CpInfo := pool [(1, .class_ 2), (0, u "java/lang/Comparable"), (0, .class_ 4), (0, u "java/lang/Object")] 7

/-- java/lang/Comparable -/
def k3 : Class := { plain "java/lang/Comparable" (some 0) with
  accessFlags := 1537
  interfaces := #[]
  cf := some (fileOf pool3 1 #[] #[] 1537 3 #[] #[])
  fields := #[]
  methods := #[]
  instanceTypes := #[]
  staticTypes := #[]
  resolved := Array.replicate 12 none
  statics := none }

def pool4 : Array CpInfo := pool [(2, .class_ 4), (1, u "java/lang/CharSequence"), (42, .class_ 48), (0, u "java/lang/CharSequence$1CodePointIterator"), (10, .class_ 60), (0, u "java/lang/CharSequence$1CharIterator"), (5, .class_ 67), (0, u "java/lang/Object")] 63

/-- java/lang/CharSequence -/
def k4 : Class := { plain "java/lang/CharSequence" (some 0) with
  accessFlags := 1537
  interfaces := #[]
  cf := some (fileOf pool4 2 #[.nestMembers #[47, 59]] #[] 1537 66 #[] #[])
  fields := #[]
  methods := #[]
  instanceTypes := #[]
  staticTypes := #[]
  resolved := Array.replicate 131 none
  statics := none }

def pool5 : Array CpInfo := pool [(1, .class_ 2), (0, u "java/lang/constant/Constable"), (0, .class_ 4), (0, u "java/lang/Object")] 6

/-- java/lang/constant/Constable -/
def k5 : Class := { plain "java/lang/constant/Constable" (some 0) with
  accessFlags := 1537
  interfaces := #[]
  cf := some (fileOf pool5 1 #[] #[] 1537 3 #[] #[])
  fields := #[]
  methods := #[]
  instanceTypes := #[]
  staticTypes := #[]
  resolved := Array.replicate 11 none
  statics := none }

def pool6 : Array CpInfo := pool [(1, .class_ 2), (0, u "java/lang/constant/ConstantDesc"), (0, .class_ 4), (0, u "java/lang/Object")] 32

/-- java/lang/constant/ConstantDesc -/
def k6 : Class := { plain "java/lang/constant/ConstantDesc" (some 0) with
  accessFlags := 1537
  interfaces := #[]
  cf := some (fileOf pool6 1 #[] #[] 1537 3 #[] #[])
  fields := #[]
  methods := #[]
  instanceTypes := #[]
  staticTypes := #[]
  resolved := Array.replicate 37 none
  statics := none }

def pool7 : Array CpInfo := pool [(1, .methodref 2 3), (0, .class_ 4), (0, .nameAndType 5 6), (0, u "java/lang/Object"), (0, u "<init>"), (0, u "()V"), (0, .string 8), (0, u ""), (0, .fieldref 10 11), (0, .class_ 12), (0, .nameAndType 13 14), (0, u "java/lang/String"), (0, u "value"), (0, u "[B"), (0, .fieldref 10 16), (0, .nameAndType 17 18), (0, u "coder"), (0, u "B"), (2, u "hash"), (0, u "I"), (2, u "hashIsZero"), (0, u "Z"), (0, .methodref 10 28), (0, .nameAndType 5 29), (0, u "([CIILjava/lang/Void;)V"), (8, .fieldref 10 39), (0, .nameAndType 40 26), (0, u "COMPACT_STRINGS"), (1, .class_ 44), (1, u "java/lang/StringUTF16"), (0, u "compress"), (1, .methodref 42 48), (0, .nameAndType 49 50), (0, u "coderFromArrayLen"), (0, u "([BI)B"), (56, .class_ 109), (1, u "java/lang/StringLatin1"), (32, u "()Z"), (34, .methodref 42 178), (0, .nameAndType 45 179), (0, u "([CII)[B"), (154, u "()I"), (0, .methodref 10 336), (0, .nameAndType 17 337), (0, u "()B"), (25, u "([BI)C"), (27, u "(II)V"), (35, u "(I)C"), (64, .methodref 10 493), (0, .nameAndType 494 142), (0, u "isLatin1"), (0, .methodref 107 496), (0, .nameAndType 497 363), (0, u "charAt"), (0, .methodref 42 496), (2, u "checkIndex"), (5, u "length"), (67, .class_ 576), (0, u "java/lang/CharSequence"), (22, u "CASE_INSENSITIVE_ORDER"), (0, u "Ljava/util/Comparator;"), (91, u "isEmpty"), (317, u "([C)V"), (42, .fieldref 1054 1055), (0, .class_ 1056), (0, .nameAndType 1057 1058), (0, u "jdk/internal/util/Preconditions"), (0, u "SIOOBE_FORMATTER"), (0, u "Ljava/util/function/BiFunction;"), (0, .methodref 1054 1060), (0, .nameAndType 501 1061), (0, u "(IILjava/util/function/BiFunction;)I"), (39, u "serialPersistentFields"), (0, u "[Ljava/io/ObjectStreamField;"), (0, .class_ 1104), (0, u "java/lang/String$CaseInsensitiveComparator"), (1, .class_ 1107), (0, u "java/io/Serializable"), (0, .class_ 1109), (0, u "java/lang/Comparable"), (0, .class_ 1111), (0, u "java/lang/constant/Constable"), (0, .class_ 1113), (0, u "java/lang/constant/ConstantDesc"), (2, u "serialVersionUID"), (0, u "J"), (3, u "REPL"), (0, u "C"), (2, u "LATIN1"), (1, u "UTF16")] 323

def k7m0 : Method := { name := "<init>", desc := "()V", sig := { parameters := [], returnType := none }, accessFlags := 1, code := none }
def k7c1 : Code := { maxStack := 5, maxLocals := 2, code := jdk_42_method_3_code, exceptionTable := #[], attributes := #[] }
def k7m1 : Method := { name := "<init>", desc := "([C)V", sig := { parameters := [(.array .char)], returnType := none }, accessFlags := 1, code := some k7c1 }
def k7c2 : Code := { maxStack := 2, maxLocals := 1, code := jdk_42_method_54_code, exceptionTable := #[], attributes := #[] }
def k7m2 : Method := { name := "length", desc := "()I", sig := { parameters := [], returnType := some .int }, accessFlags := 1, code := some k7c2 }
def k7c3 : Code := { maxStack := 1, maxLocals := 1, code := jdk_42_method_55_code, exceptionTable := #[], attributes := #[] }
def k7m3 : Method := { name := "isEmpty", desc := "()Z", sig := { parameters := [], returnType := some .boolean }, accessFlags := 1, code := some k7c3 }
def k7c4 : Code := { maxStack := 2, maxLocals := 2, code := jdk_42_method_56_code, exceptionTable := #[], attributes := #[] }
def k7m4 : Method := { name := "charAt", desc := "(I)C", sig := { parameters := [.int], returnType := some .char }, accessFlags := 1, code := some k7c4 }
def k7c5 : Code := { maxStack := 4, maxLocals := 6, code := jdk_42_method_149_code, exceptionTable := #[], attributes := #[] }
def k7m5 : Method := { name := "<init>", desc := "([CIILjava/lang/Void;)V", sig := { parameters := [(.array .char), .int, .int, (.object "java/lang/Void")], returnType := none }, accessFlags := 2, code := some k7c5 }
def k7c6 : Code := { maxStack := 1, maxLocals := 1, code := jdk_42_method_152_code, exceptionTable := #[], attributes := #[] }
def k7m6 : Method := { name := "coder", desc := "()B", sig := { parameters := [], returnType := some .byte }, accessFlags := 0, code := some k7c6 }
def k7c7 : Code := { maxStack := 1, maxLocals := 1, code := jdk_42_method_154_code, exceptionTable := #[], attributes := #[] }
def k7m7 : Method := { name := "isLatin1", desc := "()Z", sig := { parameters := [], returnType := some .boolean }, accessFlags := 0, code := some k7c7 }
def k7c8 : Code := { maxStack := 3, maxLocals := 2, code := jdk_42_method_155_code, exceptionTable := #[], attributes := #[] }
def k7m8 : Method := { name := "checkIndex", desc := "(II)V", sig := { parameters := [.int, .int], returnType := none }, accessFlags := 8, code := some k7c8 }
/-- java/lang/String -/
def k7 : Class := { plain "java/lang/String" (some 0) with
  accessFlags := 49
  interfaces := #[2, 3, 4, 5, 6]
  cf := some (fileOf pool7 10 #[.nestMembers #[1103]] #[{ accessFlags := 1, nameIndex := 5, descriptorIndex := 6, attributes := #[] }, { accessFlags := 1, nameIndex := 5, descriptorIndex := 1010, attributes := #[] }, { accessFlags := 1, nameIndex := 507, descriptorIndex := 334, attributes := #[] }, { accessFlags := 1, nameIndex := 692, descriptorIndex := 142, attributes := #[] }, { accessFlags := 1, nameIndex := 497, descriptorIndex := 427, attributes := #[] }, { accessFlags := 2, nameIndex := 5, descriptorIndex := 29, attributes := #[] }, { accessFlags := 0, nameIndex := 17, descriptorIndex := 337, attributes := #[] }, { accessFlags := 0, nameIndex := 494, descriptorIndex := 142, attributes := #[] }, { accessFlags := 8, nameIndex := 501, descriptorIndex := 391, attributes := #[] }] 49 2 #[1106, 1108, 575, 1110, 1112] #[{ accessFlags := 18, nameIndex := 13, descriptorIndex := 14, attributes := #[] }, { accessFlags := 18, nameIndex := 17, descriptorIndex := 18, attributes := #[] }, { accessFlags := 2, nameIndex := 21, descriptorIndex := 22, attributes := #[] }, { accessFlags := 2, nameIndex := 25, descriptorIndex := 26, attributes := #[] }, { accessFlags := 26, nameIndex := 1116, descriptorIndex := 1117, attributes := #[] }, { accessFlags := 24, nameIndex := 40, descriptorIndex := 26, attributes := #[] }, { accessFlags := 26, nameIndex := 1101, descriptorIndex := 1102, attributes := #[] }, { accessFlags := 26, nameIndex := 1121, descriptorIndex := 1122, attributes := #[] }, { accessFlags := 25, nameIndex := 599, descriptorIndex := 600, attributes := #[] }, { accessFlags := 24, nameIndex := 1125, descriptorIndex := 18, attributes := #[] }, { accessFlags := 24, nameIndex := 1127, descriptorIndex := 18, attributes := #[] }])
  fields := #[{ name := "value", type := (.array .byte), accessFlags := 18, slot := 0, constantValue := 0 }, { name := "coder", type := .byte, accessFlags := 18, slot := 1, constantValue := 0 }, { name := "hash", type := .int, accessFlags := 2, slot := 2, constantValue := 0 }, { name := "hashIsZero", type := .boolean, accessFlags := 2, slot := 3, constantValue := 0 }, { name := "serialVersionUID", type := .long, accessFlags := 26, slot := 0, constantValue := 0 }, { name := "COMPACT_STRINGS", type := .boolean, accessFlags := 24, slot := 1, constantValue := 0 }, { name := "serialPersistentFields", type := (.array (.object "java/io/ObjectStreamField")), accessFlags := 26, slot := 2, constantValue := 0 }, { name := "REPL", type := .char, accessFlags := 26, slot := 3, constantValue := 0 }, { name := "CASE_INSENSITIVE_ORDER", type := (.object "java/util/Comparator"), accessFlags := 25, slot := 4, constantValue := 0 }, { name := "LATIN1", type := .byte, accessFlags := 24, slot := 5, constantValue := 0 }, { name := "UTF16", type := .byte, accessFlags := 24, slot := 6, constantValue := 0 }]
  methods := #[k7m0, k7m1, k7m2, k7m3, k7m4, k7m5, k7m6, k7m7, k7m8]
  instanceTypes := #[(.array .byte), .byte, .int, .boolean]
  staticTypes := #[.long, .boolean, (.array (.object "java/io/ObjectStreamField")), .char, (.object "java/util/Comparator"), .byte, .byte]
  resolved := Array.replicate 1451 none
  statics := some 0 }

def pool8 : Array CpInfo := pool [(2, .class_ 4), (1, u "java/lang/Object"), (0, u "<init>"), (0, u "()V"), (0, .class_ 8), (0, u "java/lang/Record")] 13

def k8m0 : Method := { name := "<init>", desc := "()V", sig := { parameters := [], returnType := none }, accessFlags := 4, code := none }
/-- java/lang/Record -/
def k8 : Class := { plain "java/lang/Record" (some 0) with
  accessFlags := 1057
  interfaces := #[]
  cf := some (fileOf pool8 7 #[] #[{ accessFlags := 4, nameIndex := 5, descriptorIndex := 6, attributes := #[] }] 1057 2 #[] #[])
  fields := #[]
  methods := #[k8m0]
  instanceTypes := #[]
  staticTypes := #[]
  resolved := Array.replicate 22 none
  statics := none }

def pool9 : Array CpInfo := pool [(2, .class_ 4), (1, u "java/lang/Record"), (3, .class_ 10), (1, u "com/example/tidelock/tidelock/protocol/RoutingTable$Shard"), (0, u "isName"), (0, u "(Ljava/lang/String;)Z"), (9, .methodref 23 24), (0, .class_ 25), (0, .nameAndType 26 27), (0, u "java/lang/String"), (0, u "isEmpty"), (0, u "()Z"), (6, u "name"), (0, u "Ljava/lang/String;"), (2, u "host"), (2, u "port"), (0, u "I"), (0, .methodref 23 44), (0, .nameAndType 45 46), (0, u "length"), (0, u "()I"), (0, .methodref 23 48), (0, .nameAndType 49 50), (0, u "charAt"), (0, u "(I)C"), (47, u "MAX_PORT"), (20, .class_ 120), (0, u "com/example/tidelock/tidelock/protocol/RoutingTable")] 31

def k9c0 : Code := { maxStack := 2, maxLocals := 3, code := prog_36_method_2_code, exceptionTable := #[], attributes := #[] }
def k9m0 : Method := { name := "isName", desc := "(Ljava/lang/String;)Z", sig := { parameters := [(.object "java/lang/String")], returnType := some .boolean }, accessFlags := 9, code := some k9c0 }
/-- com/example/tidelock/tidelock/protocol/RoutingTable$Shard -/
def k9 : Class := { plain "com/example/tidelock/tidelock/protocol/RoutingTable$Shard" (some 8) with
  accessFlags := 49
  interfaces := #[]
  cf := some (fileOf pool9 8 #[.nestHost 119] #[{ accessFlags := 9, nameIndex := 11, descriptorIndex := 12, attributes := #[] }] 49 2 #[] #[{ accessFlags := 18, nameIndex := 34, descriptorIndex := 35, attributes := #[] }, { accessFlags := 18, nameIndex := 38, descriptorIndex := 35, attributes := #[] }, { accessFlags := 18, nameIndex := 41, descriptorIndex := 42, attributes := #[] }, { accessFlags := 26, nameIndex := 98, descriptorIndex := 42, attributes := #[] }])
  fields := #[{ name := "name", type := (.object "java/lang/String"), accessFlags := 18, slot := 0, constantValue := 0 }, { name := "host", type := (.object "java/lang/String"), accessFlags := 18, slot := 1, constantValue := 0 }, { name := "port", type := .int, accessFlags := 18, slot := 2, constantValue := 0 }, { name := "MAX_PORT", type := .int, accessFlags := 26, slot := 0, constantValue := 0 }]
  methods := #[k9m0]
  instanceTypes := #[(.object "java/lang/String"), (.object "java/lang/String"), .int]
  staticTypes := #[.int]
  resolved := Array.replicate 152 none
  statics := none }

def pool10 : Array CpInfo := pool [(3, .class_ 4), (0, u "java/lang/String"), (1, .class_ 8), (1, u "java/lang/Object"), (0, u "<init>"), (0, u "()V"), (0, .methodref 12 13), (0, .class_ 14), (0, .nameAndType 15 16), (0, u "java/lang/StringUTF16"), (0, u "newBytesLength"), (0, u "(I)I"), (3, .integer 1073741823), (23, .fieldref 12 45), (0, .nameAndType 46 47), (0, u "$assertionsDisabled"), (0, u "Z"), (0, .methodref 12 49), (0, .nameAndType 50 51), (0, u "length"), (0, u "([B)I"), (7, .fieldref 12 60), (0, .nameAndType 61 62), (0, u "HI_BYTE_SHIFT"), (0, u "I"), (0, .fieldref 12 64), (0, .nameAndType 65 62), (0, u "LO_BYTE_SHIFT"), (1, .methodref 12 68), (0, .nameAndType 69 70), (0, u "checkIndex"), (0, u "(I[B)V"), (0, .methodref 12 72), (0, .nameAndType 73 74), (0, u "getChar"), (0, u "([BI)C"), (32, .methodref 12 108), (0, .nameAndType 109 110), (0, u "newBytesFor"), (0, u "(I)[B"), (0, .methodref 12 112), (0, .nameAndType 113 114), (0, u "putChar"), (0, u "([BII)V"), (0, .methodref 12 116), (0, .nameAndType 117 118), (0, u "compress"), (0, u "([CI[BII)I"), (0, .methodref 12 120), (0, .nameAndType 121 122), (0, u "toBytes"), (0, u "([CII)[B"), (138, u "coderFromArrayLen"), (0, u "([BI)B"), (106, .class_ 371), (1, u "java/lang/StringUTF16$LinesSpliterator"), (20, u "charAt"), (21, .methodref 3 415), (0, .nameAndType 69 416), (0, u "(II)V"), (13, u "MAX_LENGTH"), (196, .class_ 628), (0, u "java/lang/StringUTF16$CodePointsSpliterator"), (0, .class_ 630), (0, u "java/lang/StringUTF16$CharsSpliterator")] 4

def k10m0 : Method := { name := "<init>", desc := "()V", sig := { parameters := [], returnType := none }, accessFlags := 0, code := none }
def k10c1 : Code := { maxStack := 1, maxLocals := 1, code := jdk_52_method_2_code, exceptionTable := #[], attributes := #[] }
def k10m1 : Method := { name := "newBytesFor", desc := "(I)[B", sig := { parameters := [.int], returnType := some (.array .byte) }, accessFlags := 9, code := some k10c1 }
def k10c2 : Code := { maxStack := 4, maxLocals := 1, code := jdk_52_method_3_code, exceptionTable := #[], attributes := #[] }
def k10m2 : Method := { name := "newBytesLength", desc := "(I)I", sig := { parameters := [.int], returnType := some .int }, accessFlags := 9, code := some k10c2 }
def k10c3 : Code := { maxStack := 4, maxLocals := 3, code := jdk_52_method_4_code, exceptionTable := #[], attributes := #[] }
def k10m3 : Method := { name := "putChar", desc := "([BII)V", sig := { parameters := [(.array .byte), .int, .int], returnType := none }, accessFlags := 8, code := some k10c3 }
def k10c4 : Code := { maxStack := 3, maxLocals := 2, code := jdk_52_method_5_code, exceptionTable := #[], attributes := #[] }
def k10m4 : Method := { name := "getChar", desc := "([BI)C", sig := { parameters := [(.array .byte), .int], returnType := some .char }, accessFlags := 8, code := some k10c4 }
def k10c5 : Code := { maxStack := 2, maxLocals := 1, code := jdk_52_method_6_code, exceptionTable := #[], attributes := #[] }
def k10m5 : Method := { name := "length", desc := "([B)I", sig := { parameters := [(.array .byte)], returnType := some .int }, accessFlags := 9, code := some k10c5 }
def k10c6 : Code := { maxStack := 4, maxLocals := 5, code := jdk_52_method_14_code, exceptionTable := #[], attributes := #[] }
def k10m6 : Method := { name := "toBytes", desc := "([CII)[B", sig := { parameters := [(.array .char), .int, .int], returnType := some (.array .byte) }, accessFlags := 9, code := some k10c6 }
def k10c7 : Code := { maxStack := 2, maxLocals := 2, code := jdk_52_method_15_code, exceptionTable := #[], attributes := #[] }
def k10m7 : Method := { name := "coderFromArrayLen", desc := "([BI)B", sig := { parameters := [(.array .byte), .int], returnType := some .byte }, accessFlags := 8, code := some k10c7 }
def k10c8 : Code := { maxStack := 5, maxLocals := 6, code := jdk_52_method_16_code, exceptionTable := #[], attributes := #[] }
def k10m8 : Method := { name := "compress", desc := "([CII)[B", sig := { parameters := [(.array .char), .int, .int], returnType := some (.array .byte) }, accessFlags := 9, code := some k10c8 }
def k10c9 : Code := { maxStack := 3, maxLocals := 7, code := jdk_52_method_21_code, exceptionTable := #[], attributes := #[] }
def k10m9 : Method := { name := "compress", desc := "([CI[BII)I", sig := { parameters := [(.array .char), .int, (.array .byte), .int, .int], returnType := some .int }, accessFlags := 9, code := some k10c9 }
def k10c10 : Code := { maxStack := 2, maxLocals := 2, code := jdk_52_method_83_code, exceptionTable := #[], attributes := #[] }
def k10m10 : Method := { name := "charAt", desc := "([BI)C", sig := { parameters := [(.array .byte), .int], returnType := some .char }, accessFlags := 9, code := some k10c10 }
def k10c11 : Code := { maxStack := 2, maxLocals := 2, code := jdk_52_method_91_code, exceptionTable := #[], attributes := #[] }
def k10m11 : Method := { name := "checkIndex", desc := "(I[B)V", sig := { parameters := [.int, (.array .byte)], returnType := none }, accessFlags := 9, code := some k10c11 }
/-- java/lang/StringUTF16 -/
def k10 : Class := { plain "java/lang/StringUTF16" (some 0) with
  accessFlags := 48
  interfaces := #[]
  cf := some (fileOf pool10 12 #[.nestMembers #[627, 629, 369]] #[{ accessFlags := 0, nameIndex := 9, descriptorIndex := 10, attributes := #[] }, { accessFlags := 9, nameIndex := 109, descriptorIndex := 110, attributes := #[] }, { accessFlags := 9, nameIndex := 15, descriptorIndex := 16, attributes := #[] }, { accessFlags := 8, nameIndex := 113, descriptorIndex := 114, attributes := #[] }, { accessFlags := 8, nameIndex := 73, descriptorIndex := 74, attributes := #[] }, { accessFlags := 9, nameIndex := 50, descriptorIndex := 51, attributes := #[] }, { accessFlags := 9, nameIndex := 121, descriptorIndex := 122, attributes := #[] }, { accessFlags := 8, nameIndex := 261, descriptorIndex := 262, attributes := #[] }, { accessFlags := 9, nameIndex := 117, descriptorIndex := 122, attributes := #[] }, { accessFlags := 9, nameIndex := 117, descriptorIndex := 118, attributes := #[] }, { accessFlags := 9, nameIndex := 392, descriptorIndex := 74, attributes := #[] }, { accessFlags := 9, nameIndex := 69, descriptorIndex := 70, attributes := #[] }] 48 6 #[] #[{ accessFlags := 26, nameIndex := 61, descriptorIndex := 62, attributes := #[] }, { accessFlags := 26, nameIndex := 65, descriptorIndex := 62, attributes := #[] }, { accessFlags := 24, nameIndex := 430, descriptorIndex := 62, attributes := #[] }, { accessFlags := 4120, nameIndex := 46, descriptorIndex := 47, attributes := #[] }])
  fields := #[{ name := "HI_BYTE_SHIFT", type := .int, accessFlags := 26, slot := 0, constantValue := 0 }, { name := "LO_BYTE_SHIFT", type := .int, accessFlags := 26, slot := 1, constantValue := 0 }, { name := "MAX_LENGTH", type := .int, accessFlags := 24, slot := 2, constantValue := 0 }, { name := "$assertionsDisabled", type := .boolean, accessFlags := 4120, slot := 3, constantValue := 0 }]
  methods := #[k10m0, k10m1, k10m2, k10m3, k10m4, k10m5, k10m6, k10m7, k10m8, k10m9, k10m10, k10m11]
  instanceTypes := #[]
  staticTypes := #[.int, .int, .int, .boolean]
  resolved := Array.replicate 635 none
  statics := some 1 }

def pool11 : Array CpInfo := pool [(1, .class_ 2), (0, u "java/lang/String"), (1, .class_ 6), (1, u "java/lang/Object"), (0, u "<init>"), (0, u "()V"), (0, .methodref 1 10), (0, .nameAndType 11 12), (0, u "checkIndex"), (0, u "(II)V"), (1, .class_ 16), (1, u "java/lang/StringLatin1"), (36, u "([BI)C"), (67, u "$assertionsDisabled"), (0, u "Z"), (98, .class_ 223), (1, u "java/lang/StringLatin1$LinesSpliterator"), (28, u "charAt"), (137, .class_ 391), (0, u "java/lang/StringLatin1$CharsSpliterator")] 3

def k11m0 : Method := { name := "<init>", desc := "()V", sig := { parameters := [], returnType := none }, accessFlags := 0, code := none }
def k11c1 : Code := { maxStack := 2, maxLocals := 2, code := jdk_43_method_2_code, exceptionTable := #[], attributes := #[] }
def k11m1 : Method := { name := "charAt", desc := "([BI)C", sig := { parameters := [(.array .byte), .int], returnType := some .char }, accessFlags := 9, code := some k11c1 }
/-- java/lang/StringLatin1 -/
def k11 : Class := { plain "java/lang/StringLatin1" (some 0) with
  accessFlags := 48
  interfaces := #[]
  cf := some (fileOf pool11 14 #[.nestMembers #[390, 221]] #[{ accessFlags := 0, nameIndex := 7, descriptorIndex := 8, attributes := #[] }, { accessFlags := 9, nameIndex := 252, descriptorIndex := 53, attributes := #[] }] 48 4 #[] #[{ accessFlags := 4120, nameIndex := 121, descriptorIndex := 122, attributes := #[] }])
  fields := #[{ name := "$assertionsDisabled", type := .boolean, accessFlags := 4120, slot := 0, constantValue := 0 }]
  methods := #[k11m0, k11m1]
  instanceTypes := #[]
  staticTypes := #[.boolean]
  resolved := Array.replicate 395 none
  statics := none }

def pool12 : Array CpInfo := pool [(2, .class_ 4), (1, u "java/lang/Object"), (0, u "<init>"), (0, u "()V"), (17, .class_ 26), (1, u "jdk/internal/util/Preconditions"), (6, u "checkIndex"), (21, .class_ 56), (0, u "jdk/internal/util/Preconditions$4"), (57, .class_ 115), (0, u "jdk/internal/util/Preconditions$1"), (7, u "SIOOBE_FORMATTER"), (0, u "Ljava/util/function/BiFunction;"), (0, .class_ 126), (0, u "jdk/internal/util/Preconditions$2"), (3, u "AIOOBE_FORMATTER"), (0, .class_ 132), (0, u "jdk/internal/util/Preconditions$3"), (3, u "IOOBE_FORMATTER"), (41, u "(IILjava/util/function/BiFunction;)I")] 15

def k12m0 : Method := { name := "<init>", desc := "()V", sig := { parameters := [], returnType := none }, accessFlags := 1, code := none }
def k12c1 : Code := { maxStack := 3, maxLocals := 3, code := jdk_41_method_11_code, exceptionTable := #[], attributes := #[] }
def k12m1 : Method := { name := "checkIndex", desc := "(IILjava/util/function/BiFunction;)I", sig := { parameters := [.int, .int, (.object "java/util/function/BiFunction")], returnType := some .int }, accessFlags := 9, code := some k12c1 }
/-- jdk/internal/util/Preconditions -/
def k12 : Class := { plain "jdk/internal/util/Preconditions" (some 0) with
  accessFlags := 33
  interfaces := #[]
  cf := some (fileOf pool12 24 #[.nestMembers #[55, 131, 125, 114]] #[{ accessFlags := 1, nameIndex := 5, descriptorIndex := 6, attributes := #[] }, { accessFlags := 9, nameIndex := 33, descriptorIndex := 178, attributes := #[] }] 33 2 #[] #[{ accessFlags := 25, nameIndex := 123, descriptorIndex := 124, attributes := #[] }, { accessFlags := 25, nameIndex := 130, descriptorIndex := 124, attributes := #[] }, { accessFlags := 25, nameIndex := 136, descriptorIndex := 124, attributes := #[] }])
  fields := #[{ name := "SIOOBE_FORMATTER", type := (.object "java/util/function/BiFunction"), accessFlags := 25, slot := 0, constantValue := 0 }, { name := "AIOOBE_FORMATTER", type := (.object "java/util/function/BiFunction"), accessFlags := 25, slot := 1, constantValue := 0 }, { name := "IOOBE_FORMATTER", type := (.object "java/util/function/BiFunction"), accessFlags := 25, slot := 2, constantValue := 0 }]
  methods := #[k12m0, k12m1]
  instanceTypes := #[]
  staticTypes := #[(.object "java/util/function/BiFunction"), (.object "java/util/function/BiFunction"), (.object "java/util/function/BiFunction")]
  resolved := Array.replicate 194 none
  statics := some 2 }

def pool13 : Array CpInfo := pool [(9, u "<init>"), (6, .class_ 18), (1, u "java/lang/Object"), (0, u "()V"), (1, .class_ 23), (1, u "jdk/internal/util/ArraysSupport"), (0, u "LOG2_ARRAY_LONG_INDEX_SCALE"), (0, u "I"), (2, u "U"), (0, u "Ljdk/internal/misc/Unsafe;"), (8, u "BIG_ENDIAN"), (0, u "Z"), (8, u "LOG2_BYTE_BIT_SIZE"), (4, u "LOG2_ARRAY_INT_INDEX_SCALE"), (54, u "JLA"), (0, u "Ljdk/internal/access/JavaLangAccess;"), (11, u "LOG2_ARRAY_BOOLEAN_INDEX_SCALE"), (9, u "LOG2_ARRAY_BYTE_INDEX_SCALE"), (5, u "LOG2_ARRAY_CHAR_INDEX_SCALE"), (5, u "LOG2_ARRAY_SHORT_INDEX_SCALE"), (18, u "LOG2_ARRAY_FLOAT_INDEX_SCALE"), (24, u "LOG2_ARRAY_DOUBLE_INDEX_SCALE"), (89, u "T_BOOLEAN"), (2, u "T_CHAR"), (1, u "T_FLOAT"), (1, u "T_DOUBLE"), (1, u "T_BYTE"), (1, u "T_SHORT"), (1, u "T_INT"), (1, u "T_LONG"), (1, u "SOFT_MAX_ARRAY_LENGTH")] 83

def k13m0 : Method := { name := "<init>", desc := "()V", sig := { parameters := [], returnType := none }, accessFlags := 2, code := none }
/-- jdk/internal/util/ArraysSupport -/
def k13 : Class := { plain "jdk/internal/util/ArraysSupport" (some 0) with
  accessFlags := 33
  interfaces := #[]
  cf := some (fileOf pool13 21 #[] #[{ accessFlags := 2, nameIndex := 9, descriptorIndex := 19, attributes := #[] }] 33 16 #[] #[{ accessFlags := 24, nameIndex := 28, descriptorIndex := 29, attributes := #[] }, { accessFlags := 26, nameIndex := 38, descriptorIndex := 39, attributes := #[] }, { accessFlags := 25, nameIndex := 121, descriptorIndex := 25, attributes := #[] }, { accessFlags := 25, nameIndex := 131, descriptorIndex := 25, attributes := #[] }, { accessFlags := 25, nameIndex := 137, descriptorIndex := 25, attributes := #[] }, { accessFlags := 25, nameIndex := 143, descriptorIndex := 25, attributes := #[] }, { accessFlags := 25, nameIndex := 53, descriptorIndex := 25, attributes := #[] }, { accessFlags := 25, nameIndex := 24, descriptorIndex := 25, attributes := #[] }, { accessFlags := 25, nameIndex := 162, descriptorIndex := 25, attributes := #[] }, { accessFlags := 25, nameIndex := 187, descriptorIndex := 25, attributes := #[] }, { accessFlags := 26, nameIndex := 48, descriptorIndex := 25, attributes := #[] }, { accessFlags := 25, nameIndex := 277, descriptorIndex := 25, attributes := #[] }, { accessFlags := 25, nameIndex := 280, descriptorIndex := 25, attributes := #[] }, { accessFlags := 25, nameIndex := 282, descriptorIndex := 25, attributes := #[] }, { accessFlags := 25, nameIndex := 284, descriptorIndex := 25, attributes := #[] }, { accessFlags := 25, nameIndex := 286, descriptorIndex := 25, attributes := #[] }, { accessFlags := 25, nameIndex := 288, descriptorIndex := 25, attributes := #[] }, { accessFlags := 25, nameIndex := 290, descriptorIndex := 25, attributes := #[] }, { accessFlags := 25, nameIndex := 292, descriptorIndex := 25, attributes := #[] }, { accessFlags := 26, nameIndex := 108, descriptorIndex := 109, attributes := #[] }, { accessFlags := 25, nameIndex := 294, descriptorIndex := 25, attributes := #[] }])
  fields := #[{ name := "U", type := (.object "jdk/internal/misc/Unsafe"), accessFlags := 24, slot := 0, constantValue := 0 }, { name := "BIG_ENDIAN", type := .boolean, accessFlags := 26, slot := 1, constantValue := 0 }, { name := "LOG2_ARRAY_BOOLEAN_INDEX_SCALE", type := .int, accessFlags := 25, slot := 2, constantValue := 0 }, { name := "LOG2_ARRAY_BYTE_INDEX_SCALE", type := .int, accessFlags := 25, slot := 3, constantValue := 0 }, { name := "LOG2_ARRAY_CHAR_INDEX_SCALE", type := .int, accessFlags := 25, slot := 4, constantValue := 0 }, { name := "LOG2_ARRAY_SHORT_INDEX_SCALE", type := .int, accessFlags := 25, slot := 5, constantValue := 0 }, { name := "LOG2_ARRAY_INT_INDEX_SCALE", type := .int, accessFlags := 25, slot := 6, constantValue := 0 }, { name := "LOG2_ARRAY_LONG_INDEX_SCALE", type := .int, accessFlags := 25, slot := 7, constantValue := 0 }, { name := "LOG2_ARRAY_FLOAT_INDEX_SCALE", type := .int, accessFlags := 25, slot := 8, constantValue := 0 }, { name := "LOG2_ARRAY_DOUBLE_INDEX_SCALE", type := .int, accessFlags := 25, slot := 9, constantValue := 0 }, { name := "LOG2_BYTE_BIT_SIZE", type := .int, accessFlags := 26, slot := 10, constantValue := 0 }, { name := "T_BOOLEAN", type := .int, accessFlags := 25, slot := 11, constantValue := 0 }, { name := "T_CHAR", type := .int, accessFlags := 25, slot := 12, constantValue := 0 }, { name := "T_FLOAT", type := .int, accessFlags := 25, slot := 13, constantValue := 0 }, { name := "T_DOUBLE", type := .int, accessFlags := 25, slot := 14, constantValue := 0 }, { name := "T_BYTE", type := .int, accessFlags := 25, slot := 15, constantValue := 0 }, { name := "T_SHORT", type := .int, accessFlags := 25, slot := 16, constantValue := 0 }, { name := "T_INT", type := .int, accessFlags := 25, slot := 17, constantValue := 0 }, { name := "T_LONG", type := .int, accessFlags := 25, slot := 18, constantValue := 0 }, { name := "JLA", type := (.object "jdk/internal/access/JavaLangAccess"), accessFlags := 26, slot := 19, constantValue := 0 }, { name := "SOFT_MAX_ARRAY_LENGTH", type := .int, accessFlags := 25, slot := 20, constantValue := 0 }]
  methods := #[k13m0]
  instanceTypes := #[]
  staticTypes := #[(.object "jdk/internal/misc/Unsafe"), .boolean, .int, .int, .int, .int, .int, .int, .int, .int, .int, .int, .int, .int, .int, .int, .int, .int, .int, (.object "jdk/internal/access/JavaLangAccess"), .int]
  resolved := Array.replicate 378 none
  statics := none }

def pool14 : Array CpInfo := pool [(1, u "java/lang/Cloneable"), (0, .class_ 1), (0, u "java/lang/Object"), (0, .class_ 3)] 3

/-- java/lang/Cloneable -/
def k14 : Class := { plain "java/lang/Cloneable" (some 0) with
  accessFlags := 1537
  interfaces := #[]
  cf := some (fileOf pool14 2 #[] #[] 1537 4 #[] #[])
  fields := #[]
  methods := #[]
  instanceTypes := #[]
  staticTypes := #[]
  resolved := Array.replicate 8 none
  statics := none }

/-- the primitive byte -/
def k15 : Class := { plain "byte" none with kind := .primitive 'B', accessFlags := 0x411 }
/-- [B -/
def k16 : Class := { plain "[B" (some 0) with kind := .array 15 .byte, interfaces := #[14, 2], accessFlags := 1041 }

/-- the primitive char -/
def k17 : Class := { plain "char" none with kind := .primitive 'C', accessFlags := 0x411 }
/-- [C -/
def k18 : Class := { plain "[C" (some 0) with kind := .array 17 .char, interfaces := #[14, 2], accessFlags := 1041 }

/-- the primitive int -/
def k19 : Class := { plain "int" none with kind := .primitive 'I', accessFlags := 0x411 }
/-- [I -/
def k20 : Class := { plain "[I" (some 0) with kind := .array 19 .int, interfaces := #[14, 2], accessFlags := 1041 }

def heap : Heap := #[{ cls := 7, slots := #[.long 0, .int 1, .null, .int 0, .null, .int 0, .int 0], vm := .statics 7 },
  { cls := 10, slots := #[.int 0, .int 8, .int 0, .int 1], vm := .statics 10 },
  { cls := 12, slots := #[.null, .null, .null], vm := .statics 12 }]
def classes : Array Class := #[k0, k1, k2, k3, k4, k5, k6, k7, k8, k9, k10, k11, k12, k13, k14, k15, k16, k17, k18, k19, k20]
def interned : List (Array UInt16 × Addr) := []
def slotsUsed : Nat := 14
def theMethod : MethodId := ⟨1, 2⟩
def args0 : Array Value := #[.int 5, .int 5, .int 5, .int 5, .int 5]
def aboutOver (below : List Frame) : State where
  vm := { classes := classes, interned := interned.toArray }
  heap := heap
  slotsUsed := slotsUsed
  threads := #[{ frames := .invoking theMethod args0 :: below }]
def below0 : List Frame := [.native { method := ⟨0, 0⟩, args := #[] }]
def about1 : State := aboutOver below0
def p0 : Program := .bare "" "" ""
def e0 : Env := launch0.env 0 0 0
theorem w_frames : about1.frames = Frame.invoking theMethod args0 :: below0 := rfl
set_option maxRecDepth 65536 in
theorem w_args : argsFit about1.vm theMethod args0 = true := by decide +kernel
set_option maxRecDepth 65536 in
theorem w_heap : heapFits about1 = true := by decide +kernel
set_option maxRecDepth 65536 in
theorem w_runnable : about1.curStatus? = some .runnable := by decide +kernel
set_option maxRecDepth 65536 in
theorem w_alone : about1.alone = true := by decide +kernel
set_option maxRecDepth 65536 in
theorem w_named : about1.methodNamed? x = some theMethod := by decide +kernel
set_option maxRecDepth 65536 in
theorem w_hears : about1.hears theMethod below0 = true := by decide +kernel
set_option maxRecDepth 65536 in
theorem w_ripe : about1.ripe theMethod args0 below0 = true := by decide +kernel
theorem w_running : about1.status = .running := rfl
set_option maxRecDepth 65536 in
theorem w_room : about1.hasRoom e0.platform room_1 = true :=
  launch0.hasRoom_least _ room_1 (by decide +kernel) (by decide +kernel) (by decide +kernel) (by decide +kernel) (by decide +kernel) (by decide +kernel)
theorem allAtoms_all (ts : List Jvm.Cond) (a : Array Jvm.Value) (st : Jvm.State) : (allAtoms ts).before a st = ts.all (fun c => c.before a st) := by
  induction ts with
  | nil => rfl
  | cons c t ih =>
    show (Jvm.Cond.and c (allAtoms t)).before a st = _
    rw [Jvm.Cond.before_and, ih, List.all_cons]
def words1 : List Jvm.Cond := Jvm.Cond.code x code maxLocals ret :: tables_1
/-- a 'code' word, met by the world's own term for the bytes: nothing is compared byte by byte -/
theorem code_word {y : MethodName} {bytes : ByteArray} {mx : Nat} {rt : Option FieldType} {a : Array Value} {s : State} {m : MethodId} {meth : Method} {c : Code} (h1 : s.methodNamed? y = some m) (h2 : s.vm.method? m = some meth) (h3 : meth.code = some c) (h4 : c.code = bytes)
    (h5 : (c.maxLocals == mx && c.exceptionTable.isEmpty && decide (c.maxStack ≤ mostOperands) && decide (meth.sig.returnType = rt) && !meth.locks && decide (parseMethodDescriptor y.desc = some meth.sig)) = true) : (Jvm.Cond.code y bytes mx rt).before a s = true := by
  simp only [Bool.and_eq_true, beq_iff_eq, Bool.not_eq_true', decide_eq_true_eq] at h5
  obtain ⟨⟨⟨⟨⟨g1, g2⟩, g3⟩, g4⟩, g5⟩, g6⟩ := h5
  simp [Cond.before, Cond.holds, Cond.value, h1, h2, h3, h4, g1, g2, g3, g4, g5, g6]
def isCode : Jvm.Cond → Bool
  | .code _ _ _ _ => true
  | _ => false
theorem all_split {L : List Jvm.Cond} {P : Jvm.Cond → Bool} (h1 : L.all (fun c => isCode c || P c) = true) (h2 : ∀ c ∈ L.filter isCode, P c = true) : L.all P = true := by
  refine List.all_eq_true.mpr fun c hc => ?_
  have h := List.all_eq_true.mp h1 c hc
  rcases Bool.eq_false_or_eq_true (isCode c) with hi | hi
  · exact h2 c (List.mem_filter.mpr ⟨hc, hi⟩)
  · simpa [hi] using h
set_option maxRecDepth 65536 in
theorem w_c0 : (Jvm.Cond.code x code maxLocals ret).before args0 about1 = true := code_word (m := ⟨1, 2⟩) (meth := k1m2) (c := k1c2) (by decide +kernel) rfl rfl rfl (by decide +kernel)
set_option maxRecDepth 65536 in
theorem w_c1 : (Jvm.Cond.code ({ cls := "java/lang/String", name := "<init>", desc := "([C)V" } : Jvm.MethodName) jdk_42_method_3_code (2 : Nat) (Option.none : Option Jvm.ClassFile.FieldType)).before args0 about1 = true := code_word (m := ⟨7, 1⟩) (meth := k7m1) (c := k7c1) (by decide +kernel) rfl rfl rfl (by decide +kernel)
set_option maxRecDepth 65536 in
theorem w_c2 : (Jvm.Cond.code ({ cls := "java/lang/String", name := "<init>", desc := "([CIILjava/lang/Void;)V" } : Jvm.MethodName) jdk_42_method_149_code (6 : Nat) (Option.none : Option Jvm.ClassFile.FieldType)).before args0 about1 = true := code_word (m := ⟨7, 5⟩) (meth := k7m5) (c := k7c5) (by decide +kernel) rfl rfl rfl (by decide +kernel)
set_option maxRecDepth 65536 in
theorem w_c3 : (Jvm.Cond.code ({ cls := "java/lang/Object", name := "<init>", desc := "()V" } : Jvm.MethodName) object_method_1_code (1 : Nat) (Option.none : Option Jvm.ClassFile.FieldType)).before args0 about1 = true := code_word (m := ⟨0, 0⟩) (meth := k0m0) (c := k0c0) (by decide +kernel) rfl rfl rfl (by decide +kernel)
set_option maxRecDepth 65536 in
theorem w_c4 : (Jvm.Cond.code ({ cls := "com/example/tidelock/tidelock/protocol/RoutingTable$Shard", name := "isName", desc := "(Ljava/lang/String;)Z" } : Jvm.MethodName) prog_36_method_2_code (3 : Nat) (Option.some Jvm.ClassFile.FieldType.boolean)).before args0 about1 = true := code_word (m := ⟨9, 0⟩) (meth := k9m0) (c := k9c0) (by decide +kernel) rfl rfl rfl (by decide +kernel)
set_option maxRecDepth 65536 in
theorem w_c5 : (Jvm.Cond.code ({ cls := "java/lang/String", name := "isEmpty", desc := "()Z" } : Jvm.MethodName) jdk_42_method_55_code (1 : Nat) (Option.some Jvm.ClassFile.FieldType.boolean)).before args0 about1 = true := code_word (m := ⟨7, 3⟩) (meth := k7m3) (c := k7c3) (by decide +kernel) rfl rfl rfl (by decide +kernel)
set_option maxRecDepth 65536 in
theorem w_c6 : (Jvm.Cond.code ({ cls := "java/lang/StringUTF16", name := "compress", desc := "([CII)[B" } : Jvm.MethodName) jdk_52_method_16_code (6 : Nat) (Option.some (Jvm.ClassFile.FieldType.array Jvm.ClassFile.FieldType.byte))).before args0 about1 = true := code_word (m := ⟨10, 8⟩) (meth := k10m8) (c := k10c8) (by decide +kernel) rfl rfl rfl (by decide +kernel)
set_option maxRecDepth 65536 in
theorem w_c7 : (Jvm.Cond.code ({ cls := "java/lang/StringUTF16", name := "compress", desc := "([CI[BII)I" } : Jvm.MethodName) jdk_52_method_21_code (7 : Nat) (Option.some Jvm.ClassFile.FieldType.int)).before args0 about1 = true := code_word (m := ⟨10, 9⟩) (meth := k10m9) (c := k10c9) (by decide +kernel) rfl rfl rfl (by decide +kernel)
set_option maxRecDepth 65536 in
theorem w_c8 : (Jvm.Cond.code ({ cls := "java/lang/StringUTF16", name := "coderFromArrayLen", desc := "([BI)B" } : Jvm.MethodName) jdk_52_method_15_code (2 : Nat) (Option.some Jvm.ClassFile.FieldType.byte)).before args0 about1 = true := code_word (m := ⟨10, 7⟩) (meth := k10m7) (c := k10c7) (by decide +kernel) rfl rfl rfl (by decide +kernel)
set_option maxRecDepth 65536 in
theorem w_c9 : (Jvm.Cond.code ({ cls := "com/example/tidelock/tidelock/protocol/ShardIsNamePinLaw", name := "allowed", desc := "(C)Z" } : Jvm.MethodName) method_2_code (3 : Nat) (Option.some Jvm.ClassFile.FieldType.boolean)).before args0 about1 = true := code_word (m := ⟨1, 1⟩) (meth := k1m1) (c := k1c1) (by decide +kernel) rfl rfl rfl (by decide +kernel)
set_option maxRecDepth 65536 in
theorem w_c10 : (Jvm.Cond.code ({ cls := "java/lang/String", name := "length", desc := "()I" } : Jvm.MethodName) jdk_42_method_54_code (1 : Nat) (Option.some Jvm.ClassFile.FieldType.int)).before args0 about1 = true := code_word (m := ⟨7, 2⟩) (meth := k7m2) (c := k7c2) (by decide +kernel) rfl rfl rfl (by decide +kernel)
set_option maxRecDepth 65536 in
theorem w_c11 : (Jvm.Cond.code ({ cls := "java/lang/String", name := "coder", desc := "()B" } : Jvm.MethodName) jdk_42_method_152_code (1 : Nat) (Option.some Jvm.ClassFile.FieldType.byte)).before args0 about1 = true := code_word (m := ⟨7, 6⟩) (meth := k7m6) (c := k7c6) (by decide +kernel) rfl rfl rfl (by decide +kernel)
set_option maxRecDepth 65536 in
theorem w_c12 : (Jvm.Cond.code ({ cls := "java/lang/String", name := "charAt", desc := "(I)C" } : Jvm.MethodName) jdk_42_method_56_code (2 : Nat) (Option.some Jvm.ClassFile.FieldType.char)).before args0 about1 = true := code_word (m := ⟨7, 4⟩) (meth := k7m4) (c := k7c4) (by decide +kernel) rfl rfl rfl (by decide +kernel)
set_option maxRecDepth 65536 in
theorem w_c13 : (Jvm.Cond.code ({ cls := "java/lang/String", name := "isLatin1", desc := "()Z" } : Jvm.MethodName) jdk_42_method_154_code (1 : Nat) (Option.some Jvm.ClassFile.FieldType.boolean)).before args0 about1 = true := code_word (m := ⟨7, 7⟩) (meth := k7m7) (c := k7c7) (by decide +kernel) rfl rfl rfl (by decide +kernel)
set_option maxRecDepth 65536 in
theorem w_c14 : (Jvm.Cond.code ({ cls := "java/lang/StringLatin1", name := "charAt", desc := "([BI)C" } : Jvm.MethodName) jdk_43_method_2_code (2 : Nat) (Option.some Jvm.ClassFile.FieldType.char)).before args0 about1 = true := code_word (m := ⟨11, 1⟩) (meth := k11m1) (c := k11c1) (by decide +kernel) rfl rfl rfl (by decide +kernel)
set_option maxRecDepth 65536 in
theorem w_c15 : (Jvm.Cond.code ({ cls := "java/lang/String", name := "checkIndex", desc := "(II)V" } : Jvm.MethodName) jdk_42_method_155_code (2 : Nat) (Option.none : Option Jvm.ClassFile.FieldType)).before args0 about1 = true := code_word (m := ⟨7, 8⟩) (meth := k7m8) (c := k7c8) (by decide +kernel) rfl rfl rfl (by decide +kernel)
set_option maxRecDepth 65536 in
theorem w_c16 : (Jvm.Cond.code ({ cls := "jdk/internal/util/Preconditions", name := "checkIndex", desc := "(IILjava/util/function/BiFunction;)I" } : Jvm.MethodName) jdk_41_method_11_code (3 : Nat) (Option.some Jvm.ClassFile.FieldType.int)).before args0 about1 = true := code_word (m := ⟨12, 1⟩) (meth := k12m1) (c := k12c1) (by decide +kernel) rfl rfl rfl (by decide +kernel)
set_option maxRecDepth 65536 in
theorem w_c17 : (Jvm.Cond.code ({ cls := "java/lang/StringUTF16", name := "toBytes", desc := "([CII)[B" } : Jvm.MethodName) jdk_52_method_14_code (5 : Nat) (Option.some (Jvm.ClassFile.FieldType.array Jvm.ClassFile.FieldType.byte))).before args0 about1 = true := code_word (m := ⟨10, 6⟩) (meth := k10m6) (c := k10c6) (by decide +kernel) rfl rfl rfl (by decide +kernel)
set_option maxRecDepth 65536 in
theorem w_c18 : (Jvm.Cond.code ({ cls := "java/lang/StringUTF16", name := "newBytesFor", desc := "(I)[B" } : Jvm.MethodName) jdk_52_method_2_code (1 : Nat) (Option.some (Jvm.ClassFile.FieldType.array Jvm.ClassFile.FieldType.byte))).before args0 about1 = true := code_word (m := ⟨10, 1⟩) (meth := k10m1) (c := k10c1) (by decide +kernel) rfl rfl rfl (by decide +kernel)
set_option maxRecDepth 65536 in
theorem w_c19 : (Jvm.Cond.code ({ cls := "java/lang/StringUTF16", name := "newBytesLength", desc := "(I)I" } : Jvm.MethodName) jdk_52_method_3_code (1 : Nat) (Option.some Jvm.ClassFile.FieldType.int)).before args0 about1 = true := code_word (m := ⟨10, 2⟩) (meth := k10m2) (c := k10c2) (by decide +kernel) rfl rfl rfl (by decide +kernel)
set_option maxRecDepth 65536 in
theorem w_c20 : (Jvm.Cond.code ({ cls := "java/lang/StringUTF16", name := "putChar", desc := "([BII)V" } : Jvm.MethodName) jdk_52_method_4_code (3 : Nat) (Option.none : Option Jvm.ClassFile.FieldType)).before args0 about1 = true := code_word (m := ⟨10, 3⟩) (meth := k10m3) (c := k10c3) (by decide +kernel) rfl rfl rfl (by decide +kernel)
set_option maxRecDepth 65536 in
theorem w_c21 : (Jvm.Cond.code ({ cls := "java/lang/StringUTF16", name := "getChar", desc := "([BI)C" } : Jvm.MethodName) jdk_52_method_5_code (2 : Nat) (Option.some Jvm.ClassFile.FieldType.char)).before args0 about1 = true := code_word (m := ⟨10, 4⟩) (meth := k10m4) (c := k10c4) (by decide +kernel) rfl rfl rfl (by decide +kernel)
set_option maxRecDepth 65536 in
theorem w_c22 : (Jvm.Cond.code ({ cls := "java/lang/StringUTF16", name := "charAt", desc := "([BI)C" } : Jvm.MethodName) jdk_52_method_83_code (2 : Nat) (Option.some Jvm.ClassFile.FieldType.char)).before args0 about1 = true := code_word (m := ⟨10, 10⟩) (meth := k10m10) (c := k10c10) (by decide +kernel) rfl rfl rfl (by decide +kernel)
set_option maxRecDepth 65536 in
theorem w_c23 : (Jvm.Cond.code ({ cls := "java/lang/StringUTF16", name := "checkIndex", desc := "(I[B)V" } : Jvm.MethodName) jdk_52_method_91_code (2 : Nat) (Option.none : Option Jvm.ClassFile.FieldType)).before args0 about1 = true := code_word (m := ⟨10, 11⟩) (meth := k10m11) (c := k10c11) (by decide +kernel) rfl rfl rfl (by decide +kernel)
set_option maxRecDepth 65536 in
theorem w_c24 : (Jvm.Cond.code ({ cls := "java/lang/StringUTF16", name := "length", desc := "([B)I" } : Jvm.MethodName) jdk_52_method_6_code (1 : Nat) (Option.some Jvm.ClassFile.FieldType.int)).before args0 about1 = true := code_word (m := ⟨10, 5⟩) (meth := k10m5) (c := k10c5) (by decide +kernel) rfl rfl rfl (by decide +kernel)
def codes1 : List Jvm.Cond := [Jvm.Cond.code x code maxLocals ret, Jvm.Cond.code ({ cls := "java/lang/String", name := "<init>", desc := "([C)V" } : Jvm.MethodName) jdk_42_method_3_code (2 : Nat) (Option.none : Option Jvm.ClassFile.FieldType), Jvm.Cond.code ({ cls := "java/lang/String", name := "<init>", desc := "([CIILjava/lang/Void;)V" } : Jvm.MethodName) jdk_42_method_149_code (6 : Nat) (Option.none : Option Jvm.ClassFile.FieldType), Jvm.Cond.code ({ cls := "java/lang/Object", name := "<init>", desc := "()V" } : Jvm.MethodName) object_method_1_code (1 : Nat) (Option.none : Option Jvm.ClassFile.FieldType), Jvm.Cond.code ({ cls := "com/example/tidelock/tidelock/protocol/RoutingTable$Shard", name := "isName", desc := "(Ljava/lang/String;)Z" } : Jvm.MethodName) prog_36_method_2_code (3 : Nat) (Option.some Jvm.ClassFile.FieldType.boolean), Jvm.Cond.code ({ cls := "java/lang/String", name := "isEmpty", desc := "()Z" } : Jvm.MethodName) jdk_42_method_55_code (1 : Nat) (Option.some Jvm.ClassFile.FieldType.boolean), Jvm.Cond.code ({ cls := "java/lang/StringUTF16", name := "compress", desc := "([CII)[B" } : Jvm.MethodName) jdk_52_method_16_code (6 : Nat) (Option.some (Jvm.ClassFile.FieldType.array Jvm.ClassFile.FieldType.byte)), Jvm.Cond.code ({ cls := "java/lang/StringUTF16", name := "compress", desc := "([CI[BII)I" } : Jvm.MethodName) jdk_52_method_21_code (7 : Nat) (Option.some Jvm.ClassFile.FieldType.int), Jvm.Cond.code ({ cls := "java/lang/StringUTF16", name := "coderFromArrayLen", desc := "([BI)B" } : Jvm.MethodName) jdk_52_method_15_code (2 : Nat) (Option.some Jvm.ClassFile.FieldType.byte), Jvm.Cond.code ({ cls := "com/example/tidelock/tidelock/protocol/ShardIsNamePinLaw", name := "allowed", desc := "(C)Z" } : Jvm.MethodName) method_2_code (3 : Nat) (Option.some Jvm.ClassFile.FieldType.boolean), Jvm.Cond.code ({ cls := "java/lang/String", name := "length", desc := "()I" } : Jvm.MethodName) jdk_42_method_54_code (1 : Nat) (Option.some Jvm.ClassFile.FieldType.int), Jvm.Cond.code ({ cls := "java/lang/String", name := "coder", desc := "()B" } : Jvm.MethodName) jdk_42_method_152_code (1 : Nat) (Option.some Jvm.ClassFile.FieldType.byte), Jvm.Cond.code ({ cls := "java/lang/String", name := "charAt", desc := "(I)C" } : Jvm.MethodName) jdk_42_method_56_code (2 : Nat) (Option.some Jvm.ClassFile.FieldType.char), Jvm.Cond.code ({ cls := "java/lang/String", name := "isLatin1", desc := "()Z" } : Jvm.MethodName) jdk_42_method_154_code (1 : Nat) (Option.some Jvm.ClassFile.FieldType.boolean), Jvm.Cond.code ({ cls := "java/lang/StringLatin1", name := "charAt", desc := "([BI)C" } : Jvm.MethodName) jdk_43_method_2_code (2 : Nat) (Option.some Jvm.ClassFile.FieldType.char), Jvm.Cond.code ({ cls := "java/lang/String", name := "checkIndex", desc := "(II)V" } : Jvm.MethodName) jdk_42_method_155_code (2 : Nat) (Option.none : Option Jvm.ClassFile.FieldType), Jvm.Cond.code ({ cls := "jdk/internal/util/Preconditions", name := "checkIndex", desc := "(IILjava/util/function/BiFunction;)I" } : Jvm.MethodName) jdk_41_method_11_code (3 : Nat) (Option.some Jvm.ClassFile.FieldType.int), Jvm.Cond.code ({ cls := "java/lang/StringUTF16", name := "toBytes", desc := "([CII)[B" } : Jvm.MethodName) jdk_52_method_14_code (5 : Nat) (Option.some (Jvm.ClassFile.FieldType.array Jvm.ClassFile.FieldType.byte)), Jvm.Cond.code ({ cls := "java/lang/StringUTF16", name := "newBytesFor", desc := "(I)[B" } : Jvm.MethodName) jdk_52_method_2_code (1 : Nat) (Option.some (Jvm.ClassFile.FieldType.array Jvm.ClassFile.FieldType.byte)), Jvm.Cond.code ({ cls := "java/lang/StringUTF16", name := "newBytesLength", desc := "(I)I" } : Jvm.MethodName) jdk_52_method_3_code (1 : Nat) (Option.some Jvm.ClassFile.FieldType.int), Jvm.Cond.code ({ cls := "java/lang/StringUTF16", name := "putChar", desc := "([BII)V" } : Jvm.MethodName) jdk_52_method_4_code (3 : Nat) (Option.none : Option Jvm.ClassFile.FieldType), Jvm.Cond.code ({ cls := "java/lang/StringUTF16", name := "getChar", desc := "([BI)C" } : Jvm.MethodName) jdk_52_method_5_code (2 : Nat) (Option.some Jvm.ClassFile.FieldType.char), Jvm.Cond.code ({ cls := "java/lang/StringUTF16", name := "charAt", desc := "([BI)C" } : Jvm.MethodName) jdk_52_method_83_code (2 : Nat) (Option.some Jvm.ClassFile.FieldType.char), Jvm.Cond.code ({ cls := "java/lang/StringUTF16", name := "checkIndex", desc := "(I[B)V" } : Jvm.MethodName) jdk_52_method_91_code (2 : Nat) (Option.none : Option Jvm.ClassFile.FieldType), Jvm.Cond.code ({ cls := "java/lang/StringUTF16", name := "length", desc := "([B)I" } : Jvm.MethodName) jdk_52_method_6_code (1 : Nat) (Option.some Jvm.ClassFile.FieldType.int)]
set_option maxRecDepth 65536 in
theorem codes_eq : words1.filter isCode = codes1 := rfl
theorem w_codes : ∀ c ∈ words1.filter isCode, c.before args0 about1 = true := by
  rw [codes_eq]
  intro c hc
  simp only [codes1, List.mem_cons, List.not_mem_nil, or_false] at hc
  rcases hc with rfl | rfl | rfl | rfl | rfl | rfl | rfl | rfl | rfl | rfl | rfl | rfl | rfl | rfl | rfl | rfl | rfl | rfl | rfl | rfl | rfl | rfl | rfl | rfl | rfl
  · exact w_c0
  · exact w_c1
  · exact w_c2
  · exact w_c3
  · exact w_c4
  · exact w_c5
  · exact w_c6
  · exact w_c7
  · exact w_c8
  · exact w_c9
  · exact w_c10
  · exact w_c11
  · exact w_c12
  · exact w_c13
  · exact w_c14
  · exact w_c15
  · exact w_c16
  · exact w_c17
  · exact w_c18
  · exact w_c19
  · exact w_c20
  · exact w_c21
  · exact w_c22
  · exact w_c23
  · exact w_c24
set_option maxRecDepth 65536 in
theorem w_t1 : (words1.take 24).all (fun c => isCode c || c.before args0 about1) = true := by decide +kernel
set_option maxRecDepth 65536 in
theorem w_t2 : ((words1.drop 24).take 24).all (fun c => isCode c || c.before args0 about1) = true := by decide +kernel
set_option maxRecDepth 65536 in
theorem w_t3 : (((words1.drop 24).drop 24).take 24).all (fun c => isCode c || c.before args0 about1) = true := by decide +kernel
set_option maxRecDepth 65536 in
theorem w_t4 : ((((words1.drop 24).drop 24).drop 24).take 24).all (fun c => isCode c || c.before args0 about1) = true := by decide +kernel
set_option maxRecDepth 65536 in
theorem w_t5 : ((((words1.drop 24).drop 24).drop 24).drop 24).all (fun c => isCode c || c.before args0 about1) = true := by decide +kernel
theorem w_tables : (allAtoms (Jvm.Cond.code x code maxLocals ret :: tables_1)).before args0 about1 = true := by
  rw [allAtoms_all]
  show words1.all (fun c => c.before args0 about1) = true
  refine all_split ?_ w_codes
  rw [← List.take_append_drop 24 words1, List.all_append, w_t1, ← List.take_append_drop 24 (words1.drop 24), List.all_append, w_t2, ← List.take_append_drop 24 ((words1.drop 24).drop 24), List.all_append, w_t3, ← List.take_append_drop 24 (((words1.drop 24).drop 24).drop 24), List.all_append, w_t4, w_t5]
  rfl
set_option maxRecDepth 65536 in
theorem w_rest : rest_1_c.before args0 about1 = true := by decide +kernel
set_option maxRecDepth 65536 in
theorem w_case : (Jvm.Cond.and given_1 narrow_1).before args0 about1 = true := by decide +kernel
set_option maxRecDepth 65536 in
theorem w_consts : constsHeld consts_1 about1 := Jvm.Lit.constsHeldB_iff.mp (by decide +kernel)
theorem w_applies : (headSpec (Jvm.Cond.code x code maxLocals ret :: tables_1) room_1).applies x e0.platform about1 = true :=
  (Spec.applies_iff w_frames).mpr ⟨w_running, w_runnable, w_alone, w_named, w_hears, w_ripe, w_room, w_tables⟩
theorem atStart : AtStart classFile x code maxLocals ret World_1 tables_1 room_1 Calls_1 rest_1 Pre_1 launch0 p0 e0 about1 theMethod args0 below0 :=
  ⟨lists_1, trivial, launch0.admits_env _ _ _, launch0.least_env, fairChoices_fair.cas, fairChoices_fair.clock, w_frames, w_args, w_heap, w_applies, ⟨w_consts, trivial⟩, w_rest, w_case⟩
end start1
theorem witness_1 : WitnessClaimed_1 := ⟨start1.p0, start1.e0, start1.about1, start1.theMethod, start1.args0, start1.below0, start1.atStart⟩
end Jvm.Pilot.@@N@@
