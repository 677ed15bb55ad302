import JvmDerived
import JvmDerived.Pilot.@@N@@Statement
import JvmDerived.Pilot.@@N@@Code
set_option linter.unusedVariables false
set_option linter.unusedSimpArgs false
@@BLOCK:NumsL.lean.txt@@
@@BLOCK:HandJ.lean.txt@@
@@BLOCK:SymMore.lean.txt@@
namespace Jvm.Pilot.@@N@@
open Jvm Jvm.ClassFile Sem Op Lib Jvm.Free Jvm.Stand Jvm.LawKit Jvm.RoadKit Bundle Jvm.Pilot.@@N@@.Jvm.D
theorem own_k {Z : State} {a0 : Array Value} (hw : ∀ d ∈ tables_1, d.before a0 Z = true) {d : Jvm.Cond} (i : Nat) (h : tables_1[i]? = some d) : d.before a0 Z = true := hw d (List.mem_of_getElem? h)
theorem own_nn32 {n : Nat} (h : n < 2147483648) : ¬ Int32.ofNat n < 0 := by
  rw [Int32.lt_iff_toInt_lt, Int32.toInt_ofNat_of_lt (by omega), show (0 : Int32).toInt = 0 from rfl]
  omega
/-- from here the run ends as F says -/
def own_G (p : Program) (e : Env) (below : List Frame) (T : State) (g : JFrame) (F : State → Prop) : Prop := ∃ s₂, Steps p.tables e below (T.setTop g) s₂ ∧ F s₂
theorem own_st {p : Program} {e : Env} {below : List Frame} {T T' : State} {g g' : JFrame} {F : State → Prop} (h : ∀ target, Steps p.tables e below (T'.setTop g') target → Steps p.tables e below (T.setTop g) target) (k : own_G p e below T' g' F) : own_G p e below T g F := by
  obtain ⟨s2, a, b⟩ := k
  exact ⟨s2, h _ a, b⟩
theorem own_tr {p : Program} {e : Env} {below : List Frame} {T T' : State} {g g' : JFrame} {F : State → Prop} (h : Steps p.tables e below (T.setTop g) (T'.setTop g')) (k : own_G p e below T' g' F) : own_G p e below T g F := by
  obtain ⟨s2, a, b⟩ := k
  exact ⟨s2, h.trans a, b⟩
theorem own_end {p : Program} {e : Env} {below : List Frame} {T s2 : State} {g : JFrame} {F : State → Prop} (h : Steps p.tables e below (T.setTop g) s2) (k : F s2) : own_G p e below T g F := ⟨s2, h, k⟩
theorem own_join {α : Type} {p : Program} {e : Env} {below : List Frame} {T : State} {g : JFrame} {gj : α → JFrame} {P : α → Prop} {F : State → Prop} (k : ∀ q, P q → own_G p e below T (gj q) F) (h : (∀ q, P q → own_G p e below T (gj q) F) → own_G p e below T g F) : own_G p e below T g F := h k
abbrev own_E (s : State) (below : List Frame) (R : Room) (Q : Option Value → Heap → List Loc → Prop) : State → Prop := fun s₂ => ∃ o, s₂.status = .running ∧ Ended s₂ below o ∧ ∃ v L, o = .returned v ∧ Q v s₂.heap L ∧ FrameEnd s o s₂ L R.cells R.slots
abbrev own_EndW (s : State) (below : List Frame) (R : Room) (Q : Option Value → Heap → List Loc → Prop) : State → Prop := fun s₂ => ∃ o, s₂.status = .running ∧ Ended s₂ below o ∧ ∃ v L, o = .returned v ∧ Q v s₂.heap L ∧ ReturnedEndW s o s₂ L R.cells R.slots
abbrev own_EndH (Z : State) (EL : List (String × Nat)) (s : State) (below : List Frame) (R : Room) (Q : Option Value → Heap → List Loc → Prop) : State → Prop := fun s₂ => ∃ o, s₂.status = .running ∧ Ended s₂ below o ∧ ∃ v L, o = .returned v ∧ Q v s₂.heap L ∧ CHr Z EL s.vm s.heap s₂.vm s₂.heap ∧ ReturnedEndW s o s₂ L R.cells R.slots
abbrev own_M (l : Launch) (y : MethodName) (bs : ByteArray) (ml : Nat) (rt : Option FieldType) (ws : List Jvm.Cond) (R : Room) (as' : Array Value) (Z : State) (h0 : Heap) (Q : Option Value → Heap → List Loc → Prop) : Prop :=
  MetFree l y (head1 (Jvm.Cond.code y bs ml rt :: ws) R) (fun av U => av = as' ∧ Z.Warmed39 U.vm ∧ U.heap = h0) (fun _ _ _ _ _ => True) (fun _ U o U' => ∃ v L, o = .returned v ∧ Q v U'.heap L ∧ FrameEnd U o U' L R.cells R.slots)
abbrev own_MW (l : Launch) (y : MethodName) (bs : ByteArray) (ml : Nat) (rt : Option FieldType) (ws : List Jvm.Cond) (R : Room) (as' : Array Value) (Z : State) (h0 : Heap) (Q : Option Value → Heap → List Loc → Prop) : Prop :=
  MetFree l y (head1 (Jvm.Cond.code y bs ml rt :: ws) R) (fun av U => av = as' ∧ Z.Warmed39 U.vm ∧ U.heap = h0) (fun _ _ _ _ _ => True) (fun _ U o U' => ∃ v L, o = .returned v ∧ Q v U'.heap L ∧ ReturnedEndW U o U' L R.cells R.slots)
abbrev own_MH (EL : List (String × Nat)) (l : Launch) (y : MethodName) (bs : ByteArray) (ml : Nat) (rt : Option FieldType) (ws : List Jvm.Cond) (R : Room) (as' : Array Value) (Z : State) (h0 : Heap) (Q : Option Value → Heap → List Loc → Prop) : Prop :=
  MetFree l y (head1 (Jvm.Cond.code y bs ml rt :: ws) R) (fun av U => av = as' ∧ Z.Warmed39 U.vm ∧ U.heap = h0 ∧ CHv Z EL U.vm h0) (fun _ _ _ _ _ => True) (fun _ U o U' => ∃ v L, o = .returned v ∧ Q v U'.heap L ∧ CHr Z EL U.vm U.heap U'.vm U'.heap ∧ ReturnedEndW U o U' L R.cells R.slots)
theorem own_go {l : Launch} {y : MethodName} {bs : ByteArray} {ml : Nat} {rt : Option FieldType} {ws : List Jvm.Cond} {R : Room} {as' : Array Value} {Z : State} {h0 : Heap} {Q : Option Value → Heap → List Loc → Prop} (hpn : plainFor y = true) {ff : MethodId → JFrame} (hff : ∀ m, entryFrame m as' ml = ff m)
    (body : ∀ p e s m below meth c s₁, BodyLoose p l y (head1 (Jvm.Cond.code y bs ml rt :: ws) R) bs ml rt e s m as' below meth c s₁ → p.tables.exec = Jvm.exec → c.code = bs → c.maxLocals = ml → Z.Warmed39 s.vm → s.heap = h0 → s.vm.findClass y.cls = some m.cls → meth.name = y.name → Stand p l e R s m as' below meth c s₁ [] 0 0 → s₁.heap = h0 → own_G p e below s₁ (ff m) (own_E s below R Q)) : own_M l y bs ml rt ws R as' Z h0 Q := by
  refine MetFree.of_bodySF hpn hisR ?_
  intro p e s m args below meth c s₁ Bd hml0 hP hK
  obtain ⟨rfl, hZ, hh⟩ := hP
  obtain ⟨s2, g1, o, g2⟩ := body p e s m below meth c s₁ Bd Bd.exec Bd.bytes hml0 hZ hh (findClass_of_methodNamed Bd.named) (name_of_methodNamed Bd.named Bd.method).1 (Stand.of_body Bd) (by rw [← hh, Bd.state]; rfl)
  exact ⟨s2, o, castTop (hff m) g1, g2⟩
theorem own_goW {l : Launch} {y : MethodName} {bs : ByteArray} {ml : Nat} {rt : Option FieldType} {ws : List Jvm.Cond} {R : Room} {as' : Array Value} {Z : State} {h0 : Heap} {Q : Option Value → Heap → List Loc → Prop} (hpn : plainFor y = true) {ff : MethodId → JFrame} (hff : ∀ m, entryFrame m as' ml = ff m)
    (body : ∀ p e s m below meth c s₁, BodyLoose p l y (head1 (Jvm.Cond.code y bs ml rt :: ws) R) bs ml rt e s m as' below meth c s₁ → p.tables.exec = Jvm.exec → c.code = bs → c.maxLocals = ml → Z.Warmed39 s.vm → s.heap = h0 → s.vm.findClass y.cls = some m.cls → meth.name = y.name → Stand p l e R (s.setVm s.vm) m as' below meth c s₁ [] 0 0 → s₁.heap = h0 → s.Since s.vm h0.size → own_G p e below s₁ (ff m) (own_EndW s below R Q)) : own_MW l y bs ml rt ws R as' Z h0 Q := by
  refine MetFree.of_bodySF hpn hisR ?_
  intro p e s m args below meth c s₁ Bd hml0 hP hK
  obtain ⟨rfl, hZ, hh⟩ := hP
  obtain ⟨s2, g1, o, g2⟩ := body p e s m below meth c s₁ Bd Bd.exec Bd.bytes hml0 hZ hh (findClass_of_methodNamed Bd.named) (name_of_methodNamed Bd.named Bd.method).1 (Stand.of_body Bd) (by rw [← hh, Bd.state]; rfl) ((State.WarmedH.refl s).since _)
  exact ⟨s2, o, castTop (hff m) g1, g2⟩
theorem own_goH {EL : List (String × Nat)} {l : Launch} {y : MethodName} {bs : ByteArray} {ml : Nat} {rt : Option FieldType} {ws : List Jvm.Cond} {R : Room} {as' : Array Value} {Z : State} {h0 : Heap} {Q : Option Value → Heap → List Loc → Prop} (hpn : plainFor y = true) {ff : MethodId → JFrame} (hff : ∀ m, entryFrame m as' ml = ff m)
    (body : ∀ p e s m below meth c s₁, BodyLoose p l y (head1 (Jvm.Cond.code y bs ml rt :: ws) R) bs ml rt e s m as' below meth c s₁ → p.tables.exec = Jvm.exec → c.code = bs → c.maxLocals = ml → Z.Warmed39 s.vm → s.heap = h0 → s.vm.findClass y.cls = some m.cls → meth.name = y.name → Stand p l e R (s.setVm s.vm) m as' below meth c s₁ [] 0 0 → s₁.heap = h0 → s.Since s.vm h0.size → CHr Z EL s.vm h0 s.vm h0 → own_G p e below s₁ (ff m) (own_EndH Z EL s below R Q)) : own_MH EL l y bs ml rt ws R as' Z h0 Q := by
  refine MetFree.of_bodySF hpn hisR ?_
  intro p e s m args below meth c s₁ Bd hml0 hP hK
  obtain ⟨rfl, hZ, hh, hCH⟩ := hP
  obtain ⟨s2, g1, o, g2⟩ := body p e s m below meth c s₁ Bd Bd.exec Bd.bytes hml0 hZ hh (findClass_of_methodNamed Bd.named) (name_of_methodNamed Bd.named Bd.method).1 (Stand.of_body Bd) (by rw [← hh, Bd.state]; rfl) ((State.WarmedH.refl s).since _) (CHr.refl hCH)
  exact ⟨s2, o, castTop (hff m) g1, g2⟩
theorem own_pop2 {tb : Tables} [Ours tb] {e : Env} {below : List Frame} {T target : State} {m : MethodId} {c : Code} {g : JFrame} (h : At T m c below) (hx : tb.exec = Jvm.exec) (hg : g.method = m) {x : Value} {rest : List Value} (hd : decode c.code g.pc = .ok (.pop2, 1)) (hs : g.stack = x :: rest) (hc : x.category = 2)
    (hr : Steps tb e below (T.setTop { g with pc := g.pc + 1, stack := rest }) target) : Steps tb e below (T.setTop g) target := by
  subst hg
  jvm_step h [h.top, hx, hd, hs, hc]
  exact hr
section Own
variable {p : Program} {l : Launch} {e : Env} {R : Room} {s : State} {m : MethodId} {args : Array Value} {below : List Frame} {meth : Method} {c : Code} {T : State} {locs : List Loc} {cells slots : Nat} {Z : State} {h h' : Heap} {a : Addr} {k : ClassId} {ty : FieldType} {z j : Int32} {vs : List Value} {d v : Value} {g : JFrame} {rest : List Value}
theorem own_joinT {α : Type} {gj : α → JFrame} {P : α → Prop} {F : State → Prop} (X : Stand p l e R s m args below meth c T locs cells slots) (eT : T.heap = h)
    (k : ∀ T' q, P q → Stand p l e R s m args below meth c T' locs cells slots → T'.heap = h → own_G p e below T' (gj q) F) (r : (∀ T' q, P q → Stand p l e R s m args below meth c T' locs cells slots → T'.heap = h → own_G p e below T' (gj q) F) → own_G p e below T g F) : own_G p e below T g F := r k
theorem own_loop {α : Type} {gj : α → JFrame} {P : Nat → α → Prop} {F : State → Prop} (X : Stand p l e R s m args below meth c T locs cells slots) (eT : T.heap = h)
    (k : ∀ n, (∀ i, i < n → ∀ T' q, P i q → Stand p l e R s m args below meth c T' locs cells slots → T'.heap = h → own_G p e below T' (gj q) F) → ∀ T' q, P n q → Stand p l e R s m args below meth c T' locs cells slots → T'.heap = h → own_G p e below T' (gj q) F)
    (r : (∀ n T' q, P n q → Stand p l e R s m args below meth c T' locs cells slots → T'.heap = h → own_G p e below T' (gj q) F) → own_G p e below T g F) : own_G p e below T g F :=
  r fun n => Nat.strongRecOn n fun n ih => k n ih
theorem own_joinH {α : Type} {gj : α → JFrame} {P : List Loc → Heap → α → Prop} {F : State → Prop} {cells' slots' : Nat} (X : Stand p l e R s m args below meth c T locs cells slots)
    (k : ∀ T' L h' q, P L h' q → Stand p l e R s m args below meth c T' L cells' slots' → T'.heap = h' → own_G p e below T' (gj q) F) (r : (∀ T' L h' q, P L h' q → Stand p l e R s m args below meth c T' L cells' slots' → T'.heap = h' → own_G p e below T' (gj q) F) → own_G p e below T g F) : own_G p e below T g F := r k
theorem own_joinHV {α : Type} {gj : α → JFrame} {P : Vm → Nat → List Loc → Heap → α → Prop} {F : State → Prop} {cells' slots' : Nat} {vm0 : Vm} (X : Stand p l e R (s.setVm vm0) m args below meth c T locs cells slots)
    (k : ∀ vm1 k1 T' L h' q, P vm1 k1 L h' q → Stand p l e R (s.setVm vm1) m args below meth c T' L cells' slots' → T'.heap = h' → own_G p e below T' (gj q) F) (r : (∀ vm1 k1 T' L h' q, P vm1 k1 L h' q → Stand p l e R (s.setVm vm1) m args below meth c T' L cells' slots' → T'.heap = h' → own_G p e below T' (gj q) F) → own_G p e below T g F) : own_G p e below T g F := r k
theorem own_alen (X : Stand p l e R s m args below meth c T locs cells slots) (hx : p.tables.exec = Jvm.exec) (hZ : Z.Warmed39 s.vm) (eT : T.heap = h) (F : Arv Z h a k ty z vs d) (hg : g.method = m) (hs : g.stack = .ref a :: rest) (hd : decode c.code g.pc = .ok (.arraylength, 1)) :
    ∀ target, Steps p.tables e below (T.setTop { g with pc := g.pc + 1, stack := .int z :: rest }) target → Steps p.tables e below (T.setTop g) target := by
  obtain ⟨cl, A, -, S, M, -⟩ := F
  intro target hr
  refine X.arraylength hx (cell := cl) (by rw [eT]; exact A.1) (State.isArrayOf_alike hZ.alike A.2.1) hg hs hd target ?_
  rw [len_of S M]; exact hr
theorem own_ial (X : Stand p l e R s m args below meth c T locs cells slots) (hx : p.tables.exec = Jvm.exec) (hZ : Z.Warmed39 s.vm) (eT : T.heap = h) (F : Arv Z h a k .int z vs d) (hj : ¬ j < 0 ∧ j < z) (hv : vs.getD j.toNatClampNeg d = v) (hg : g.method = m) (hs : g.stack = .int j :: .ref a :: rest) (hd : decode c.code g.pc = .ok (.iaload, 1)) :
    ∀ target, Steps p.tables e below (T.setTop { g with pc := g.pc + 1, stack := v :: rest }) target → Steps p.tables e below (T.setTop g) target := by
  obtain ⟨cl, A, -, S, M, H, -⟩ := F
  intro target hr
  exact X.iaload hx (by rw [eT]; exact A.1) (State.isArrayOf_alike hZ.alike A.2.1) A.2.2 (inb_of S hj) (H.at (inb_of S hj) hv) hg hs hd target hr
theorem own_cal (X : Stand p l e R s m args below meth c T locs cells slots) (hx : p.tables.exec = Jvm.exec) (hZ : Z.Warmed39 s.vm) (eT : T.heap = h) (F : Arv Z h a k .char z vs d) (hj : ¬ j < 0 ∧ j < z) (hv : vs.getD j.toNatClampNeg d = v) (hg : g.method = m) (hs : g.stack = .int j :: .ref a :: rest) (hd : decode c.code g.pc = .ok (.caload, 1)) :
    ∀ target, Steps p.tables e below (T.setTop { g with pc := g.pc + 1, stack := v :: rest }) target → Steps p.tables e below (T.setTop g) target := by
  obtain ⟨cl, A, -, S, M, H, -⟩ := F
  intro target hr
  exact X.caload hx (by rw [eT]; exact A.1) (State.isArrayOf_alike hZ.alike A.2.1) A.2.2 (inb_of S hj) (H.at (inb_of S hj) hv) hg hs hd target hr
theorem own_bal (X : Stand p l e R s m args below meth c T locs cells slots) (hx : p.tables.exec = Jvm.exec) (hZ : Z.Warmed39 s.vm) (eT : T.heap = h) (F : Arv Z h a k .byte z vs d) (hj : ¬ j < 0 ∧ j < z) (hv : vs.getD j.toNatClampNeg d = v) (hg : g.method = m) (hs : g.stack = .int j :: .ref a :: rest) (hd : decode c.code g.pc = .ok (.baload, 1)) :
    ∀ target, Steps p.tables e below (T.setTop { g with pc := g.pc + 1, stack := v :: rest }) target → Steps p.tables e below (T.setTop g) target := by
  obtain ⟨cl, A, -, S, M, H, -⟩ := F
  intro target hr
  exact X.baloadBytes hx (by rw [eT]; exact A.1) (State.isArrayOf_alike hZ.alike A.2.1) A.2.2 (inb_of S hj) (H.at (inb_of S hj) hv) hg hs hd target hr
theorem own_lal (X : Stand p l e R s m args below meth c T locs cells slots) (hx : p.tables.exec = Jvm.exec) (hZ : Z.Warmed39 s.vm) (eT : T.heap = h) (F : Arv Z h a k .long z vs d) (hj : ¬ j < 0 ∧ j < z) (hv : vs.getD j.toNatClampNeg d = v) (hg : g.method = m) (hs : g.stack = .int j :: .ref a :: rest) (hd : decode c.code g.pc = .ok (.laload, 1)) :
    ∀ target, Steps p.tables e below (T.setTop { g with pc := g.pc + 1, stack := v :: rest }) target → Steps p.tables e below (T.setTop g) target := by
  obtain ⟨cl, A, -, S, M, H, -⟩ := F
  intro target hr
  exact X.laload hx (by rw [eT]; exact A.1) (State.isArrayOf_alike hZ.alike A.2.1) A.2.2 (inb_of S hj) (H.at (inb_of S hj) hv) hg hs hd target hr
theorem own_dal (X : Stand p l e R s m args below meth c T locs cells slots) (hx : p.tables.exec = Jvm.exec) (hZ : Z.Warmed39 s.vm) (eT : T.heap = h) (F : Arv Z h a k .double z vs d) (hj : ¬ j < 0 ∧ j < z) (hv : vs.getD j.toNatClampNeg d = v) (hg : g.method = m) (hs : g.stack = .int j :: .ref a :: rest) (hd : decode c.code g.pc = .ok (.daload, 1)) :
    ∀ target, Steps p.tables e below (T.setTop { g with pc := g.pc + 1, stack := v :: rest }) target → Steps p.tables e below (T.setTop g) target := by
  obtain ⟨cl, A, -, S, M, H, -⟩ := F
  intro target hr
  exact X.daload hx (by rw [eT]; exact A.1) (State.isArrayOf_alike hZ.alike A.2.1) A.2.2 (inb_of S hj) (H.at (inb_of S hj) hv) hg hs hd target hr
theorem own_aal (X : Stand p l e R s m args below meth c T locs cells slots) (hx : p.tables.exec = Jvm.exec) (hZ : Z.Warmed39 s.vm) (eT : T.heap = h) (F : Arv Z h a k ty z vs d) (hty : ty.isReference = true) (hj : ¬ j < 0 ∧ j < z) (hv : vs.getD j.toNatClampNeg d = v) (hg : g.method = m) (hs : g.stack = .int j :: .ref a :: rest) (hd : decode c.code g.pc = .ok (.aaload, 1)) :
    ∀ target, Steps p.tables e below (T.setTop { g with pc := g.pc + 1, stack := v :: rest }) target → Steps p.tables e below (T.setTop g) target := by
  obtain ⟨cl, A, -, S, M, H, -⟩ := F
  intro target hr
  exact X.aaload hx (by rw [eT]; exact A.1) (State.isArrayOf_alike hZ.alike A.2.1) hty A.2.2 (inb_of S hj) (H.at (inb_of S hj) hv) hg hs hd target hr
theorem own_ist (X : Stand p l e R s m args below meth c T locs cells slots) (hx : p.tables.exec = Jvm.exec) (hZ : Z.Warmed39 s.vm) (eT : T.heap = h) (F : Arv Z h a k .int z vs d) (hj : ¬ j < 0 ∧ j < z) {i : Nat} (hi : j.toNatClampNeg = i) (hl : i < vs.length) {x : Int32} (hg : g.method = m) (hs : g.stack = .int x :: .int j :: .ref a :: rest) (hd : decode c.code g.pc = .ok (.iastore, 1)) :
    ∃ T' h', Stand p l e R s m args below meth c T' (locs ++ [⟨a, j.toNatClampNeg⟩]) cells slots ∧ T'.heap = h' ∧ Wr h h' a j.toNatClampNeg (.int x) ∧ Arv Z h' a k .int z (vs.set i (.int x)) d ∧ ∀ target, Steps p.tables e below (T'.setTop { g with pc := g.pc + 1, stack := rest }) target → Steps p.tables e below (T.setTop g) target := by
  obtain ⟨cl, A, q, S, M, H, G⟩ := F
  obtain ⟨T', h', X', e', W, st⟩ := stI X hx hZ eT A (inb_of S hj) hg hs hd
  exact ⟨T', h', X', e', W, Arv.set A q S M H G rfl W i hi hl, st⟩
theorem own_lst (X : Stand p l e R s m args below meth c T locs cells slots) (hx : p.tables.exec = Jvm.exec) (hZ : Z.Warmed39 s.vm) (eT : T.heap = h) (F : Arv Z h a k .long z vs d) (hj : ¬ j < 0 ∧ j < z) {i : Nat} (hi : j.toNatClampNeg = i) (hl : i < vs.length) {x : Int64} (hg : g.method = m) (hs : g.stack = .long x :: .int j :: .ref a :: rest) (hd : decode c.code g.pc = .ok (.lastore, 1)) :
    ∃ T' h', Stand p l e R s m args below meth c T' (locs ++ [⟨a, j.toNatClampNeg⟩]) cells slots ∧ T'.heap = h' ∧ Wr h h' a j.toNatClampNeg (.long x) ∧ Arv Z h' a k .long z (vs.set i (.long x)) d ∧ ∀ target, Steps p.tables e below (T'.setTop { g with pc := g.pc + 1, stack := rest }) target → Steps p.tables e below (T.setTop g) target := by
  obtain ⟨cl, A, q, S, M, H, G⟩ := F
  obtain ⟨T', h', X', e', W, st⟩ := stJ X hx hZ eT A (inb_of S hj) hg hs hd
  exact ⟨T', h', X', e', W, Arv.set A q S M H G rfl W i hi hl, st⟩
theorem own_dst (X : Stand p l e R s m args below meth c T locs cells slots) (hx : p.tables.exec = Jvm.exec) (hZ : Z.Warmed39 s.vm) (eT : T.heap = h) (F : Arv Z h a k .double z vs d) (hj : ¬ j < 0 ∧ j < z) {i : Nat} (hi : j.toNatClampNeg = i) (hl : i < vs.length) {x : UInt64} (hg : g.method = m) (hs : g.stack = .double x :: .int j :: .ref a :: rest) (hd : decode c.code g.pc = .ok (.dastore, 1)) :
    ∃ T' h', Stand p l e R s m args below meth c T' (locs ++ [⟨a, j.toNatClampNeg⟩]) cells slots ∧ T'.heap = h' ∧ Wr h h' a j.toNatClampNeg (.double x) ∧ Arv Z h' a k .double z (vs.set i (.double x)) d ∧ ∀ target, Steps p.tables e below (T'.setTop { g with pc := g.pc + 1, stack := rest }) target → Steps p.tables e below (T.setTop g) target := by
  obtain ⟨cl, A, q, S, M, H, G⟩ := F
  obtain ⟨T', h', X', e', W, st⟩ := stD X hx hZ eT A (inb_of S hj) hg hs hd
  exact ⟨T', h', X', e', W, Arv.set A q S M H G rfl W i hi hl, st⟩
theorem own_cst (X : Stand p l e R s m args below meth c T locs cells slots) (hx : p.tables.exec = Jvm.exec) (hZ : Z.Warmed39 s.vm) (eT : T.heap = h) (F : Arv Z h a k .char z vs d) (hj : ¬ j < 0 ∧ j < z) {i : Nat} (hi : j.toNatClampNeg = i) (hl : i < vs.length) {x y : Int32} (hn : nar .char x = y) (hg : g.method = m) (hs : g.stack = .int x :: .int j :: .ref a :: rest) (hd : decode c.code g.pc = .ok (.castore, 1)) :
    ∃ T' h', Stand p l e R s m args below meth c T' (locs ++ [⟨a, j.toNatClampNeg⟩]) cells slots ∧ T'.heap = h' ∧ Wr h h' a j.toNatClampNeg (.int y) ∧ Arv Z h' a k .char z (vs.set i (.int y)) d ∧ ∀ target, Steps p.tables e below (T'.setTop { g with pc := g.pc + 1, stack := rest }) target → Steps p.tables e below (T.setTop g) target := by
  obtain ⟨cl, A, q, S, M, H, G⟩ := F
  obtain ⟨T', h', X', e', W, st⟩ := stC X hx hZ eT A (inb_of S hj) hg hs hd
  rw [hn] at W
  exact ⟨T', h', X', e', W, Arv.set A q S M H G (by rw [← hn]; exact fits_nar_char x) W i hi hl, st⟩
theorem own_bst (X : Stand p l e R s m args below meth c T locs cells slots) (hx : p.tables.exec = Jvm.exec) (hZ : Z.Warmed39 s.vm) (eT : T.heap = h) (F : Arv Z h a k .byte z vs d) (hj : ¬ j < 0 ∧ j < z) {i : Nat} (hi : j.toNatClampNeg = i) (hl : i < vs.length) {x y : Int32} (hn : nar .byte x = y) (hg : g.method = m) (hs : g.stack = .int x :: .int j :: .ref a :: rest) (hd : decode c.code g.pc = .ok (.bastore, 1)) :
    ∃ T' h', Stand p l e R s m args below meth c T' (locs ++ [⟨a, j.toNatClampNeg⟩]) cells slots ∧ T'.heap = h' ∧ Wr h h' a j.toNatClampNeg (.int y) ∧ Arv Z h' a k .byte z (vs.set i (.int y)) d ∧ ∀ target, Steps p.tables e below (T'.setTop { g with pc := g.pc + 1, stack := rest }) target → Steps p.tables e below (T.setTop g) target := by
  obtain ⟨cl, A, q, S, M, H, G⟩ := F
  obtain ⟨T', h', X', e', W, st⟩ := stB X hx hZ eT A (inb_of S hj) hg hs hd
  rw [hn] at W
  exact ⟨T', h', X', e', W, Arv.set A q S M H G (by rw [← hn]; exact fits_nar_byte x) W i hi hl, st⟩
theorem own_ast (X : Stand p l e R s m args below meth c T locs cells slots) (hx : p.tables.exec = Jvm.exec) (hZ : Z.Warmed39 s.vm) (eT : T.heap = h) (F : Arv Z h a k ty z vs d) (hty : ty.isReference = true) (hj : ¬ j < 0 ∧ j < z) {i : Nat} (hi : j.toNatClampNeg = i) (hl : i < vs.length) (hv : fits ty v = true) (Q : Sto Z h a v) (hg : g.method = m) (hs : g.stack = v :: .int j :: .ref a :: rest) (hd : decode c.code g.pc = .ok (.aastore, 1)) :
    ∃ T' h', Stand p l e R s m args below meth c T' (locs ++ [⟨a, j.toNatClampNeg⟩]) cells slots ∧ T'.heap = h' ∧ Wr h h' a j.toNatClampNeg v ∧ Arv Z h' a k ty z (vs.set i v) d ∧ ∀ target, Steps p.tables e below (T'.setTop { g with pc := g.pc + 1, stack := rest }) target → Steps p.tables e below (T.setTop g) target := by
  obtain ⟨cl, A, q, S, M, H, G⟩ := F
  obtain ⟨T', h', X', e', W, st⟩ := stR X hx hZ eT A (inb_of S hj) hty Q hg hs hd
  exact ⟨T', h', X', e', W, Arv.set A q S M H G hv W i hi hl, st⟩
theorem own_retJ (X : Stand p l e R s m args below meth c T locs cells slots) (hx : p.tables.exec = Jvm.exec) {pc : Nat} {Ls : Array Slot} {w : Int64} (hret : meth.sig.returnType = some .long) (hd : decode c.code pc = .ok (.lreturn, 1)) {fs : List Frame}
    (hl : ∀ (f : JFrame) (acts : List Action), f.method = m → f.locked = none → f.entered = [] → (doReturn e (T.setTop f) acts (some (.long w))).1 = T.setFrames fs) : Steps p.tables e below (T.setTop (mkF m pc Ls (.long w :: rest))) (T.setFrames fs) :=
  retOut X hx hret rfl (Or.inr (Or.inl ⟨rfl, rfl, w, rfl⟩)) hd hl
theorem own_retD (X : Stand p l e R s m args below meth c T locs cells slots) (hx : p.tables.exec = Jvm.exec) {pc : Nat} {Ls : Array Slot} {w : UInt64} (hret : meth.sig.returnType = some .double) (hd : decode c.code pc = .ok (.dreturn, 1)) {fs : List Frame}
    (hl : ∀ (f : JFrame) (acts : List Action), f.method = m → f.locked = none → f.entered = [] → (doReturn e (T.setTop f) acts (some (.double w))).1 = T.setFrames fs) : Steps p.tables e below (T.setTop (mkF m pc Ls (.double w :: rest))) (T.setFrames fs) :=
  retOut X hx hret rfl (Or.inr (Or.inr (Or.inl ⟨rfl, rfl, w, rfl⟩))) hd hl
theorem own_retI (X : Stand p l e R s m args below meth c T locs cells slots) (hx : p.tables.exec = Jvm.exec) {pc : Nat} {Ls : Array Slot} {w : Int32} (hret : meth.sig.returnType = some .int) (hd : decode c.code pc = .ok (.ireturn, 1)) {fs : List Frame}
    (hl : ∀ (f : JFrame) (acts : List Action), f.method = m → f.locked = none → f.entered = [] → (doReturn e (T.setTop f) acts (some (.int w))).1 = T.setFrames fs) : Steps p.tables e below (T.setTop (mkF m pc Ls (.int w :: rest))) (T.setFrames fs) :=
  retOut X hx hret rfl (Or.inl ⟨rfl, Or.inl rfl, w, rfl⟩) hd hl
theorem own_retA (X : Stand p l e R s m args below meth c T locs cells slots) (hx : p.tables.exec = Jvm.exec) {pc : Nat} {Ls : Array Slot} {w : Value} {t : FieldType} (hret : meth.sig.returnType = some t) (ht : t.isReference = true) (hn : narrow t w = w) (hw : w.isRef = true) (hd : decode c.code pc = .ok (.areturn, 1)) {fs : List Frame}
    (hl : ∀ (f : JFrame) (acts : List Action), f.method = m → f.locked = none → f.entered = [] → (doReturn e (T.setTop f) acts (some w)).1 = T.setFrames fs) : Steps p.tables e below (T.setTop (mkF m pc Ls (w :: rest))) (T.setFrames fs) :=
  retOut X hx hret hn (Or.inr (Or.inr (Or.inr (Or.inr ⟨rfl, ht, hw⟩)))) hd hl
end Own
/-- how many of the years lie below y -/
def own_c (zs : List (Int32 × Int32)) (y : Int32) : Nat := zs.countP (fun p => decide (p.1 < y))
def own_so (zs : List (Int32 × Int32)) : Prop := zs.Pairwise (fun a b => a.1 < b.1)
def own_in (zs : List (Int32 × Int32)) (y : Int32) : Prop := ∃ h, (y, h) ∈ zs
theorem own_c_le (zs : List (Int32 × Int32)) (y : Int32) : own_c zs y ≤ zs.length := List.countP_le_length
theorem own_c_nil (y : Int32) : own_c [] y = 0 := rfl
theorem own_c_t {x y h : Int32} {zs : List (Int32 × Int32)} (k : x < y) : own_c ((x, h) :: zs) y = own_c zs y + 1 := by
  unfold own_c; rw [List.countP_cons_of_pos]; exact decide_eq_true k
theorem own_c_f {x y h : Int32} {zs : List (Int32 × Int32)} (k : ¬ x < y) : own_c ((x, h) :: zs) y = own_c zs y := by
  unfold own_c; rw [List.countP_cons_of_neg]; exact fun q => k (of_decide_eq_true q)
theorem own_c_0 {y : Int32} {zs : List (Int32 × Int32)} (k : ∀ p ∈ zs, ¬ p.1 < y) : own_c zs y = 0 := by
  unfold own_c; rw [List.countP_eq_zero]; exact fun p hp q => k p hp (of_decide_eq_true q)
theorem own_ltt {a b c : Int32} (h : a < b) (k : ¬ a < c) : ¬ b < c := by
  rw [Int32.lt_iff_toInt_lt] at *; omega
theorem own_c_lt {y : Int32} : ∀ {zs : List (Int32 × Int32)} {i : Nat} (hs : own_so zs) (hi : i < zs.length), zs[i].1 < y ↔ i < own_c zs y
  | [], i, _, hi => absurd hi (Nat.not_lt_zero _)
  | (x, h) :: zs, i, hs, hi => by
    obtain ⟨h1, h2⟩ := List.pairwise_cons.mp hs
    by_cases k : x < y
    · rw [own_c_t k]
      cases i with
      | zero => exact ⟨fun _ => Nat.succ_pos _, fun _ => k⟩
      | succ i =>
        have := own_c_lt (y := y) (zs := zs) (i := i) h2 (Nat.lt_of_succ_lt_succ hi)
        rw [List.getElem_cons_succ, this]; omega
    · rw [own_c_f k, own_c_0 (fun p hp => own_ltt (h1 p hp) k)]
      refine ⟨fun g => absurd g ?_, fun g => absurd g (Nat.not_lt_zero _)⟩
      cases i with
      | zero => exact k
      | succ i => exact own_ltt (h1 _ (List.getElem_mem _)) k
theorem own_c_eq {y : Int32} {zs : List (Int32 × Int32)} {i : Nat} (hs : own_so zs) (hi : i < zs.length) : zs[i].1 = y ↔ own_in zs y ∧ i = own_c zs y := by
  have key : ∀ {i : Nat} (hi : i < zs.length), zs[i].1 = y → i = own_c zs y := by
    intro i hi h
    have a : ¬ i < own_c zs y := fun g => by
      have g := (own_c_lt (y := y) hs hi).mpr g
      rw [h, Int32.lt_iff_toInt_lt] at g; omega
    rcases Nat.lt_or_ge (own_c zs y) i with g | g
    · have hc : own_c zs y < zs.length := by omega
      have b := (own_c_lt (y := y) hs hc).mp (by
        have := List.pairwise_iff_getElem.mp hs _ _ hc hi g
        rw [h] at this; exact this)
      omega
    · omega
  refine ⟨fun h => ⟨⟨zs[i].2, ?_⟩, key hi h⟩, ?_⟩
  · rw [← h]; exact List.getElem_mem hi
  · rintro ⟨⟨h, hm⟩, rfl⟩
    obtain ⟨j, hj, e⟩ := List.getElem_of_mem hm
    have := key hj (by rw [e])
    subst this
    rw [e]
/-- what indexOf answers -/
def own_ix (zs : List (Int32 × Int32)) (y : Int32) : Int32 := if zs.any (fun p => decide (p.1 = y)) then Int32.ofNat (own_c zs y) else -(Int32.ofNat (own_c zs y)) - 1
theorem own_any {zs : List (Int32 × Int32)} {y : Int32} : zs.any (fun p => decide (p.1 = y)) = true ↔ own_in zs y := by
  rw [List.any_eq_true]
  constructor
  · rintro ⟨p, hp, h⟩
    have := of_decide_eq_true h
    exact ⟨p.2, by rw [← this]; exact hp⟩
  · rintro ⟨h, hp⟩
    exact ⟨_, hp, decide_eq_true rfl⟩
theorem own_ixt {zs : List (Int32 × Int32)} {y : Int32} (h : own_in zs y) : own_ix zs y = Int32.ofNat (own_c zs y) := if_pos (own_any.mpr h)
theorem own_ixf {zs : List (Int32 × Int32)} {y : Int32} (h : ¬ own_in zs y) : own_ix zs y = -(Int32.ofNat (own_c zs y)) - 1 := if_neg fun g => h (own_any.mp g)
/-- the hours of the years from f to t -/
def own_tot (f t : Int32) : List (Int32 × Int32) → Int64
  | [] => 0
  | (y, h) :: r => (if f ≤ y ∧ y ≤ t then h.toInt64 else 0) + own_tot f t r
/-- the hours from here on, up to year t -/
def own_run (t : Int32) : List (Int32 × Int32) → Int64
  | [] => 0
  | (y, h) :: r => if t < y then 0 else h.toInt64 + own_run t r
theorem own_tot0 {f t : Int32} : ∀ {zs : List (Int32 × Int32)}, (∀ p ∈ zs, t < p.1) → own_tot f t zs = 0
  | [], _ => rfl
  | (y, h) :: r, k => by
    have k1 := k _ (List.mem_cons_self ..)
    rw [own_tot, if_neg (fun g => by rw [Int32.lt_iff_toInt_lt] at k1; have := Int32.le_iff_toInt_le.mp g.2; dsimp only at *; omega), own_tot0 (fun p hp => k p (List.mem_cons_of_mem _ hp)), Int64.add_zero]
theorem own_runtot {f t : Int32} : ∀ {zs : List (Int32 × Int32)}, own_so zs → (∀ p ∈ zs, ¬ p.1 < f) → own_run t zs = own_tot f t zs
  | [], _, _ => rfl
  | (y, h) :: r, hs, k => by
    obtain ⟨h1, h2⟩ := List.pairwise_cons.mp hs
    have k1 := k _ (List.mem_cons_self ..)
    rw [own_run]
    by_cases g : t < y
    · rw [if_pos g, own_tot0]
      intro p hp
      rcases List.mem_cons.mp hp with rfl | hp
      · exact g
      · have := h1 p hp
        rw [Int32.lt_iff_toInt_lt] at *; dsimp only at *; omega
    · rw [if_neg g, own_tot, if_pos ⟨by rw [Int32.lt_iff_toInt_lt] at k1; rw [Int32.le_iff_toInt_le]; dsimp only at *; omega, by rw [Int32.lt_iff_toInt_lt] at g; rw [Int32.le_iff_toInt_le]; omega⟩,
        own_runtot h2 (fun p hp => k p (List.mem_cons_of_mem _ hp))]
theorem own_drop {f t : Int32} : ∀ {zs : List (Int32 × Int32)}, own_so zs → own_run t (zs.drop (own_c zs f)) = own_tot f t zs
  | [], _ => rfl
  | (y, h) :: r, hs => by
    obtain ⟨h1, h2⟩ := List.pairwise_cons.mp hs
    by_cases g : y < f
    · rw [own_c_t g, List.drop_succ_cons, own_drop h2, own_tot, if_neg (fun q => by rw [Int32.lt_iff_toInt_lt] at g; have := Int32.le_iff_toInt_le.mp q.1; omega), Int64.zero_add]
    · rw [own_c_f g, own_c_0 (fun p hp => own_ltt (h1 p hp) g), List.drop_zero]
      refine own_runtot hs ?_
      intro p hp
      rcases List.mem_cons.mp hp with rfl | hp
      · exact g
      · exact own_ltt (h1 p hp) g
def own_part (y h f t : Int32) : Int64 := if f ≤ y ∧ y ≤ t then h.toInt64 else 0
/-- the list with h more hours in year y -/
def own_add (y h : Int32) : List (Int32 × Int32) → List (Int32 × Int32)
  | [] => [(y, h)]
  | (x, k) :: r => if x < y then (x, k) :: own_add y h r else if x = y then (x, k + h) :: r else (y, h) :: (x, k) :: r
def own_bd (b : Int) (zs : List (Int32 × Int32)) : Prop := ∀ p ∈ zs, 0 ≤ p.2.toInt ∧ p.2.toInt ≤ b
theorem own_add_tot {y h f t : Int32} {b : Int} (hb : b ≤ 1000000) (h0 : 0 ≤ h.toInt) (h1 : h.toInt ≤ 1023) : ∀ {zs : List (Int32 × Int32)}, own_bd b zs → own_tot f t (own_add y h zs) = own_tot f t zs + own_part y h f t
  | [], _ => by
    show own_part y h f t + 0 = 0 + own_part y h f t
    rw [Int64.zero_add, Int64.add_zero]
  | (x, k) :: r, hd => by
    have ih := own_add_tot (y := y) (f := f) (t := t) hb h0 h1 (zs := r) (fun p hp => hd p (List.mem_cons_of_mem _ hp))
    rw [own_add]
    by_cases g : x < y
    · rw [if_pos g, own_tot, own_tot, ih, Int64.add_assoc]
    · rw [if_neg g]
      by_cases g2 : x = y
      · subst g2
        rw [if_pos rfl, own_tot, own_tot, own_part]
        by_cases q : f ≤ x ∧ x ≤ t
        · rw [if_pos q, if_pos q, if_pos q]
          have hk := hd _ (List.mem_cons_self ..)
          have : (k + h).toInt64 = k.toInt64 + h.toInt64 := by
            rw [← Int64.toInt_inj, Int32.toInt_toInt64, Int64.toInt_add, Int32.toInt_toInt64, Int32.toInt_toInt64, Int32.toInt_add]
            dsimp only at hk
            rw [Int.bmod_eq_of_le (by omega) (by omega), Int.bmod_eq_of_le (by omega) (by omega)]
          rw [this, Int64.add_assoc, Int64.add_assoc, Int64.add_comm h.toInt64]
        · rw [if_neg q, if_neg q, if_neg q, Int64.add_zero]
      · rw [if_neg g2, own_tot, Int64.add_comm]; rfl
theorem own_add_bd {y h : Int32} {b : Int} (hb0 : 0 ≤ b) (hb : b ≤ 1000000) (h0 : 0 ≤ h.toInt) (h1 : h.toInt ≤ 1023) : ∀ {zs : List (Int32 × Int32)}, own_bd b zs → own_bd (b + 1023) (own_add y h zs)
  | [], _ => by
    intro p hp; rw [own_add] at hp
    rw [List.mem_singleton.mp hp]; exact ⟨h0, by dsimp only; omega⟩
  | (x, k) :: r, hd => by
    have ih := own_add_bd (y := y) hb0 hb h0 h1 (zs := r) (fun p hp => hd p (List.mem_cons_of_mem _ hp))
    have hk := hd _ (List.mem_cons_self ..)
    have hr : ∀ p ∈ r, 0 ≤ p.2.toInt ∧ p.2.toInt ≤ b + 1023 := fun p hp => by have := hd p (List.mem_cons_of_mem _ hp); omega
    intro p hp
    rw [own_add] at hp
    dsimp only at hk
    by_cases g : x < y
    · rw [if_pos g] at hp
      rcases List.mem_cons.mp hp with rfl | hp
      · dsimp only; omega
      · exact ih p hp
    · rw [if_neg g] at hp
      by_cases g2 : x = y
      · rw [if_pos g2] at hp
        rcases List.mem_cons.mp hp with rfl | hp
        · dsimp only
          rw [Int32.toInt_add, Int.bmod_eq_of_le (by omega) (by omega)]; omega
        · exact hr p hp
      · rw [if_neg g2] at hp
        rcases List.mem_cons.mp hp with rfl | hp
        · dsimp only; omega
        · rcases List.mem_cons.mp hp with rfl | hp
          · dsimp only; omega
          · exact hr p hp
theorem own_add_mem {y h : Int32} : ∀ {zs : List (Int32 × Int32)} {p : Int32 × Int32}, p ∈ own_add y h zs → p.1 = y ∨ ∃ q ∈ zs, q.1 = p.1
  | [], p, hp => by
    rw [own_add] at hp; rw [List.mem_singleton.mp hp]; exact Or.inl rfl
  | (x, k) :: r, p, hp => by
    rw [own_add] at hp
    by_cases g : x < y
    · rw [if_pos g] at hp
      rcases List.mem_cons.mp hp with rfl | hp
      · exact Or.inr ⟨_, List.mem_cons_self .., rfl⟩
      · rcases own_add_mem hp with e | ⟨q, hq, e⟩
        · exact Or.inl e
        · exact Or.inr ⟨q, List.mem_cons_of_mem _ hq, e⟩
    · rw [if_neg g] at hp
      by_cases g2 : x = y
      · rw [if_pos g2] at hp
        rcases List.mem_cons.mp hp with rfl | hp
        · exact Or.inl g2
        · exact Or.inr ⟨p, List.mem_cons_of_mem _ hp, rfl⟩
      · rw [if_neg g2] at hp
        rcases List.mem_cons.mp hp with rfl | hp
        · exact Or.inl rfl
        · exact Or.inr ⟨p, hp, rfl⟩
theorem own_add_so {y h : Int32} : ∀ {zs : List (Int32 × Int32)}, own_so zs → own_so (own_add y h zs)
  | [], _ => List.pairwise_singleton ..
  | (x, k) :: r, hs => by
    obtain ⟨h1, h2⟩ := List.pairwise_cons.mp hs
    rw [own_add]
    by_cases g : x < y
    · rw [if_pos g]
      refine List.pairwise_cons.mpr ⟨fun p hp => ?_, own_add_so h2⟩
      rcases own_add_mem hp with e | ⟨q, hq, e⟩
      · rw [e]; exact g
      · rw [← e]; exact h1 q hq
    · rw [if_neg g]
      by_cases g2 : x = y
      · rw [if_pos g2]; exact List.pairwise_cons.mpr ⟨h1, h2⟩
      · rw [if_neg g2]
        have yx : y < x := by
          rw [Int32.lt_iff_toInt_lt] at *
          have : x.toInt ≠ y.toInt := fun e => g2 (Int32.toInt_inj.mp e)
          omega
        refine List.pairwise_cons.mpr ⟨fun p hp => ?_, hs⟩
        rcases List.mem_cons.mp hp with rfl | hp
        · exact yx
        · have := h1 p hp; rw [Int32.lt_iff_toInt_lt] at *; dsimp only at *; omega
/-- found at c: the c-th pair is changed -/
theorem own_add_in {y h : Int32} : ∀ {zs : List (Int32 × Int32)}, own_so zs → own_in zs y → ∃ k, zs.map (·.1) = (own_add y h zs).map (·.1) ∧ (zs.map (·.2))[own_c zs y]? = some k ∧ (own_add y h zs).map (·.2) = (zs.map (·.2)).set (own_c zs y) (k + h)
  | [], _, ⟨_, hm⟩ => by cases hm
  | (x, k) :: r, hs, hm => by
    obtain ⟨h1, h2⟩ := List.pairwise_cons.mp hs
    rw [own_add]
    by_cases g : x < y
    · have hm2 : own_in r y := by
        obtain ⟨v, hv⟩ := hm
        rcases List.mem_cons.mp hv with e | e
        · cases e; rw [Int32.lt_iff_toInt_lt] at g; omega
        · exact ⟨v, e⟩
      obtain ⟨k2, a1, a2, a3⟩ := own_add_in (h := h) h2 hm2
      rw [if_pos g, own_c_t g]
      exact ⟨k2, by rw [List.map_cons, List.map_cons, a1], by rw [List.map_cons, List.getElem?_cons_succ, a2], by rw [List.map_cons, List.map_cons, List.set_cons_succ, a3]⟩
    · rw [if_neg g, own_c_f g, own_c_0 (fun p hp => own_ltt (h1 p hp) g)]
      have e : x = y := by
        obtain ⟨v, hv⟩ := hm
        rcases List.mem_cons.mp hv with e | e
        · cases e; rfl
        · exact absurd (h1 _ e) g
      rw [if_pos e]
      exact ⟨k, rfl, rfl, rfl⟩
/-- not found: the pair is laid in at c -/
theorem own_add_out {y h : Int32} : ∀ {zs : List (Int32 × Int32)}, own_so zs → ¬ own_in zs y → own_add y h zs = zs.take (own_c zs y) ++ (y, h) :: zs.drop (own_c zs y)
  | [], _, _ => rfl
  | (x, k) :: r, hs, hm => by
    obtain ⟨h1, h2⟩ := List.pairwise_cons.mp hs
    rw [own_add]
    by_cases g : x < y
    · rw [if_pos g, own_c_t g, own_add_out h2 (fun ⟨v, hv⟩ => hm ⟨v, List.mem_cons_of_mem _ hv⟩), List.take_succ_cons, List.drop_succ_cons, List.cons_append]
    · rw [if_neg g, own_c_f g, own_c_0 (fun p hp => own_ltt (h1 p hp) g), if_neg (fun e => hm ⟨k, by rw [e]; exact List.mem_cons_self ..⟩)]
      rfl
theorem own_add_len {y h : Int32} : ∀ {zs : List (Int32 × Int32)}, (own_add y h zs).length ≤ zs.length + 1
  | [] => Nat.le_refl _
  | (x, k) :: r => by
    have := own_add_len (y := y) (h := h) (zs := r)
    rw [own_add]
    by_cases g : x < y
    · rw [if_pos g]; exact Nat.succ_le_succ this
    · rw [if_neg g]
      by_cases g2 : x = y
      · rw [if_pos g2]; exact Nat.le_succ _
      · rw [if_neg g2]; exact Nat.le_refl _

abbrev own_Z := List (Int32 × Int32)
def own_ya (zs : own_Z) (pa : List Value) : List Value := zs.map (fun p => Value.int p.1) ++ pa
def own_ha (zs : own_Z) (pb : List Value) : List Value := zs.map (fun p => Value.int p.2) ++ pb
def own_y (zs : own_Z) (i : Nat) : Int32 := (zs.getD i (0, 0)).1
def own_h (zs : own_Z) (i : Nat) : Int32 := (zs.getD i (0, 0)).2
theorem own_tn {i : Nat} (h : i ≤ 1000) : (Int32.ofNat i).toNatClampNeg = i := by
  rw [Int32.toNatClampNeg, Int32.toInt_ofNat_of_lt (by omega)]; omega
theorem own_ti {i : Nat} (h : i ≤ 1000) : (Int32.ofNat i).toInt = (i : Int) := Int32.toInt_ofNat_of_lt (by omega)
theorem own_idx {i k : Nat} (h : i < k) (hk : k ≤ 1000) : ¬ Int32.ofNat i < 0 ∧ Int32.ofNat i < Int32.ofNat k := by
  rw [Int32.lt_iff_toInt_lt, Int32.lt_iff_toInt_lt, own_ti (by omega), own_ti hk, show (0 : Int32).toInt = 0 from rfl]; omega
theorem own_yg {zs : own_Z} {pa : List Value} {d : Value} {i : Nat} (h : i < zs.length) (hi : i ≤ 1000) : (own_ya zs pa).getD (Int32.ofNat i).toNatClampNeg d = .int (own_y zs i) := by
  rw [own_tn hi, own_ya, own_y, List.getD_eq_getElem?_getD, List.getD_eq_getElem?_getD, List.getElem?_append_left (by rw [List.length_map]; exact h), List.getElem?_map, List.getElem?_eq_getElem h]; rfl
theorem own_hg {zs : own_Z} {pa : List Value} {d : Value} {i : Nat} (h : i < zs.length) (hi : i ≤ 1000) : (own_ha zs pa).getD (Int32.ofNat i).toNatClampNeg d = .int (own_h zs i) := by
  rw [own_tn hi, own_ha, own_h, List.getD_eq_getElem?_getD, List.getD_eq_getElem?_getD, List.getElem?_append_left (by rw [List.length_map]; exact h), List.getElem?_map, List.getElem?_eq_getElem h]; rfl
theorem own_yat {zs : own_Z} {i : Nat} (h : i < zs.length) : own_y zs i = zs[i].1 := by
  rw [own_y, List.getD_eq_getElem?_getD, List.getElem?_eq_getElem h]; rfl
theorem own_pos {n : Nat} (h : 0 < Int32.ofNat n) : 1 ≤ n := by
  rcases Nat.eq_zero_or_pos n with rfl | q
  · exact absurd h (by decide)
  · exact q
theorem own_pred {n : Nat} (h : 1 ≤ n) (h2 : n ≤ 100) : Int32.ofNat n - 1 = Int32.ofNat (n - 1) := by
  rw [← Int32.toInt_inj, Int32.toInt_sub, own_ti (by omega), own_ti (by omega), show (1 : Int32).toInt = 1 from rfl, Int.bmod_eq_of_le (by omega) (by omega)]; omega
theorem own_succ {n : Nat} (h2 : n ≤ 99) : Int32.ofNat n + 1 = Int32.ofNat (n + 1) := by
  rw [← Int32.toInt_inj, Int32.toInt_add, own_ti (by omega), own_ti (by omega), show (1 : Int32).toInt = 1 from rfl, Int.bmod_eq_of_le (by omega) (by omega)]; omega
theorem own_sub {n i : Nat} (h : i ≤ n) (h2 : n ≤ 100) : Int32.ofNat n - Int32.ofNat i = Int32.ofNat (n - i) := by
  rw [← Int32.toInt_inj, Int32.toInt_sub, own_ti (by omega), own_ti (by omega), own_ti (by omega), Int.bmod_eq_of_le (by omega) (by omega)]; omega
theorem own_mid {lo hh : Nat} (h : lo < hh) (h2 : hh ≤ 100) : XT.ushr (Int32.ofNat lo + (Int32.ofNat hh - 1)) (1 : Int32) = Int32.ofNat ((lo + hh - 1) / 2) := by
  have e : Int32.ofNat lo + (Int32.ofNat hh - 1) = Int32.ofNat (lo + hh - 1) := by
    rw [own_pred (by omega) h2, ← Int32.toInt_inj, Int32.toInt_add, own_ti (by omega), own_ti (by omega), own_ti (by omega), Int.bmod_eq_of_le (by omega) (by omega)]; omega
  rw [e]
  have key : ∀ n : Fin 200, XT.ushr (Int32.ofNat n.val) (1 : Int32) = Int32.ofNat (n.val / 2) := by decide +kernel
  exact key ⟨lo + hh - 1, by omega⟩
theorem own_mid0 {hh : Nat} (h : 0 < hh) (h2 : hh ≤ 100) : XT.ushr ((0 : Int32) + (Int32.ofNat hh - 1)) (1 : Int32) = Int32.ofNat ((0 + hh - 1) / 2) := own_mid (lo := 0) h h2
theorem own_lohi {lo hh : Nat} (h1 : lo ≤ 100) (h2 : hh ≤ 100) (h : ¬ (Int32.ofNat hh - 1) < Int32.ofNat lo) : lo < hh := by
  rw [Int32.lt_iff_toInt_lt, Int32.toInt_sub, own_ti (by omega), own_ti (by omega), show (1 : Int32).toInt = 1 from rfl, Int.bmod_eq_of_le (by omega) (by omega)] at h; omega
theorem own_lohi' {lo hh : Nat} (h1 : lo ≤ 100) (h2 : hh ≤ 100) (h : (Int32.ofNat hh - 1) < Int32.ofNat lo) : hh ≤ lo := by
  rw [Int32.lt_iff_toInt_lt, Int32.toInt_sub, own_ti (by omega), own_ti (by omega), show (1 : Int32).toInt = 1 from rfl, Int.bmod_eq_of_le (by omega) (by omega)] at h; omega
theorem own_inlt {zs : own_Z} {y : Int32} (hs : own_so zs) (h : own_in zs y) : own_c zs y < zs.length := by
  obtain ⟨v, hm⟩ := h
  obtain ⟨j, hj, e⟩ := List.getElem_of_mem hm
  have := ((own_c_eq (y := y) hs hj).mp (by rw [e])).2
  omega
theorem own_up {zs : own_Z} {y : Int32} {i : Nat} (hs : own_so zs) (hi : i < zs.length) (h : own_y zs i < y) : i + 1 ≤ own_c zs y := by
  rw [own_yat hi] at h; exact (own_c_lt hs hi).mp h
theorem own_dn {zs : own_Z} {y : Int32} {i : Nat} (hs : own_so zs) (hi : i < zs.length) (h : ¬ own_y zs i < y) (h2 : y < own_y zs i) : own_c zs y ≤ i ∧ (own_in zs y → own_c zs y < i) := by
  rw [own_yat hi] at h h2
  have a : ¬ i < own_c zs y := fun g => h ((own_c_lt hs hi).mpr g)
  refine ⟨by omega, fun g => ?_⟩
  rcases Nat.lt_or_ge (own_c zs y) i with q | q
  · exact q
  · have := (own_c_eq hs hi).mpr ⟨g, by omega⟩
    rw [this, Int32.lt_iff_toInt_lt] at h2; omega
theorem own_b1 {zs : own_Z} {y : Int32} {i : Nat} (hs : own_so zs) (hi : i < zs.length) (h : ¬ own_y zs i < y) (h2 : ¬ y < own_y zs i) : Int32.ofNat i = own_ix zs y := by
  have e : zs[i].1 = y := by
    rw [own_yat hi, Int32.lt_iff_toInt_lt] at h h2; exact Int32.toInt_inj.mp (by omega)
  obtain ⟨a, b⟩ := (own_c_eq hs hi).mp e
  rw [own_ixt a, b]
theorem own_neg1 {n : Nat} (h : n ≤ 100) : -(Int32.ofNat n + 1) = -(Int32.ofNat n) - 1 := by
  rw [← Int32.toInt_inj, Int32.toInt_neg, Int32.toInt_add, Int32.toInt_sub, Int32.toInt_neg, own_ti (by omega), show (1 : Int32).toInt = 1 from rfl, Int.bmod_eq_of_le (n := (n : Int) + 1) (by omega) (by omega), Int.bmod_eq_of_le (n := -(n : Int)) (by omega) (by omega), Int.bmod_eq_of_le (by omega) (by omega), Int.bmod_eq_of_le (by omega) (by omega)]; omega
theorem own_b2 {zs : own_Z} {y : Int32} {lo hh : Nat} (hs : own_so zs) (h8 : zs.length ≤ 8) (h : lo ≤ own_c zs y ∧ own_c zs y ≤ hh ∧ hh ≤ zs.length ∧ (own_in zs y → own_c zs y < hh)) (g : hh ≤ lo) : -(Int32.ofNat lo + 1) = own_ix zs y := by
  have e : own_c zs y = lo := by omega
  rw [own_ixf (fun q => by have := h.2.2.2 q; omega), e, own_neg1 (by omega)]
theorem own_r1 {zs : own_Z} {y : Int32} (hs : own_so zs) (h8 : zs.length ≤ 8) (h1 : 1 ≤ zs.length) (h : own_y zs (zs.length - 1) = y) : Int32.ofNat zs.length - 1 = own_ix zs y := by
  rw [own_yat (by omega)] at h
  obtain ⟨a, b⟩ := (own_c_eq hs (show zs.length - 1 < zs.length by omega)).mp h
  rw [own_ixt a, ← b, own_pred h1 (by omega)]
theorem own_r2 {zs : own_Z} {y : Int32} (hs : own_so zs) (h1 : 1 ≤ zs.length) (h : own_y zs (zs.length - 1) < y) : -(Int32.ofNat zs.length) - 1 = own_ix zs y := by
  have a := own_up hs (show zs.length - 1 < zs.length by omega) h
  have b := own_c_le zs y
  rw [own_ixf (fun q => by have := own_inlt hs q; omega), show own_c zs y = zs.length by omega]
theorem own_z0 {n : Nat} (h : n ≤ 8) (g : ¬ 0 < Int32.ofNat n) : Int32.ofNat n = 0 := by
  rw [Int32.lt_iff_toInt_lt, own_ti (by omega), show (0 : Int32).toInt = 0 from rfl] at g
  rw [show n = 0 by omega]; rfl
theorem own_r0 {zs : own_Z} {y : Int32} (h8 : zs.length ≤ 8) (g : ¬ 0 < Int32.ofNat zs.length) : -(Int32.ofNat zs.length) - 1 = own_ix zs y := by
  rw [Int32.lt_iff_toInt_lt, own_ti (by omega), show (0 : Int32).toInt = 0 from rfl] at g
  obtain rfl : zs = [] := List.length_eq_zero_iff.mp (by omega)
  rfl
theorem own_nz {n : Nat} (h : n ≤ 8) (g : 0 < Int32.ofNat n) : ¬ Int32.ofNat n = 0 := fun e => by rw [e] at g; exact absurd g (by decide)
theorem own_ixneg {zs : own_Z} {y : Int32} (h8 : zs.length ≤ 8) (h : own_ix zs y < 0) : ¬ own_in zs y ∧ -(own_ix zs y) - 1 = Int32.ofNat (own_c zs y) := by
  have hc := own_c_le zs y
  have hn : ¬ own_in zs y := fun g => by
    rw [own_ixt g, Int32.lt_iff_toInt_lt, own_ti (by omega), show (0 : Int32).toInt = 0 from rfl] at h; omega
  refine ⟨hn, ?_⟩
  rw [own_ixf hn, ← Int32.toInt_inj]
  generalize own_c zs y = n at *
  rw [Int32.toInt_sub, Int32.toInt_neg, Int32.toInt_sub, Int32.toInt_neg, own_ti (by omega), show (1 : Int32).toInt = 1 from rfl, Int.bmod_eq_of_le (n := -(n : Int)) (by omega) (by omega), Int.bmod_eq_of_le (n := -(n : Int) - 1) (by omega) (by omega), Int.bmod_eq_of_le (n := -(-(n : Int) - 1)) (by omega) (by omega), Int.bmod_eq_of_le (by omega) (by omega)]; omega
theorem own_ixpos {zs : own_Z} {y : Int32} (h8 : zs.length ≤ 8) (h : ¬ own_ix zs y < 0) : own_in zs y ∧ own_ix zs y = Int32.ofNat (own_c zs y) := by
  have hc := own_c_le zs y
  have hn : own_in zs y := Classical.byContradiction fun g => by
    rw [own_ixf g, Int32.lt_iff_toInt_lt, show (0 : Int32).toInt = 0 from rfl] at h
    generalize own_c zs y = n at *
    rw [Int32.toInt_sub, Int32.toInt_neg, own_ti (by omega), show (1 : Int32).toInt = 1 from rfl, Int.bmod_eq_of_le (n := -(n : Int)) (by omega) (by omega), Int.bmod_eq_of_le (by omega) (by omega)] at h
    omega
  exact ⟨hn, own_ixt hn⟩
/-- the list with (y, 0) laid in at i -/
def own_ins (zs : own_Z) (i : Nat) (y h : Int32) : own_Z := zs.take i ++ (y, h) :: zs.drop i
theorem own_ins_len {zs : own_Z} {i : Nat} {y h : Int32} (hi : i ≤ zs.length) : (own_ins zs i y h).length = zs.length + 1 := by
  rw [own_ins, List.length_append, List.length_cons, List.length_take, List.length_drop]; omega
/-- an array moved up by one from i on, k of its words -/
def own_mv (ls : List Value) (i k : Nat) : List Value := ls.take (i + 1) ++ ((List.range k).map fun j => ls.getD (i + j) (.int (0 : Int32))) ++ ls.drop (i + 1 + k)
theorem own_mv_eq {ls p : List Value} {i : Nat} {v : Value} (hi : i ≤ ls.length) (hp : 1 ≤ p.length) : i < (own_mv (ls ++ p) i (ls.length - i)).length ∧ (own_mv (ls ++ p) i (ls.length - i)).set i v = (ls.take i ++ v :: ls.drop i) ++ p.tail := by
  have e1 : ((List.range (ls.length - i)).map fun j => (ls ++ p).getD (i + j) (.int (0 : Int32))) = ls.drop i := by
    refine List.ext_getElem (by simp) fun j h1 h2 => ?_
    simp only [List.length_map, List.length_range] at h1
    rw [List.getElem_map, List.getElem_range, List.getD_eq_getElem?_getD, List.getElem?_append_left (by omega), List.getElem?_eq_getElem (by omega), List.getElem_drop]; rfl
  obtain ⟨l1, l2, rfl, rfl⟩ : ∃ l1 l2 : List Value, ls = l1 ++ l2 ∧ i = l1.length := ⟨ls.take i, ls.drop i, (List.take_append_drop i ls).symm, by rw [List.length_take]; omega⟩
  obtain ⟨w, r, rfl⟩ : ∃ w r, p = w :: r := by
    cases p with
    | nil => exact absurd hp (by decide)
    | cons w r => exact ⟨w, r, rfl⟩
  unfold own_mv
  rw [e1]
  have e2 : List.drop l1.length (l1 ++ l2) = l2 := by simp
  have e3 : List.take l1.length (l1 ++ l2) = l1 := by simp
  have e4 : (l1 ++ l2 ++ w :: r).drop (l1.length + 1 + ((l1 ++ l2).length - l1.length)) = r := by
    rw [show l1.length + 1 + ((l1 ++ l2).length - l1.length) = (l1 ++ l2 ++ [w]).length by simp; omega, show l1 ++ l2 ++ w :: r = (l1 ++ l2 ++ [w]) ++ r by simp]
    exact List.drop_left
  obtain ⟨u, e5⟩ : ∃ u, (l1 ++ l2 ++ w :: r).take (l1.length + 1) = l1 ++ [u] := by
    cases l2 with
    | nil =>
      refine ⟨w, ?_⟩
      rw [show l1 ++ [] ++ w :: r = (l1 ++ [w]) ++ r by simp, show l1.length + 1 = (l1 ++ [w]).length by simp]
      exact List.take_left
    | cons u l2 =>
      refine ⟨u, ?_⟩
      rw [show l1 ++ u :: l2 ++ w :: r = (l1 ++ [u]) ++ (l2 ++ w :: r) by simp, show l1.length + 1 = (l1 ++ [u]).length by simp]
      exact List.take_left
  rw [e2, e3, e4, e5]
  refine ⟨by simp <;> omega, ?_⟩
  simp
def own_gy (zs : own_Z) : List Value := zs.map fun p => Value.int p.1
theorem own_mvY {zs : own_Z} {pa : List Value} {i : Nat} {y h : Int32} (hi : i ≤ zs.length) (hp : 1 ≤ pa.length) : i < (own_mv (own_ya zs pa) i (zs.length - i)).length ∧ (own_mv (own_ya zs pa) i (zs.length - i)).set i (.int y) = own_ya (own_ins zs i y h) pa.tail := by
  have q := own_mv_eq (ls := zs.map fun p => Value.int p.1) (p := pa) (i := i) (v := .int y) (by rw [List.length_map]; exact hi) hp
  rw [List.length_map] at q
  refine ⟨q.1, q.2.trans ?_⟩
  rw [own_ya, own_ins, List.map_append, List.map_cons, List.map_take, List.map_drop]
theorem own_mvH {zs : own_Z} {pa : List Value} {i : Nat} {y h : Int32} (hi : i ≤ zs.length) (hp : 1 ≤ pa.length) : i < (own_mv (own_ha zs pa) i (zs.length - i)).length ∧ (own_mv (own_ha zs pa) i (zs.length - i)).set i (.int h) = own_ha (own_ins zs i y h) pa.tail := by
  have q := own_mv_eq (ls := zs.map fun p => Value.int p.2) (p := pa) (i := i) (v := .int h) (by rw [List.length_map]; exact hi) hp
  rw [List.length_map] at q
  refine ⟨q.1, q.2.trans ?_⟩
  rw [own_ha, own_ins, List.map_append, List.map_cons, List.map_take, List.map_drop]
theorem own_le3 {n k : Nat} (h : n ≤ k) (h8 : k ≤ 8) : ¬ Int32.ofNat n < 0 ∧ ¬ (0 : Int32) < 0 ∧ ¬ Int32.ofNat k < Int32.ofNat n := by
  refine ⟨?_, by decide, ?_⟩
  · rw [Int32.lt_iff_toInt_lt, own_ti (by omega), show (0 : Int32).toInt = 0 from rfl]; omega
  · rw [Int32.lt_iff_toInt_lt, own_ti (by omega), own_ti (by omega)]; omega
theorem own_ine {n k : Nat} (h : n < k) (h8 : k ≤ 8) : ¬ Int32.ofNat n = Int32.ofNat k := fun e => by
  have := congrArg Int32.toInt e
  rw [own_ti (by omega), own_ti (by omega)] at this; omega
theorem own_yaS {zs zt : own_Z} {pa : List Value} (h : zs.map (·.1) = zt.map (·.1)) : own_ya zs pa = own_ya zt pa := by
  unfold own_ya
  rw [show (zs.map fun p => Value.int p.1) = (zs.map (·.1)).map Value.int by rw [List.map_map]; rfl, h, List.map_map]; rfl
theorem own_haF {zs : own_Z} {pb : List Value} {y h k : Int32} (hl : own_c zs y < zs.length) (h2 : (zs.map (·.2))[own_c zs y]? = some k) (h3 : (own_add y h zs).map (·.2) = (zs.map (·.2)).set (own_c zs y) (k + h)) :
    own_h zs (own_c zs y) = k ∧ (own_ha zs pb).set (own_c zs y) (.int (k + h)) = own_ha (own_add y h zs) pb := by
  constructor
  · rw [List.getElem?_map, List.getElem?_eq_getElem hl] at h2
    rw [own_h, List.getD_eq_getElem?_getD, List.getElem?_eq_getElem hl]
    exact Option.some.inj h2
  · unfold own_ha
    rw [show ((own_add y h zs).map fun p => Value.int p.2) = ((own_add y h zs).map (·.2)).map Value.int by rw [List.map_map]; rfl, h3, List.map_set, List.map_map, List.set_append_left _ _ (by rw [List.length_map]; exact hl)]; rfl
theorem own_insh {zs : own_Z} {i : Nat} {y h : Int32} (hi : i ≤ zs.length) : own_h (own_ins zs i y h) i = h := by
  unfold own_h own_ins
  rw [List.getD_eq_getElem?_getD, List.getElem?_append_right (by rw [List.length_take]; omega), List.length_take, show i - min i zs.length = 0 by omega]; rfl
theorem own_inset {zs : own_Z} {pb : List Value} {i : Nat} {y h k : Int32} (hi : i ≤ zs.length) : (own_ha (own_ins zs i y k) pb).set i (.int h) = own_ha (own_ins zs i y h) pb := by
  unfold own_ha own_ins
  obtain ⟨l1, l2, rfl, rfl⟩ : ∃ l1 l2 : own_Z, zs = l1 ++ l2 ∧ i = l1.length := ⟨zs.take i, zs.drop i, (List.take_append_drop i zs).symm, by rw [List.length_take]; omega⟩
  simp
theorem own_insy {zs : own_Z} {pa : List Value} {i : Nat} {y h k : Int32} : own_ya (own_ins zs i y k) pa = own_ya (own_ins zs i y h) pa := own_yaS (by simp [own_ins])
/-- what an add says of the list -/
def own_nx (zs zt : own_Z) (y h : Int32) (b : Int) : Prop := own_so zt ∧ own_bd (b + 1023) zt ∧ zt.length ≤ zs.length + 1 ∧ ∀ f t, own_tot f t zt = own_tot f t zs + own_part y h f t
theorem own_nxt {zs : own_Z} {y h : Int32} {b : Int} (hs : own_so zs) (hb : own_bd b zs) (b0 : 0 ≤ b ∧ b ≤ 1000000) (hh : 0 ≤ h.toInt ∧ h.toInt ≤ 1023) : own_nx zs (own_add y h zs) y h b :=
  ⟨own_add_so hs, own_add_bd b0.1 b0.2 hh.1 hh.2 hb, own_add_len, fun f t => own_add_tot b0.2 hh.1 hh.2 hb⟩
theorem own_addF {zs : own_Z} {y h : Int32} (hs : own_so zs) (hi : own_in zs y) (pa pb : List Value) : own_c zs y < zs.length ∧ own_ya zs pa = own_ya (own_add y h zs) pa ∧ (own_add y h zs).length = zs.length ∧ (own_ha zs pb).set (own_c zs y) (.int (own_h zs (own_c zs y) + h)) = own_ha (own_add y h zs) pb := by
  obtain ⟨k, a1, a2, a3⟩ := own_add_in (h := h) hs hi
  have hl := own_inlt hs hi
  obtain ⟨c1, c2⟩ := own_haF (pb := pb) hl a2 a3
  refine ⟨hl, own_yaS a1, ?_, ?_⟩
  · have := congrArg List.length a1
    rw [List.length_map, List.length_map] at this; exact this.symm
  · rw [c1]; exact c2
theorem own_addN {zs : own_Z} {y h : Int32} (hs : own_so zs) (hi : ¬ own_in zs y) : own_add y h zs = own_ins zs (own_c zs y) y h := own_add_out hs hi
theorem d7_0 : decode jdk_65_method_30_code 0 = .ok (.iload_n 1, 1) := by decide +kernel
theorem d7_1 : decode jdk_65_method_30_code 1 = .ok (.iload_n 2, 1) := by decide +kernel
theorem d7_2 : decode jdk_65_method_30_code 2 = .ok (.if_icmp .le 44, 3) := by decide +kernel
theorem d7_46 : decode jdk_65_method_30_code 46 = .ok (.iload_n 1, 1) := by decide +kernel
theorem d7_47 : decode jdk_65_method_30_code 47 = .ok (.ifCond .ge 12, 3) := by decide +kernel
theorem d7_59 : decode jdk_65_method_30_code 59 = .ok (.iload_n 2, 1) := by decide +kernel
theorem d7_60 : decode jdk_65_method_30_code 60 = .ok (.iload_n 0, 1) := by decide +kernel
theorem d7_61 : decode jdk_65_method_30_code 61 = .ok (.if_icmp .le 12, 3) := by decide +kernel
theorem d7_73 : decode jdk_65_method_30_code 73 = .ok (.return_, 1) := by decide +kernel
set_option maxHeartbeats 4000000 in
theorem own_ef1 (m : MethodId) (x0 : Int32) (x1 : Int32) (x2 : Int32) : entryFrame m #[(.int x0), (.int x1), (.int x2)] 3 = mkF m 0 #[.val (.int x0), .val (.int x1), .val (.int x2)] [] := by first | (simp [entryFrame, mkF, argsToLocals, Value.category]; done) | rfl
def own_rcQ (Z : State) (u0 : Int32) (u1 : Int32) (u2 : Int32) (h0 : Heap) (n0 : Nat) (v : Option Value) (h : Heap) (L : List Loc) : Prop := v = none ∧ Fr n0 L ∧ h = h0
theorem own_pn1 : plainName "java/util/Arrays" = true := by first | (simp [plainName, overriddenIn]; done) | decide +kernel
abbrev own_rcR : Room := { frames := 0, cells := 0, slots := 0, locals := 0 }
set_option maxRecDepth 65536 in
set_option maxHeartbeats 40000000 in
theorem own_rc (l : Launch) (Z : State) (a0 : Array Value) (hw : ∀ d ∈ tables_1, d.before a0 Z = true) (ws : List Jvm.Cond) (u0 : Int32) (u1 : Int32) (u2 : Int32) (h0 : Heap) (n0 : Nat) (Z0 : n0 ≤ h0.size) (pr1 : ¬ u2 < u1) (pr2 : ¬ u1 < 0) (pr3 : ¬ u0 < u2) :
    own_M l (⟨"java/util/Arrays", "rangeCheck", "(III)V"⟩ : MethodName) jdk_65_method_30_code 3 none ws own_rcR #[(.int u0), (.int u1), (.int u2)] Z h0 (own_rcQ Z u0 u1 u2 h0 n0) := by
  refine own_go (plainFor_of_name own_pn1) (fun m => own_ef1 m u0 u1 u2 ) ?_
  intro p e s m below meth c s₁ Bd hx hby hml hZ hh hown hnm X0 e0
  have N0 := Fr.nil n0
  refine own_st (T' := s₁) (g' := (mkF m 73 #[.val (.int u0), .val (.int u1), .val (.int u2)] [])) (fun _ kt => XS.iloadN X0.here hx rfl (hb hby d7_0) rfl (XS.iloadN X0.here hx rfl (hb hby d7_1) rfl (XS.icmpYes X0.here hx rfl (pc0 := 2) (pc' := 46) rfl (hb hby d7_2) rfl (XT.ii_le_t pr1) (by decide) (by decide) (XS.iloadN X0.here hx rfl (hb hby d7_46) rfl (XS.ifYes X0.here hx rfl (pc0 := 47) (pc' := 59) rfl (hb hby d7_47) rfl (XT.i0_ge_t pr2) (by decide) (by decide) (XS.iloadN X0.here hx rfl (hb hby d7_59) rfl (XS.iloadN X0.here hx rfl (hb hby d7_60) rfl (XS.icmpYes X0.here hx rfl (pc0 := 61) (pc' := 73) rfl (hb hby d7_61) rfl (XT.ii_le_t pr3) (by decide) (by decide) kt)))))))) ?_
  obtain ⟨fs, hr, hrun, hended, hW, hsame⟩ := X0.leave (v := none) (fun _ => rfl)
  refine own_end (X0.returnOut hx Bd.returns (hb hby d7_73) hr) ⟨_, hrun, hended, _, _, rfl, ?_, ⟨_, rfl⟩, hW, hsame.mono (by decide) (by decide)⟩
  show own_rcQ Z _ _ _ h0 n0 _ s₁.heap _
  rw [e0]
  exact ⟨rfl, N0, rfl⟩
theorem d8_63 : decode jdk_65_method_59_code 63 = .ok (.goto (-55), 3) := by decide +kernel
theorem d8_8 : decode jdk_65_method_59_code 8 = .ok (.iload 4, 2) := by decide +kernel
theorem d8_10 : decode jdk_65_method_59_code 10 = .ok (.iload 5, 2) := by decide +kernel
theorem d8_12 : decode jdk_65_method_59_code 12 = .ok (.if_icmp .gt 54, 3) := by decide +kernel
theorem d8_66 : decode jdk_65_method_59_code 66 = .ok (.iload 4, 2) := by decide +kernel
theorem d8_68 : decode jdk_65_method_59_code 68 = .ok (.iconst 1, 1) := by decide +kernel
theorem d8_69 : decode jdk_65_method_59_code 69 = .ok (.iadd, 1) := by decide +kernel
theorem d8_70 : decode jdk_65_method_59_code 70 = .ok (.ineg, 1) := by decide +kernel
theorem d8_71 : decode jdk_65_method_59_code 71 = .ok (.ireturn, 1) := by decide +kernel
theorem d8_15 : decode jdk_65_method_59_code 15 = .ok (.iload 4, 2) := by decide +kernel
theorem d8_17 : decode jdk_65_method_59_code 17 = .ok (.iload 5, 2) := by decide +kernel
theorem d8_19 : decode jdk_65_method_59_code 19 = .ok (.iadd, 1) := by decide +kernel
theorem d8_20 : decode jdk_65_method_59_code 20 = .ok (.iconst 1, 1) := by decide +kernel
theorem d8_21 : decode jdk_65_method_59_code 21 = .ok (.iushr, 1) := by decide +kernel
theorem d8_22 : decode jdk_65_method_59_code 22 = .ok (.istore 6, 2) := by decide +kernel
theorem d8_24 : decode jdk_65_method_59_code 24 = .ok (.aload_n 0, 1) := by decide +kernel
theorem d8_25 : decode jdk_65_method_59_code 25 = .ok (.iload 6, 2) := by decide +kernel
theorem d8_27 : decode jdk_65_method_59_code 27 = .ok (.iaload, 1) := by decide +kernel
theorem d8_28 : decode jdk_65_method_59_code 28 = .ok (.istore 7, 2) := by decide +kernel
theorem d8_30 : decode jdk_65_method_59_code 30 = .ok (.iload 7, 2) := by decide +kernel
theorem d8_32 : decode jdk_65_method_59_code 32 = .ok (.iload_n 3, 1) := by decide +kernel
theorem d8_33 : decode jdk_65_method_59_code 33 = .ok (.if_icmp .ge 12, 3) := by decide +kernel
theorem d8_36 : decode jdk_65_method_59_code 36 = .ok (.iload 6, 2) := by decide +kernel
theorem d8_38 : decode jdk_65_method_59_code 38 = .ok (.iconst 1, 1) := by decide +kernel
theorem d8_39 : decode jdk_65_method_59_code 39 = .ok (.iadd, 1) := by decide +kernel
theorem d8_40 : decode jdk_65_method_59_code 40 = .ok (.istore 4, 2) := by decide +kernel
theorem d8_42 : decode jdk_65_method_59_code 42 = .ok (.goto 21, 3) := by decide +kernel
theorem d8_45 : decode jdk_65_method_59_code 45 = .ok (.iload 7, 2) := by decide +kernel
theorem d8_47 : decode jdk_65_method_59_code 47 = .ok (.iload_n 3, 1) := by decide +kernel
theorem d8_48 : decode jdk_65_method_59_code 48 = .ok (.if_icmp .le 12, 3) := by decide +kernel
theorem d8_51 : decode jdk_65_method_59_code 51 = .ok (.iload 6, 2) := by decide +kernel
theorem d8_53 : decode jdk_65_method_59_code 53 = .ok (.iconst 1, 1) := by decide +kernel
theorem d8_54 : decode jdk_65_method_59_code 54 = .ok (.isub, 1) := by decide +kernel
theorem d8_55 : decode jdk_65_method_59_code 55 = .ok (.istore 5, 2) := by decide +kernel
theorem d8_57 : decode jdk_65_method_59_code 57 = .ok (.goto 6, 3) := by decide +kernel
theorem d8_60 : decode jdk_65_method_59_code 60 = .ok (.iload 6, 2) := by decide +kernel
theorem d8_62 : decode jdk_65_method_59_code 62 = .ok (.ireturn, 1) := by decide +kernel
theorem d8_0 : decode jdk_65_method_59_code 0 = .ok (.iload_n 1, 1) := by decide +kernel
theorem d8_1 : decode jdk_65_method_59_code 1 = .ok (.istore 4, 2) := by decide +kernel
theorem d8_3 : decode jdk_65_method_59_code 3 = .ok (.iload_n 2, 1) := by decide +kernel
theorem d8_4 : decode jdk_65_method_59_code 4 = .ok (.iconst 1, 1) := by decide +kernel
theorem d8_5 : decode jdk_65_method_59_code 5 = .ok (.isub, 1) := by decide +kernel
theorem d8_6 : decode jdk_65_method_59_code 6 = .ok (.istore 5, 2) := by decide +kernel
set_option maxHeartbeats 4000000 in
theorem own_ef2 (m : MethodId) (x0 : Addr) (x1 : Int32) (x2 : Int32) (x3 : Int32) : entryFrame m #[(.ref x0), (.int x1), (.int x2), (.int x3)] 8 = mkF m 0 #[.val (.ref x0), .val (.int x1), .val (.int x2), .val (.int x3), .unset, .unset, .unset, .unset] [] := by first | (simp [entryFrame, mkF, argsToLocals, Value.category]; done) | rfl
def own_b0Q (Z : State) (x0 : Addr) (kx : ClassId) (zs : own_Z) (pa : List Value) (cap : Nat) (y : Int32) (h0 : Heap) (n0 : Nat) (v : Option Value) (h : Heap) (L : List Loc) : Prop := v = some (.int (own_ix zs y)) ∧ Fr n0 L ∧ h = h0
abbrev own_b0R : Room := { frames := 0, cells := 0, slots := 0, locals := 0 }
set_option maxRecDepth 65536 in
set_option maxHeartbeats 40000000 in
theorem own_b0 (l : Launch) (Z : State) (a0 : Array Value) (hw : ∀ d ∈ tables_1, d.before a0 Z = true) (ws : List Jvm.Cond) (x0 : Addr) (kx : ClassId) (zs : own_Z) (pa : List Value) (cap : Nat) (y : Int32) (h0 : Heap) (n0 : Nat) (Z0 : n0 ≤ h0.size) (pr1 : Arv Z h0 x0 kx .int (Int32.ofNat cap) (own_ya zs pa) (.int (0 : Int32))) (pr2 : own_so zs) (pr3 : zs.length ≤ 8) (pr4 : 1 ≤ zs.length) (pr5 : zs.length ≤ cap) (pr6 : cap ≤ 8) :
    own_M l (⟨"java/util/Arrays", "binarySearch0", "([IIII)I"⟩ : MethodName) jdk_65_method_59_code 8 (some .int) ws own_b0R #[(.ref x0), (.int (0 : Int32)), (.int (Int32.ofNat zs.length)), (.int y)] Z h0 (own_b0Q Z x0 kx zs pa cap y h0 n0) := by
  refine own_go (plainFor_of_name own_pn1) (fun m => own_ef2 m x0 (0 : Int32) (Int32.ofNat zs.length) y ) ?_
  intro p e s m below meth c s₁ Bd hx hby hml hZ hh hown hnm X0 e0
  have N0 := Fr.nil n0
  refine own_loop (α := Nat × Nat × Int32 × Int32) X0 e0 (gj := fun q => (mkF m 63 #[.val (.ref x0), .val (.int (0 : Int32)), .val (.int (Int32.ofNat zs.length)), .val (.int y), .val (.int (Int32.ofNat q.1)), .val (.int ((Int32.ofNat q.2.1) - (1 : Int32))), .val (.int q.2.2.1), .val (.int q.2.2.2)] [])) (P := fun kk q => q.1 ≤ own_c zs y ∧ own_c zs y ≤ q.2.1 ∧ q.2.1 ≤ zs.length ∧ (own_in zs y → own_c zs y < q.2.1) ∧ q.2.1 - q.1 = kk) ?_ (fun L1 => ?_)
  · rintro kk ih1 T1 ⟨lo, hh, m6, m7⟩ hv X1 e1
    try dsimp only at hv ⊢
    refine own_st (T' := T1) (g' := (mkF m 12 #[.val (.ref x0), .val (.int (0 : Int32)), .val (.int (Int32.ofNat zs.length)), .val (.int y), .val (.int (Int32.ofNat lo)), .val (.int ((Int32.ofNat hh) - (1 : Int32))), .val (.int m6), .val (.int m7)] [(.int ((Int32.ofNat hh) - (1 : Int32))), (.int (Int32.ofNat lo))])) (fun _ kt => XS.goto X1.here hx rfl (pc0 := 63) (pc' := 8) rfl (hb hby d8_63) (by decide) (by decide) (XS.iload X1.here hx rfl (hb hby d8_8) rfl (XS.iload X1.here hx rfl (hb hby d8_10) rfl kt))) ?_
    by_cases hc2 : ((Int32.ofNat hh) - (1 : Int32)) < (Int32.ofNat lo)
    · -- pc 12: ((Int32.ofNat hh) - (1 : Int32)) < (Int32.ofNat lo)
      refine own_st (T' := T1) (g' := (mkF m 71 #[.val (.ref x0), .val (.int (0 : Int32)), .val (.int (Int32.ofNat zs.length)), .val (.int y), .val (.int (Int32.ofNat lo)), .val (.int ((Int32.ofNat hh) - (1 : Int32))), .val (.int m6), .val (.int m7)] [(.int (-((Int32.ofNat lo) + (1 : Int32))))])) (fun _ kt => XS.icmpYes X1.here hx rfl (pc0 := 12) (pc' := 66) rfl (hb hby d8_12) rfl (XT.ii_gt_t hc2) (by decide) (by decide) (XS.iload X1.here hx rfl (hb hby d8_66) rfl (XS.iconst X1.here hx rfl (hb hby d8_68) (XS.iadd X1.here hx rfl (hb hby d8_69) rfl (XS.ineg X1.here hx rfl (hb hby d8_70) rfl kt))))) ?_
      obtain ⟨fs, hr, hrun, hended, hW, hsame⟩ := X1.leave (v := some (.int (-((Int32.ofNat lo) + (1 : Int32))))) (fun h => by rw [Bd.returns] at h; cases h)
      refine own_end (own_retI X1 hx Bd.returns (hb hby d8_71) hr) ⟨_, hrun, hended, _, _, rfl, ?_, ⟨_, rfl⟩, hW, hsame.mono (by decide) (by decide)⟩
      show own_b0Q Z _ _ _ _ _ _ h0 n0 _ T1.heap _
      rw [e1]
      exact ⟨(congrArg (fun z => some (Value.int z)) (own_b2 pr2 pr3 ⟨hv.1, hv.2.1, hv.2.2.1, hv.2.2.2.1⟩ (own_lohi' (by have := own_c_le zs y; omega) (by omega) hc2))), N0, rfl⟩
    · -- pc 12: not ((Int32.ofNat hh) - (1 : Int32)) < (Int32.ofNat lo)
      refine own_st (T' := T1) (g' := (mkF m 22 #[.val (.ref x0), .val (.int (0 : Int32)), .val (.int (Int32.ofNat zs.length)), .val (.int y), .val (.int (Int32.ofNat lo)), .val (.int ((Int32.ofNat hh) - (1 : Int32))), .val (.int m6), .val (.int m7)] [(.int (XT.ushr ((Int32.ofNat lo) + ((Int32.ofNat hh) - (1 : Int32))) (1 : Int32)))])) (fun _ kt => XS.icmpNo X1.here hx rfl (hb hby d8_12) rfl (XT.ii_gt_f hc2) (XS.iload X1.here hx rfl (hb hby d8_15) rfl (XS.iload X1.here hx rfl (hb hby d8_17) rfl (XS.iadd X1.here hx rfl (hb hby d8_19) rfl (XS.iconst X1.here hx rfl (hb hby d8_20) (XT.iushr X1.here hx rfl (hb hby d8_21) rfl kt)))))) ?_
      have hm : lo < hh := own_lohi (by have := own_c_le zs y; omega) (by omega) hc2
      have hm2 : (lo + hh - 1) / 2 < zs.length := by omega
      rw [own_mid hm (by omega)]
      refine own_st (T' := T1) (g' := (mkF m 27 #[.val (.ref x0), .val (.int (0 : Int32)), .val (.int (Int32.ofNat zs.length)), .val (.int y), .val (.int (Int32.ofNat lo)), .val (.int ((Int32.ofNat hh) - (1 : Int32))), .val (.int (Int32.ofNat ((lo + hh - 1) / 2))), .val (.int m7)] [(.int (Int32.ofNat ((lo + hh - 1) / 2))), (.ref x0)])) (fun _ kt => XS.istore X1.here hx rfl (hb hby d8_22) rfl (l' := #[.val (.ref x0), .val (.int (0 : Int32)), .val (.int (Int32.ofNat zs.length)), .val (.int y), .val (.int (Int32.ofNat lo)), .val (.int ((Int32.ofNat hh) - (1 : Int32))), .val (.int (Int32.ofNat ((lo + hh - 1) / 2))), .val (.int m7)]) rfl (XS.aloadN X1.here hx rfl (hb hby d8_24) rfl rfl (XS.iload X1.here hx rfl (hb hby d8_25) rfl kt))) ?_
      refine own_st (T' := T1) (g' := (mkF m 28 #[.val (.ref x0), .val (.int (0 : Int32)), .val (.int (Int32.ofNat zs.length)), .val (.int y), .val (.int (Int32.ofNat lo)), .val (.int ((Int32.ofNat hh) - (1 : Int32))), .val (.int (Int32.ofNat ((lo + hh - 1) / 2))), .val (.int m7)] [(.int (own_y zs ((lo + hh - 1) / 2)))])) (own_ial X1 hx hZ e1 pr1 (own_idx (by omega) (by omega)) (own_yg (by omega) (by omega)) (g := (mkF m 27 #[.val (.ref x0), .val (.int (0 : Int32)), .val (.int (Int32.ofNat zs.length)), .val (.int y), .val (.int (Int32.ofNat lo)), .val (.int ((Int32.ofNat hh) - (1 : Int32))), .val (.int (Int32.ofNat ((lo + hh - 1) / 2))), .val (.int m7)] [(.int (Int32.ofNat ((lo + hh - 1) / 2))), (.ref x0)])) rfl rfl (hb hby d8_27)) ?_
      refine own_st (T' := T1) (g' := (mkF m 33 #[.val (.ref x0), .val (.int (0 : Int32)), .val (.int (Int32.ofNat zs.length)), .val (.int y), .val (.int (Int32.ofNat lo)), .val (.int ((Int32.ofNat hh) - (1 : Int32))), .val (.int (Int32.ofNat ((lo + hh - 1) / 2))), .val (.int (own_y zs ((lo + hh - 1) / 2)))] [(.int y), (.int (own_y zs ((lo + hh - 1) / 2)))])) (fun _ kt => XS.istore X1.here hx rfl (hb hby d8_28) rfl (l' := #[.val (.ref x0), .val (.int (0 : Int32)), .val (.int (Int32.ofNat zs.length)), .val (.int y), .val (.int (Int32.ofNat lo)), .val (.int ((Int32.ofNat hh) - (1 : Int32))), .val (.int (Int32.ofNat ((lo + hh - 1) / 2))), .val (.int (own_y zs ((lo + hh - 1) / 2)))]) rfl (XS.iload X1.here hx rfl (hb hby d8_30) rfl (XS.iloadN X1.here hx rfl (hb hby d8_32) rfl kt))) ?_
      by_cases hc3 : (own_y zs ((lo + hh - 1) / 2)) < y
      · -- pc 33: (own_y zs ((lo + hh - 1) / 2)) < y
        refine own_st (T' := T1) (g' := (mkF m 40 #[.val (.ref x0), .val (.int (0 : Int32)), .val (.int (Int32.ofNat zs.length)), .val (.int y), .val (.int (Int32.ofNat lo)), .val (.int ((Int32.ofNat hh) - (1 : Int32))), .val (.int (Int32.ofNat ((lo + hh - 1) / 2))), .val (.int (own_y zs ((lo + hh - 1) / 2)))] [(.int ((Int32.ofNat ((lo + hh - 1) / 2)) + (1 : Int32)))])) (fun _ kt => XS.icmpNo X1.here hx rfl (hb hby d8_33) rfl (XT.ii_ge_f hc3) (XS.iload X1.here hx rfl (hb hby d8_36) rfl (XS.iconst X1.here hx rfl (hb hby d8_38) (XS.iadd X1.here hx rfl (hb hby d8_39) rfl kt)))) ?_
        rw [own_succ (n := ((lo + hh - 1) / 2)) (by omega)]
        refine own_st (T' := T1) (g' := (mkF m 63 #[.val (.ref x0), .val (.int (0 : Int32)), .val (.int (Int32.ofNat zs.length)), .val (.int y), .val (.int (Int32.ofNat (((lo + hh - 1) / 2) + 1))), .val (.int ((Int32.ofNat hh) - (1 : Int32))), .val (.int (Int32.ofNat ((lo + hh - 1) / 2))), .val (.int (own_y zs ((lo + hh - 1) / 2)))] [])) (fun _ kt => XS.istore X1.here hx rfl (hb hby d8_40) rfl (l' := #[.val (.ref x0), .val (.int (0 : Int32)), .val (.int (Int32.ofNat zs.length)), .val (.int y), .val (.int (Int32.ofNat (((lo + hh - 1) / 2) + 1))), .val (.int ((Int32.ofNat hh) - (1 : Int32))), .val (.int (Int32.ofNat ((lo + hh - 1) / 2))), .val (.int (own_y zs ((lo + hh - 1) / 2)))]) rfl (XS.goto X1.here hx rfl (pc0 := 42) (pc' := 63) rfl (hb hby d8_42) (by decide) (by decide) kt)) ?_
        exact ih1 (hh - (((lo + hh - 1) / 2) + 1)) (by have := hv.2.2.2.2; omega) _ ⟨(((lo + hh - 1) / 2) + 1), hh, (Int32.ofNat ((lo + hh - 1) / 2)), (own_y zs ((lo + hh - 1) / 2))⟩ ⟨own_up pr2 hm2 hc3, hv.2.1, hv.2.2.1, hv.2.2.2.1, rfl⟩ X1 e1
      · -- pc 33: not (own_y zs ((lo + hh - 1) / 2)) < y
        refine own_st (T' := T1) (g' := (mkF m 48 #[.val (.ref x0), .val (.int (0 : Int32)), .val (.int (Int32.ofNat zs.length)), .val (.int y), .val (.int (Int32.ofNat lo)), .val (.int ((Int32.ofNat hh) - (1 : Int32))), .val (.int (Int32.ofNat ((lo + hh - 1) / 2))), .val (.int (own_y zs ((lo + hh - 1) / 2)))] [(.int y), (.int (own_y zs ((lo + hh - 1) / 2)))])) (fun _ kt => XS.icmpYes X1.here hx rfl (pc0 := 33) (pc' := 45) rfl (hb hby d8_33) rfl (XT.ii_ge_t hc3) (by decide) (by decide) (XS.iload X1.here hx rfl (hb hby d8_45) rfl (XS.iloadN X1.here hx rfl (hb hby d8_47) rfl kt))) ?_
        by_cases hc4 : y < (own_y zs ((lo + hh - 1) / 2))
        · -- pc 48: y < (own_y zs ((lo + hh - 1) / 2))
          refine own_st (T' := T1) (g' := (mkF m 63 #[.val (.ref x0), .val (.int (0 : Int32)), .val (.int (Int32.ofNat zs.length)), .val (.int y), .val (.int (Int32.ofNat lo)), .val (.int ((Int32.ofNat ((lo + hh - 1) / 2)) - (1 : Int32))), .val (.int (Int32.ofNat ((lo + hh - 1) / 2))), .val (.int (own_y zs ((lo + hh - 1) / 2)))] [])) (fun _ kt => XS.icmpNo X1.here hx rfl (hb hby d8_48) rfl (XT.ii_le_f hc4) (XS.iload X1.here hx rfl (hb hby d8_51) rfl (XS.iconst X1.here hx rfl (hb hby d8_53) (XS.isub X1.here hx rfl (hb hby d8_54) rfl (XS.istore X1.here hx rfl (hb hby d8_55) rfl (l' := #[.val (.ref x0), .val (.int (0 : Int32)), .val (.int (Int32.ofNat zs.length)), .val (.int y), .val (.int (Int32.ofNat lo)), .val (.int ((Int32.ofNat ((lo + hh - 1) / 2)) - (1 : Int32))), .val (.int (Int32.ofNat ((lo + hh - 1) / 2))), .val (.int (own_y zs ((lo + hh - 1) / 2)))]) rfl (XS.goto X1.here hx rfl (pc0 := 57) (pc' := 63) rfl (hb hby d8_57) (by decide) (by decide) kt)))))) ?_
          exact ih1 (((lo + hh - 1) / 2) - lo) (by have := hv.2.2.2.2; omega) _ ⟨lo, ((lo + hh - 1) / 2), (Int32.ofNat ((lo + hh - 1) / 2)), (own_y zs ((lo + hh - 1) / 2))⟩ ⟨hv.1, (own_dn pr2 hm2 hc3 hc4).1, Nat.le_of_lt hm2, (own_dn pr2 hm2 hc3 hc4).2, rfl⟩ X1 e1
        · -- pc 48: not y < (own_y zs ((lo + hh - 1) / 2))
          refine own_st (T' := T1) (g' := (mkF m 62 #[.val (.ref x0), .val (.int (0 : Int32)), .val (.int (Int32.ofNat zs.length)), .val (.int y), .val (.int (Int32.ofNat lo)), .val (.int ((Int32.ofNat hh) - (1 : Int32))), .val (.int (Int32.ofNat ((lo + hh - 1) / 2))), .val (.int (own_y zs ((lo + hh - 1) / 2)))] [(.int (Int32.ofNat ((lo + hh - 1) / 2)))])) (fun _ kt => XS.icmpYes X1.here hx rfl (pc0 := 48) (pc' := 60) rfl (hb hby d8_48) rfl (XT.ii_le_t hc4) (by decide) (by decide) (XS.iload X1.here hx rfl (hb hby d8_60) rfl kt)) ?_
          obtain ⟨fs, hr, hrun, hended, hW, hsame⟩ := X1.leave (v := some (.int (Int32.ofNat ((lo + hh - 1) / 2)))) (fun h => by rw [Bd.returns] at h; cases h)
          refine own_end (own_retI X1 hx Bd.returns (hb hby d8_62) hr) ⟨_, hrun, hended, _, _, rfl, ?_, ⟨_, rfl⟩, hW, hsame.mono (by decide) (by decide)⟩
          show own_b0Q Z _ _ _ _ _ _ h0 n0 _ T1.heap _
          rw [e1]
          exact ⟨(congrArg (fun z => some (Value.int z)) (own_b1 pr2 hm2 hc3 hc4)), N0, rfl⟩
  ·
    refine own_st (T' := s₁) (g' := (mkF m 20 #[.val (.ref x0), .val (.int (0 : Int32)), .val (.int (Int32.ofNat zs.length)), .val (.int y), .val (.int (0 : Int32)), .val (.int ((Int32.ofNat zs.length) - (1 : Int32))), .unset, .unset] [(.int ((0 : Int32) + ((Int32.ofNat zs.length) - (1 : Int32))))])) (fun _ kt => XS.iloadN X0.here hx rfl (hb hby d8_0) rfl (XS.istore X0.here hx rfl (hb hby d8_1) rfl (l' := #[.val (.ref x0), .val (.int (0 : Int32)), .val (.int (Int32.ofNat zs.length)), .val (.int y), .val (.int (0 : Int32)), .unset, .unset, .unset]) rfl (XS.iloadN X0.here hx rfl (hb hby d8_3) rfl (XS.iconst X0.here hx rfl (hb hby d8_4) (XS.isub X0.here hx rfl (hb hby d8_5) rfl (XS.istore X0.here hx rfl (hb hby d8_6) rfl (l' := #[.val (.ref x0), .val (.int (0 : Int32)), .val (.int (Int32.ofNat zs.length)), .val (.int y), .val (.int (0 : Int32)), .val (.int ((Int32.ofNat zs.length) - (1 : Int32))), .unset, .unset]) rfl (XS.iload X0.here hx rfl (hb hby d8_8) rfl (XS.iload X0.here hx rfl (hb hby d8_10) rfl (XS.icmpNo X0.here hx rfl (hb hby d8_12) rfl (XT.ii_gt_f (fun g => by have := own_lohi' (lo := 0) (by omega) (by omega) g; omega)) (XS.iload X0.here hx rfl (hb hby d8_15) rfl (XS.iload X0.here hx rfl (hb hby d8_17) rfl (XS.iadd X0.here hx rfl (hb hby d8_19) rfl kt)))))))))))) ?_
    refine own_st (T' := s₁) (g' := (mkF m 22 #[.val (.ref x0), .val (.int (0 : Int32)), .val (.int (Int32.ofNat zs.length)), .val (.int y), .val (.int (0 : Int32)), .val (.int ((Int32.ofNat zs.length) - (1 : Int32))), .unset, .unset] [(.int (XT.ushr ((0 : Int32) + ((Int32.ofNat zs.length) - (1 : Int32))) (1 : Int32)))])) (fun _ kt => XS.iconst X0.here hx rfl (hb hby d8_20) (XT.iushr X0.here hx rfl (hb hby d8_21) rfl kt)) ?_
    have hm : 0 < zs.length := pr4
    have hm2 : (0 + zs.length - 1) / 2 < zs.length := by omega
    rw [own_mid0 hm (by omega)]
    refine own_st (T' := s₁) (g' := (mkF m 27 #[.val (.ref x0), .val (.int (0 : Int32)), .val (.int (Int32.ofNat zs.length)), .val (.int y), .val (.int (0 : Int32)), .val (.int ((Int32.ofNat zs.length) - (1 : Int32))), .val (.int (Int32.ofNat ((0 + zs.length - 1) / 2))), .unset] [(.int (Int32.ofNat ((0 + zs.length - 1) / 2))), (.ref x0)])) (fun _ kt => XS.istore X0.here hx rfl (hb hby d8_22) rfl (l' := #[.val (.ref x0), .val (.int (0 : Int32)), .val (.int (Int32.ofNat zs.length)), .val (.int y), .val (.int (0 : Int32)), .val (.int ((Int32.ofNat zs.length) - (1 : Int32))), .val (.int (Int32.ofNat ((0 + zs.length - 1) / 2))), .unset]) rfl (XS.aloadN X0.here hx rfl (hb hby d8_24) rfl rfl (XS.iload X0.here hx rfl (hb hby d8_25) rfl kt))) ?_
    refine own_st (T' := s₁) (g' := (mkF m 28 #[.val (.ref x0), .val (.int (0 : Int32)), .val (.int (Int32.ofNat zs.length)), .val (.int y), .val (.int (0 : Int32)), .val (.int ((Int32.ofNat zs.length) - (1 : Int32))), .val (.int (Int32.ofNat ((0 + zs.length - 1) / 2))), .unset] [(.int (own_y zs ((0 + zs.length - 1) / 2)))])) (own_ial X0 hx hZ e0 pr1 (own_idx (by omega) (by omega)) (own_yg (by omega) (by omega)) (g := (mkF m 27 #[.val (.ref x0), .val (.int (0 : Int32)), .val (.int (Int32.ofNat zs.length)), .val (.int y), .val (.int (0 : Int32)), .val (.int ((Int32.ofNat zs.length) - (1 : Int32))), .val (.int (Int32.ofNat ((0 + zs.length - 1) / 2))), .unset] [(.int (Int32.ofNat ((0 + zs.length - 1) / 2))), (.ref x0)])) rfl rfl (hb hby d8_27)) ?_
    refine own_st (T' := s₁) (g' := (mkF m 33 #[.val (.ref x0), .val (.int (0 : Int32)), .val (.int (Int32.ofNat zs.length)), .val (.int y), .val (.int (0 : Int32)), .val (.int ((Int32.ofNat zs.length) - (1 : Int32))), .val (.int (Int32.ofNat ((0 + zs.length - 1) / 2))), .val (.int (own_y zs ((0 + zs.length - 1) / 2)))] [(.int y), (.int (own_y zs ((0 + zs.length - 1) / 2)))])) (fun _ kt => XS.istore X0.here hx rfl (hb hby d8_28) rfl (l' := #[.val (.ref x0), .val (.int (0 : Int32)), .val (.int (Int32.ofNat zs.length)), .val (.int y), .val (.int (0 : Int32)), .val (.int ((Int32.ofNat zs.length) - (1 : Int32))), .val (.int (Int32.ofNat ((0 + zs.length - 1) / 2))), .val (.int (own_y zs ((0 + zs.length - 1) / 2)))]) rfl (XS.iload X0.here hx rfl (hb hby d8_30) rfl (XS.iloadN X0.here hx rfl (hb hby d8_32) rfl kt))) ?_
    by_cases hc5 : (own_y zs ((0 + zs.length - 1) / 2)) < y
    · -- pc 33: (own_y zs ((0 + zs.length - 1) / 2)) < y
      refine own_st (T' := s₁) (g' := (mkF m 40 #[.val (.ref x0), .val (.int (0 : Int32)), .val (.int (Int32.ofNat zs.length)), .val (.int y), .val (.int (0 : Int32)), .val (.int ((Int32.ofNat zs.length) - (1 : Int32))), .val (.int (Int32.ofNat ((0 + zs.length - 1) / 2))), .val (.int (own_y zs ((0 + zs.length - 1) / 2)))] [(.int ((Int32.ofNat ((0 + zs.length - 1) / 2)) + (1 : Int32)))])) (fun _ kt => XS.icmpNo X0.here hx rfl (hb hby d8_33) rfl (XT.ii_ge_f hc5) (XS.iload X0.here hx rfl (hb hby d8_36) rfl (XS.iconst X0.here hx rfl (hb hby d8_38) (XS.iadd X0.here hx rfl (hb hby d8_39) rfl kt)))) ?_
      rw [own_succ (n := ((0 + zs.length - 1) / 2)) (by omega)]
      refine own_st (T' := s₁) (g' := (mkF m 63 #[.val (.ref x0), .val (.int (0 : Int32)), .val (.int (Int32.ofNat zs.length)), .val (.int y), .val (.int (Int32.ofNat (((0 + zs.length - 1) / 2) + 1))), .val (.int ((Int32.ofNat zs.length) - (1 : Int32))), .val (.int (Int32.ofNat ((0 + zs.length - 1) / 2))), .val (.int (own_y zs ((0 + zs.length - 1) / 2)))] [])) (fun _ kt => XS.istore X0.here hx rfl (hb hby d8_40) rfl (l' := #[.val (.ref x0), .val (.int (0 : Int32)), .val (.int (Int32.ofNat zs.length)), .val (.int y), .val (.int (Int32.ofNat (((0 + zs.length - 1) / 2) + 1))), .val (.int ((Int32.ofNat zs.length) - (1 : Int32))), .val (.int (Int32.ofNat ((0 + zs.length - 1) / 2))), .val (.int (own_y zs ((0 + zs.length - 1) / 2)))]) rfl (XS.goto X0.here hx rfl (pc0 := 42) (pc' := 63) rfl (hb hby d8_42) (by decide) (by decide) kt)) ?_
      exact L1 (zs.length - (((0 + zs.length - 1) / 2) + 1)) _ ⟨(((0 + zs.length - 1) / 2) + 1), zs.length, (Int32.ofNat ((0 + zs.length - 1) / 2)), (own_y zs ((0 + zs.length - 1) / 2))⟩ ⟨own_up pr2 hm2 hc5, (own_c_le zs y), (Nat.le_refl _), (own_inlt pr2), rfl⟩ X0 e0
    · -- pc 33: not (own_y zs ((0 + zs.length - 1) / 2)) < y
      refine own_st (T' := s₁) (g' := (mkF m 48 #[.val (.ref x0), .val (.int (0 : Int32)), .val (.int (Int32.ofNat zs.length)), .val (.int y), .val (.int (0 : Int32)), .val (.int ((Int32.ofNat zs.length) - (1 : Int32))), .val (.int (Int32.ofNat ((0 + zs.length - 1) / 2))), .val (.int (own_y zs ((0 + zs.length - 1) / 2)))] [(.int y), (.int (own_y zs ((0 + zs.length - 1) / 2)))])) (fun _ kt => XS.icmpYes X0.here hx rfl (pc0 := 33) (pc' := 45) rfl (hb hby d8_33) rfl (XT.ii_ge_t hc5) (by decide) (by decide) (XS.iload X0.here hx rfl (hb hby d8_45) rfl (XS.iloadN X0.here hx rfl (hb hby d8_47) rfl kt))) ?_
      by_cases hc6 : y < (own_y zs ((0 + zs.length - 1) / 2))
      · -- pc 48: y < (own_y zs ((0 + zs.length - 1) / 2))
        refine own_st (T' := s₁) (g' := (mkF m 63 #[.val (.ref x0), .val (.int (0 : Int32)), .val (.int (Int32.ofNat zs.length)), .val (.int y), .val (.int (0 : Int32)), .val (.int ((Int32.ofNat ((0 + zs.length - 1) / 2)) - (1 : Int32))), .val (.int (Int32.ofNat ((0 + zs.length - 1) / 2))), .val (.int (own_y zs ((0 + zs.length - 1) / 2)))] [])) (fun _ kt => XS.icmpNo X0.here hx rfl (hb hby d8_48) rfl (XT.ii_le_f hc6) (XS.iload X0.here hx rfl (hb hby d8_51) rfl (XS.iconst X0.here hx rfl (hb hby d8_53) (XS.isub X0.here hx rfl (hb hby d8_54) rfl (XS.istore X0.here hx rfl (hb hby d8_55) rfl (l' := #[.val (.ref x0), .val (.int (0 : Int32)), .val (.int (Int32.ofNat zs.length)), .val (.int y), .val (.int (0 : Int32)), .val (.int ((Int32.ofNat ((0 + zs.length - 1) / 2)) - (1 : Int32))), .val (.int (Int32.ofNat ((0 + zs.length - 1) / 2))), .val (.int (own_y zs ((0 + zs.length - 1) / 2)))]) rfl (XS.goto X0.here hx rfl (pc0 := 57) (pc' := 63) rfl (hb hby d8_57) (by decide) (by decide) kt)))))) ?_
        exact L1 (((0 + zs.length - 1) / 2) - 0) _ ⟨0, ((0 + zs.length - 1) / 2), (Int32.ofNat ((0 + zs.length - 1) / 2)), (own_y zs ((0 + zs.length - 1) / 2))⟩ ⟨(Nat.zero_le _), (own_dn pr2 hm2 hc5 hc6).1, Nat.le_of_lt hm2, (own_dn pr2 hm2 hc5 hc6).2, rfl⟩ X0 e0
      · -- pc 48: not y < (own_y zs ((0 + zs.length - 1) / 2))
        refine own_st (T' := s₁) (g' := (mkF m 62 #[.val (.ref x0), .val (.int (0 : Int32)), .val (.int (Int32.ofNat zs.length)), .val (.int y), .val (.int (0 : Int32)), .val (.int ((Int32.ofNat zs.length) - (1 : Int32))), .val (.int (Int32.ofNat ((0 + zs.length - 1) / 2))), .val (.int (own_y zs ((0 + zs.length - 1) / 2)))] [(.int (Int32.ofNat ((0 + zs.length - 1) / 2)))])) (fun _ kt => XS.icmpYes X0.here hx rfl (pc0 := 48) (pc' := 60) rfl (hb hby d8_48) rfl (XT.ii_le_t hc6) (by decide) (by decide) (XS.iload X0.here hx rfl (hb hby d8_60) rfl kt)) ?_
        obtain ⟨fs, hr, hrun, hended, hW, hsame⟩ := X0.leave (v := some (.int (Int32.ofNat ((0 + zs.length - 1) / 2)))) (fun h => by rw [Bd.returns] at h; cases h)
        refine own_end (own_retI X0 hx Bd.returns (hb hby d8_62) hr) ⟨_, hrun, hended, _, _, rfl, ?_, ⟨_, rfl⟩, hW, hsame.mono (by decide) (by decide)⟩
        show own_b0Q Z _ _ _ _ _ _ h0 n0 _ s₁.heap _
        rw [e0]
        exact ⟨(congrArg (fun z => some (Value.int z)) (own_b1 pr2 hm2 hc5 hc6)), N0, rfl⟩
theorem d6_0 : decode jdk_65_method_58_code 0 = .ok (.aload_n 0, 1) := by decide +kernel
theorem d6_1 : decode jdk_65_method_58_code 1 = .ok (.arraylength, 1) := by decide +kernel
theorem d6_2 : decode jdk_65_method_58_code 2 = .ok (.iload_n 1, 1) := by decide +kernel
theorem d6_3 : decode jdk_65_method_58_code 3 = .ok (.iload_n 2, 1) := by decide +kernel
theorem d6_4 : decode jdk_65_method_58_code 4 = .ok (.invokestatic 13, 3) := by decide +kernel
theorem own_pd1 : parseMethodDescriptor "(III)V" = some ⟨[.int, .int, .int], none⟩ := by decide +kernel
theorem d6_7 : decode jdk_65_method_58_code 7 = .ok (.aload_n 0, 1) := by decide +kernel
theorem d6_8 : decode jdk_65_method_58_code 8 = .ok (.iload_n 1, 1) := by decide +kernel
theorem d6_9 : decode jdk_65_method_58_code 9 = .ok (.iload_n 2, 1) := by decide +kernel
theorem d6_10 : decode jdk_65_method_58_code 10 = .ok (.iload_n 3, 1) := by decide +kernel
theorem d6_11 : decode jdk_65_method_58_code 11 = .ok (.invokestatic 209, 3) := by decide +kernel
theorem own_pd2 : parseMethodDescriptor "([IIII)I" = some ⟨[(.array .int), .int, .int, .int], some .int⟩ := by decide +kernel
theorem d6_14 : decode jdk_65_method_58_code 14 = .ok (.ireturn, 1) := by decide +kernel
set_option maxHeartbeats 4000000 in
theorem own_ef3 (m : MethodId) (x0 : Addr) (x1 : Int32) (x2 : Int32) (x3 : Int32) : entryFrame m #[(.ref x0), (.int x1), (.int x2), (.int x3)] 4 = mkF m 0 #[.val (.ref x0), .val (.int x1), .val (.int x2), .val (.int x3)] [] := by first | (simp [entryFrame, mkF, argsToLocals, Value.category]; done) | rfl
def own_bsQ (Z : State) (x0 : Addr) (kx : ClassId) (zs : own_Z) (pa : List Value) (cap : Nat) (y : Int32) (h0 : Heap) (n0 : Nat) (v : Option Value) (h : Heap) (L : List Loc) : Prop := v = some (.int (own_ix zs y)) ∧ Fr n0 L ∧ h = h0
abbrev own_bsR : Room := { frames := 1, cells := 0, slots := 0, locals := 19 }
set_option maxRecDepth 65536 in
set_option maxHeartbeats 40000000 in
theorem own_bs (l : Launch) (Z : State) (a0 : Array Value) (hw : ∀ d ∈ tables_1, d.before a0 Z = true) (ws : List Jvm.Cond) (x0 : Addr) (kx : ClassId) (zs : own_Z) (pa : List Value) (cap : Nat) (y : Int32) (h0 : Heap) (n0 : Nat) (Z0 : n0 ≤ h0.size) (pr1 : Arv Z h0 x0 kx .int (Int32.ofNat cap) (own_ya zs pa) (.int (0 : Int32))) (pr2 : own_so zs) (pr3 : zs.length ≤ 8) (pr4 : 1 ≤ zs.length) (pr5 : zs.length ≤ cap) (pr6 : cap ≤ 8) :
    own_M l (⟨"java/util/Arrays", "binarySearch", "([IIII)I"⟩ : MethodName) jdk_65_method_58_code 4 (some .int) ws own_bsR #[(.ref x0), (.int (0 : Int32)), (.int (Int32.ofNat zs.length)), (.int y)] Z h0 (own_bsQ Z x0 kx zs pa cap y h0 n0) := by
  refine own_go (plainFor_of_name own_pn1) (fun m => own_ef3 m x0 (0 : Int32) (Int32.ofNat zs.length) y ) ?_
  intro p e s m below meth c s₁ Bd hx hby hml hZ hh hown hnm X0 e0
  have N0 := Fr.nil n0
  refine own_st (T' := s₁) (g' := (mkF m 1 #[.val (.ref x0), .val (.int (0 : Int32)), .val (.int (Int32.ofNat zs.length)), .val (.int y)] [(.ref x0)])) (fun _ kt => XS.aloadN X0.here hx rfl (hb hby d6_0) rfl rfl kt) ?_
  refine own_st (T' := s₁) (g' := (mkF m 2 #[.val (.ref x0), .val (.int (0 : Int32)), .val (.int (Int32.ofNat zs.length)), .val (.int y)] [(.int (Int32.ofNat cap))])) (own_alen X0 hx hZ e0 pr1 (g := (mkF m 1 #[.val (.ref x0), .val (.int (0 : Int32)), .val (.int (Int32.ofNat zs.length)), .val (.int y)] [(.ref x0)])) rfl rfl (hb hby d6_1)) ?_
  refine own_st (T' := s₁) (g' := (mkF m 4 #[.val (.ref x0), .val (.int (0 : Int32)), .val (.int (Int32.ofNat zs.length)), .val (.int y)] [(.int (Int32.ofNat zs.length)), (.int (0 : Int32)), (.int (Int32.ofNat cap))])) (fun _ kt => XS.iloadN X0.here hx rfl (hb hby d6_2) rfl (XS.iloadN X0.here hx rfl (hb hby d6_3) rfl kt)) ?_
  obtain ⟨_, _, ⟨T7, L7, k7, n7⟩, -, X7, ⟨Lc7, hQ7, l7, y7, z7⟩, st7⟩ := Jvm.LawKit.callS X0 hx (y := (⟨"java/util/Arrays", "rangeCheck", "(III)V"⟩ : MethodName)) hown (mvT hZ (own_k hw 38 rfl)) (mvT hZ (own_k hw 39 rfl)) (mvT hZ (own_k hw 36 rfl)) (mvT hZ (own_k hw 40 rfl)) (by decide) (backOf (W := 0) (own_rc l Z a0 hw [] (Int32.ofNat cap) (0 : Int32) (Int32.ofNat zs.length) h0 n0 Z0 (show ¬ (Int32.ofNat zs.length) < (0 : Int32) from (own_le3 pr5 pr6).1) (show ¬ (0 : Int32) < 0 from (own_le3 pr5 pr6).2.1) (show ¬ (Int32.ofNat cap) < (Int32.ofNat zs.length) from (own_le3 pr5 pr6).2.2)) hZ (own_k hw 40 rfl) (own_k hw 36 rfl) (by decide) (by decide)) (g := (mkF m 4 #[.val (.ref x0), .val (.int (0 : Int32)), .val (.int (Int32.ofNat zs.length)), .val (.int y)] [(.int (Int32.ofNat zs.length)), (.int (0 : Int32)), (.int (Int32.ofNat cap))])) rfl hml.symm  (argsL := [(.int (Int32.ofNat cap)), (.int (0 : Int32)), (.int (Int32.ofNat zs.length))]) (rest := []) (lenOf own_pd1 rfl) rfl (by show 2 * 0 + _ ≤ _; exact Nat.le_of_eq rfl) (hb hby d6_4) (fun _ _ => ⟨rfl, e0, (by decide : 0 + 0 ≤ 0), (by decide : 0 + 0 ≤ 0)⟩)
  dsimp only [Pt.U, Pt.locs, Pt.cells, Pt.slots] at X7 l7 y7 z7 st7 hQ7
  subst l7 y7 z7
  obtain ⟨rfl, N7, e7⟩ := hQ7
  have N8 := Fr.app N0 N7
  refine own_st (T' := T7) (g' := (mkF m 7 #[.val (.ref x0), .val (.int (0 : Int32)), .val (.int (Int32.ofNat zs.length)), .val (.int y)] [])) st7 ?_
  refine own_st (T' := T7) (g' := (mkF m 11 #[.val (.ref x0), .val (.int (0 : Int32)), .val (.int (Int32.ofNat zs.length)), .val (.int y)] [(.int y), (.int (Int32.ofNat zs.length)), (.int (0 : Int32)), (.ref x0)])) (fun _ kt => XS.aloadN X7.here hx rfl (hb hby d6_7) rfl rfl (XS.iloadN X7.here hx rfl (hb hby d6_8) rfl (XS.iloadN X7.here hx rfl (hb hby d6_9) rfl (XS.iloadN X7.here hx rfl (hb hby d6_10) rfl kt)))) ?_
  obtain ⟨_, _, ⟨T9, L9, k9, n9⟩, -, X9, ⟨Lc9, hQ9, l9, y9, z9⟩, st9⟩ := Jvm.LawKit.callS X7 hx (y := (⟨"java/util/Arrays", "binarySearch0", "([IIII)I"⟩ : MethodName)) hown (mvT hZ (own_k hw 41 rfl)) (mvT hZ (own_k hw 42 rfl)) (mvT hZ (own_k hw 36 rfl)) (mvT hZ (own_k hw 43 rfl)) (by decide) (backOf (W := 0) (own_b0 l Z a0 hw [] x0 kx zs pa cap y h0 n0 Z0 pr1 pr2 pr3 pr4 pr5 pr6) hZ (own_k hw 43 rfl) (own_k hw 36 rfl) (by decide) (by decide)) (g := (mkF m 11 #[.val (.ref x0), .val (.int (0 : Int32)), .val (.int (Int32.ofNat zs.length)), .val (.int y)] [(.int y), (.int (Int32.ofNat zs.length)), (.int (0 : Int32)), (.ref x0)])) rfl hml.symm  (argsL := [(.ref x0), (.int (0 : Int32)), (.int (Int32.ofNat zs.length)), (.int y)]) (rest := []) (lenOf own_pd2 rfl) rfl (by show 2 * 0 + _ ≤ _; exact Nat.le_of_eq rfl) (hb hby d6_11) (fun _ _ => ⟨rfl, e7, (by decide : 0 + 0 ≤ 0), (by decide : 0 + 0 ≤ 0)⟩)
  dsimp only [Pt.U, Pt.locs, Pt.cells, Pt.slots] at X9 l9 y9 z9 st9 hQ9
  subst l9 y9 z9
  obtain ⟨rfl, N9, e9⟩ := hQ9
  have N10 := Fr.app N8 N9
  refine own_st (T' := T9) (g' := (mkF m 14 #[.val (.ref x0), .val (.int (0 : Int32)), .val (.int (Int32.ofNat zs.length)), .val (.int y)] [(.int (own_ix zs y))])) st9 ?_
  obtain ⟨fs, hr, hrun, hended, hW, hsame⟩ := X9.leave (v := some (.int (own_ix zs y))) (fun h => by rw [Bd.returns] at h; cases h)
  refine own_end (own_retI X9 hx Bd.returns (hb hby d6_14) hr) ⟨_, hrun, hended, _, _, rfl, ?_, ⟨_, rfl⟩, hW, hsame.mono (by decide) (by decide)⟩
  show own_bsQ Z _ _ _ _ _ _ h0 n0 _ T9.heap _
  rw [e9]
  exact ⟨rfl, N10, rfl⟩
theorem d4_0 : decode prog_32_method_7_code 0 = .ok (.aload_n 0, 1) := by decide +kernel
theorem d4_1 : decode prog_32_method_7_code 1 = .ok (.getfield 27, 3) := by decide +kernel
theorem d4_4 : decode prog_32_method_7_code 4 = .ok (.ifCond .le 28, 3) := by decide +kernel
theorem d4_7 : decode prog_32_method_7_code 7 = .ok (.aload_n 0, 1) := by decide +kernel
theorem d4_8 : decode prog_32_method_7_code 8 = .ok (.getfield 9, 3) := by decide +kernel
theorem d4_11 : decode prog_32_method_7_code 11 = .ok (.aload_n 0, 1) := by decide +kernel
theorem d4_12 : decode prog_32_method_7_code 12 = .ok (.getfield 27, 3) := by decide +kernel
theorem d4_15 : decode prog_32_method_7_code 15 = .ok (.iconst 1, 1) := by decide +kernel
theorem d4_16 : decode prog_32_method_7_code 16 = .ok (.isub, 1) := by decide +kernel
theorem d4_17 : decode prog_32_method_7_code 17 = .ok (.iaload, 1) := by decide +kernel
theorem d4_18 : decode prog_32_method_7_code 18 = .ok (.iload_n 1, 1) := by decide +kernel
theorem d4_19 : decode prog_32_method_7_code 19 = .ok (.if_icmp .ne 13, 3) := by decide +kernel
theorem d4_22 : decode prog_32_method_7_code 22 = .ok (.aload_n 0, 1) := by decide +kernel
theorem d4_23 : decode prog_32_method_7_code 23 = .ok (.getfield 27, 3) := by decide +kernel
theorem d4_26 : decode prog_32_method_7_code 26 = .ok (.iconst 1, 1) := by decide +kernel
theorem d4_27 : decode prog_32_method_7_code 27 = .ok (.isub, 1) := by decide +kernel
theorem d4_28 : decode prog_32_method_7_code 28 = .ok (.istore_n 2, 1) := by decide +kernel
theorem d4_29 : decode prog_32_method_7_code 29 = .ok (.goto 50, 3) := by decide +kernel
theorem d4_79 : decode prog_32_method_7_code 79 = .ok (.iload_n 2, 1) := by decide +kernel
theorem d4_80 : decode prog_32_method_7_code 80 = .ok (.ireturn, 1) := by decide +kernel
theorem d4_32 : decode prog_32_method_7_code 32 = .ok (.aload_n 0, 1) := by decide +kernel
theorem d4_33 : decode prog_32_method_7_code 33 = .ok (.getfield 27, 3) := by decide +kernel
theorem d4_36 : decode prog_32_method_7_code 36 = .ok (.ifCond .eq 18, 3) := by decide +kernel
theorem d4_39 : decode prog_32_method_7_code 39 = .ok (.aload_n 0, 1) := by decide +kernel
theorem d4_40 : decode prog_32_method_7_code 40 = .ok (.getfield 9, 3) := by decide +kernel
theorem d4_43 : decode prog_32_method_7_code 43 = .ok (.aload_n 0, 1) := by decide +kernel
theorem d4_44 : decode prog_32_method_7_code 44 = .ok (.getfield 27, 3) := by decide +kernel
theorem d4_47 : decode prog_32_method_7_code 47 = .ok (.iconst 1, 1) := by decide +kernel
theorem d4_48 : decode prog_32_method_7_code 48 = .ok (.isub, 1) := by decide +kernel
theorem d4_49 : decode prog_32_method_7_code 49 = .ok (.iaload, 1) := by decide +kernel
theorem d4_50 : decode prog_32_method_7_code 50 = .ok (.iload_n 1, 1) := by decide +kernel
theorem d4_51 : decode prog_32_method_7_code 51 = .ok (.if_icmp .ge 14, 3) := by decide +kernel
theorem d4_54 : decode prog_32_method_7_code 54 = .ok (.aload_n 0, 1) := by decide +kernel
theorem d4_55 : decode prog_32_method_7_code 55 = .ok (.getfield 27, 3) := by decide +kernel
theorem d4_58 : decode prog_32_method_7_code 58 = .ok (.ineg, 1) := by decide +kernel
theorem d4_59 : decode prog_32_method_7_code 59 = .ok (.iconst 1, 1) := by decide +kernel
theorem d4_60 : decode prog_32_method_7_code 60 = .ok (.isub, 1) := by decide +kernel
theorem d4_61 : decode prog_32_method_7_code 61 = .ok (.istore_n 2, 1) := by decide +kernel
theorem d4_62 : decode prog_32_method_7_code 62 = .ok (.goto 17, 3) := by decide +kernel
theorem d4_65 : decode prog_32_method_7_code 65 = .ok (.aload_n 0, 1) := by decide +kernel
theorem d4_66 : decode prog_32_method_7_code 66 = .ok (.getfield 9, 3) := by decide +kernel
theorem d4_69 : decode prog_32_method_7_code 69 = .ok (.iconst 0, 1) := by decide +kernel
theorem d4_70 : decode prog_32_method_7_code 70 = .ok (.aload_n 0, 1) := by decide +kernel
theorem d4_71 : decode prog_32_method_7_code 71 = .ok (.getfield 27, 3) := by decide +kernel
theorem d4_74 : decode prog_32_method_7_code 74 = .ok (.iload_n 1, 1) := by decide +kernel
theorem d4_75 : decode prog_32_method_7_code 75 = .ok (.invokestatic 47, 3) := by decide +kernel
theorem d4_78 : decode prog_32_method_7_code 78 = .ok (.istore_n 2, 1) := by decide +kernel
set_option maxHeartbeats 4000000 in
theorem own_ef4 (m : MethodId) (x0 : Addr) (x1 : Int32) : entryFrame m #[(.ref x0), (.int x1)] 3 = mkF m 0 #[.val (.ref x0), .val (.int x1), .unset] [] := by first | (simp [entryFrame, mkF, argsToLocals, Value.category]; done) | rfl
def own_ioQ (Z : State) (a : Addr) (ya : Addr) (ky : ClassId) (zs : own_Z) (pa : List Value) (cap : Nat) (y : Int32) (h0 : Heap) (n0 : Nat) (v : Option Value) (h : Heap) (L : List Loc) : Prop := v = some (.int (own_ix zs y)) ∧ Fr n0 L ∧ h = h0
theorem own_pn2 : plainName "com/example/vestwright/vestwright/census/YearlyHours" = true := by first | (simp [plainName, overriddenIn]; done) | decide +kernel
abbrev own_ioR : Room := { frames := 2, cells := 0, slots := 0, locals := 34 }
set_option maxRecDepth 65536 in
set_option maxHeartbeats 40000000 in
theorem own_io (l : Launch) (Z : State) (a0 : Array Value) (hw : ∀ d ∈ tables_1, d.before a0 Z = true) (ws : List Jvm.Cond) (a : Addr) (ya : Addr) (ky : ClassId) (zs : own_Z) (pa : List Value) (cap : Nat) (y : Int32) (h0 : Heap) (n0 : Nat) (Z0 : n0 ≤ h0.size) (pr1 : Exa Z h0 a "com/example/vestwright/vestwright/census/YearlyHours") (pr2 : Fld Z h0 a "com/example/vestwright/vestwright/census/YearlyHours" "size" "I" (.int (Int32.ofNat zs.length))) (pr3 : Fld Z h0 a "com/example/vestwright/vestwright/census/YearlyHours" "years" "[I" (.ref ya)) (pr4 : Arv Z h0 ya ky .int (Int32.ofNat cap) (own_ya zs pa) (.int (0 : Int32))) (pr5 : own_so zs) (pr6 : zs.length ≤ 8) (pr7 : zs.length ≤ cap) (pr8 : cap ≤ 8) :
    own_M l (⟨"com/example/vestwright/vestwright/census/YearlyHours", "indexOf", "(I)I"⟩ : MethodName) prog_32_method_7_code 3 (some .int) ws own_ioR #[(.ref a), (.int y)] Z h0 (own_ioQ Z a ya ky zs pa cap y h0 n0) := by
  refine own_go (plainFor_of_name own_pn2) (fun m => own_ef4 m a y ) ?_
  intro p e s m below meth c s₁ Bd hx hby hml hZ hh hown hnm X0 e0
  have N0 := Fr.nil n0
  refine own_st (T' := s₁) (g' := (mkF m 1 #[.val (.ref a), .val (.int y), .unset] [(.ref a)])) (fun _ kt => XS.aloadN X0.here hx rfl (hb hby d4_0) rfl rfl kt) ?_
  obtain ⟨T11, X11, e11, st11⟩ := getF X0 hx hZ hown (host := "") (Or.inl (own_k hw 24 rfl)) Via.refl e0 pr2 (g := (mkF m 1 #[.val (.ref a), .val (.int y), .unset] [(.ref a)])) rfl rfl (hb hby d4_1)
  refine own_st (T' := T11) (g' := (mkF m 4 #[.val (.ref a), .val (.int y), .unset] [(.int (Int32.ofNat zs.length))])) st11 ?_
  by_cases hc12 : 0 < (Int32.ofNat zs.length)
  · -- pc 4: 0 < (Int32.ofNat zs.length)
    refine own_st (T' := T11) (g' := (mkF m 8 #[.val (.ref a), .val (.int y), .unset] [(.ref a)])) (fun _ kt => XS.ifNo X11.here hx rfl (hb hby d4_4) rfl (XT.i0_le_f hc12) (XS.aloadN X11.here hx rfl (hb hby d4_7) rfl rfl kt)) ?_
    obtain ⟨T13, X13, e13, st13⟩ := getF X11 hx hZ hown (host := "") (Or.inl (own_k hw 11 rfl)) Via.refl e11 pr3 (g := (mkF m 8 #[.val (.ref a), .val (.int y), .unset] [(.ref a)])) rfl rfl (hb hby d4_8)
    refine own_st (T' := T13) (g' := (mkF m 11 #[.val (.ref a), .val (.int y), .unset] [(.ref ya)])) st13 ?_
    refine own_st (T' := T13) (g' := (mkF m 12 #[.val (.ref a), .val (.int y), .unset] [(.ref a), (.ref ya)])) (fun _ kt => XS.aloadN X13.here hx rfl (hb hby d4_11) rfl rfl kt) ?_
    obtain ⟨T14, X14, e14, st14⟩ := getF X13 hx hZ hown (host := "") (Or.inl (own_k hw 24 rfl)) Via.refl e13 pr2 (g := (mkF m 12 #[.val (.ref a), .val (.int y), .unset] [(.ref a), (.ref ya)])) rfl rfl (hb hby d4_12)
    refine own_st (T' := T14) (g' := (mkF m 15 #[.val (.ref a), .val (.int y), .unset] [(.int (Int32.ofNat zs.length)), (.ref ya)])) st14 ?_
    refine own_st (T' := T14) (g' := (mkF m 17 #[.val (.ref a), .val (.int y), .unset] [(.int ((Int32.ofNat zs.length) - (1 : Int32))), (.ref ya)])) (fun _ kt => XS.iconst X14.here hx rfl (hb hby d4_15) (XS.isub X14.here hx rfl (hb hby d4_16) rfl kt)) ?_
    rw [own_pred (own_pos hc12) (by omega)]
    refine own_st (T' := T14) (g' := (mkF m 18 #[.val (.ref a), .val (.int y), .unset] [(.int (own_y zs (zs.length - 1)))])) (own_ial X14 hx hZ e14 pr4 (own_idx (by have := own_pos hc12; omega) (by omega)) (own_yg (by have := own_pos hc12; omega) (by omega)) (g := (mkF m 17 #[.val (.ref a), .val (.int y), .unset] [(.int (Int32.ofNat (zs.length - 1))), (.ref ya)])) rfl rfl (hb hby d4_17)) ?_
    refine own_st (T' := T14) (g' := (mkF m 19 #[.val (.ref a), .val (.int y), .unset] [(.int y), (.int (own_y zs (zs.length - 1)))])) (fun _ kt => XS.iloadN X14.here hx rfl (hb hby d4_18) rfl kt) ?_
    by_cases hc15 : (own_y zs (zs.length - 1)) = y
    · -- pc 19: (own_y zs (zs.length - 1)) = y
      refine own_st (T' := T14) (g' := (mkF m 23 #[.val (.ref a), .val (.int y), .unset] [(.ref a)])) (fun _ kt => XS.icmpNo X14.here hx rfl (hb hby d4_19) rfl (XT.ii_ne_f hc15) (XS.aloadN X14.here hx rfl (hb hby d4_22) rfl rfl kt)) ?_
      obtain ⟨T16, X16, e16, st16⟩ := getF X14 hx hZ hown (host := "") (Or.inl (own_k hw 24 rfl)) Via.refl e14 pr2 (g := (mkF m 23 #[.val (.ref a), .val (.int y), .unset] [(.ref a)])) rfl rfl (hb hby d4_23)
      refine own_st (T' := T16) (g' := (mkF m 26 #[.val (.ref a), .val (.int y), .unset] [(.int (Int32.ofNat zs.length))])) st16 ?_
      refine own_st (T' := T16) (g' := (mkF m 80 #[.val (.ref a), .val (.int y), .val (.int ((Int32.ofNat zs.length) - (1 : Int32)))] [(.int ((Int32.ofNat zs.length) - (1 : Int32)))])) (fun _ kt => XS.iconst X16.here hx rfl (hb hby d4_26) (XS.isub X16.here hx rfl (hb hby d4_27) rfl (XS.istoreN X16.here hx rfl (hb hby d4_28) rfl (l' := #[.val (.ref a), .val (.int y), .val (.int ((Int32.ofNat zs.length) - (1 : Int32)))]) rfl (XS.goto X16.here hx rfl (pc0 := 29) (pc' := 79) rfl (hb hby d4_29) (by decide) (by decide) (XS.iloadN X16.here hx rfl (hb hby d4_79) rfl kt))))) ?_
      obtain ⟨fs, hr, hrun, hended, hW, hsame⟩ := X16.leave (v := some (.int ((Int32.ofNat zs.length) - (1 : Int32)))) (fun h => by rw [Bd.returns] at h; cases h)
      refine own_end (own_retI X16 hx Bd.returns (hb hby d4_80) hr) ⟨_, hrun, hended, _, _, rfl, ?_, ⟨_, rfl⟩, hW, hsame.mono (by decide) (by decide)⟩
      show own_ioQ Z _ _ _ _ _ _ _ h0 n0 _ T16.heap _
      rw [e16]
      exact ⟨(congrArg (fun z => some (Value.int z)) (own_r1 pr5 pr6 (own_pos hc12) hc15)), N0, rfl⟩
    · -- pc 19: not (own_y zs (zs.length - 1)) = y
      refine own_st (T' := T14) (g' := (mkF m 33 #[.val (.ref a), .val (.int y), .unset] [(.ref a)])) (fun _ kt => XS.icmpYes X14.here hx rfl (pc0 := 19) (pc' := 32) rfl (hb hby d4_19) rfl (XT.ii_ne_t hc15) (by decide) (by decide) (XS.aloadN X14.here hx rfl (hb hby d4_32) rfl rfl kt)) ?_
      obtain ⟨T17, X17, e17, st17⟩ := getF X14 hx hZ hown (host := "") (Or.inl (own_k hw 24 rfl)) Via.refl e14 pr2 (g := (mkF m 33 #[.val (.ref a), .val (.int y), .unset] [(.ref a)])) rfl rfl (hb hby d4_33)
      refine own_st (T' := T17) (g' := (mkF m 36 #[.val (.ref a), .val (.int y), .unset] [(.int (Int32.ofNat zs.length))])) st17 ?_
      refine own_st (T' := T17) (g' := (mkF m 40 #[.val (.ref a), .val (.int y), .unset] [(.ref a)])) (fun _ kt => XS.ifNo X17.here hx rfl (hb hby d4_36) rfl (XT.i0_eq_f (own_nz pr6 hc12)) (XS.aloadN X17.here hx rfl (hb hby d4_39) rfl rfl kt)) ?_
      obtain ⟨T18, X18, e18, st18⟩ := getF X17 hx hZ hown (host := "") (Or.inl (own_k hw 11 rfl)) Via.refl e17 pr3 (g := (mkF m 40 #[.val (.ref a), .val (.int y), .unset] [(.ref a)])) rfl rfl (hb hby d4_40)
      refine own_st (T' := T18) (g' := (mkF m 43 #[.val (.ref a), .val (.int y), .unset] [(.ref ya)])) st18 ?_
      refine own_st (T' := T18) (g' := (mkF m 44 #[.val (.ref a), .val (.int y), .unset] [(.ref a), (.ref ya)])) (fun _ kt => XS.aloadN X18.here hx rfl (hb hby d4_43) rfl rfl kt) ?_
      obtain ⟨T19, X19, e19, st19⟩ := getF X18 hx hZ hown (host := "") (Or.inl (own_k hw 24 rfl)) Via.refl e18 pr2 (g := (mkF m 44 #[.val (.ref a), .val (.int y), .unset] [(.ref a), (.ref ya)])) rfl rfl (hb hby d4_44)
      refine own_st (T' := T19) (g' := (mkF m 47 #[.val (.ref a), .val (.int y), .unset] [(.int (Int32.ofNat zs.length)), (.ref ya)])) st19 ?_
      refine own_st (T' := T19) (g' := (mkF m 49 #[.val (.ref a), .val (.int y), .unset] [(.int ((Int32.ofNat zs.length) - (1 : Int32))), (.ref ya)])) (fun _ kt => XS.iconst X19.here hx rfl (hb hby d4_47) (XS.isub X19.here hx rfl (hb hby d4_48) rfl kt)) ?_
      rw [own_pred (own_pos hc12) (by omega)]
      refine own_st (T' := T19) (g' := (mkF m 50 #[.val (.ref a), .val (.int y), .unset] [(.int (own_y zs (zs.length - 1)))])) (own_ial X19 hx hZ e19 pr4 (own_idx (by have := own_pos hc12; omega) (by omega)) (own_yg (by have := own_pos hc12; omega) (by omega)) (g := (mkF m 49 #[.val (.ref a), .val (.int y), .unset] [(.int (Int32.ofNat (zs.length - 1))), (.ref ya)])) rfl rfl (hb hby d4_49)) ?_
      refine own_st (T' := T19) (g' := (mkF m 51 #[.val (.ref a), .val (.int y), .unset] [(.int y), (.int (own_y zs (zs.length - 1)))])) (fun _ kt => XS.iloadN X19.here hx rfl (hb hby d4_50) rfl kt) ?_
      by_cases hc20 : (own_y zs (zs.length - 1)) < y
      · -- pc 51: (own_y zs (zs.length - 1)) < y
        refine own_st (T' := T19) (g' := (mkF m 55 #[.val (.ref a), .val (.int y), .unset] [(.ref a)])) (fun _ kt => XS.icmpNo X19.here hx rfl (hb hby d4_51) rfl (XT.ii_ge_f hc20) (XS.aloadN X19.here hx rfl (hb hby d4_54) rfl rfl kt)) ?_
        obtain ⟨T21, X21, e21, st21⟩ := getF X19 hx hZ hown (host := "") (Or.inl (own_k hw 24 rfl)) Via.refl e19 pr2 (g := (mkF m 55 #[.val (.ref a), .val (.int y), .unset] [(.ref a)])) rfl rfl (hb hby d4_55)
        refine own_st (T' := T21) (g' := (mkF m 58 #[.val (.ref a), .val (.int y), .unset] [(.int (Int32.ofNat zs.length))])) st21 ?_
        refine own_st (T' := T21) (g' := (mkF m 80 #[.val (.ref a), .val (.int y), .val (.int ((-(Int32.ofNat zs.length)) - (1 : Int32)))] [(.int ((-(Int32.ofNat zs.length)) - (1 : Int32)))])) (fun _ kt => XS.ineg X21.here hx rfl (hb hby d4_58) rfl (XS.iconst X21.here hx rfl (hb hby d4_59) (XS.isub X21.here hx rfl (hb hby d4_60) rfl (XS.istoreN X21.here hx rfl (hb hby d4_61) rfl (l' := #[.val (.ref a), .val (.int y), .val (.int ((-(Int32.ofNat zs.length)) - (1 : Int32)))]) rfl (XS.goto X21.here hx rfl (pc0 := 62) (pc' := 79) rfl (hb hby d4_62) (by decide) (by decide) (XS.iloadN X21.here hx rfl (hb hby d4_79) rfl kt)))))) ?_
        obtain ⟨fs, hr, hrun, hended, hW, hsame⟩ := X21.leave (v := some (.int ((-(Int32.ofNat zs.length)) - (1 : Int32)))) (fun h => by rw [Bd.returns] at h; cases h)
        refine own_end (own_retI X21 hx Bd.returns (hb hby d4_80) hr) ⟨_, hrun, hended, _, _, rfl, ?_, ⟨_, rfl⟩, hW, hsame.mono (by decide) (by decide)⟩
        show own_ioQ Z _ _ _ _ _ _ _ h0 n0 _ T21.heap _
        rw [e21]
        exact ⟨(congrArg (fun z => some (Value.int z)) (own_r2 pr5 (own_pos hc12) hc20)), N0, rfl⟩
      · -- pc 51: not (own_y zs (zs.length - 1)) < y
        refine own_st (T' := T19) (g' := (mkF m 66 #[.val (.ref a), .val (.int y), .unset] [(.ref a)])) (fun _ kt => XS.icmpYes X19.here hx rfl (pc0 := 51) (pc' := 65) rfl (hb hby d4_51) rfl (XT.ii_ge_t hc20) (by decide) (by decide) (XS.aloadN X19.here hx rfl (hb hby d4_65) rfl rfl kt)) ?_
        obtain ⟨T22, X22, e22, st22⟩ := getF X19 hx hZ hown (host := "") (Or.inl (own_k hw 11 rfl)) Via.refl e19 pr3 (g := (mkF m 66 #[.val (.ref a), .val (.int y), .unset] [(.ref a)])) rfl rfl (hb hby d4_66)
        refine own_st (T' := T22) (g' := (mkF m 69 #[.val (.ref a), .val (.int y), .unset] [(.ref ya)])) st22 ?_
        refine own_st (T' := T22) (g' := (mkF m 71 #[.val (.ref a), .val (.int y), .unset] [(.ref a), (.int (0 : Int32)), (.ref ya)])) (fun _ kt => XS.iconst X22.here hx rfl (hb hby d4_69) (XS.aloadN X22.here hx rfl (hb hby d4_70) rfl rfl kt)) ?_
        obtain ⟨T23, X23, e23, st23⟩ := getF X22 hx hZ hown (host := "") (Or.inl (own_k hw 24 rfl)) Via.refl e22 pr2 (g := (mkF m 71 #[.val (.ref a), .val (.int y), .unset] [(.ref a), (.int (0 : Int32)), (.ref ya)])) rfl rfl (hb hby d4_71)
        refine own_st (T' := T23) (g' := (mkF m 74 #[.val (.ref a), .val (.int y), .unset] [(.int (Int32.ofNat zs.length)), (.int (0 : Int32)), (.ref ya)])) st23 ?_
        refine own_st (T' := T23) (g' := (mkF m 75 #[.val (.ref a), .val (.int y), .unset] [(.int y), (.int (Int32.ofNat zs.length)), (.int (0 : Int32)), (.ref ya)])) (fun _ kt => XS.iloadN X23.here hx rfl (hb hby d4_74) rfl kt) ?_
        obtain ⟨_, _, ⟨T24, L24, k24, n24⟩, -, X24, ⟨Lc24, hQ24, l24, y24, z24⟩, st24⟩ := Jvm.LawKit.callS X23 hx (y := (⟨"java/util/Arrays", "binarySearch", "([IIII)I"⟩ : MethodName)) hown (mvT hZ (own_k hw 34 rfl)) (mvT hZ (own_k hw 35 rfl)) (mvT hZ (own_k hw 36 rfl)) (mvT hZ (own_k hw 37 rfl)) (by decide) (backOf (W := 0) (own_bs l Z a0 hw [] ya ky zs pa cap y h0 n0 Z0 pr4 pr5 pr6 (show 1 ≤ zs.length from (own_pos hc12)) pr7 pr8) hZ (own_k hw 37 rfl) (own_k hw 36 rfl) (by decide) (by decide)) (g := (mkF m 75 #[.val (.ref a), .val (.int y), .unset] [(.int y), (.int (Int32.ofNat zs.length)), (.int (0 : Int32)), (.ref ya)])) rfl hml.symm  (argsL := [(.ref ya), (.int (0 : Int32)), (.int (Int32.ofNat zs.length)), (.int y)]) (rest := []) (lenOf own_pd2 rfl) rfl (by show 2 * 0 + _ ≤ _; exact Nat.le_of_eq rfl) (hb hby d4_75) (fun _ _ => ⟨rfl, e23, (by decide : 0 + 0 ≤ 0), (by decide : 0 + 0 ≤ 0)⟩)
        dsimp only [Pt.U, Pt.locs, Pt.cells, Pt.slots] at X24 l24 y24 z24 st24 hQ24
        subst l24 y24 z24
        obtain ⟨rfl, N24, e24⟩ := hQ24
        have N25 := Fr.app N0 N24
        refine own_st (T' := T24) (g' := (mkF m 78 #[.val (.ref a), .val (.int y), .unset] [(.int (own_ix zs y))])) st24 ?_
        refine own_st (T' := T24) (g' := (mkF m 80 #[.val (.ref a), .val (.int y), .val (.int (own_ix zs y))] [(.int (own_ix zs y))])) (fun _ kt => XS.istoreN X24.here hx rfl (hb hby d4_78) rfl (l' := #[.val (.ref a), .val (.int y), .val (.int (own_ix zs y))]) rfl (XS.iloadN X24.here hx rfl (hb hby d4_79) rfl kt)) ?_
        obtain ⟨fs, hr, hrun, hended, hW, hsame⟩ := X24.leave (v := some (.int (own_ix zs y))) (fun h => by rw [Bd.returns] at h; cases h)
        refine own_end (own_retI X24 hx Bd.returns (hb hby d4_80) hr) ⟨_, hrun, hended, _, _, rfl, ?_, ⟨_, rfl⟩, hW, hsame.mono (by decide) (by decide)⟩
        show own_ioQ Z _ _ _ _ _ _ _ h0 n0 _ T24.heap _
        rw [e24]
        exact ⟨rfl, N25, rfl⟩
  · -- pc 4: not 0 < (Int32.ofNat zs.length)
    refine own_st (T' := T11) (g' := (mkF m 33 #[.val (.ref a), .val (.int y), .unset] [(.ref a)])) (fun _ kt => XS.ifYes X11.here hx rfl (pc0 := 4) (pc' := 32) rfl (hb hby d4_4) rfl (XT.i0_le_t hc12) (by decide) (by decide) (XS.aloadN X11.here hx rfl (hb hby d4_32) rfl rfl kt)) ?_
    obtain ⟨T26, X26, e26, st26⟩ := getF X11 hx hZ hown (host := "") (Or.inl (own_k hw 24 rfl)) Via.refl e11 pr2 (g := (mkF m 33 #[.val (.ref a), .val (.int y), .unset] [(.ref a)])) rfl rfl (hb hby d4_33)
    refine own_st (T' := T26) (g' := (mkF m 36 #[.val (.ref a), .val (.int y), .unset] [(.int (Int32.ofNat zs.length))])) st26 ?_
    refine own_st (T' := T26) (g' := (mkF m 55 #[.val (.ref a), .val (.int y), .unset] [(.ref a)])) (fun _ kt => XS.ifYes X26.here hx rfl (pc0 := 36) (pc' := 54) rfl (hb hby d4_36) rfl (XT.i0_eq_t (own_z0 pr6 hc12)) (by decide) (by decide) (XS.aloadN X26.here hx rfl (hb hby d4_54) rfl rfl kt)) ?_
    obtain ⟨T27, X27, e27, st27⟩ := getF X26 hx hZ hown (host := "") (Or.inl (own_k hw 24 rfl)) Via.refl e26 pr2 (g := (mkF m 55 #[.val (.ref a), .val (.int y), .unset] [(.ref a)])) rfl rfl (hb hby d4_55)
    refine own_st (T' := T27) (g' := (mkF m 58 #[.val (.ref a), .val (.int y), .unset] [(.int (Int32.ofNat zs.length))])) st27 ?_
    refine own_st (T' := T27) (g' := (mkF m 80 #[.val (.ref a), .val (.int y), .val (.int ((-(Int32.ofNat zs.length)) - (1 : Int32)))] [(.int ((-(Int32.ofNat zs.length)) - (1 : Int32)))])) (fun _ kt => XS.ineg X27.here hx rfl (hb hby d4_58) rfl (XS.iconst X27.here hx rfl (hb hby d4_59) (XS.isub X27.here hx rfl (hb hby d4_60) rfl (XS.istoreN X27.here hx rfl (hb hby d4_61) rfl (l' := #[.val (.ref a), .val (.int y), .val (.int ((-(Int32.ofNat zs.length)) - (1 : Int32)))]) rfl (XS.goto X27.here hx rfl (pc0 := 62) (pc' := 79) rfl (hb hby d4_62) (by decide) (by decide) (XS.iloadN X27.here hx rfl (hb hby d4_79) rfl kt)))))) ?_
    obtain ⟨fs, hr, hrun, hended, hW, hsame⟩ := X27.leave (v := some (.int ((-(Int32.ofNat zs.length)) - (1 : Int32)))) (fun h => by rw [Bd.returns] at h; cases h)
    refine own_end (own_retI X27 hx Bd.returns (hb hby d4_80) hr) ⟨_, hrun, hended, _, _, rfl, ?_, ⟨_, rfl⟩, hW, hsame.mono (by decide) (by decide)⟩
    show own_ioQ Z _ _ _ _ _ _ _ h0 n0 _ T27.heap _
    rw [e27]
    exact ⟨(congrArg (fun z => some (Value.int z)) (own_r0 pr6 hc12)), N0, rfl⟩
theorem d10_0 : decode prog_32_method_6_code 0 = .ok (.aload_n 0, 1) := by decide +kernel
theorem d10_1 : decode prog_32_method_6_code 1 = .ok (.iload_n 1, 1) := by decide +kernel
theorem d10_2 : decode prog_32_method_6_code 2 = .ok (.invokevirtual 16, 3) := by decide +kernel
theorem own_pd3 : parseMethodDescriptor "(I)I" = some ⟨[.int], some .int⟩ := by decide +kernel
theorem d10_5 : decode prog_32_method_6_code 5 = .ok (.istore_n 2, 1) := by decide +kernel
theorem d10_6 : decode prog_32_method_6_code 6 = .ok (.iload_n 2, 1) := by decide +kernel
theorem d10_7 : decode prog_32_method_6_code 7 = .ok (.ifCond .lt 7, 3) := by decide +kernel
theorem d10_14 : decode prog_32_method_6_code 14 = .ok (.iload_n 2, 1) := by decide +kernel
theorem d10_15 : decode prog_32_method_6_code 15 = .ok (.ineg, 1) := by decide +kernel
theorem d10_16 : decode prog_32_method_6_code 16 = .ok (.iconst 1, 1) := by decide +kernel
theorem d10_17 : decode prog_32_method_6_code 17 = .ok (.isub, 1) := by decide +kernel
theorem d10_18 : decode prog_32_method_6_code 18 = .ok (.ireturn, 1) := by decide +kernel
theorem d10_10 : decode prog_32_method_6_code 10 = .ok (.iload_n 2, 1) := by decide +kernel
theorem d10_11 : decode prog_32_method_6_code 11 = .ok (.goto 7, 3) := by decide +kernel
def own_ifQ (Z : State) (a : Addr) (ya : Addr) (ky : ClassId) (zs : own_Z) (pa : List Value) (cap : Nat) (y : Int32) (h0 : Heap) (n0 : Nat) (v : Option Value) (h : Heap) (L : List Loc) : Prop := v = some (.int (Int32.ofNat (own_c zs y))) ∧ Fr n0 L ∧ h = h0
abbrev own_ifR : Room := { frames := 3, cells := 0, slots := 0, locals := 48 }
set_option maxRecDepth 65536 in
set_option maxHeartbeats 40000000 in
theorem own_if (l : Launch) (Z : State) (a0 : Array Value) (hw : ∀ d ∈ tables_1, d.before a0 Z = true) (ws : List Jvm.Cond) (a : Addr) (ya : Addr) (ky : ClassId) (zs : own_Z) (pa : List Value) (cap : Nat) (y : Int32) (h0 : Heap) (n0 : Nat) (Z0 : n0 ≤ h0.size) (pr1 : Exa Z h0 a "com/example/vestwright/vestwright/census/YearlyHours") (pr2 : Fld Z h0 a "com/example/vestwright/vestwright/census/YearlyHours" "size" "I" (.int (Int32.ofNat zs.length))) (pr3 : Fld Z h0 a "com/example/vestwright/vestwright/census/YearlyHours" "years" "[I" (.ref ya)) (pr4 : Arv Z h0 ya ky .int (Int32.ofNat cap) (own_ya zs pa) (.int (0 : Int32))) (pr5 : own_so zs) (pr6 : zs.length ≤ 8) (pr7 : zs.length ≤ cap) (pr8 : cap ≤ 8) :
    own_M l (⟨"com/example/vestwright/vestwright/census/YearlyHours", "indexFrom", "(I)I"⟩ : MethodName) prog_32_method_6_code 3 (some .int) ws own_ifR #[(.ref a), (.int y)] Z h0 (own_ifQ Z a ya ky zs pa cap y h0 n0) := by
  refine own_go (plainFor_of_name own_pn2) (fun m => own_ef4 m a y ) ?_
  intro p e s m below meth c s₁ Bd hx hby hml hZ hh hown hnm X0 e0
  have N0 := Fr.nil n0
  refine own_st (T' := s₁) (g' := (mkF m 2 #[.val (.ref a), .val (.int y), .unset] [(.int y), (.ref a)])) (fun _ kt => XS.aloadN X0.here hx rfl (hb hby d10_0) rfl rfl (XS.iloadN X0.here hx rfl (hb hby d10_1) rfl kt)) ?_
  obtain ⟨cl29, hcl29, hob29⟩ := Exa.cell pr1
  obtain ⟨_, _, ⟨T28, L28, k28, n28⟩, -, X28, ⟨Lc28, hQ28, l28, y28, z28⟩, st28⟩ := X0.privateBack hx (y := (⟨"com/example/vestwright/vestwright/census/YearlyHours", "indexOf", "(I)I"⟩ : MethodName)) hown (mvT hZ (own_k hw 20 rfl)) (mvT hZ (own_k hw 21 rfl)) (Kit.selects_private (by decide) (mvT hZ (own_k hw 2 rfl)) (mvP hZ (own_k hw 22 rfl)) (mvT hZ (own_k hw 21 rfl))) (Cond.privateMethod_at (mvP hZ (own_k hw 22 rfl) (args := #[]))) (mvT hZ (own_k hw 23 rfl)) (by decide) (backOf (W := 0) (own_io l Z a0 hw [] a ya ky zs pa cap y h0 n0 Z0 pr1 pr2 pr3 pr4 pr5 pr6 pr7 pr8) hZ (own_k hw 23 rfl) (own_k hw 3 rfl) (by decide) (by decide)) (g := (mkF m 2 #[.val (.ref a), .val (.int y), .unset] [(.int y), (.ref a)])) rfl hml.symm (Steps.refl _) (a := a) (by rw [e0]; exact hcl29) hob29 (argsL := [(.int y)]) (rest := []) (lenOf own_pd3 rfl) rfl (by show 2 * 0 + _ ≤ _; exact Nat.le_of_eq rfl) (hb hby d10_2) (fun _ _ => ⟨rfl, e0, (by decide : 0 + 0 ≤ 0), (by decide : 0 + 0 ≤ 0)⟩)
  dsimp only [Pt.U, Pt.locs, Pt.cells, Pt.slots] at X28 l28 y28 z28 st28 hQ28
  subst l28 y28 z28
  obtain ⟨rfl, N28, e28⟩ := hQ28
  have N30 := Fr.app N0 N28
  refine own_tr (T' := T28) (g' := (mkF m 5 #[.val (.ref a), .val (.int y), .unset] [(.int (own_ix zs y))])) st28 ?_
  refine own_st (T' := T28) (g' := (mkF m 7 #[.val (.ref a), .val (.int y), .val (.int (own_ix zs y))] [(.int (own_ix zs y))])) (fun _ kt => XS.istoreN X28.here hx rfl (hb hby d10_5) rfl (l' := #[.val (.ref a), .val (.int y), .val (.int (own_ix zs y))]) rfl (XS.iloadN X28.here hx rfl (hb hby d10_6) rfl kt)) ?_
  by_cases hc31 : (own_ix zs y) < 0
  · -- pc 7: (own_ix zs y) < 0
    refine own_st (T' := T28) (g' := (mkF m 18 #[.val (.ref a), .val (.int y), .val (.int (own_ix zs y))] [(.int ((-(own_ix zs y)) - (1 : Int32)))])) (fun _ kt => XS.ifYes X28.here hx rfl (pc0 := 7) (pc' := 14) rfl (hb hby d10_7) rfl (XT.i0_lt_t hc31) (by decide) (by decide) (XS.iloadN X28.here hx rfl (hb hby d10_14) rfl (XS.ineg X28.here hx rfl (hb hby d10_15) rfl (XS.iconst X28.here hx rfl (hb hby d10_16) (XS.isub X28.here hx rfl (hb hby d10_17) rfl kt))))) ?_
    obtain ⟨fs, hr, hrun, hended, hW, hsame⟩ := X28.leave (v := some (.int ((-(own_ix zs y)) - (1 : Int32)))) (fun h => by rw [Bd.returns] at h; cases h)
    refine own_end (own_retI X28 hx Bd.returns (hb hby d10_18) hr) ⟨_, hrun, hended, _, _, rfl, ?_, ⟨_, rfl⟩, hW, hsame.mono (by decide) (by decide)⟩
    show own_ifQ Z _ _ _ _ _ _ _ h0 n0 _ T28.heap _
    rw [e28]
    exact ⟨(congrArg (fun z => some (Value.int z)) (own_ixneg pr6 hc31).2), N30, rfl⟩
  · -- pc 7: not (own_ix zs y) < 0
    refine own_st (T' := T28) (g' := (mkF m 18 #[.val (.ref a), .val (.int y), .val (.int (own_ix zs y))] [(.int (own_ix zs y))])) (fun _ kt => XS.ifNo X28.here hx rfl (hb hby d10_7) rfl (XT.i0_lt_f hc31) (XS.iloadN X28.here hx rfl (hb hby d10_10) rfl (XS.goto X28.here hx rfl (pc0 := 11) (pc' := 18) rfl (hb hby d10_11) (by decide) (by decide) kt))) ?_
    obtain ⟨fs, hr, hrun, hended, hW, hsame⟩ := X28.leave (v := some (.int (own_ix zs y))) (fun h => by rw [Bd.returns] at h; cases h)
    refine own_end (own_retI X28 hx Bd.returns (hb hby d10_18) hr) ⟨_, hrun, hended, _, _, rfl, ?_, ⟨_, rfl⟩, hW, hsame.mono (by decide) (by decide)⟩
    show own_ifQ Z _ _ _ _ _ _ _ h0 n0 _ T28.heap _
    rw [e28]
    exact ⟨(congrArg (fun z => some (Value.int z)) (own_ixpos pr6 hc31).2), N30, rfl⟩
theorem own_run1 {t : Int32} {zs : own_Z} {i : Nat} (h : i < zs.length) : own_run t (zs.drop i) = if t < own_y zs i then 0 else (own_h zs i).toInt64 + own_run t (zs.drop (i + 1)) := by
  rw [List.drop_eq_getElem_cons h, own_yat h, own_h, List.getD_eq_getElem?_getD, List.getElem?_eq_getElem h]
  rfl
theorem own_run0 {t : Int32} {zs : own_Z} {i : Nat} (h : zs.length ≤ i) : own_run t (zs.drop i) = 0 := by
  rw [List.drop_eq_nil_of_le h]; rfl
theorem own_ige {i n : Nat} (hi : i ≤ 1000) (hn : n ≤ 1000) : Int32.ofNat i < Int32.ofNat n ↔ i < n := by
  rw [Int32.lt_iff_toInt_lt, own_ti hi, own_ti hn]; omega
theorem d9_0 : decode prog_32_method_3_code 0 = .ok (.lconst 0, 1) := by decide +kernel
theorem d9_1 : decode prog_32_method_3_code 1 = .ok (.lstore_n 3, 1) := by decide +kernel
theorem d9_2 : decode prog_32_method_3_code 2 = .ok (.aload_n 0, 1) := by decide +kernel
theorem d9_3 : decode prog_32_method_3_code 3 = .ok (.iload_n 1, 1) := by decide +kernel
theorem d9_4 : decode prog_32_method_3_code 4 = .ok (.invokevirtual 24, 3) := by decide +kernel
theorem d9_7 : decode prog_32_method_3_code 7 = .ok (.istore 5, 2) := by decide +kernel
theorem d9_9 : decode prog_32_method_3_code 9 = .ok (.iload 5, 2) := by decide +kernel
theorem d9_11 : decode prog_32_method_3_code 11 = .ok (.aload_n 0, 1) := by decide +kernel
theorem d9_12 : decode prog_32_method_3_code 12 = .ok (.getfield 27, 3) := by decide +kernel
theorem d9_15 : decode prog_32_method_3_code 15 = .ok (.if_icmp .ge 31, 3) := by decide +kernel
theorem d9_18 : decode prog_32_method_3_code 18 = .ok (.aload_n 0, 1) := by decide +kernel
theorem d9_19 : decode prog_32_method_3_code 19 = .ok (.getfield 9, 3) := by decide +kernel
theorem d9_22 : decode prog_32_method_3_code 22 = .ok (.iload 5, 2) := by decide +kernel
theorem d9_24 : decode prog_32_method_3_code 24 = .ok (.iaload, 1) := by decide +kernel
theorem d9_25 : decode prog_32_method_3_code 25 = .ok (.iload_n 2, 1) := by decide +kernel
theorem d9_26 : decode prog_32_method_3_code 26 = .ok (.if_icmp .gt 20, 3) := by decide +kernel
theorem d9_46 : decode prog_32_method_3_code 46 = .ok (.lload_n 3, 1) := by decide +kernel
theorem d9_47 : decode prog_32_method_3_code 47 = .ok (.lreturn, 1) := by decide +kernel
theorem d9_29 : decode prog_32_method_3_code 29 = .ok (.lload_n 3, 1) := by decide +kernel
theorem d9_30 : decode prog_32_method_3_code 30 = .ok (.aload_n 0, 1) := by decide +kernel
theorem d9_31 : decode prog_32_method_3_code 31 = .ok (.getfield 13, 3) := by decide +kernel
theorem d9_34 : decode prog_32_method_3_code 34 = .ok (.iload 5, 2) := by decide +kernel
theorem d9_36 : decode prog_32_method_3_code 36 = .ok (.iaload, 1) := by decide +kernel
theorem d9_37 : decode prog_32_method_3_code 37 = .ok (.i2l, 1) := by decide +kernel
theorem d9_38 : decode prog_32_method_3_code 38 = .ok (.ladd, 1) := by decide +kernel
theorem d9_39 : decode prog_32_method_3_code 39 = .ok (.lstore_n 3, 1) := by decide +kernel
theorem d9_40 : decode prog_32_method_3_code 40 = .ok (.iinc 5 1, 3) := by decide +kernel
theorem d9_43 : decode prog_32_method_3_code 43 = .ok (.goto (-34), 3) := by decide +kernel
set_option maxHeartbeats 4000000 in
theorem own_ef5 (m : MethodId) (x0 : Addr) (x1 : Int32) (x2 : Int32) : entryFrame m #[(.ref x0), (.int x1), (.int x2)] 6 = mkF m 0 #[.val (.ref x0), .val (.int x1), .val (.int x2), .unset, .unset, .unset] [] := by first | (simp [entryFrame, mkF, argsToLocals, Value.category]; done) | rfl
def own_hiQ (Z : State) (a : Addr) (ya : Addr) (ky : ClassId) (ha : Addr) (kh : ClassId) (zs : own_Z) (pa : List Value) (pb : List Value) (cap : Nat) (f : Int32) (t : Int32) (h0 : Heap) (n0 : Nat) (v : Option Value) (h : Heap) (L : List Loc) : Prop := v = some (.long (own_tot f t zs)) ∧ Fr n0 L ∧ h = h0
abbrev own_hiR : Room := { frames := 4, cells := 0, slots := 0, locals := 62 }
set_option maxRecDepth 65536 in
set_option maxHeartbeats 40000000 in
theorem own_hi (l : Launch) (Z : State) (a0 : Array Value) (hw : ∀ d ∈ tables_1, d.before a0 Z = true) (ws : List Jvm.Cond) (a : Addr) (ya : Addr) (ky : ClassId) (ha : Addr) (kh : ClassId) (zs : own_Z) (pa : List Value) (pb : List Value) (cap : Nat) (f : Int32) (t : Int32) (h0 : Heap) (n0 : Nat) (Z0 : n0 ≤ h0.size) (pr1 : Exa Z h0 a "com/example/vestwright/vestwright/census/YearlyHours") (pr2 : Fld Z h0 a "com/example/vestwright/vestwright/census/YearlyHours" "size" "I" (.int (Int32.ofNat zs.length))) (pr3 : Fld Z h0 a "com/example/vestwright/vestwright/census/YearlyHours" "years" "[I" (.ref ya)) (pr4 : Fld Z h0 a "com/example/vestwright/vestwright/census/YearlyHours" "hours" "[I" (.ref ha)) (pr5 : Arv Z h0 ya ky .int (Int32.ofNat cap) (own_ya zs pa) (.int (0 : Int32))) (pr6 : Arv Z h0 ha kh .int (Int32.ofNat cap) (own_ha zs pb) (.int (0 : Int32))) (pr7 : own_so zs) (pr8 : zs.length ≤ 8) (pr9 : zs.length ≤ cap) (pr10 : cap ≤ 8) :
    own_M l (⟨"com/example/vestwright/vestwright/census/YearlyHours", "hoursIn", "(II)J"⟩ : MethodName) prog_32_method_3_code 6 (some .long) ws own_hiR #[(.ref a), (.int f), (.int t)] Z h0 (own_hiQ Z a ya ky ha kh zs pa pb cap f t h0 n0) := by
  refine own_go (plainFor_of_name own_pn2) (fun m => own_ef5 m a f t ) ?_
  intro p e s m below meth c s₁ Bd hx hby hml hZ hh hown hnm X0 e0
  have N0 := Fr.nil n0
  refine own_st (T' := s₁) (g' := (mkF m 4 #[.val (.ref a), .val (.int f), .val (.int t), .val (.long (0 : Int64)), .second, .unset] [(.int f), (.ref a)])) (fun _ kt => XT.lconst X0.here hx rfl (hb hby d9_0) (XT.lstoreN X0.here hx rfl (hb hby d9_1) rfl (l' := #[.val (.ref a), .val (.int f), .val (.int t), .val (.long (0 : Int64)), .second, .unset]) rfl (XS.aloadN X0.here hx rfl (hb hby d9_2) rfl rfl (XS.iloadN X0.here hx rfl (hb hby d9_3) rfl kt)))) ?_
  obtain ⟨cl33, hcl33, hob33⟩ := Exa.cell pr1
  obtain ⟨_, _, ⟨T32, L32, k32, n32⟩, -, X32, ⟨Lc32, hQ32, l32, y32, z32⟩, st32⟩ := X0.privateBack hx (y := (⟨"com/example/vestwright/vestwright/census/YearlyHours", "indexFrom", "(I)I"⟩ : MethodName)) hown (mvT hZ (own_k hw 49 rfl)) (mvT hZ (own_k hw 50 rfl)) (Kit.selects_private (by decide) (mvT hZ (own_k hw 2 rfl)) (mvP hZ (own_k hw 51 rfl)) (mvT hZ (own_k hw 50 rfl))) (Cond.privateMethod_at (mvP hZ (own_k hw 51 rfl) (args := #[]))) (mvT hZ (own_k hw 52 rfl)) (by decide) (backOf (W := 0) (own_if l Z a0 hw [] a ya ky zs pa cap f h0 n0 Z0 pr1 pr2 pr3 pr5 pr7 pr8 pr9 pr10) hZ (own_k hw 52 rfl) (own_k hw 3 rfl) (by decide) (by decide)) (g := (mkF m 4 #[.val (.ref a), .val (.int f), .val (.int t), .val (.long (0 : Int64)), .second, .unset] [(.int f), (.ref a)])) rfl hml.symm (Steps.refl _) (a := a) (by rw [e0]; exact hcl33) hob33 (argsL := [(.int f)]) (rest := []) (lenOf own_pd3 rfl) rfl (by show 2 * 0 + _ ≤ _; exact Nat.le_of_eq rfl) (hb hby d9_4) (fun _ _ => ⟨rfl, e0, (by decide : 0 + 0 ≤ 0), (by decide : 0 + 0 ≤ 0)⟩)
  dsimp only [Pt.U, Pt.locs, Pt.cells, Pt.slots] at X32 l32 y32 z32 st32 hQ32
  subst l32 y32 z32
  obtain ⟨rfl, N32, e32⟩ := hQ32
  have N34 := Fr.app N0 N32
  refine own_tr (T' := T32) (g' := (mkF m 7 #[.val (.ref a), .val (.int f), .val (.int t), .val (.long (0 : Int64)), .second, .unset] [(.int (Int32.ofNat (own_c zs f)))])) st32 ?_
  refine own_st (T' := T32) (g' := (mkF m 9 #[.val (.ref a), .val (.int f), .val (.int t), .val (.long (0 : Int64)), .second, .val (.int (Int32.ofNat (own_c zs f)))] [])) (fun _ kt => XS.istore X32.here hx rfl (hb hby d9_7) rfl (l' := #[.val (.ref a), .val (.int f), .val (.int t), .val (.long (0 : Int64)), .second, .val (.int (Int32.ofNat (own_c zs f)))]) rfl kt) ?_
  refine own_loop (α := Int64 × Nat) X32 e32 (gj := fun q => (mkF m 9 #[.val (.ref a), .val (.int f), .val (.int t), .val (.long q.1), .second, .val (.int (Int32.ofNat q.2))] [])) (P := fun kk q => q.2 ≤ zs.length ∧ q.1 + own_run t (zs.drop q.2) = own_tot f t zs ∧ zs.length - q.2 = kk) ?_ (fun L35 => ?_)
  · rintro kk ih35 T35 ⟨acc, i⟩ hv X35 e35
    try dsimp only at hv ⊢
    refine own_st (T' := T35) (g' := (mkF m 12 #[.val (.ref a), .val (.int f), .val (.int t), .val (.long acc), .second, .val (.int (Int32.ofNat i))] [(.ref a), (.int (Int32.ofNat i))])) (fun _ kt => XS.iload X35.here hx rfl (hb hby d9_9) rfl (XS.aloadN X35.here hx rfl (hb hby d9_11) rfl rfl kt)) ?_
    obtain ⟨T36, X36, e36, st36⟩ := getF X35 hx hZ hown (host := "") (Or.inl (own_k hw 24 rfl)) Via.refl e35 pr2 (g := (mkF m 12 #[.val (.ref a), .val (.int f), .val (.int t), .val (.long acc), .second, .val (.int (Int32.ofNat i))] [(.ref a), (.int (Int32.ofNat i))])) rfl rfl (hb hby d9_12)
    refine own_st (T' := T36) (g' := (mkF m 15 #[.val (.ref a), .val (.int f), .val (.int t), .val (.long acc), .second, .val (.int (Int32.ofNat i))] [(.int (Int32.ofNat zs.length)), (.int (Int32.ofNat i))])) st36 ?_
    by_cases hc37 : (Int32.ofNat i) < (Int32.ofNat zs.length)
    · -- pc 15: (Int32.ofNat i) < (Int32.ofNat zs.length)
      refine own_st (T' := T36) (g' := (mkF m 18 #[.val (.ref a), .val (.int f), .val (.int t), .val (.long acc), .second, .val (.int (Int32.ofNat i))] [])) (fun _ kt => XS.icmpNo X36.here hx rfl (hb hby d9_15) rfl (XT.ii_ge_f hc37) kt) ?_
      have hi1 : i < zs.length := (own_ige (by omega) (by omega)).mp hc37
      refine own_st (T' := T36) (g' := (mkF m 19 #[.val (.ref a), .val (.int f), .val (.int t), .val (.long acc), .second, .val (.int (Int32.ofNat i))] [(.ref a)])) (fun _ kt => XS.aloadN X36.here hx rfl (hb hby d9_18) rfl rfl kt) ?_
      obtain ⟨T38, X38, e38, st38⟩ := getF X36 hx hZ hown (host := "") (Or.inl (own_k hw 11 rfl)) Via.refl e36 pr3 (g := (mkF m 19 #[.val (.ref a), .val (.int f), .val (.int t), .val (.long acc), .second, .val (.int (Int32.ofNat i))] [(.ref a)])) rfl rfl (hb hby d9_19)
      refine own_st (T' := T38) (g' := (mkF m 22 #[.val (.ref a), .val (.int f), .val (.int t), .val (.long acc), .second, .val (.int (Int32.ofNat i))] [(.ref ya)])) st38 ?_
      refine own_st (T' := T38) (g' := (mkF m 24 #[.val (.ref a), .val (.int f), .val (.int t), .val (.long acc), .second, .val (.int (Int32.ofNat i))] [(.int (Int32.ofNat i)), (.ref ya)])) (fun _ kt => XS.iload X38.here hx rfl (hb hby d9_22) rfl kt) ?_
      refine own_st (T' := T38) (g' := (mkF m 25 #[.val (.ref a), .val (.int f), .val (.int t), .val (.long acc), .second, .val (.int (Int32.ofNat i))] [(.int (own_y zs i))])) (own_ial X38 hx hZ e38 pr5 (own_idx (by omega) (by omega)) (own_yg hi1 (by omega)) (g := (mkF m 24 #[.val (.ref a), .val (.int f), .val (.int t), .val (.long acc), .second, .val (.int (Int32.ofNat i))] [(.int (Int32.ofNat i)), (.ref ya)])) rfl rfl (hb hby d9_24)) ?_
      refine own_st (T' := T38) (g' := (mkF m 26 #[.val (.ref a), .val (.int f), .val (.int t), .val (.long acc), .second, .val (.int (Int32.ofNat i))] [(.int t), (.int (own_y zs i))])) (fun _ kt => XS.iloadN X38.here hx rfl (hb hby d9_25) rfl kt) ?_
      by_cases hc39 : t < (own_y zs i)
      · -- pc 26: t < (own_y zs i)
        refine own_st (T' := T38) (g' := (mkF m 47 #[.val (.ref a), .val (.int f), .val (.int t), .val (.long acc), .second, .val (.int (Int32.ofNat i))] [(.long acc)])) (fun _ kt => XS.icmpYes X38.here hx rfl (pc0 := 26) (pc' := 46) rfl (hb hby d9_26) rfl (XT.ii_gt_t hc39) (by decide) (by decide) (XT.lloadN X38.here hx rfl (hb hby d9_46) rfl kt)) ?_
        obtain ⟨fs, hr, hrun, hended, hW, hsame⟩ := X38.leave (v := some (.long acc)) (fun h => by rw [Bd.returns] at h; cases h)
        refine own_end (own_retJ X38 hx Bd.returns (hb hby d9_47) hr) ⟨_, hrun, hended, _, _, rfl, ?_, ⟨_, rfl⟩, hW, hsame.mono (by decide) (by decide)⟩
        show own_hiQ Z _ _ _ _ _ _ _ _ _ _ _ h0 n0 _ T38.heap _
        rw [e38]
        exact ⟨(congrArg (fun z => some (Value.long z)) (by rw [← hv.2.1, own_run1 hi1, if_pos hc39, Int64.add_zero])), N34, rfl⟩
      · -- pc 26: not t < (own_y zs i)
        refine own_st (T' := T38) (g' := (mkF m 31 #[.val (.ref a), .val (.int f), .val (.int t), .val (.long acc), .second, .val (.int (Int32.ofNat i))] [(.ref a), (.long acc)])) (fun _ kt => XS.icmpNo X38.here hx rfl (hb hby d9_26) rfl (XT.ii_gt_f hc39) (XT.lloadN X38.here hx rfl (hb hby d9_29) rfl (XS.aloadN X38.here hx rfl (hb hby d9_30) rfl rfl kt))) ?_
        obtain ⟨T40, X40, e40, st40⟩ := getF X38 hx hZ hown (host := "") (Or.inl (own_k hw 13 rfl)) Via.refl e38 pr4 (g := (mkF m 31 #[.val (.ref a), .val (.int f), .val (.int t), .val (.long acc), .second, .val (.int (Int32.ofNat i))] [(.ref a), (.long acc)])) rfl rfl (hb hby d9_31)
        refine own_st (T' := T40) (g' := (mkF m 34 #[.val (.ref a), .val (.int f), .val (.int t), .val (.long acc), .second, .val (.int (Int32.ofNat i))] [(.ref ha), (.long acc)])) st40 ?_
        refine own_st (T' := T40) (g' := (mkF m 36 #[.val (.ref a), .val (.int f), .val (.int t), .val (.long acc), .second, .val (.int (Int32.ofNat i))] [(.int (Int32.ofNat i)), (.ref ha), (.long acc)])) (fun _ kt => XS.iload X40.here hx rfl (hb hby d9_34) rfl kt) ?_
        refine own_st (T' := T40) (g' := (mkF m 37 #[.val (.ref a), .val (.int f), .val (.int t), .val (.long acc), .second, .val (.int (Int32.ofNat i))] [(.int (own_h zs i)), (.long acc)])) (own_ial X40 hx hZ e40 pr6 (own_idx (by omega) (by omega)) (own_hg hi1 (by omega)) (g := (mkF m 36 #[.val (.ref a), .val (.int f), .val (.int t), .val (.long acc), .second, .val (.int (Int32.ofNat i))] [(.int (Int32.ofNat i)), (.ref ha), (.long acc)])) rfl rfl (hb hby d9_36)) ?_
        refine own_st (T' := T40) (g' := (mkF m 43 #[.val (.ref a), .val (.int f), .val (.int t), .val (.long (acc + ((own_h zs i).toInt64))), .second, .val (.int ((Int32.ofNat i) + (1 : Int32)))] [])) (fun _ kt => XT.i2l X40.here hx rfl (hb hby d9_37) rfl (XT.ladd X40.here hx rfl (hb hby d9_38) rfl (XT.lstoreN X40.here hx rfl (hb hby d9_39) rfl (l' := #[.val (.ref a), .val (.int f), .val (.int t), .val (.long (acc + ((own_h zs i).toInt64))), .second, .val (.int (Int32.ofNat i))]) rfl (XS.iinc X40.here hx rfl (hb hby d9_40) rfl (l' := #[.val (.ref a), .val (.int f), .val (.int t), .val (.long (acc + ((own_h zs i).toInt64))), .second, .val (.int ((Int32.ofNat i) + (1 : Int32)))]) rfl kt)))) ?_
        rw [own_succ (n := i) (by omega)]
        refine own_st (T' := T40) (g' := (mkF m 9 #[.val (.ref a), .val (.int f), .val (.int t), .val (.long (acc + ((own_h zs i).toInt64))), .second, .val (.int (Int32.ofNat (i + 1)))] [])) (fun _ kt => XS.goto X40.here hx rfl (pc0 := 43) (pc' := 9) rfl (hb hby d9_43) (by decide) (by decide) kt) ?_
        exact ih35 (zs.length - (i + 1)) (by have := hv.2.2; omega) _ ⟨(acc + (own_h zs i).toInt64), (i + 1)⟩ ⟨by omega, by rw [← hv.2.1, own_run1 hi1, if_neg hc39, Int64.add_assoc], rfl⟩ X40 e40
    · -- pc 15: not (Int32.ofNat i) < (Int32.ofNat zs.length)
      refine own_st (T' := T36) (g' := (mkF m 47 #[.val (.ref a), .val (.int f), .val (.int t), .val (.long acc), .second, .val (.int (Int32.ofNat i))] [(.long acc)])) (fun _ kt => XS.icmpYes X36.here hx rfl (pc0 := 15) (pc' := 46) rfl (hb hby d9_15) rfl (XT.ii_ge_t hc37) (by decide) (by decide) (XT.lloadN X36.here hx rfl (hb hby d9_46) rfl kt)) ?_
      obtain ⟨fs, hr, hrun, hended, hW, hsame⟩ := X36.leave (v := some (.long acc)) (fun h => by rw [Bd.returns] at h; cases h)
      refine own_end (own_retJ X36 hx Bd.returns (hb hby d9_47) hr) ⟨_, hrun, hended, _, _, rfl, ?_, ⟨_, rfl⟩, hW, hsame.mono (by decide) (by decide)⟩
      show own_hiQ Z _ _ _ _ _ _ _ _ _ _ _ h0 n0 _ T36.heap _
      rw [e36]
      exact ⟨(congrArg (fun z => some (Value.long z)) (by rw [← hv.2.1, own_run0 (Nat.le_of_not_lt fun g => hc37 ((own_ige (by omega) (by omega)).mpr g)), Int64.add_zero])), N34, rfl⟩
  ·
    exact L35 (zs.length - own_c zs f) _ ⟨(0 : Int64), (own_c zs f)⟩ ⟨own_c_le zs f, by rw [Int64.zero_add]; exact own_drop pr7, rfl⟩ X32 e32
def own_pt (y : Int32) (v : Int64) (f t : Int32) : Int64 := if f ≤ y ∧ y ≤ t then v else 0
theorem own_pt1 {y : Int32} {v : Int64} {f t : Int32} (h : y < f) : (0 : Int64) = own_pt y v f t := by
  rw [own_pt, if_neg]; intro g; rw [Int32.lt_iff_toInt_lt] at h; have := Int32.le_iff_toInt_le.mp g.1; omega
theorem own_pt2 {y : Int32} {v : Int64} {f t : Int32} (h : t < y) : (0 : Int64) = own_pt y v f t := by
  rw [own_pt, if_neg]; intro g; rw [Int32.lt_iff_toInt_lt] at h; have := Int32.le_iff_toInt_le.mp g.2; omega
theorem own_pt3 {y : Int32} {v : Int64} {f t : Int32} (h : ¬ y < f) (h2 : ¬ t < y) : v = own_pt y v f t := by
  rw [own_pt, if_pos]; rw [Int32.lt_iff_toInt_lt] at h h2; rw [Int32.le_iff_toInt_le, Int32.le_iff_toInt_le]; omega
theorem own_hb (x : Int64) : 0 ≤ (x &&& (1023 : Int64)).toInt32.toInt ∧ (x &&& (1023 : Int64)).toInt32.toInt ≤ 1023 := by
  have g := Jvm.Kit.i64_mask x (1023 : Int64) (k := 10) (by decide) (by decide)
  rw [Jvm.Kit.i32_of_i64 (by rw [g]; omega) (by rw [g]; omega), g]; omega
theorem d11_0 : decode method_2_code 0 = .ok (.iload_n 3, 1) := by decide +kernel
theorem d11_1 : decode method_2_code 1 = .ok (.iload_n 0, 1) := by decide +kernel
theorem d11_2 : decode method_2_code 2 = .ok (.if_icmp .gt 11, 3) := by decide +kernel
theorem d11_13 : decode method_2_code 13 = .ok (.lconst 0, 1) := by decide +kernel
theorem d11_14 : decode method_2_code 14 = .ok (.lreturn, 1) := by decide +kernel
theorem d11_5 : decode method_2_code 5 = .ok (.iload_n 0, 1) := by decide +kernel
theorem d11_6 : decode method_2_code 6 = .ok (.iload 4, 2) := by decide +kernel
theorem d11_8 : decode method_2_code 8 = .ok (.if_icmp .gt 5, 3) := by decide +kernel
theorem d11_11 : decode method_2_code 11 = .ok (.lload_n 1, 1) := by decide +kernel
theorem d11_12 : decode method_2_code 12 = .ok (.lreturn, 1) := by decide +kernel
set_option maxHeartbeats 4000000 in
theorem own_ef6 (m : MethodId) (x0 : Int32) (x1 : Int64) (x2 : Int32) (x3 : Int32) : entryFrame m #[(.int x0), (.long x1), (.int x2), (.int x3)] 5 = mkF m 0 #[.val (.int x0), .val (.long x1), .second, .val (.int x2), .val (.int x3)] [] := by first | (simp [entryFrame, mkF, argsToLocals, Value.category]; done) | rfl
def own_ppQ (Z : State) (y : Int32) (vv : Int64) (f : Int32) (t : Int32) (h0 : Heap) (n0 : Nat) (v : Option Value) (h : Heap) (L : List Loc) : Prop := v = some (.long (own_pt y vv f t)) ∧ Fr n0 L ∧ h = h0
theorem own_pn3 : plainName "com/example/vestwright/vestwright/census/YearlyHoursHoursInPinLaw" = true := by first | (simp [plainName, overriddenIn]; done) | decide +kernel
abbrev own_ppR : Room := { frames := 0, cells := 0, slots := 0, locals := 0 }
set_option maxRecDepth 65536 in
set_option maxHeartbeats 40000000 in
theorem own_pp (l : Launch) (Z : State) (a0 : Array Value) (hw : ∀ d ∈ tables_1, d.before a0 Z = true) (ws : List Jvm.Cond) (y : Int32) (vv : Int64) (f : Int32) (t : Int32) (h0 : Heap) (n0 : Nat) (Z0 : n0 ≤ h0.size)  :
    own_M l (⟨"com/example/vestwright/vestwright/census/YearlyHoursHoursInPinLaw", "part", "(IJII)J"⟩ : MethodName) method_2_code 5 (some .long) ws own_ppR #[(.int y), (.long vv), (.int f), (.int t)] Z h0 (own_ppQ Z y vv f t h0 n0) := by
  refine own_go (plainFor_of_name own_pn3) (fun m => own_ef6 m y vv f t ) ?_
  intro p e s m below meth c s₁ Bd hx hby hml hZ hh hown hnm X0 e0
  have N0 := Fr.nil n0
  refine own_st (T' := s₁) (g' := (mkF m 2 #[.val (.int y), .val (.long vv), .second, .val (.int f), .val (.int t)] [(.int y), (.int f)])) (fun _ kt => XS.iloadN X0.here hx rfl (hb hby d11_0) rfl (XS.iloadN X0.here hx rfl (hb hby d11_1) rfl kt)) ?_
  by_cases hc41 : y < f
  · -- pc 2: y < f
    refine own_st (T' := s₁) (g' := (mkF m 14 #[.val (.int y), .val (.long vv), .second, .val (.int f), .val (.int t)] [(.long (0 : Int64))])) (fun _ kt => XS.icmpYes X0.here hx rfl (pc0 := 2) (pc' := 13) rfl (hb hby d11_2) rfl (XT.ii_gt_t hc41) (by decide) (by decide) (XT.lconst X0.here hx rfl (hb hby d11_13) kt)) ?_
    obtain ⟨fs, hr, hrun, hended, hW, hsame⟩ := X0.leave (v := some (.long (0 : Int64))) (fun h => by rw [Bd.returns] at h; cases h)
    refine own_end (own_retJ X0 hx Bd.returns (hb hby d11_14) hr) ⟨_, hrun, hended, _, _, rfl, ?_, ⟨_, rfl⟩, hW, hsame.mono (by decide) (by decide)⟩
    show own_ppQ Z _ _ _ _ h0 n0 _ s₁.heap _
    rw [e0]
    exact ⟨(congrArg (fun z => some (Value.long z)) (own_pt1 hc41)), N0, rfl⟩
  · -- pc 2: not y < f
    refine own_st (T' := s₁) (g' := (mkF m 8 #[.val (.int y), .val (.long vv), .second, .val (.int f), .val (.int t)] [(.int t), (.int y)])) (fun _ kt => XS.icmpNo X0.here hx rfl (hb hby d11_2) rfl (XT.ii_gt_f hc41) (XS.iloadN X0.here hx rfl (hb hby d11_5) rfl (XS.iload X0.here hx rfl (hb hby d11_6) rfl kt))) ?_
    by_cases hc42 : t < y
    · -- pc 8: t < y
      refine own_st (T' := s₁) (g' := (mkF m 14 #[.val (.int y), .val (.long vv), .second, .val (.int f), .val (.int t)] [(.long (0 : Int64))])) (fun _ kt => XS.icmpYes X0.here hx rfl (pc0 := 8) (pc' := 13) rfl (hb hby d11_8) rfl (XT.ii_gt_t hc42) (by decide) (by decide) (XT.lconst X0.here hx rfl (hb hby d11_13) kt)) ?_
      obtain ⟨fs, hr, hrun, hended, hW, hsame⟩ := X0.leave (v := some (.long (0 : Int64))) (fun h => by rw [Bd.returns] at h; cases h)
      refine own_end (own_retJ X0 hx Bd.returns (hb hby d11_14) hr) ⟨_, hrun, hended, _, _, rfl, ?_, ⟨_, rfl⟩, hW, hsame.mono (by decide) (by decide)⟩
      show own_ppQ Z _ _ _ _ h0 n0 _ s₁.heap _
      rw [e0]
      exact ⟨(congrArg (fun z => some (Value.long z)) (own_pt2 hc42)), N0, rfl⟩
    · -- pc 8: not t < y
      refine own_st (T' := s₁) (g' := (mkF m 12 #[.val (.int y), .val (.long vv), .second, .val (.int f), .val (.int t)] [(.long vv)])) (fun _ kt => XS.icmpNo X0.here hx rfl (hb hby d11_8) rfl (XT.ii_gt_f hc42) (XT.lloadN X0.here hx rfl (hb hby d11_11) rfl kt)) ?_
      obtain ⟨fs, hr, hrun, hended, hW, hsame⟩ := X0.leave (v := some (.long vv)) (fun h => by rw [Bd.returns] at h; cases h)
      refine own_end (own_retJ X0 hx Bd.returns (hb hby d11_12) hr) ⟨_, hrun, hended, _, _, rfl, ?_, ⟨_, rfl⟩, hW, hsame.mono (by decide) (by decide)⟩
      show own_ppQ Z _ _ _ _ h0 n0 _ s₁.heap _
      rw [e0]
      exact ⟨(congrArg (fun z => some (Value.long z)) (own_pt3 hc41 hc42)), N0, rfl⟩
theorem d13_0 : decode jdk_29_method_69_code 0 = .ok (.iload_n 0, 1) := by decide +kernel
theorem d13_1 : decode jdk_29_method_69_code 1 = .ok (.iload_n 1, 1) := by decide +kernel
theorem d13_2 : decode jdk_29_method_69_code 2 = .ok (.if_icmp .gt 7, 3) := by decide +kernel
theorem d13_5 : decode jdk_29_method_69_code 5 = .ok (.iload_n 0, 1) := by decide +kernel
theorem d13_6 : decode jdk_29_method_69_code 6 = .ok (.goto 4, 3) := by decide +kernel
theorem d13_10 : decode jdk_29_method_69_code 10 = .ok (.ireturn, 1) := by decide +kernel
set_option maxHeartbeats 4000000 in
theorem own_ef7 (m : MethodId) (x0 : Int32) (x1 : Int32) : entryFrame m #[(.int x0), (.int x1)] 2 = mkF m 0 #[.val (.int x0), .val (.int x1)] [] := by first | (simp [entryFrame, mkF, argsToLocals, Value.category]; done) | rfl
def own_mnQ (Z : State)  (h0 : Heap) (n0 : Nat) (v : Option Value) (h : Heap) (L : List Loc) : Prop := v = some (.int (4 : Int32)) ∧ Fr n0 L ∧ h = h0
abbrev own_mnR : Room := { frames := 0, cells := 0, slots := 0, locals := 0 }
set_option maxRecDepth 65536 in
set_option maxHeartbeats 40000000 in
theorem own_mn (l : Launch) (Z : State) (a0 : Array Value) (hw : ∀ d ∈ tables_1, d.before a0 Z = true) (ws : List Jvm.Cond)  (h0 : Heap) (n0 : Nat) (Z0 : n0 ≤ h0.size)  :
    own_M l (⟨"java/lang/Math", "min", "(II)I"⟩ : MethodName) jdk_29_method_69_code 2 (some .int) ws own_mnR #[(.int (4 : Int32)), (.int (8 : Int32))] Z h0 (own_mnQ Z  h0 n0) := by
  refine own_go (Jvm.Free.JP.mathPlain rfl (by decide)) (fun m => own_ef7 m (4 : Int32) (8 : Int32) ) ?_
  intro p e s m below meth c s₁ Bd hx hby hml hZ hh hown hnm X0 e0
  have N0 := Fr.nil n0
  refine own_st (T' := s₁) (g' := (mkF m 10 #[.val (.int (4 : Int32)), .val (.int (8 : Int32))] [(.int (4 : Int32))])) (fun _ kt => XS.iloadN X0.here hx rfl (hb hby d13_0) rfl (XS.iloadN X0.here hx rfl (hb hby d13_1) rfl (XS.icmpNo X0.here hx rfl (hb hby d13_2) rfl (XT.ii_gt_f (by decide)) (XS.iloadN X0.here hx rfl (hb hby d13_5) rfl (XS.goto X0.here hx rfl (pc0 := 6) (pc' := 10) rfl (hb hby d13_6) (by decide) (by decide) kt))))) ?_
  obtain ⟨fs, hr, hrun, hended, hW, hsame⟩ := X0.leave (v := some (.int (4 : Int32))) (fun h => by rw [Bd.returns] at h; cases h)
  refine own_end (own_retI X0 hx Bd.returns (hb hby d13_10) hr) ⟨_, hrun, hended, _, _, rfl, ?_, ⟨_, rfl⟩, hW, hsame.mono (by decide) (by decide)⟩
  show own_mnQ Z  h0 n0 _ s₁.heap _
  rw [e0]
  exact ⟨rfl, N0, rfl⟩
theorem own_cp4 {vs : List Value} (h : vs.length = 4) : (([(.int (0 : Int32)), (.int (0 : Int32)), (.int (0 : Int32)), (.int (0 : Int32)), (.int (0 : Int32)), (.int (0 : Int32)), (.int (0 : Int32)), (.int (0 : Int32))] : List Value).take (0 : Int32).toNatClampNeg ++ ((List.range (4 : Int32).toNatClampNeg).map fun i => vs.getD ((0 : Int32).toNatClampNeg + i) (.int (0 : Int32))) ++ ([(.int (0 : Int32)), (.int (0 : Int32)), (.int (0 : Int32)), (.int (0 : Int32)), (.int (0 : Int32)), (.int (0 : Int32)), (.int (0 : Int32)), (.int (0 : Int32))] : List Value).drop ((0 : Int32).toNatClampNeg + (4 : Int32).toNatClampNeg)) = vs ++ [(.int (0 : Int32)), (.int (0 : Int32)), (.int (0 : Int32)), (.int (0 : Int32))] := by
  match vs, h with
  | [a, b, c, d], _ => rfl
theorem d12_0 : decode jdk_65_method_123_code 0 = .ok (.iload_n 1, 1) := by decide +kernel
theorem d12_1 : decode jdk_65_method_123_code 1 = .ok (.aload_n 0, 1) := by decide +kernel
theorem d12_2 : decode jdk_65_method_123_code 2 = .ok (.arraylength, 1) := by decide +kernel
theorem d12_3 : decode jdk_65_method_123_code 3 = .ok (.if_icmp .ne 11, 3) := by decide +kernel
theorem d12_14 : decode jdk_65_method_123_code 14 = .ok (.iload_n 1, 1) := by decide +kernel
theorem d12_15 : decode jdk_65_method_123_code 15 = .ok (.newarray .int, 2) := by decide +kernel
theorem d12_17 : decode jdk_65_method_123_code 17 = .ok (.astore_n 2, 1) := by decide +kernel
theorem d12_18 : decode jdk_65_method_123_code 18 = .ok (.aload_n 0, 1) := by decide +kernel
theorem d12_19 : decode jdk_65_method_123_code 19 = .ok (.iconst 0, 1) := by decide +kernel
theorem d12_20 : decode jdk_65_method_123_code 20 = .ok (.aload_n 2, 1) := by decide +kernel
theorem d12_21 : decode jdk_65_method_123_code 21 = .ok (.iconst 0, 1) := by decide +kernel
theorem d12_22 : decode jdk_65_method_123_code 22 = .ok (.aload_n 0, 1) := by decide +kernel
theorem d12_23 : decode jdk_65_method_123_code 23 = .ok (.arraylength, 1) := by decide +kernel
theorem d12_24 : decode jdk_65_method_123_code 24 = .ok (.iload_n 1, 1) := by decide +kernel
theorem d12_25 : decode jdk_65_method_123_code 25 = .ok (.invokestatic 304, 3) := by decide +kernel
theorem own_pd4 : parseMethodDescriptor "(II)I" = some ⟨[.int, .int], some .int⟩ := by decide +kernel
theorem d12_28 : decode jdk_65_method_123_code 28 = .ok (.invokestatic 150, 3) := by decide +kernel
theorem d12_31 : decode jdk_65_method_123_code 31 = .ok (.aload_n 2, 1) := by decide +kernel
theorem d12_32 : decode jdk_65_method_123_code 32 = .ok (.areturn, 1) := by decide +kernel
def own_cyQ (Z : State) (x0 : Addr) (kx : ClassId) (vs : List Value) (h0 : Heap) (n0 : Nat) (v : Option Value) (h : Heap) (L : List Loc) : Prop := ∃ (b : Addr), ∃ (kb : ClassId), v = some (.ref b) ∧ Fr n0 L ∧ Keep h0 h [] ∧ (Arv Z h b kb .int (8 : Int32) (vs ++ [(.int (0 : Int32)), (.int (0 : Int32)), (.int (0 : Int32)), (.int (0 : Int32))]) (.int (0 : Int32))) ∧ (h0.size ≤ b)
abbrev own_cyR : Room := { frames := 1, cells := 1, slots := 8, locals := 18 }
set_option maxRecDepth 65536 in
set_option maxHeartbeats 40000000 in
theorem own_cy (l : Launch) (Z : State) (a0 : Array Value) (hw : ∀ d ∈ tables_1, d.before a0 Z = true) (ws : List Jvm.Cond) (x0 : Addr) (kx : ClassId) (vs : List Value) (h0 : Heap) (n0 : Nat) (Z0 : n0 ≤ h0.size) (pr1 : Arv Z h0 x0 kx .int (4 : Int32) vs (.int (0 : Int32))) (pr2 : vs.length = 4) :
    own_M l (⟨"java/util/Arrays", "copyOf", "([II)[I"⟩ : MethodName) jdk_65_method_123_code 3 (some (.array .int)) ws own_cyR #[(.ref x0), (.int (8 : Int32))] Z h0 (own_cyQ Z x0 kx vs h0 n0) := by
  refine own_go (plainFor_of_name own_pn1) (fun m => own_ef4 m x0 (8 : Int32) ) ?_
  intro p e s m below meth c s₁ Bd hx hby hml hZ hh hown hnm X0 e0
  have N0 := Fr.nil n0
  have K0 : Keep h0 h0 [] := Keep.refl h0 _
  refine own_st (T' := s₁) (g' := (mkF m 2 #[.val (.ref x0), .val (.int (8 : Int32)), .unset] [(.ref x0), (.int (8 : Int32))])) (fun _ kt => XS.iloadN X0.here hx rfl (hb hby d12_0) rfl (XS.aloadN X0.here hx rfl (hb hby d12_1) rfl rfl kt)) ?_
  refine own_st (T' := s₁) (g' := (mkF m 3 #[.val (.ref x0), .val (.int (8 : Int32)), .unset] [(.int (4 : Int32)), (.int (8 : Int32))])) (own_alen X0 hx hZ e0 pr1 (g := (mkF m 2 #[.val (.ref x0), .val (.int (8 : Int32)), .unset] [(.ref x0), (.int (8 : Int32))])) rfl rfl (hb hby d12_2)) ?_
  refine own_st (T' := s₁) (g' := (mkF m 15 #[.val (.ref x0), .val (.int (8 : Int32)), .unset] [(.int (8 : Int32))])) (fun _ kt => XS.icmpYes X0.here hx rfl (pc0 := 3) (pc' := 14) rfl (hb hby d12_3) rfl (XT.ii_ne_t (by decide)) (by decide) (by decide) (XS.iloadN X0.here hx rfl (hb hby d12_14) rfl kt)) ?_
  obtain ⟨T43, h43, k43, X43, e43, E43, A43, st43⟩ := newP X0 hx hZ (aty := .int) (own_k hw 10 rfl) e0 (g := (mkF m 15 #[.val (.ref x0), .val (.int (8 : Int32)), .unset] [(.int (8 : Int32))])) rfl (hb hby d12_15) rfl (by decide) (cap := 8) (by decide) (by decide) (by decide) (by decide)
  obtain ⟨b43, g43⟩ : ∃ z, z = h0.size := ⟨_, rfl⟩
  rw [← g43] at A43 st43
  have ne44 : x0 ≠ b43 := by rw [g43]; exact Nat.ne_of_lt pr1.lt
  have Z45 : n0 ≤ h43.size := Nat.le_trans Z0 E43.1
  have K45 : Keep h0 h43 [] := (Keep.ext K0 E43)
  have ge_b43 : n0 ≤ b43 := Nat.le_trans Z0 (Nat.le_of_eq g43.symm)
  have F46 : Arv Z h43 b43 k43 .int (8 : Int32) [(.int (0 : Int32)), (.int (0 : Int32)), (.int (0 : Int32)), (.int (0 : Int32)), (.int (0 : Int32)), (.int (0 : Int32)), (.int (0 : Int32)), (.int (0 : Int32))] (.int (0 : Int32)) := (Arv.new A43 (by decide)).pad (pad_rep [] (.int (0 : Int32)) 8)
  refine own_st (T' := T43) (g' := (mkF m 17 #[.val (.ref x0), .val (.int (8 : Int32)), .unset] [(.ref b43)])) st43 ?_
  refine own_st (T' := T43) (g' := (mkF m 23 #[.val (.ref x0), .val (.int (8 : Int32)), .val (.ref b43)] [(.ref x0), (.int (0 : Int32)), (.ref b43), (.int (0 : Int32)), (.ref x0)])) (fun _ kt => XS.astoreN X43.here hx rfl (hb hby d12_17) rfl rfl (l' := #[.val (.ref x0), .val (.int (8 : Int32)), .val (.ref b43)]) rfl (XS.aloadN X43.here hx rfl (hb hby d12_18) rfl rfl (XS.iconst X43.here hx rfl (hb hby d12_19) (XS.aloadN X43.here hx rfl (hb hby d12_20) rfl rfl (XS.iconst X43.here hx rfl (hb hby d12_21) (XS.aloadN X43.here hx rfl (hb hby d12_22) rfl rfl kt)))))) ?_
  have F47 : Arv Z h43 x0 kx .int (4 : Int32) vs (.int (0 : Int32)) := (pr1.ext E43)
  refine own_st (T' := T43) (g' := (mkF m 24 #[.val (.ref x0), .val (.int (8 : Int32)), .val (.ref b43)] [(.int (4 : Int32)), (.int (0 : Int32)), (.ref b43), (.int (0 : Int32)), (.ref x0)])) (own_alen X43 hx hZ e43 F47 (g := (mkF m 23 #[.val (.ref x0), .val (.int (8 : Int32)), .val (.ref b43)] [(.ref x0), (.int (0 : Int32)), (.ref b43), (.int (0 : Int32)), (.ref x0)])) rfl rfl (hb hby d12_23)) ?_
  refine own_st (T' := T43) (g' := (mkF m 25 #[.val (.ref x0), .val (.int (8 : Int32)), .val (.ref b43)] [(.int (8 : Int32)), (.int (4 : Int32)), (.int (0 : Int32)), (.ref b43), (.int (0 : Int32)), (.ref x0)])) (fun _ kt => XS.iloadN X43.here hx rfl (hb hby d12_24) rfl kt) ?_
  obtain ⟨_, _, ⟨T48, L48, k48, n48⟩, -, X48, ⟨Lc48, hQ48, l48, y48, z48⟩, st48⟩ := Jvm.LawKit.callS X43 hx (y := (⟨"java/lang/Math", "min", "(II)I"⟩ : MethodName)) hown (mvT hZ (own_k hw 60 rfl)) (mvT hZ (own_k hw 61 rfl)) (mvT hZ (own_k hw 62 rfl)) (mvT hZ (own_k hw 63 rfl)) (by decide) (backOf (W := 4) (own_mn l Z a0 hw []  h43 n0 Z45 ) hZ (own_k hw 63 rfl) (own_k hw 62 rfl) (by decide) (by decide)) (g := (mkF m 25 #[.val (.ref x0), .val (.int (8 : Int32)), .val (.ref b43)] [(.int (8 : Int32)), (.int (4 : Int32)), (.int (0 : Int32)), (.ref b43), (.int (0 : Int32)), (.ref x0)])) rfl hml.symm  (argsL := [(.int (4 : Int32)), (.int (8 : Int32))]) (rest := [(.int (0 : Int32)), (.ref b43), (.int (0 : Int32)), (.ref x0)]) (lenOf own_pd4 rfl) rfl (by show 2 * 0 + _ ≤ _; exact Nat.le_of_eq rfl) (hb hby d12_25) (fun _ _ => ⟨rfl, e43, (by decide : 1 + 0 ≤ 1), (by decide : 8 + 0 ≤ 8)⟩)
  dsimp only [Pt.U, Pt.locs, Pt.cells, Pt.slots] at X48 l48 y48 z48 st48 hQ48
  subst l48 y48 z48
  obtain ⟨rfl, N48, e48⟩ := hQ48
  have N49 := Fr.app N0 N48
  refine own_st (T' := T48) (g' := (mkF m 28 #[.val (.ref x0), .val (.int (8 : Int32)), .val (.ref b43)] [(.int (4 : Int32)), (.int (0 : Int32)), (.ref b43), (.int (0 : Int32)), (.ref x0)])) st48 ?_
  obtain ⟨T50, h50, L50, X50, e50, N50, K50_, V50, st50⟩ := cpA X48 hx hZ hown (own_k hw 64 rfl) (own_k hw 33 rfl) (own_k hw 31 rfl) (own_k hw 32 rfl) e48 (us := ((List.range (4 : Int32).toNatClampNeg).map fun i => vs.getD ((0 : Int32).toNatClampNeg + i) (.int (0 : Int32)))) F47 F46 (Or.inl ⟨rfl, rfl⟩) (by decide) (by decide) (by decide) (by decide) (by decide) rfl (by decide) N49 ge_b43 (g := (mkF m 28 #[.val (.ref x0), .val (.int (8 : Int32)), .val (.ref b43)] [(.int (4 : Int32)), (.int (0 : Int32)), (.ref b43), (.int (0 : Int32)), (.ref x0)])) rfl hml.symm rfl (hb hby d12_28) (by decide) (W := 0) (by show 2 * 0 + _ ≤ _; exact Nat.le_of_eq rfl) (by decide)
  have Z51 : n0 ≤ h50.size := Nat.le_trans Z45 K50_.1
  have K51 : Keep h0 h50 [] := (Keep.trans K45 K50_ (allS (Or.inr (Nat.le_trans K0.1 (Nat.le_of_eq g43.symm))) all0))
  have F52 : Arv Z h50 b43 k43 .int (8 : Int32) (vs ++ [(.int (0 : Int32)), (.int (0 : Int32)), (.int (0 : Int32)), (.int (0 : Int32))]) (.int (0 : Int32)) := (by have q := V50; rw [own_cp4 pr2] at q; exact q)
  refine own_st (T' := T50) (g' := (mkF m 31 #[.val (.ref x0), .val (.int (8 : Int32)), .val (.ref b43)] [])) st50 ?_
  refine own_st (T' := T50) (g' := (mkF m 32 #[.val (.ref x0), .val (.int (8 : Int32)), .val (.ref b43)] [(.ref b43)])) (fun _ kt => XS.aloadN X50.here hx rfl (hb hby d12_31) rfl rfl kt) ?_
  obtain ⟨fs, hr, hrun, hended, hW, hsame⟩ := X50.leave (v := some (.ref b43)) (fun h => by rw [Bd.returns] at h; cases h)
  refine own_end (own_retA X50 hx Bd.returns rfl rfl rfl (hb hby d12_32) hr) ⟨_, hrun, hended, _, _, rfl, ?_, ⟨_, rfl⟩, hW, hsame.mono (by decide) (by decide)⟩
  show own_cyQ Z _ _ _ h0 n0 _ T50.heap _
  rw [e50]
  exact ⟨b43, k43, rfl, N50, K51, F52, (Nat.le_trans K0.1 (Nat.le_of_eq g43.symm))⟩
theorem d1_0 : decode prog_32_method_1_code 0 = .ok (.aload_n 0, 1) := by decide +kernel
theorem d1_1 : decode prog_32_method_1_code 1 = .ok (.invokespecial 1, 3) := by decide +kernel
theorem d1_4 : decode prog_32_method_1_code 4 = .ok (.aload_n 0, 1) := by decide +kernel
theorem d1_5 : decode prog_32_method_1_code 5 = .ok (.iconst 4, 1) := by decide +kernel
theorem d1_6 : decode prog_32_method_1_code 6 = .ok (.newarray .int, 2) := by decide +kernel
theorem d1_8 : decode prog_32_method_1_code 8 = .ok (.putfield 9, 3) := by decide +kernel
theorem d1_11 : decode prog_32_method_1_code 11 = .ok (.aload_n 0, 1) := by decide +kernel
theorem d1_12 : decode prog_32_method_1_code 12 = .ok (.iconst 4, 1) := by decide +kernel
theorem d1_13 : decode prog_32_method_1_code 13 = .ok (.newarray .int, 2) := by decide +kernel
theorem d1_15 : decode prog_32_method_1_code 15 = .ok (.putfield 13, 3) := by decide +kernel
theorem d1_18 : decode prog_32_method_1_code 18 = .ok (.return_, 1) := by decide +kernel
set_option maxHeartbeats 4000000 in
theorem own_ef8 (m : MethodId) (x0 : Addr) : entryFrame m #[(.ref x0)] 1 = mkF m 0 #[.val (.ref x0)] [] := by first | (simp [entryFrame, mkF, argsToLocals, Value.category]; done) | rfl
def own_in0Q (Z : State) (a : Addr) (h0 : Heap) (n0 : Nat) (v : Option Value) (h : Heap) (L : List Loc) : Prop := ∃ (ya : Addr), ∃ (ky : ClassId), ∃ (ha : Addr), ∃ (kh : ClassId), v = none ∧ Fr n0 L ∧ Keep h0 h [a] ∧ (Exa Z h a "com/example/vestwright/vestwright/census/YearlyHours") ∧ (Fld Z h a "com/example/vestwright/vestwright/census/YearlyHours" "size" "I" (.int (0 : Int32))) ∧ (Fld Z h a "com/example/vestwright/vestwright/census/YearlyHours" "years" "[I" (.ref ya)) ∧ (Fld Z h a "com/example/vestwright/vestwright/census/YearlyHours" "hours" "[I" (.ref ha)) ∧ (Arv Z h ya ky .int (4 : Int32) [(.int (0 : Int32)), (.int (0 : Int32)), (.int (0 : Int32)), (.int (0 : Int32))] (.int (0 : Int32))) ∧ (Arv Z h ha kh .int (4 : Int32) [(.int (0 : Int32)), (.int (0 : Int32)), (.int (0 : Int32)), (.int (0 : Int32))] (.int (0 : Int32))) ∧ (h0.size ≤ ya) ∧ (h0.size ≤ ha) ∧ (ya ≠ ha)
abbrev own_in0R : Room := { frames := 1, cells := 2, slots := 8, locals := 12 }
set_option maxRecDepth 65536 in
set_option maxHeartbeats 40000000 in
theorem own_in0 (l : Launch) (Z : State) (a0 : Array Value) (hw : ∀ d ∈ tables_1, d.before a0 Z = true) (ws : List Jvm.Cond) (a : Addr) (h0 : Heap) (n0 : Nat) (Z0 : n0 ≤ h0.size) (pr1 : Exa Z h0 a "com/example/vestwright/vestwright/census/YearlyHours") (pr2 : n0 ≤ a) (pr3 : Fld Z h0 a "com/example/vestwright/vestwright/census/YearlyHours" "size" "I" (.int (0 : Int32))) (pr4 : Fld Z h0 a "com/example/vestwright/vestwright/census/YearlyHours" "years" "[I" .null) (pr5 : Fld Z h0 a "com/example/vestwright/vestwright/census/YearlyHours" "hours" "[I" .null) :
    own_M l (⟨"com/example/vestwright/vestwright/census/YearlyHours", "<init>", "()V"⟩ : MethodName) prog_32_method_1_code 1 none ws own_in0R #[(.ref a)] Z h0 (own_in0Q Z a h0 n0) := by
  refine own_go (plainFor_of_name own_pn2) (fun m => own_ef8 m a ) ?_
  intro p e s m below meth c s₁ Bd hx hby hml hZ hh hown hnm X0 e0
  have N0 := Fr.nil n0
  have K0 : Keep h0 h0 [a] := Keep.refl h0 _
  refine own_st (T' := s₁) (g' := (mkF m 1 #[.val (.ref a)] [(.ref a)])) (fun _ kt => XS.aloadN X0.here hx rfl (hb hby d1_0) rfl rfl kt) ?_
  obtain ⟨T53, X53, e53, st53⟩ := initO X0 hx hZ hown (own_k hw 7 rfl) (own_k hw 8 rfl) (own_k hw 9 rfl) e0 (g := (mkF m 1 #[.val (.ref a)] [(.ref a)])) rfl hml.symm rfl (hb hby d1_1) (by decide) (W := 0) (by show 2 * 0 + _ ≤ _; exact Nat.le_of_eq rfl) (by decide)
  refine own_st (T' := T53) (g' := (mkF m 4 #[.val (.ref a)] [])) st53 ?_
  refine own_st (T' := T53) (g' := (mkF m 6 #[.val (.ref a)] [(.int (4 : Int32)), (.ref a)])) (fun _ kt => XS.aloadN X53.here hx rfl (hb hby d1_4) rfl rfl (XS.iconst X53.here hx rfl (hb hby d1_5) kt)) ?_
  obtain ⟨T54, h54, k54, X54, e54, E54, A54, st54⟩ := newP X53 hx hZ (aty := .int) (own_k hw 10 rfl) e53 (g := (mkF m 6 #[.val (.ref a)] [(.int (4 : Int32)), (.ref a)])) rfl (hb hby d1_6) rfl (by decide) (cap := 4) (by decide) (by decide) (by decide) (by decide)
  obtain ⟨b54, g54⟩ : ∃ z, z = h0.size := ⟨_, rfl⟩
  rw [← g54] at A54 st54
  have ne55 : a ≠ b54 := by rw [g54]; exact Nat.ne_of_lt pr1.lt
  have Z56 : n0 ≤ h54.size := Nat.le_trans Z0 E54.1
  have K56 : Keep h0 h54 [a] := (Keep.ext K0 E54)
  have ge_b54 : n0 ≤ b54 := Nat.le_trans Z0 (Nat.le_of_eq g54.symm)
  have F57 : Arv Z h54 b54 k54 .int (4 : Int32) [(.int (0 : Int32)), (.int (0 : Int32)), (.int (0 : Int32)), (.int (0 : Int32))] (.int (0 : Int32)) := (Arv.new A54 (by decide)).pad (pad_rep [] (.int (0 : Int32)) 4)
  refine own_st (T' := T54) (g' := (mkF m 8 #[.val (.ref a)] [(.ref b54), (.ref a)])) st54 ?_
  have F58 : Fld Z h54 a "com/example/vestwright/vestwright/census/YearlyHours" "years" "[I" .null := (Fld.ext E54 pr4)
  have F59 : Exa Z h54 a "com/example/vestwright/vestwright/census/YearlyHours" := (Exa.ext E54 pr1)
  obtain ⟨T60, h60, X60, e60, W60, st60⟩ := putF X54 hx hZ hown (host := "") (Or.inl (own_k hw 11 rfl)) Via.refl e54 F58 F59 (Or.inl (own_k hw 12 rfl)) (own_k hw 2 rfl) (ty := (.array .int)) (by decide) rfl rfl (g := (mkF m 8 #[.val (.ref a)] [(.ref b54), (.ref a)])) rfl rfl (hb hby d1_8)
  have N60 := Fr.snoc X60 N0 pr2
  have Z61 : n0 ≤ h60.size := Nat.le_trans Z56 (Nat.le_of_eq (Wr.size W60).symm)
  have K61 : Keep h0 h60 [a] := (Keep.wr K56 W60 (Or.inl (List.mem_of_getElem? (i := 0) rfl)))
  have F62 : Fld Z h60 a "com/example/vestwright/vestwright/census/YearlyHours" "years" "[I" (.ref b54) := Fld.same W60 F58
  refine own_st (T' := T60) (g' := (mkF m 11 #[.val (.ref a)] [])) st60 ?_
  refine own_st (T' := T60) (g' := (mkF m 13 #[.val (.ref a)] [(.int (4 : Int32)), (.ref a)])) (fun _ kt => XS.aloadN X60.here hx rfl (hb hby d1_11) rfl rfl (XS.iconst X60.here hx rfl (hb hby d1_12) kt)) ?_
  obtain ⟨T63, h63, k63, X63, e63, E63, A63, st63⟩ := newP X60 hx hZ (aty := .int) (own_k hw 10 rfl) e60 (g := (mkF m 13 #[.val (.ref a)] [(.int (4 : Int32)), (.ref a)])) rfl (hb hby d1_13) rfl (by decide) (cap := 4) (by decide) (by decide) (by decide) (by decide)
  obtain ⟨b63, g63⟩ : ∃ z, z = h60.size := ⟨_, rfl⟩
  rw [← g63] at A63 st63
  have F64 : Exa Z h60 a "com/example/vestwright/vestwright/census/YearlyHours" := (Exa.wr W60 F59)
  have ne65 : a ≠ b63 := by rw [g63]; exact Nat.ne_of_lt F64.lt
  have F66 : Arv Z h60 b54 k54 .int (4 : Int32) [(.int (0 : Int32)), (.int (0 : Int32)), (.int (0 : Int32)), (.int (0 : Int32))] (.int (0 : Int32)) := (Arv.other F57 W60 (Ne.symm ne55))
  have ne67 : b54 ≠ b63 := by rw [g63]; exact Nat.ne_of_lt F66.lt
  have Z68 : n0 ≤ h63.size := Nat.le_trans Z61 E63.1
  have K68 : Keep h0 h63 [a] := (Keep.ext K61 E63)
  have ge_b63 : n0 ≤ b63 := Nat.le_trans Z61 (Nat.le_of_eq g63.symm)
  have F69 : Arv Z h63 b63 k63 .int (4 : Int32) [(.int (0 : Int32)), (.int (0 : Int32)), (.int (0 : Int32)), (.int (0 : Int32))] (.int (0 : Int32)) := (Arv.new A63 (by decide)).pad (pad_rep [] (.int (0 : Int32)) 4)
  refine own_st (T' := T63) (g' := (mkF m 15 #[.val (.ref a)] [(.ref b63), (.ref a)])) st63 ?_
  have F70 : Fld Z h63 a "com/example/vestwright/vestwright/census/YearlyHours" "hours" "[I" .null := (Fld.ext E63 (Fld.other W60 (Fld.ext E54 pr5) (Or.inr (slot_ne (Or.inl (own_k hw 14 rfl)) (Or.inl (own_k hw 12 rfl)) (by decide) (t := (.array .int)) (t' := (.array .int)) (by decide) (by decide)))))
  have F71 : Exa Z h63 a "com/example/vestwright/vestwright/census/YearlyHours" := (Exa.ext E63 F64)
  obtain ⟨T72, h72, X72, e72, W72, st72⟩ := putF X63 hx hZ hown (host := "") (Or.inl (own_k hw 13 rfl)) Via.refl e63 F70 F71 (Or.inl (own_k hw 14 rfl)) (own_k hw 2 rfl) (ty := (.array .int)) (by decide) rfl rfl (g := (mkF m 15 #[.val (.ref a)] [(.ref b63), (.ref a)])) rfl rfl (hb hby d1_15)
  have N72 := Fr.snoc X72 N60 pr2
  have Z73 : n0 ≤ h72.size := Nat.le_trans Z68 (Nat.le_of_eq (Wr.size W72).symm)
  have K73 : Keep h0 h72 [a] := (Keep.wr K68 W72 (Or.inl (List.mem_of_getElem? (i := 0) rfl)))
  have F74 : Fld Z h72 a "com/example/vestwright/vestwright/census/YearlyHours" "hours" "[I" (.ref b63) := Fld.same W72 F70
  refine own_st (T' := T72) (g' := (mkF m 18 #[.val (.ref a)] [])) st72 ?_
  obtain ⟨fs, hr, hrun, hended, hW, hsame⟩ := X72.leave (v := none) (fun _ => rfl)
  refine own_end (X72.returnOut hx Bd.returns (hb hby d1_18) hr) ⟨_, hrun, hended, _, _, rfl, ?_, ⟨_, rfl⟩, hW, hsame.mono (by decide) (by decide)⟩
  have F75 : Exa Z h72 a "com/example/vestwright/vestwright/census/YearlyHours" := (Exa.wr W72 F71)
  have F76 : Fld Z h72 a "com/example/vestwright/vestwright/census/YearlyHours" "size" "I" (.int (0 : Int32)) := (Fld.other W72 (Fld.ext E63 (Fld.other W60 (Fld.ext E54 pr3) (Or.inr (slot_ne (Or.inl (own_k hw 25 rfl)) (Or.inl (own_k hw 12 rfl)) (by decide) (t := .int) (t' := (.array .int)) (by decide) (by decide))))) (Or.inr (slot_ne (Or.inl (own_k hw 25 rfl)) (Or.inl (own_k hw 14 rfl)) (by decide) (t := .int) (t' := (.array .int)) (by decide) (by decide))))
  have F77 : Fld Z h72 a "com/example/vestwright/vestwright/census/YearlyHours" "years" "[I" (.ref b54) := (Fld.other W72 (Fld.ext E63 F62) (Or.inr (slot_ne (Or.inl (own_k hw 12 rfl)) (Or.inl (own_k hw 14 rfl)) (by decide) (t := (.array .int)) (t' := (.array .int)) (by decide) (by decide))))
  have F78 : Arv Z h72 b54 k54 .int (4 : Int32) [(.int (0 : Int32)), (.int (0 : Int32)), (.int (0 : Int32)), (.int (0 : Int32))] (.int (0 : Int32)) := (Arv.other (F66.ext E63) W72 (Ne.symm ne55))
  have F79 : Arv Z h72 b63 k63 .int (4 : Int32) [(.int (0 : Int32)), (.int (0 : Int32)), (.int (0 : Int32)), (.int (0 : Int32))] (.int (0 : Int32)) := (Arv.other F69 W72 (Ne.symm ne65))
  show own_in0Q Z _ h0 n0 _ T72.heap _
  rw [e72]
  exact ⟨b54, k54, b63, k63, rfl, N72, K73, F75, F76, F77, F74, F78, F79, (Nat.le_trans K0.1 (Nat.le_of_eq g54.symm)), (Nat.le_trans K61.1 (Nat.le_of_eq g63.symm)), ne67⟩
theorem d5_0 : decode prog_32_method_8_code 0 = .ok (.aload_n 0, 1) := by decide +kernel
theorem d5_1 : decode prog_32_method_8_code 1 = .ok (.getfield 27, 3) := by decide +kernel
theorem d5_4 : decode prog_32_method_8_code 4 = .ok (.aload_n 0, 1) := by decide +kernel
theorem d5_5 : decode prog_32_method_8_code 5 = .ok (.getfield 9, 3) := by decide +kernel
theorem d5_8 : decode prog_32_method_8_code 8 = .ok (.arraylength, 1) := by decide +kernel
theorem d5_9 : decode prog_32_method_8_code 9 = .ok (.if_icmp .ne 37, 3) := by decide +kernel
theorem d5_46 : decode prog_32_method_8_code 46 = .ok (.aload_n 0, 1) := by decide +kernel
theorem d5_47 : decode prog_32_method_8_code 47 = .ok (.getfield 9, 3) := by decide +kernel
theorem d5_50 : decode prog_32_method_8_code 50 = .ok (.iload_n 1, 1) := by decide +kernel
theorem d5_51 : decode prog_32_method_8_code 51 = .ok (.aload_n 0, 1) := by decide +kernel
theorem d5_52 : decode prog_32_method_8_code 52 = .ok (.getfield 9, 3) := by decide +kernel
theorem d5_55 : decode prog_32_method_8_code 55 = .ok (.iload_n 1, 1) := by decide +kernel
theorem d5_56 : decode prog_32_method_8_code 56 = .ok (.iconst 1, 1) := by decide +kernel
theorem d5_57 : decode prog_32_method_8_code 57 = .ok (.iadd, 1) := by decide +kernel
theorem d5_58 : decode prog_32_method_8_code 58 = .ok (.aload_n 0, 1) := by decide +kernel
theorem d5_59 : decode prog_32_method_8_code 59 = .ok (.getfield 27, 3) := by decide +kernel
theorem d5_62 : decode prog_32_method_8_code 62 = .ok (.iload_n 1, 1) := by decide +kernel
theorem d5_63 : decode prog_32_method_8_code 63 = .ok (.isub, 1) := by decide +kernel
theorem d5_64 : decode prog_32_method_8_code 64 = .ok (.invokestatic 57, 3) := by decide +kernel
theorem d5_67 : decode prog_32_method_8_code 67 = .ok (.aload_n 0, 1) := by decide +kernel
theorem d5_68 : decode prog_32_method_8_code 68 = .ok (.getfield 13, 3) := by decide +kernel
theorem d5_71 : decode prog_32_method_8_code 71 = .ok (.iload_n 1, 1) := by decide +kernel
theorem d5_72 : decode prog_32_method_8_code 72 = .ok (.aload_n 0, 1) := by decide +kernel
theorem d5_73 : decode prog_32_method_8_code 73 = .ok (.getfield 13, 3) := by decide +kernel
theorem d5_76 : decode prog_32_method_8_code 76 = .ok (.iload_n 1, 1) := by decide +kernel
theorem d5_77 : decode prog_32_method_8_code 77 = .ok (.iconst 1, 1) := by decide +kernel
theorem d5_78 : decode prog_32_method_8_code 78 = .ok (.iadd, 1) := by decide +kernel
theorem d5_79 : decode prog_32_method_8_code 79 = .ok (.aload_n 0, 1) := by decide +kernel
theorem d5_80 : decode prog_32_method_8_code 80 = .ok (.getfield 27, 3) := by decide +kernel
theorem d5_83 : decode prog_32_method_8_code 83 = .ok (.iload_n 1, 1) := by decide +kernel
theorem d5_84 : decode prog_32_method_8_code 84 = .ok (.isub, 1) := by decide +kernel
theorem d5_85 : decode prog_32_method_8_code 85 = .ok (.invokestatic 57, 3) := by decide +kernel
theorem d5_88 : decode prog_32_method_8_code 88 = .ok (.aload_n 0, 1) := by decide +kernel
theorem d5_89 : decode prog_32_method_8_code 89 = .ok (.getfield 9, 3) := by decide +kernel
theorem d5_92 : decode prog_32_method_8_code 92 = .ok (.iload_n 1, 1) := by decide +kernel
theorem d5_93 : decode prog_32_method_8_code 93 = .ok (.iload_n 2, 1) := by decide +kernel
theorem d5_94 : decode prog_32_method_8_code 94 = .ok (.iastore, 1) := by decide +kernel
theorem d5_95 : decode prog_32_method_8_code 95 = .ok (.aload_n 0, 1) := by decide +kernel
theorem d5_96 : decode prog_32_method_8_code 96 = .ok (.getfield 13, 3) := by decide +kernel
theorem d5_99 : decode prog_32_method_8_code 99 = .ok (.iload_n 1, 1) := by decide +kernel
theorem d5_100 : decode prog_32_method_8_code 100 = .ok (.iconst 0, 1) := by decide +kernel
theorem d5_101 : decode prog_32_method_8_code 101 = .ok (.iastore, 1) := by decide +kernel
theorem d5_102 : decode prog_32_method_8_code 102 = .ok (.aload_n 0, 1) := by decide +kernel
theorem d5_103 : decode prog_32_method_8_code 103 = .ok (.dup, 1) := by decide +kernel
theorem d5_104 : decode prog_32_method_8_code 104 = .ok (.getfield 27, 3) := by decide +kernel
theorem d5_107 : decode prog_32_method_8_code 107 = .ok (.iconst 1, 1) := by decide +kernel
theorem d5_108 : decode prog_32_method_8_code 108 = .ok (.iadd, 1) := by decide +kernel
theorem d5_109 : decode prog_32_method_8_code 109 = .ok (.putfield 27, 3) := by decide +kernel
theorem d5_112 : decode prog_32_method_8_code 112 = .ok (.return_, 1) := by decide +kernel
set_option maxHeartbeats 4000000 in
theorem own_ef9 (m : MethodId) (x0 : Addr) (x1 : Int32) (x2 : Int32) : entryFrame m #[(.ref x0), (.int x1), (.int x2)] 3 = mkF m 0 #[.val (.ref x0), .val (.int x1), .val (.int x2)] [] := by first | (simp [entryFrame, mkF, argsToLocals, Value.category]; done) | rfl
def own_nsAQ (Z : State) (a : Addr) (ya : Addr) (ky : ClassId) (ha : Addr) (kh : ClassId) (zs : own_Z) (pa : List Value) (pb : List Value) (cap : Nat) (i : Nat) (y : Int32) (h0 : Heap) (n0 : Nat) (v : Option Value) (h : Heap) (L : List Loc) : Prop := v = none ∧ Fr n0 L ∧ Keep h0 h [a, ya, ha] ∧ (Exa Z h a "com/example/vestwright/vestwright/census/YearlyHours") ∧ (Fld Z h a "com/example/vestwright/vestwright/census/YearlyHours" "size" "I" (.int (Int32.ofNat (zs.length + 1)))) ∧ (Fld Z h a "com/example/vestwright/vestwright/census/YearlyHours" "years" "[I" (.ref ya)) ∧ (Fld Z h a "com/example/vestwright/vestwright/census/YearlyHours" "hours" "[I" (.ref ha)) ∧ (Arv Z h ya ky .int (Int32.ofNat cap) (own_ya (own_ins zs i y (0 : Int32)) pa.tail) (.int (0 : Int32))) ∧ (Arv Z h ha kh .int (Int32.ofNat cap) (own_ha (own_ins zs i y (0 : Int32)) pb.tail) (.int (0 : Int32)))
abbrev own_nsAR : Room := { frames := 1, cells := 0, slots := 0, locals := 18 }
set_option maxRecDepth 65536 in
set_option maxHeartbeats 40000000 in
theorem own_nsA (l : Launch) (Z : State) (a0 : Array Value) (hw : ∀ d ∈ tables_1, d.before a0 Z = true) (ws : List Jvm.Cond) (a : Addr) (ya : Addr) (ky : ClassId) (ha : Addr) (kh : ClassId) (zs : own_Z) (pa : List Value) (pb : List Value) (cap : Nat) (i : Nat) (y : Int32) (h0 : Heap) (n0 : Nat) (Z0 : n0 ≤ h0.size) (pr1 : Exa Z h0 a "com/example/vestwright/vestwright/census/YearlyHours") (pr2 : Fld Z h0 a "com/example/vestwright/vestwright/census/YearlyHours" "size" "I" (.int (Int32.ofNat zs.length))) (pr3 : Fld Z h0 a "com/example/vestwright/vestwright/census/YearlyHours" "years" "[I" (.ref ya)) (pr4 : Fld Z h0 a "com/example/vestwright/vestwright/census/YearlyHours" "hours" "[I" (.ref ha)) (pr5 : Arv Z h0 ya ky .int (Int32.ofNat cap) (own_ya zs pa) (.int (0 : Int32))) (pr6 : Arv Z h0 ha kh .int (Int32.ofNat cap) (own_ha zs pb) (.int (0 : Int32))) (pr7 : n0 ≤ a) (pr8 : n0 ≤ ya) (pr9 : n0 ≤ ha) (pr10 : ya ≠ ha) (pr11 : i ≤ zs.length) (pr12 : zs.length < cap) (pr13 : cap ≤ 8) (pr14 : pa.length + zs.length = cap) (pr15 : pb.length + zs.length = cap) :
    own_M l (⟨"com/example/vestwright/vestwright/census/YearlyHours", "insert", "(II)V"⟩ : MethodName) prog_32_method_8_code 3 none ws own_nsAR #[(.ref a), (.int (Int32.ofNat i)), (.int y)] Z h0 (own_nsAQ Z a ya ky ha kh zs pa pb cap i y h0 n0) := by
  refine own_go (plainFor_of_name own_pn2) (fun m => own_ef9 m a (Int32.ofNat i) y ) ?_
  intro p e s m below meth c s₁ Bd hx hby hml hZ hh hown hnm X0 e0
  have N0 := Fr.nil n0
  have K0 : Keep h0 h0 [a, ya, ha] := Keep.refl h0 _
  refine own_st (T' := s₁) (g' := (mkF m 1 #[.val (.ref a), .val (.int (Int32.ofNat i)), .val (.int y)] [(.ref a)])) (fun _ kt => XS.aloadN X0.here hx rfl (hb hby d5_0) rfl rfl kt) ?_
  obtain ⟨T80, X80, e80, st80⟩ := getF X0 hx hZ hown (host := "") (Or.inl (own_k hw 24 rfl)) Via.refl e0 pr2 (g := (mkF m 1 #[.val (.ref a), .val (.int (Int32.ofNat i)), .val (.int y)] [(.ref a)])) rfl rfl (hb hby d5_1)
  refine own_st (T' := T80) (g' := (mkF m 4 #[.val (.ref a), .val (.int (Int32.ofNat i)), .val (.int y)] [(.int (Int32.ofNat zs.length))])) st80 ?_
  refine own_st (T' := T80) (g' := (mkF m 5 #[.val (.ref a), .val (.int (Int32.ofNat i)), .val (.int y)] [(.ref a), (.int (Int32.ofNat zs.length))])) (fun _ kt => XS.aloadN X80.here hx rfl (hb hby d5_4) rfl rfl kt) ?_
  obtain ⟨T81, X81, e81, st81⟩ := getF X80 hx hZ hown (host := "") (Or.inl (own_k hw 11 rfl)) Via.refl e80 pr3 (g := (mkF m 5 #[.val (.ref a), .val (.int (Int32.ofNat i)), .val (.int y)] [(.ref a), (.int (Int32.ofNat zs.length))])) rfl rfl (hb hby d5_5)
  refine own_st (T' := T81) (g' := (mkF m 8 #[.val (.ref a), .val (.int (Int32.ofNat i)), .val (.int y)] [(.ref ya), (.int (Int32.ofNat zs.length))])) st81 ?_
  refine own_st (T' := T81) (g' := (mkF m 9 #[.val (.ref a), .val (.int (Int32.ofNat i)), .val (.int y)] [(.int (Int32.ofNat cap)), (.int (Int32.ofNat zs.length))])) (own_alen X81 hx hZ e81 pr5 (g := (mkF m 8 #[.val (.ref a), .val (.int (Int32.ofNat i)), .val (.int y)] [(.ref ya), (.int (Int32.ofNat zs.length))])) rfl rfl (hb hby d5_8)) ?_
  refine own_st (T' := T81) (g' := (mkF m 47 #[.val (.ref a), .val (.int (Int32.ofNat i)), .val (.int y)] [(.ref a)])) (fun _ kt => XS.icmpYes X81.here hx rfl (pc0 := 9) (pc' := 46) rfl (hb hby d5_9) rfl (XT.ii_ne_t (own_ine pr12 pr13)) (by decide) (by decide) (XS.aloadN X81.here hx rfl (hb hby d5_46) rfl rfl kt)) ?_
  obtain ⟨T82, X82, e82, st82⟩ := getF X81 hx hZ hown (host := "") (Or.inl (own_k hw 11 rfl)) Via.refl e81 pr3 (g := (mkF m 47 #[.val (.ref a), .val (.int (Int32.ofNat i)), .val (.int y)] [(.ref a)])) rfl rfl (hb hby d5_47)
  refine own_st (T' := T82) (g' := (mkF m 50 #[.val (.ref a), .val (.int (Int32.ofNat i)), .val (.int y)] [(.ref ya)])) st82 ?_
  refine own_st (T' := T82) (g' := (mkF m 52 #[.val (.ref a), .val (.int (Int32.ofNat i)), .val (.int y)] [(.ref a), (.int (Int32.ofNat i)), (.ref ya)])) (fun _ kt => XS.iloadN X82.here hx rfl (hb hby d5_50) rfl (XS.aloadN X82.here hx rfl (hb hby d5_51) rfl rfl kt)) ?_
  obtain ⟨T83, X83, e83, st83⟩ := getF X82 hx hZ hown (host := "") (Or.inl (own_k hw 11 rfl)) Via.refl e82 pr3 (g := (mkF m 52 #[.val (.ref a), .val (.int (Int32.ofNat i)), .val (.int y)] [(.ref a), (.int (Int32.ofNat i)), (.ref ya)])) rfl rfl (hb hby d5_52)
  refine own_st (T' := T83) (g' := (mkF m 55 #[.val (.ref a), .val (.int (Int32.ofNat i)), .val (.int y)] [(.ref ya), (.int (Int32.ofNat i)), (.ref ya)])) st83 ?_
  refine own_st (T' := T83) (g' := (mkF m 58 #[.val (.ref a), .val (.int (Int32.ofNat i)), .val (.int y)] [(.int ((Int32.ofNat i) + (1 : Int32))), (.ref ya), (.int (Int32.ofNat i)), (.ref ya)])) (fun _ kt => XS.iloadN X83.here hx rfl (hb hby d5_55) rfl (XS.iconst X83.here hx rfl (hb hby d5_56) (XS.iadd X83.here hx rfl (hb hby d5_57) rfl kt))) ?_
  rw [own_succ (n := i) (by omega)]
  refine own_st (T' := T83) (g' := (mkF m 59 #[.val (.ref a), .val (.int (Int32.ofNat i)), .val (.int y)] [(.ref a), (.int (Int32.ofNat (i + 1))), (.ref ya), (.int (Int32.ofNat i)), (.ref ya)])) (fun _ kt => XS.aloadN X83.here hx rfl (hb hby d5_58) rfl rfl kt) ?_
  obtain ⟨T84, X84, e84, st84⟩ := getF X83 hx hZ hown (host := "") (Or.inl (own_k hw 24 rfl)) Via.refl e83 pr2 (g := (mkF m 59 #[.val (.ref a), .val (.int (Int32.ofNat i)), .val (.int y)] [(.ref a), (.int (Int32.ofNat (i + 1))), (.ref ya), (.int (Int32.ofNat i)), (.ref ya)])) rfl rfl (hb hby d5_59)
  refine own_st (T' := T84) (g' := (mkF m 62 #[.val (.ref a), .val (.int (Int32.ofNat i)), .val (.int y)] [(.int (Int32.ofNat zs.length)), (.int (Int32.ofNat (i + 1))), (.ref ya), (.int (Int32.ofNat i)), (.ref ya)])) st84 ?_
  refine own_st (T' := T84) (g' := (mkF m 64 #[.val (.ref a), .val (.int (Int32.ofNat i)), .val (.int y)] [(.int ((Int32.ofNat zs.length) - (Int32.ofNat i))), (.int (Int32.ofNat (i + 1))), (.ref ya), (.int (Int32.ofNat i)), (.ref ya)])) (fun _ kt => XS.iloadN X84.here hx rfl (hb hby d5_62) rfl (XS.isub X84.here hx rfl (hb hby d5_63) rfl kt)) ?_
  rw [own_sub (n := zs.length) (i := i) (by omega) (by omega)]
  obtain ⟨T85, h85, L85, X85, e85, N85, K85_, V85, st85⟩ := cpA X84 hx hZ hown (own_k hw 30 rfl) (own_k hw 33 rfl) (own_k hw 31 rfl) (own_k hw 32 rfl) e84 (us := ((List.range (zs.length - i)).map fun j => (own_ya zs pa).getD (i + j) (.int (0 : Int32)))) pr5 pr5 (Or.inl ⟨rfl, rfl⟩) (own_idx (k := i + 1) (by omega) (by omega)).1 (own_idx (k := i + 2) (by omega) (by omega)).1 (own_idx (i := zs.length - i) (k := 100) (by omega) (by omega)).1 (by rw [own_tn (i := i) (by omega), own_tn (i := zs.length - i) (by omega), own_tn (i := cap) (by omega)]; omega) (by rw [own_tn (i := i + 1) (by omega), own_tn (i := zs.length - i) (by omega), own_tn (i := cap) (by omega)]; omega) (by rw [own_tn (i := zs.length - i) (by omega), own_tn (i := i) (by omega)]) (by rw [own_tn (i := i + 1) (by omega), own_tn (i := zs.length - i) (by omega), own_ya, List.length_append, List.length_map]; (try simp only [List.length_cons, List.length_nil]); omega) N0 pr8 (g := (mkF m 64 #[.val (.ref a), .val (.int (Int32.ofNat i)), .val (.int y)] [(.int (Int32.ofNat (zs.length - i))), (.int (Int32.ofNat (i + 1))), (.ref ya), (.int (Int32.ofNat i)), (.ref ya)])) rfl hml.symm rfl (hb hby d5_64) (by decide) (W := 0) (by show 2 * 0 + _ ≤ _; exact Nat.le_of_eq rfl) (by decide)
  have Z86 : n0 ≤ h85.size := Nat.le_trans Z0 K85_.1
  have K86 : Keep h0 h85 [a, ya, ha] := (Keep.trans K0 K85_ (allS (Or.inl (List.mem_of_getElem? (i := 1) rfl)) all0))
  have F87 : Arv Z h85 ya ky .int (Int32.ofNat cap) (own_mv (own_ya zs pa) i (zs.length - i)) (.int (0 : Int32)) := (by have q := V85; rw [own_tn (i := i + 1) (by omega), own_tn (i := zs.length - i) (by omega)] at q; exact q)
  refine own_st (T' := T85) (g' := (mkF m 67 #[.val (.ref a), .val (.int (Int32.ofNat i)), .val (.int y)] [])) st85 ?_
  refine own_st (T' := T85) (g' := (mkF m 68 #[.val (.ref a), .val (.int (Int32.ofNat i)), .val (.int y)] [(.ref a)])) (fun _ kt => XS.aloadN X85.here hx rfl (hb hby d5_67) rfl rfl kt) ?_
  have F88 : Exa Z h85 a "com/example/vestwright/vestwright/census/YearlyHours" := (Exa.keep pr1 K85_)
  have F89 : Fld Z h85 a "com/example/vestwright/vestwright/census/YearlyHours" "hours" "[I" (.ref ha) := (Fld.keep pr4 K85_ (ninS (Exa.neArv F88 F87 (own_k hw 2 rfl)) nin0))
  obtain ⟨T90, X90, e90, st90⟩ := getF X85 hx hZ hown (host := "") (Or.inl (own_k hw 13 rfl)) Via.refl e85 F89 (g := (mkF m 68 #[.val (.ref a), .val (.int (Int32.ofNat i)), .val (.int y)] [(.ref a)])) rfl rfl (hb hby d5_68)
  refine own_st (T' := T90) (g' := (mkF m 71 #[.val (.ref a), .val (.int (Int32.ofNat i)), .val (.int y)] [(.ref ha)])) st90 ?_
  refine own_st (T' := T90) (g' := (mkF m 73 #[.val (.ref a), .val (.int (Int32.ofNat i)), .val (.int y)] [(.ref a), (.int (Int32.ofNat i)), (.ref ha)])) (fun _ kt => XS.iloadN X90.here hx rfl (hb hby d5_71) rfl (XS.aloadN X90.here hx rfl (hb hby d5_72) rfl rfl kt)) ?_
  obtain ⟨T91, X91, e91, st91⟩ := getF X90 hx hZ hown (host := "") (Or.inl (own_k hw 13 rfl)) Via.refl e90 F89 (g := (mkF m 73 #[.val (.ref a), .val (.int (Int32.ofNat i)), .val (.int y)] [(.ref a), (.int (Int32.ofNat i)), (.ref ha)])) rfl rfl (hb hby d5_73)
  refine own_st (T' := T91) (g' := (mkF m 76 #[.val (.ref a), .val (.int (Int32.ofNat i)), .val (.int y)] [(.ref ha), (.int (Int32.ofNat i)), (.ref ha)])) st91 ?_
  refine own_st (T' := T91) (g' := (mkF m 79 #[.val (.ref a), .val (.int (Int32.ofNat i)), .val (.int y)] [(.int ((Int32.ofNat i) + (1 : Int32))), (.ref ha), (.int (Int32.ofNat i)), (.ref ha)])) (fun _ kt => XS.iloadN X91.here hx rfl (hb hby d5_76) rfl (XS.iconst X91.here hx rfl (hb hby d5_77) (XS.iadd X91.here hx rfl (hb hby d5_78) rfl kt))) ?_
  rw [own_succ (n := i) (by omega)]
  refine own_st (T' := T91) (g' := (mkF m 80 #[.val (.ref a), .val (.int (Int32.ofNat i)), .val (.int y)] [(.ref a), (.int (Int32.ofNat (i + 1))), (.ref ha), (.int (Int32.ofNat i)), (.ref ha)])) (fun _ kt => XS.aloadN X91.here hx rfl (hb hby d5_79) rfl rfl kt) ?_
  have F92 : Exa Z h85 a "com/example/vestwright/vestwright/census/YearlyHours" := (Exa.keep pr1 K85_)
  have F93 : Fld Z h85 a "com/example/vestwright/vestwright/census/YearlyHours" "size" "I" (.int (Int32.ofNat zs.length)) := (Fld.keep pr2 K85_ (ninS (Exa.neArv F92 F87 (own_k hw 2 rfl)) nin0))
  obtain ⟨T94, X94, e94, st94⟩ := getF X91 hx hZ hown (host := "") (Or.inl (own_k hw 24 rfl)) Via.refl e91 F93 (g := (mkF m 80 #[.val (.ref a), .val (.int (Int32.ofNat i)), .val (.int y)] [(.ref a), (.int (Int32.ofNat (i + 1))), (.ref ha), (.int (Int32.ofNat i)), (.ref ha)])) rfl rfl (hb hby d5_80)
  refine own_st (T' := T94) (g' := (mkF m 83 #[.val (.ref a), .val (.int (Int32.ofNat i)), .val (.int y)] [(.int (Int32.ofNat zs.length)), (.int (Int32.ofNat (i + 1))), (.ref ha), (.int (Int32.ofNat i)), (.ref ha)])) st94 ?_
  refine own_st (T' := T94) (g' := (mkF m 85 #[.val (.ref a), .val (.int (Int32.ofNat i)), .val (.int y)] [(.int ((Int32.ofNat zs.length) - (Int32.ofNat i))), (.int (Int32.ofNat (i + 1))), (.ref ha), (.int (Int32.ofNat i)), (.ref ha)])) (fun _ kt => XS.iloadN X94.here hx rfl (hb hby d5_83) rfl (XS.isub X94.here hx rfl (hb hby d5_84) rfl kt)) ?_
  rw [own_sub (n := zs.length) (i := i) (by omega) (by omega)]
  have F96 : Arv Z h85 ha kh .int (Int32.ofNat cap) (own_ha zs pb) (.int (0 : Int32)) := (Arv.keep pr6 K85_ (ninS (Ne.symm pr10) nin0))
  obtain ⟨T95, h95, L95, X95, e95, N95, K95_, V95, st95⟩ := cpA X94 hx hZ hown (own_k hw 30 rfl) (own_k hw 33 rfl) (own_k hw 31 rfl) (own_k hw 32 rfl) e94 (us := ((List.range (zs.length - i)).map fun j => (own_ha zs pb).getD (i + j) (.int (0 : Int32)))) F96 F96 (Or.inl ⟨rfl, rfl⟩) (own_idx (k := i + 1) (by omega) (by omega)).1 (own_idx (k := i + 2) (by omega) (by omega)).1 (own_idx (i := zs.length - i) (k := 100) (by omega) (by omega)).1 (by rw [own_tn (i := i) (by omega), own_tn (i := zs.length - i) (by omega), own_tn (i := cap) (by omega)]; omega) (by rw [own_tn (i := i + 1) (by omega), own_tn (i := zs.length - i) (by omega), own_tn (i := cap) (by omega)]; omega) (by rw [own_tn (i := zs.length - i) (by omega), own_tn (i := i) (by omega)]) (by rw [own_tn (i := i + 1) (by omega), own_tn (i := zs.length - i) (by omega), own_ha, List.length_append, List.length_map]; (try simp only [List.length_cons, List.length_nil]); omega) N85 pr9 (g := (mkF m 85 #[.val (.ref a), .val (.int (Int32.ofNat i)), .val (.int y)] [(.int (Int32.ofNat (zs.length - i))), (.int (Int32.ofNat (i + 1))), (.ref ha), (.int (Int32.ofNat i)), (.ref ha)])) rfl hml.symm rfl (hb hby d5_85) (by decide) (W := 0) (by show 2 * 0 + _ ≤ _; exact Nat.le_of_eq rfl) (by decide)
  have Z97 : n0 ≤ h95.size := Nat.le_trans Z86 K95_.1
  have K97 : Keep h0 h95 [a, ya, ha] := (Keep.trans K86 K95_ (allS (Or.inl (List.mem_of_getElem? (i := 2) rfl)) all0))
  have F98 : Arv Z h95 ha kh .int (Int32.ofNat cap) (own_mv (own_ha zs pb) i (zs.length - i)) (.int (0 : Int32)) := (by have q := V95; rw [own_tn (i := i + 1) (by omega), own_tn (i := zs.length - i) (by omega)] at q; exact q)
  refine own_st (T' := T95) (g' := (mkF m 88 #[.val (.ref a), .val (.int (Int32.ofNat i)), .val (.int y)] [])) st95 ?_
  refine own_st (T' := T95) (g' := (mkF m 89 #[.val (.ref a), .val (.int (Int32.ofNat i)), .val (.int y)] [(.ref a)])) (fun _ kt => XS.aloadN X95.here hx rfl (hb hby d5_88) rfl rfl kt) ?_
  have F99 : Exa Z h85 a "com/example/vestwright/vestwright/census/YearlyHours" := (Exa.keep pr1 K85_)
  have F100 : Exa Z h95 a "com/example/vestwright/vestwright/census/YearlyHours" := (Exa.keep (Exa.keep pr1 K85_) K95_)
  have F101 : Fld Z h95 a "com/example/vestwright/vestwright/census/YearlyHours" "years" "[I" (.ref ya) := (Fld.keep (Fld.keep pr3 K85_ (ninS (Exa.neArv F99 F87 (own_k hw 2 rfl)) nin0)) K95_ (ninS (Exa.neArv F100 F98 (own_k hw 2 rfl)) nin0))
  obtain ⟨T102, X102, e102, st102⟩ := getF X95 hx hZ hown (host := "") (Or.inl (own_k hw 11 rfl)) Via.refl e95 F101 (g := (mkF m 89 #[.val (.ref a), .val (.int (Int32.ofNat i)), .val (.int y)] [(.ref a)])) rfl rfl (hb hby d5_89)
  refine own_st (T' := T102) (g' := (mkF m 92 #[.val (.ref a), .val (.int (Int32.ofNat i)), .val (.int y)] [(.ref ya)])) st102 ?_
  refine own_st (T' := T102) (g' := (mkF m 94 #[.val (.ref a), .val (.int (Int32.ofNat i)), .val (.int y)] [(.int y), (.int (Int32.ofNat i)), (.ref ya)])) (fun _ kt => XS.iloadN X102.here hx rfl (hb hby d5_92) rfl (XS.iloadN X102.here hx rfl (hb hby d5_93) rfl kt)) ?_
  have F103 : Arv Z h95 ya ky .int (Int32.ofNat cap) (own_mv (own_ya zs pa) i (zs.length - i)) (.int (0 : Int32)) := (Arv.keep F87 K95_ (ninS pr10 nin0))
  obtain ⟨T104, h104, X104, e104, W104, V104, st104⟩ := own_ist X102 hx hZ e102 F103 (own_idx (by omega) (by omega)) (i := i) (own_tn (by omega)) (own_mvY (zs := zs) (pa := pa) (i := i) (y := y) (h := (0 : Int32)) pr11 (by first | omega | decide)).1 (g := (mkF m 94 #[.val (.ref a), .val (.int (Int32.ofNat i)), .val (.int y)] [(.int y), (.int (Int32.ofNat i)), (.ref ya)])) rfl rfl (hb hby d5_94)
  have N104 := Fr.snoc X104 N95 pr8
  have Z105 : n0 ≤ h104.size := Nat.le_trans Z97 (Nat.le_of_eq (Wr.size W104).symm)
  have K105 : Keep h0 h104 [a, ya, ha] := (Keep.wr K97 W104 (Or.inl (List.mem_of_getElem? (i := 1) rfl)))
  have F106 : Arv Z h104 ya ky .int (Int32.ofNat cap) (own_ya (own_ins zs i y (0 : Int32)) (pa).tail) (.int (0 : Int32)) := (by have q := V104; rw [(own_mvY (zs := zs) (pa := pa) (i := i) (y := y) (h := (0 : Int32)) pr11 (by first | omega | decide)).2] at q; exact q)
  refine own_st (T' := T104) (g' := (mkF m 95 #[.val (.ref a), .val (.int (Int32.ofNat i)), .val (.int y)] [])) st104 ?_
  refine own_st (T' := T104) (g' := (mkF m 96 #[.val (.ref a), .val (.int (Int32.ofNat i)), .val (.int y)] [(.ref a)])) (fun _ kt => XS.aloadN X104.here hx rfl (hb hby d5_95) rfl rfl kt) ?_
  have F107 : Exa Z h95 a "com/example/vestwright/vestwright/census/YearlyHours" := (Exa.keep (Exa.keep pr1 K85_) K95_)
  have F108 : Exa Z h104 a "com/example/vestwright/vestwright/census/YearlyHours" := (Exa.wr W104 (Exa.keep (Exa.keep pr1 K85_) K95_))
  have F109 : Fld Z h104 a "com/example/vestwright/vestwright/census/YearlyHours" "hours" "[I" (.ref ha) := (Fld.other W104 (Fld.keep F89 K95_ (ninS (Exa.neArv F107 F98 (own_k hw 2 rfl)) nin0)) (Or.inl (Exa.neArv F108 F106 (own_k hw 2 rfl))))
  obtain ⟨T110, X110, e110, st110⟩ := getF X104 hx hZ hown (host := "") (Or.inl (own_k hw 13 rfl)) Via.refl e104 F109 (g := (mkF m 96 #[.val (.ref a), .val (.int (Int32.ofNat i)), .val (.int y)] [(.ref a)])) rfl rfl (hb hby d5_96)
  refine own_st (T' := T110) (g' := (mkF m 99 #[.val (.ref a), .val (.int (Int32.ofNat i)), .val (.int y)] [(.ref ha)])) st110 ?_
  refine own_st (T' := T110) (g' := (mkF m 101 #[.val (.ref a), .val (.int (Int32.ofNat i)), .val (.int y)] [(.int (0 : Int32)), (.int (Int32.ofNat i)), (.ref ha)])) (fun _ kt => XS.iloadN X110.here hx rfl (hb hby d5_99) rfl (XS.iconst X110.here hx rfl (hb hby d5_100) kt)) ?_
  have F111 : Arv Z h104 ha kh .int (Int32.ofNat cap) (own_mv (own_ha zs pb) i (zs.length - i)) (.int (0 : Int32)) := (Arv.other F98 W104 (Ne.symm pr10))
  obtain ⟨T112, h112, X112, e112, W112, V112, st112⟩ := own_ist X110 hx hZ e110 F111 (own_idx (by omega) (by omega)) (i := i) (own_tn (by omega)) (own_mvH (zs := zs) (pa := pb) (i := i) (y := y) (h := (0 : Int32)) pr11 (by first | omega | decide)).1 (g := (mkF m 101 #[.val (.ref a), .val (.int (Int32.ofNat i)), .val (.int y)] [(.int (0 : Int32)), (.int (Int32.ofNat i)), (.ref ha)])) rfl rfl (hb hby d5_101)
  have N112 := Fr.snoc X112 N104 pr9
  have Z113 : n0 ≤ h112.size := Nat.le_trans Z105 (Nat.le_of_eq (Wr.size W112).symm)
  have K113 : Keep h0 h112 [a, ya, ha] := (Keep.wr K105 W112 (Or.inl (List.mem_of_getElem? (i := 2) rfl)))
  have F114 : Arv Z h112 ha kh .int (Int32.ofNat cap) (own_ha (own_ins zs i y (0 : Int32)) (pb).tail) (.int (0 : Int32)) := (by have q := V112; rw [(own_mvH (zs := zs) (pa := pb) (i := i) (y := y) (h := (0 : Int32)) pr11 (by first | omega | decide)).2] at q; exact q)
  refine own_st (T' := T112) (g' := (mkF m 102 #[.val (.ref a), .val (.int (Int32.ofNat i)), .val (.int y)] [])) st112 ?_
  refine own_st (T' := T112) (g' := (mkF m 104 #[.val (.ref a), .val (.int (Int32.ofNat i)), .val (.int y)] [(.ref a), (.ref a)])) (fun _ kt => XS.aloadN X112.here hx rfl (hb hby d5_102) rfl rfl (XS.dup X112.here hx rfl (hb hby d5_103) rfl rfl kt)) ?_
  have F115 : Exa Z h112 a "com/example/vestwright/vestwright/census/YearlyHours" := (Exa.wr W112 (Exa.wr W104 (Exa.keep (Exa.keep pr1 K85_) K95_)))
  have F116 : Exa Z h104 a "com/example/vestwright/vestwright/census/YearlyHours" := (Exa.wr W104 (Exa.keep (Exa.keep pr1 K85_) K95_))
  have F117 : Exa Z h112 a "com/example/vestwright/vestwright/census/YearlyHours" := (Exa.wr W112 (Exa.wr W104 (Exa.keep (Exa.keep pr1 K85_) K95_)))
  have F118 : Fld Z h112 a "com/example/vestwright/vestwright/census/YearlyHours" "size" "I" (.int (Int32.ofNat zs.length)) := (Fld.other W112 (Fld.other W104 (Fld.keep F93 K95_ (ninS (Exa.neArv F115 F114 (own_k hw 2 rfl)) nin0)) (Or.inl (Exa.neArv F116 F106 (own_k hw 2 rfl)))) (Or.inl (Exa.neArv F117 F114 (own_k hw 2 rfl))))
  obtain ⟨T119, X119, e119, st119⟩ := getF X112 hx hZ hown (host := "") (Or.inl (own_k hw 24 rfl)) Via.refl e112 F118 (g := (mkF m 104 #[.val (.ref a), .val (.int (Int32.ofNat i)), .val (.int y)] [(.ref a), (.ref a)])) rfl rfl (hb hby d5_104)
  refine own_st (T' := T119) (g' := (mkF m 107 #[.val (.ref a), .val (.int (Int32.ofNat i)), .val (.int y)] [(.int (Int32.ofNat zs.length)), (.ref a)])) st119 ?_
  refine own_st (T' := T119) (g' := (mkF m 109 #[.val (.ref a), .val (.int (Int32.ofNat i)), .val (.int y)] [(.int ((Int32.ofNat zs.length) + (1 : Int32))), (.ref a)])) (fun _ kt => XS.iconst X119.here hx rfl (hb hby d5_107) (XS.iadd X119.here hx rfl (hb hby d5_108) rfl kt)) ?_
  rw [own_succ (n := zs.length) (by omega)]
  have F120 : Exa Z h112 a "com/example/vestwright/vestwright/census/YearlyHours" := (Exa.wr W112 (Exa.wr W104 (Exa.keep (Exa.keep pr1 K85_) K95_)))
  obtain ⟨T121, h121, X121, e121, W121, st121⟩ := putF X119 hx hZ hown (host := "") (Or.inl (own_k hw 24 rfl)) Via.refl e119 F118 F120 (Or.inl (own_k hw 25 rfl)) (own_k hw 2 rfl) (ty := .int) (by decide) rfl rfl (g := (mkF m 109 #[.val (.ref a), .val (.int (Int32.ofNat i)), .val (.int y)] [(.int (Int32.ofNat (zs.length + 1))), (.ref a)])) rfl rfl (hb hby d5_109)
  have N121 := Fr.snoc X121 N112 pr7
  have Z122 : n0 ≤ h121.size := Nat.le_trans Z113 (Nat.le_of_eq (Wr.size W121).symm)
  have K122 : Keep h0 h121 [a, ya, ha] := (Keep.wr K113 W121 (Or.inl (List.mem_of_getElem? (i := 0) rfl)))
  have F123 : Fld Z h121 a "com/example/vestwright/vestwright/census/YearlyHours" "size" "I" (.int (Int32.ofNat (zs.length + 1))) := Fld.same W121 F118
  refine own_st (T' := T121) (g' := (mkF m 112 #[.val (.ref a), .val (.int (Int32.ofNat i)), .val (.int y)] [])) st121 ?_
  obtain ⟨fs, hr, hrun, hended, hW, hsame⟩ := X121.leave (v := none) (fun _ => rfl)
  refine own_end (X121.returnOut hx Bd.returns (hb hby d5_112) hr) ⟨_, hrun, hended, _, _, rfl, ?_, ⟨_, rfl⟩, hW, hsame.mono (by decide) (by decide)⟩
  have F124 : Exa Z h121 a "com/example/vestwright/vestwright/census/YearlyHours" := (Exa.wr W121 F120)
  have F125 : Exa Z h104 a "com/example/vestwright/vestwright/census/YearlyHours" := (Exa.wr W104 (Exa.keep (Exa.keep pr1 K85_) K95_))
  have F126 : Exa Z h112 a "com/example/vestwright/vestwright/census/YearlyHours" := (Exa.wr W112 (Exa.wr W104 (Exa.keep (Exa.keep pr1 K85_) K95_)))
  have F127 : Fld Z h121 a "com/example/vestwright/vestwright/census/YearlyHours" "years" "[I" (.ref ya) := (Fld.other W121 (Fld.other W112 (Fld.other W104 F101 (Or.inl (Exa.neArv F125 F106 (own_k hw 2 rfl)))) (Or.inl (Exa.neArv F126 F114 (own_k hw 2 rfl)))) (Or.inr (slot_ne (Or.inl (own_k hw 12 rfl)) (Or.inl (own_k hw 25 rfl)) (by decide) (t := (.array .int)) (t' := .int) (by decide) (by decide))))
  have F128 : Exa Z h112 a "com/example/vestwright/vestwright/census/YearlyHours" := (Exa.wr W112 (Exa.wr W104 (Exa.keep (Exa.keep pr1 K85_) K95_)))
  have F129 : Fld Z h121 a "com/example/vestwright/vestwright/census/YearlyHours" "hours" "[I" (.ref ha) := (Fld.other W121 (Fld.other W112 F109 (Or.inl (Exa.neArv F128 F114 (own_k hw 2 rfl)))) (Or.inr (slot_ne (Or.inl (own_k hw 14 rfl)) (Or.inl (own_k hw 25 rfl)) (by decide) (t := (.array .int)) (t' := .int) (by decide) (by decide))))
  have F130 : Exa Z h104 a "com/example/vestwright/vestwright/census/YearlyHours" := (Exa.wr W104 (Exa.keep (Exa.keep pr1 K85_) K95_))
  have F131 : Arv Z h121 ya ky .int (Int32.ofNat cap) (own_ya (own_ins zs i y (0 : Int32)) (pa).tail) (.int (0 : Int32)) := (Arv.other (Arv.other F106 W112 pr10) W121 (Ne.symm (Exa.neArv F130 F106 (own_k hw 2 rfl))))
  have F132 : Exa Z h112 a "com/example/vestwright/vestwright/census/YearlyHours" := (Exa.wr W112 (Exa.wr W104 (Exa.keep (Exa.keep pr1 K85_) K95_)))
  have F133 : Arv Z h121 ha kh .int (Int32.ofNat cap) (own_ha (own_ins zs i y (0 : Int32)) (pb).tail) (.int (0 : Int32)) := (Arv.other F114 W121 (Ne.symm (Exa.neArv F132 F114 (own_k hw 2 rfl))))
  show own_nsAQ Z _ _ _ _ _ _ _ _ _ _ _ h0 n0 _ T121.heap _
  rw [e121]
  exact ⟨rfl, N121, K122, F124, F123, F127, F129, F131, F133⟩
theorem own_x2 {n : Nat} (h : n = 4) : Int32.ofNat n * 2 = 8 := by subst h; rfl
theorem own_yap (zs : own_Z) (p : List Value) : own_ya zs [] ++ p = own_ya zs p := by rw [own_ya, own_ya, List.append_nil]
theorem own_hap (zs : own_Z) (p : List Value) : own_ha zs [] ++ p = own_ha zs p := by rw [own_ha, own_ha, List.append_nil]
theorem own_yal (zs : own_Z) : (own_ya zs []).length = zs.length := by rw [own_ya, List.append_nil, List.length_map]
theorem own_hal (zs : own_Z) : (own_ha zs []).length = zs.length := by rw [own_ha, List.append_nil, List.length_map]
theorem d5_12 : decode prog_32_method_8_code 12 = .ok (.aload_n 0, 1) := by decide +kernel
theorem d5_13 : decode prog_32_method_8_code 13 = .ok (.aload_n 0, 1) := by decide +kernel
theorem d5_14 : decode prog_32_method_8_code 14 = .ok (.getfield 9, 3) := by decide +kernel
theorem d5_17 : decode prog_32_method_8_code 17 = .ok (.aload_n 0, 1) := by decide +kernel
theorem d5_18 : decode prog_32_method_8_code 18 = .ok (.getfield 27, 3) := by decide +kernel
theorem d5_21 : decode prog_32_method_8_code 21 = .ok (.iconst 2, 1) := by decide +kernel
theorem d5_22 : decode prog_32_method_8_code 22 = .ok (.imul, 1) := by decide +kernel
theorem d5_23 : decode prog_32_method_8_code 23 = .ok (.invokestatic 53, 3) := by decide +kernel
theorem own_pd5 : parseMethodDescriptor "([II)[I" = some ⟨[(.array .int), .int], some (.array .int)⟩ := by decide +kernel
theorem d5_26 : decode prog_32_method_8_code 26 = .ok (.putfield 9, 3) := by decide +kernel
theorem d5_29 : decode prog_32_method_8_code 29 = .ok (.aload_n 0, 1) := by decide +kernel
theorem d5_30 : decode prog_32_method_8_code 30 = .ok (.aload_n 0, 1) := by decide +kernel
theorem d5_31 : decode prog_32_method_8_code 31 = .ok (.getfield 13, 3) := by decide +kernel
theorem d5_34 : decode prog_32_method_8_code 34 = .ok (.aload_n 0, 1) := by decide +kernel
theorem d5_35 : decode prog_32_method_8_code 35 = .ok (.getfield 27, 3) := by decide +kernel
theorem d5_38 : decode prog_32_method_8_code 38 = .ok (.iconst 2, 1) := by decide +kernel
theorem d5_39 : decode prog_32_method_8_code 39 = .ok (.imul, 1) := by decide +kernel
theorem d5_40 : decode prog_32_method_8_code 40 = .ok (.invokestatic 53, 3) := by decide +kernel
theorem d5_43 : decode prog_32_method_8_code 43 = .ok (.putfield 13, 3) := by decide +kernel
def own_nsGQ (Z : State) (a : Addr) (ya : Addr) (ky : ClassId) (ha : Addr) (kh : ClassId) (zs : own_Z) (i : Nat) (y : Int32) (h0 : Heap) (n0 : Nat) (v : Option Value) (h : Heap) (L : List Loc) : Prop := ∃ (ya2 : Addr), ∃ (ky2 : ClassId), ∃ (ha2 : Addr), ∃ (kh2 : ClassId), v = none ∧ Fr n0 L ∧ Keep h0 h [a] ∧ (Exa Z h a "com/example/vestwright/vestwright/census/YearlyHours") ∧ (Fld Z h a "com/example/vestwright/vestwright/census/YearlyHours" "size" "I" (.int (Int32.ofNat (zs.length + 1)))) ∧ (Fld Z h a "com/example/vestwright/vestwright/census/YearlyHours" "years" "[I" (.ref ya2)) ∧ (Fld Z h a "com/example/vestwright/vestwright/census/YearlyHours" "hours" "[I" (.ref ha2)) ∧ (Arv Z h ya2 ky2 .int (Int32.ofNat 8) (own_ya (own_ins zs i y (0 : Int32)) ([(.int (0 : Int32)), (.int (0 : Int32)), (.int (0 : Int32)), (.int (0 : Int32))]).tail) (.int (0 : Int32))) ∧ (Arv Z h ha2 kh2 .int (Int32.ofNat 8) (own_ha (own_ins zs i y (0 : Int32)) ([(.int (0 : Int32)), (.int (0 : Int32)), (.int (0 : Int32)), (.int (0 : Int32))]).tail) (.int (0 : Int32))) ∧ (h0.size ≤ ya2) ∧ (h0.size ≤ ha2) ∧ (ya2 ≠ ha2)
abbrev own_nsGR : Room := { frames := 2, cells := 2, slots := 16, locals := 33 }
set_option maxRecDepth 65536 in
set_option maxHeartbeats 40000000 in
theorem own_nsG (l : Launch) (Z : State) (a0 : Array Value) (hw : ∀ d ∈ tables_1, d.before a0 Z = true) (ws : List Jvm.Cond) (a : Addr) (ya : Addr) (ky : ClassId) (ha : Addr) (kh : ClassId) (zs : own_Z) (i : Nat) (y : Int32) (h0 : Heap) (n0 : Nat) (Z0 : n0 ≤ h0.size) (pr1 : Exa Z h0 a "com/example/vestwright/vestwright/census/YearlyHours") (pr2 : Fld Z h0 a "com/example/vestwright/vestwright/census/YearlyHours" "size" "I" (.int (Int32.ofNat zs.length))) (pr3 : Fld Z h0 a "com/example/vestwright/vestwright/census/YearlyHours" "years" "[I" (.ref ya)) (pr4 : Fld Z h0 a "com/example/vestwright/vestwright/census/YearlyHours" "hours" "[I" (.ref ha)) (pr5 : Arv Z h0 ya ky .int (Int32.ofNat 4) (own_ya zs []) (.int (0 : Int32))) (pr6 : Arv Z h0 ha kh .int (Int32.ofNat 4) (own_ha zs []) (.int (0 : Int32))) (pr7 : n0 ≤ a) (pr8 : i ≤ zs.length) (pr9 : zs.length = 4) :
    own_M l (⟨"com/example/vestwright/vestwright/census/YearlyHours", "insert", "(II)V"⟩ : MethodName) prog_32_method_8_code 3 none ws own_nsGR #[(.ref a), (.int (Int32.ofNat i)), (.int y)] Z h0 (own_nsGQ Z a ya ky ha kh zs i y h0 n0) := by
  refine own_go (plainFor_of_name own_pn2) (fun m => own_ef9 m a (Int32.ofNat i) y ) ?_
  intro p e s m below meth c s₁ Bd hx hby hml hZ hh hown hnm X0 e0
  have N0 := Fr.nil n0
  have K0 : Keep h0 h0 [a] := Keep.refl h0 _
  have hn4 := pr9
  refine own_st (T' := s₁) (g' := (mkF m 1 #[.val (.ref a), .val (.int (Int32.ofNat i)), .val (.int y)] [(.ref a)])) (fun _ kt => XS.aloadN X0.here hx rfl (hb hby d5_0) rfl rfl kt) ?_
  obtain ⟨T134, X134, e134, st134⟩ := getF X0 hx hZ hown (host := "") (Or.inl (own_k hw 24 rfl)) Via.refl e0 pr2 (g := (mkF m 1 #[.val (.ref a), .val (.int (Int32.ofNat i)), .val (.int y)] [(.ref a)])) rfl rfl (hb hby d5_1)
  refine own_st (T' := T134) (g' := (mkF m 4 #[.val (.ref a), .val (.int (Int32.ofNat i)), .val (.int y)] [(.int (Int32.ofNat zs.length))])) st134 ?_
  refine own_st (T' := T134) (g' := (mkF m 5 #[.val (.ref a), .val (.int (Int32.ofNat i)), .val (.int y)] [(.ref a), (.int (Int32.ofNat zs.length))])) (fun _ kt => XS.aloadN X134.here hx rfl (hb hby d5_4) rfl rfl kt) ?_
  obtain ⟨T135, X135, e135, st135⟩ := getF X134 hx hZ hown (host := "") (Or.inl (own_k hw 11 rfl)) Via.refl e134 pr3 (g := (mkF m 5 #[.val (.ref a), .val (.int (Int32.ofNat i)), .val (.int y)] [(.ref a), (.int (Int32.ofNat zs.length))])) rfl rfl (hb hby d5_5)
  refine own_st (T' := T135) (g' := (mkF m 8 #[.val (.ref a), .val (.int (Int32.ofNat i)), .val (.int y)] [(.ref ya), (.int (Int32.ofNat zs.length))])) st135 ?_
  refine own_st (T' := T135) (g' := (mkF m 9 #[.val (.ref a), .val (.int (Int32.ofNat i)), .val (.int y)] [(.int (Int32.ofNat 4)), (.int (Int32.ofNat zs.length))])) (own_alen X135 hx hZ e135 pr5 (g := (mkF m 8 #[.val (.ref a), .val (.int (Int32.ofNat i)), .val (.int y)] [(.ref ya), (.int (Int32.ofNat zs.length))])) rfl rfl (hb hby d5_8)) ?_
  refine own_st (T' := T135) (g' := (mkF m 14 #[.val (.ref a), .val (.int (Int32.ofNat i)), .val (.int y)] [(.ref a), (.ref a)])) (fun _ kt => XS.icmpNo X135.here hx rfl (hb hby d5_9) rfl (XT.ii_ne_f (by rw [pr9])) (XS.aloadN X135.here hx rfl (hb hby d5_12) rfl rfl (XS.aloadN X135.here hx rfl (hb hby d5_13) rfl rfl kt))) ?_
  obtain ⟨T136, X136, e136, st136⟩ := getF X135 hx hZ hown (host := "") (Or.inl (own_k hw 11 rfl)) Via.refl e135 pr3 (g := (mkF m 14 #[.val (.ref a), .val (.int (Int32.ofNat i)), .val (.int y)] [(.ref a), (.ref a)])) rfl rfl (hb hby d5_14)
  refine own_st (T' := T136) (g' := (mkF m 17 #[.val (.ref a), .val (.int (Int32.ofNat i)), .val (.int y)] [(.ref ya), (.ref a)])) st136 ?_
  refine own_st (T' := T136) (g' := (mkF m 18 #[.val (.ref a), .val (.int (Int32.ofNat i)), .val (.int y)] [(.ref a), (.ref ya), (.ref a)])) (fun _ kt => XS.aloadN X136.here hx rfl (hb hby d5_17) rfl rfl kt) ?_
  obtain ⟨T137, X137, e137, st137⟩ := getF X136 hx hZ hown (host := "") (Or.inl (own_k hw 24 rfl)) Via.refl e136 pr2 (g := (mkF m 18 #[.val (.ref a), .val (.int (Int32.ofNat i)), .val (.int y)] [(.ref a), (.ref ya), (.ref a)])) rfl rfl (hb hby d5_18)
  refine own_st (T' := T137) (g' := (mkF m 21 #[.val (.ref a), .val (.int (Int32.ofNat i)), .val (.int y)] [(.int (Int32.ofNat zs.length)), (.ref ya), (.ref a)])) st137 ?_
  refine own_st (T' := T137) (g' := (mkF m 23 #[.val (.ref a), .val (.int (Int32.ofNat i)), .val (.int y)] [(.int ((Int32.ofNat zs.length) * (2 : Int32))), (.ref ya), (.ref a)])) (fun _ kt => XS.iconst X137.here hx rfl (hb hby d5_21) (XS.imul X137.here hx rfl (hb hby d5_22) rfl kt)) ?_
  rw [own_x2 pr9]
  obtain ⟨_, _, ⟨T138, L138, k138, n138⟩, -, X138, ⟨Lc138, hQ138, l138, y138, z138⟩, st138⟩ := Jvm.LawKit.callS X137 hx (y := (⟨"java/util/Arrays", "copyOf", "([II)[I"⟩ : MethodName)) hown (mvT hZ (own_k hw 57 rfl)) (mvT hZ (own_k hw 58 rfl)) (mvT hZ (own_k hw 36 rfl)) (mvT hZ (own_k hw 59 rfl)) (by decide) (backOf (W := 1) (own_cy l Z a0 hw [] ya ky (own_ya zs []) h0 n0 Z0 pr5 (show (own_ya zs []).length = 4 from (by rw [own_yal]; exact hn4))) hZ (own_k hw 59 rfl) (own_k hw 36 rfl) (by decide) (by decide)) (g := (mkF m 23 #[.val (.ref a), .val (.int (Int32.ofNat i)), .val (.int y)] [(.int (8 : Int32)), (.ref ya), (.ref a)])) rfl hml.symm  (argsL := [(.ref ya), (.int (8 : Int32))]) (rest := [(.ref a)]) (lenOf own_pd5 rfl) rfl (by show 2 * 0 + _ ≤ _; exact Nat.le_of_eq rfl) (hb hby d5_23) (fun _ _ => ⟨rfl, e137, (by decide : 0 + 1 ≤ 2), (by decide : 0 + 8 ≤ 16)⟩)
  dsimp only [Pt.U, Pt.locs, Pt.cells, Pt.slots] at X138 l138 y138 z138 st138 hQ138
  subst l138 y138 z138
  obtain ⟨b_138, kb_138, rfl, N138, K138_, P139, P140⟩ := hQ138
  have N141 := Fr.app N0 N138
  have Z142 : n0 ≤ T138.heap.size := Nat.le_trans Z0 K138_.1
  have K142 : Keep h0 T138.heap [a] := (Keep.trans K0 K138_ all0)
  have ne143 : a ≠ b_138 := Nat.ne_of_lt (Nat.lt_of_lt_of_le pr1.lt P140)
  have ne144 : ya ≠ b_138 := Nat.ne_of_lt (Nat.lt_of_lt_of_le pr5.lt P140)
  have ne145 : ha ≠ b_138 := Nat.ne_of_lt (Nat.lt_of_lt_of_le pr6.lt P140)
  have ge146 : n0 ≤ b_138 := Nat.le_trans Z0 P140
  refine own_st (T' := T138) (g' := (mkF m 26 #[.val (.ref a), .val (.int (Int32.ofNat i)), .val (.int y)] [(.ref b_138), (.ref a)])) st138 ?_
  have F147 : Arv Z T138.heap b_138 kb_138 .int (Int32.ofNat 8) (own_ya zs [(.int (0 : Int32)), (.int (0 : Int32)), (.int (0 : Int32)), (.int (0 : Int32))]) (.int (0 : Int32)) := by have q := P139; rw [own_yap] at q; exact q
  have F148 : Fld Z T138.heap a "com/example/vestwright/vestwright/census/YearlyHours" "years" "[I" (.ref ya) := (Fld.keep pr3 K138_ nin0)
  have F149 : Exa Z T138.heap a "com/example/vestwright/vestwright/census/YearlyHours" := (Exa.keep pr1 K138_)
  obtain ⟨T150, h150, X150, e150, W150, st150⟩ := putF X138 hx hZ hown (host := "") (Or.inl (own_k hw 11 rfl)) Via.refl rfl F148 F149 (Or.inl (own_k hw 12 rfl)) (own_k hw 2 rfl) (ty := (.array .int)) (by decide) rfl rfl (g := (mkF m 26 #[.val (.ref a), .val (.int (Int32.ofNat i)), .val (.int y)] [(.ref b_138), (.ref a)])) rfl rfl (hb hby d5_26)
  have N150 := Fr.snoc X150 N141 pr7
  have Z151 : n0 ≤ h150.size := Nat.le_trans Z142 (Nat.le_of_eq (Wr.size W150).symm)
  have K151 : Keep h0 h150 [a] := (Keep.wr K142 W150 (Or.inl (List.mem_of_getElem? (i := 0) rfl)))
  have F152 : Fld Z h150 a "com/example/vestwright/vestwright/census/YearlyHours" "years" "[I" (.ref b_138) := Fld.same W150 F148
  refine own_st (T' := T150) (g' := (mkF m 29 #[.val (.ref a), .val (.int (Int32.ofNat i)), .val (.int y)] [])) st150 ?_
  refine own_st (T' := T150) (g' := (mkF m 31 #[.val (.ref a), .val (.int (Int32.ofNat i)), .val (.int y)] [(.ref a), (.ref a)])) (fun _ kt => XS.aloadN X150.here hx rfl (hb hby d5_29) rfl rfl (XS.aloadN X150.here hx rfl (hb hby d5_30) rfl rfl kt)) ?_
  have F153 : Fld Z h150 a "com/example/vestwright/vestwright/census/YearlyHours" "hours" "[I" (.ref ha) := (Fld.other W150 (Fld.keep pr4 K138_ nin0) (Or.inr (slot_ne (Or.inl (own_k hw 14 rfl)) (Or.inl (own_k hw 12 rfl)) (by decide) (t := (.array .int)) (t' := (.array .int)) (by decide) (by decide))))
  obtain ⟨T154, X154, e154, st154⟩ := getF X150 hx hZ hown (host := "") (Or.inl (own_k hw 13 rfl)) Via.refl e150 F153 (g := (mkF m 31 #[.val (.ref a), .val (.int (Int32.ofNat i)), .val (.int y)] [(.ref a), (.ref a)])) rfl rfl (hb hby d5_31)
  refine own_st (T' := T154) (g' := (mkF m 34 #[.val (.ref a), .val (.int (Int32.ofNat i)), .val (.int y)] [(.ref ha), (.ref a)])) st154 ?_
  refine own_st (T' := T154) (g' := (mkF m 35 #[.val (.ref a), .val (.int (Int32.ofNat i)), .val (.int y)] [(.ref a), (.ref ha), (.ref a)])) (fun _ kt => XS.aloadN X154.here hx rfl (hb hby d5_34) rfl rfl kt) ?_
  have F155 : Fld Z h150 a "com/example/vestwright/vestwright/census/YearlyHours" "size" "I" (.int (Int32.ofNat zs.length)) := (Fld.other W150 (Fld.keep pr2 K138_ nin0) (Or.inr (slot_ne (Or.inl (own_k hw 25 rfl)) (Or.inl (own_k hw 12 rfl)) (by decide) (t := .int) (t' := (.array .int)) (by decide) (by decide))))
  obtain ⟨T156, X156, e156, st156⟩ := getF X154 hx hZ hown (host := "") (Or.inl (own_k hw 24 rfl)) Via.refl e154 F155 (g := (mkF m 35 #[.val (.ref a), .val (.int (Int32.ofNat i)), .val (.int y)] [(.ref a), (.ref ha), (.ref a)])) rfl rfl (hb hby d5_35)
  refine own_st (T' := T156) (g' := (mkF m 38 #[.val (.ref a), .val (.int (Int32.ofNat i)), .val (.int y)] [(.int (Int32.ofNat zs.length)), (.ref ha), (.ref a)])) st156 ?_
  refine own_st (T' := T156) (g' := (mkF m 40 #[.val (.ref a), .val (.int (Int32.ofNat i)), .val (.int y)] [(.int ((Int32.ofNat zs.length) * (2 : Int32))), (.ref ha), (.ref a)])) (fun _ kt => XS.iconst X156.here hx rfl (hb hby d5_38) (XS.imul X156.here hx rfl (hb hby d5_39) rfl kt)) ?_
  rw [own_x2 pr9]
  have F157 : Arv Z h150 ha kh .int (Int32.ofNat 4) (own_ha zs []) (.int (0 : Int32)) := (Arv.other (Arv.keep pr6 K138_ nin0) W150 (Ne.symm (Exa.neArv pr1 pr6 (own_k hw 2 rfl))))
  obtain ⟨_, _, ⟨T158, L158, k158, n158⟩, -, X158, ⟨Lc158, hQ158, l158, y158, z158⟩, st158⟩ := Jvm.LawKit.callS X156 hx (y := (⟨"java/util/Arrays", "copyOf", "([II)[I"⟩ : MethodName)) hown (mvT hZ (own_k hw 57 rfl)) (mvT hZ (own_k hw 58 rfl)) (mvT hZ (own_k hw 36 rfl)) (mvT hZ (own_k hw 59 rfl)) (by decide) (backOf (W := 1) (own_cy l Z a0 hw [] ha kh (own_ha zs []) h150 n0 Z151 F157 (show (own_ha zs []).length = 4 from (by rw [own_hal]; exact hn4))) hZ (own_k hw 59 rfl) (own_k hw 36 rfl) (by decide) (by decide)) (g := (mkF m 40 #[.val (.ref a), .val (.int (Int32.ofNat i)), .val (.int y)] [(.int (8 : Int32)), (.ref ha), (.ref a)])) rfl hml.symm  (argsL := [(.ref ha), (.int (8 : Int32))]) (rest := [(.ref a)]) (lenOf own_pd5 rfl) rfl (by show 2 * 0 + _ ≤ _; exact Nat.le_of_eq rfl) (hb hby d5_40) (fun _ _ => ⟨rfl, e156, (by decide : 1 + 1 ≤ 2), (by decide : 8 + 8 ≤ 16)⟩)
  dsimp only [Pt.U, Pt.locs, Pt.cells, Pt.slots] at X158 l158 y158 z158 st158 hQ158
  subst l158 y158 z158
  obtain ⟨b_158, kb_158, rfl, N158, K158_, P159, P160⟩ := hQ158
  have N161 := Fr.app N150 N158
  have Z162 : n0 ≤ T158.heap.size := Nat.le_trans Z151 K158_.1
  have K162 : Keep h0 T158.heap [a] := (Keep.trans K151 K158_ all0)
  have F163 : Exa Z h150 a "com/example/vestwright/vestwright/census/YearlyHours" := (Exa.wr W150 F149)
  have ne164 : a ≠ b_158 := Nat.ne_of_lt (Nat.lt_of_lt_of_le F163.lt P160)
  have F165 : Arv Z h150 ya ky .int (Int32.ofNat 4) (own_ya zs []) (.int (0 : Int32)) := (Arv.other (Arv.keep pr5 K138_ nin0) W150 (Ne.symm (Exa.neArv pr1 pr5 (own_k hw 2 rfl))))
  have ne166 : ya ≠ b_158 := Nat.ne_of_lt (Nat.lt_of_lt_of_le F165.lt P160)
  have ne167 : ha ≠ b_158 := Nat.ne_of_lt (Nat.lt_of_lt_of_le F157.lt P160)
  have F168 : Arv Z h150 b_138 kb_138 .int (Int32.ofNat 8) (own_ya zs [(.int (0 : Int32)), (.int (0 : Int32)), (.int (0 : Int32)), (.int (0 : Int32))]) (.int (0 : Int32)) := (Arv.other F147 W150 (Ne.symm ne143))
  have ne169 : b_138 ≠ b_158 := Nat.ne_of_lt (Nat.lt_of_lt_of_le F168.lt P160)
  have ge170 : n0 ≤ b_158 := Nat.le_trans Z151 P160
  refine own_st (T' := T158) (g' := (mkF m 43 #[.val (.ref a), .val (.int (Int32.ofNat i)), .val (.int y)] [(.ref b_158), (.ref a)])) st158 ?_
  have F171 : Arv Z T158.heap b_158 kb_158 .int (Int32.ofNat 8) (own_ha zs [(.int (0 : Int32)), (.int (0 : Int32)), (.int (0 : Int32)), (.int (0 : Int32))]) (.int (0 : Int32)) := by have q := P159; rw [own_hap] at q; exact q
  have F172 : Fld Z T158.heap a "com/example/vestwright/vestwright/census/YearlyHours" "hours" "[I" (.ref ha) := (Fld.keep F153 K158_ nin0)
  have F173 : Exa Z T158.heap a "com/example/vestwright/vestwright/census/YearlyHours" := (Exa.keep F163 K158_)
  obtain ⟨T174, h174, X174, e174, W174, st174⟩ := putF X158 hx hZ hown (host := "") (Or.inl (own_k hw 13 rfl)) Via.refl rfl F172 F173 (Or.inl (own_k hw 14 rfl)) (own_k hw 2 rfl) (ty := (.array .int)) (by decide) rfl rfl (g := (mkF m 43 #[.val (.ref a), .val (.int (Int32.ofNat i)), .val (.int y)] [(.ref b_158), (.ref a)])) rfl rfl (hb hby d5_43)
  have N174 := Fr.snoc X174 N161 pr7
  have Z175 : n0 ≤ h174.size := Nat.le_trans Z162 (Nat.le_of_eq (Wr.size W174).symm)
  have K175 : Keep h0 h174 [a] := (Keep.wr K162 W174 (Or.inl (List.mem_of_getElem? (i := 0) rfl)))
  have F176 : Fld Z h174 a "com/example/vestwright/vestwright/census/YearlyHours" "hours" "[I" (.ref b_158) := Fld.same W174 F172
  refine own_st (T' := T174) (g' := (mkF m 46 #[.val (.ref a), .val (.int (Int32.ofNat i)), .val (.int y)] [])) st174 ?_
  refine own_st (T' := T174) (g' := (mkF m 47 #[.val (.ref a), .val (.int (Int32.ofNat i)), .val (.int y)] [(.ref a)])) (fun _ kt => XS.aloadN X174.here hx rfl (hb hby d5_46) rfl rfl kt) ?_
  have F177 : Fld Z h174 a "com/example/vestwright/vestwright/census/YearlyHours" "years" "[I" (.ref b_138) := (Fld.other W174 (Fld.keep F152 K158_ nin0) (Or.inr (slot_ne (Or.inl (own_k hw 12 rfl)) (Or.inl (own_k hw 14 rfl)) (by decide) (t := (.array .int)) (t' := (.array .int)) (by decide) (by decide))))
  obtain ⟨T178, X178, e178, st178⟩ := getF X174 hx hZ hown (host := "") (Or.inl (own_k hw 11 rfl)) Via.refl e174 F177 (g := (mkF m 47 #[.val (.ref a), .val (.int (Int32.ofNat i)), .val (.int y)] [(.ref a)])) rfl rfl (hb hby d5_47)
  refine own_st (T' := T178) (g' := (mkF m 50 #[.val (.ref a), .val (.int (Int32.ofNat i)), .val (.int y)] [(.ref b_138)])) st178 ?_
  refine own_st (T' := T178) (g' := (mkF m 52 #[.val (.ref a), .val (.int (Int32.ofNat i)), .val (.int y)] [(.ref a), (.int (Int32.ofNat i)), (.ref b_138)])) (fun _ kt => XS.iloadN X178.here hx rfl (hb hby d5_50) rfl (XS.aloadN X178.here hx rfl (hb hby d5_51) rfl rfl kt)) ?_
  obtain ⟨T179, X179, e179, st179⟩ := getF X178 hx hZ hown (host := "") (Or.inl (own_k hw 11 rfl)) Via.refl e178 F177 (g := (mkF m 52 #[.val (.ref a), .val (.int (Int32.ofNat i)), .val (.int y)] [(.ref a), (.int (Int32.ofNat i)), (.ref b_138)])) rfl rfl (hb hby d5_52)
  refine own_st (T' := T179) (g' := (mkF m 55 #[.val (.ref a), .val (.int (Int32.ofNat i)), .val (.int y)] [(.ref b_138), (.int (Int32.ofNat i)), (.ref b_138)])) st179 ?_
  refine own_st (T' := T179) (g' := (mkF m 58 #[.val (.ref a), .val (.int (Int32.ofNat i)), .val (.int y)] [(.int ((Int32.ofNat i) + (1 : Int32))), (.ref b_138), (.int (Int32.ofNat i)), (.ref b_138)])) (fun _ kt => XS.iloadN X179.here hx rfl (hb hby d5_55) rfl (XS.iconst X179.here hx rfl (hb hby d5_56) (XS.iadd X179.here hx rfl (hb hby d5_57) rfl kt))) ?_
  rw [own_succ (n := i) (by omega)]
  refine own_st (T' := T179) (g' := (mkF m 59 #[.val (.ref a), .val (.int (Int32.ofNat i)), .val (.int y)] [(.ref a), (.int (Int32.ofNat (i + 1))), (.ref b_138), (.int (Int32.ofNat i)), (.ref b_138)])) (fun _ kt => XS.aloadN X179.here hx rfl (hb hby d5_58) rfl rfl kt) ?_
  have F180 : Fld Z h174 a "com/example/vestwright/vestwright/census/YearlyHours" "size" "I" (.int (Int32.ofNat zs.length)) := (Fld.other W174 (Fld.keep F155 K158_ nin0) (Or.inr (slot_ne (Or.inl (own_k hw 25 rfl)) (Or.inl (own_k hw 14 rfl)) (by decide) (t := .int) (t' := (.array .int)) (by decide) (by decide))))
  obtain ⟨T181, X181, e181, st181⟩ := getF X179 hx hZ hown (host := "") (Or.inl (own_k hw 24 rfl)) Via.refl e179 F180 (g := (mkF m 59 #[.val (.ref a), .val (.int (Int32.ofNat i)), .val (.int y)] [(.ref a), (.int (Int32.ofNat (i + 1))), (.ref b_138), (.int (Int32.ofNat i)), (.ref b_138)])) rfl rfl (hb hby d5_59)
  refine own_st (T' := T181) (g' := (mkF m 62 #[.val (.ref a), .val (.int (Int32.ofNat i)), .val (.int y)] [(.int (Int32.ofNat zs.length)), (.int (Int32.ofNat (i + 1))), (.ref b_138), (.int (Int32.ofNat i)), (.ref b_138)])) st181 ?_
  refine own_st (T' := T181) (g' := (mkF m 64 #[.val (.ref a), .val (.int (Int32.ofNat i)), .val (.int y)] [(.int ((Int32.ofNat zs.length) - (Int32.ofNat i))), (.int (Int32.ofNat (i + 1))), (.ref b_138), (.int (Int32.ofNat i)), (.ref b_138)])) (fun _ kt => XS.iloadN X181.here hx rfl (hb hby d5_62) rfl (XS.isub X181.here hx rfl (hb hby d5_63) rfl kt)) ?_
  rw [own_sub (n := zs.length) (i := i) (by omega) (by omega)]
  have F183 : Arv Z h174 b_138 kb_138 .int (Int32.ofNat 8) (own_ya zs [(.int (0 : Int32)), (.int (0 : Int32)), (.int (0 : Int32)), (.int (0 : Int32))]) (.int (0 : Int32)) := (Arv.other (Arv.keep F168 K158_ nin0) W174 (Ne.symm ne143))
  obtain ⟨T182, h182, L182, X182, e182, N182, K182_, V182, st182⟩ := cpA X181 hx hZ hown (own_k hw 30 rfl) (own_k hw 33 rfl) (own_k hw 31 rfl) (own_k hw 32 rfl) e181 (us := ((List.range (zs.length - i)).map fun j => (own_ya zs [(.int (0 : Int32)), (.int (0 : Int32)), (.int (0 : Int32)), (.int (0 : Int32))]).getD (i + j) (.int (0 : Int32)))) F183 F183 (Or.inl ⟨rfl, rfl⟩) (own_idx (k := i + 1) (by omega) (by omega)).1 (own_idx (k := i + 2) (by omega) (by omega)).1 (own_idx (i := zs.length - i) (k := 100) (by omega) (by omega)).1 (by rw [own_tn (i := i) (by omega), own_tn (i := zs.length - i) (by omega), own_tn (i := 8) (by omega)]; omega) (by rw [own_tn (i := i + 1) (by omega), own_tn (i := zs.length - i) (by omega), own_tn (i := 8) (by omega)]; omega) (by rw [own_tn (i := zs.length - i) (by omega), own_tn (i := i) (by omega)]) (by rw [own_tn (i := i + 1) (by omega), own_tn (i := zs.length - i) (by omega), own_ya, List.length_append, List.length_map]; (try simp only [List.length_cons, List.length_nil]); omega) N174 ge146 (g := (mkF m 64 #[.val (.ref a), .val (.int (Int32.ofNat i)), .val (.int y)] [(.int (Int32.ofNat (zs.length - i))), (.int (Int32.ofNat (i + 1))), (.ref b_138), (.int (Int32.ofNat i)), (.ref b_138)])) rfl hml.symm rfl (hb hby d5_64) (by decide) (W := 0) (by show 2 * 0 + _ ≤ _; exact Nat.le_of_eq rfl) (by decide)
  have Z184 : n0 ≤ h182.size := Nat.le_trans Z175 K182_.1
  have K184 : Keep h0 h182 [a] := (Keep.trans K175 K182_ (allS (Or.inr (Nat.le_trans K0.1 P140)) all0))
  have F185 : Arv Z h182 b_138 kb_138 .int (Int32.ofNat 8) (own_mv (own_ya zs [(.int (0 : Int32)), (.int (0 : Int32)), (.int (0 : Int32)), (.int (0 : Int32))]) i (zs.length - i)) (.int (0 : Int32)) := (by have q := V182; rw [own_tn (i := i + 1) (by omega), own_tn (i := zs.length - i) (by omega)] at q; exact q)
  refine own_st (T' := T182) (g' := (mkF m 67 #[.val (.ref a), .val (.int (Int32.ofNat i)), .val (.int y)] [])) st182 ?_
  refine own_st (T' := T182) (g' := (mkF m 68 #[.val (.ref a), .val (.int (Int32.ofNat i)), .val (.int y)] [(.ref a)])) (fun _ kt => XS.aloadN X182.here hx rfl (hb hby d5_67) rfl rfl kt) ?_
  have F186 : Fld Z h182 a "com/example/vestwright/vestwright/census/YearlyHours" "hours" "[I" (.ref b_158) := (Fld.keep F176 K182_ (ninS ne143 nin0))
  obtain ⟨T187, X187, e187, st187⟩ := getF X182 hx hZ hown (host := "") (Or.inl (own_k hw 13 rfl)) Via.refl e182 F186 (g := (mkF m 68 #[.val (.ref a), .val (.int (Int32.ofNat i)), .val (.int y)] [(.ref a)])) rfl rfl (hb hby d5_68)
  refine own_st (T' := T187) (g' := (mkF m 71 #[.val (.ref a), .val (.int (Int32.ofNat i)), .val (.int y)] [(.ref b_158)])) st187 ?_
  refine own_st (T' := T187) (g' := (mkF m 73 #[.val (.ref a), .val (.int (Int32.ofNat i)), .val (.int y)] [(.ref a), (.int (Int32.ofNat i)), (.ref b_158)])) (fun _ kt => XS.iloadN X187.here hx rfl (hb hby d5_71) rfl (XS.aloadN X187.here hx rfl (hb hby d5_72) rfl rfl kt)) ?_
  obtain ⟨T188, X188, e188, st188⟩ := getF X187 hx hZ hown (host := "") (Or.inl (own_k hw 13 rfl)) Via.refl e187 F186 (g := (mkF m 73 #[.val (.ref a), .val (.int (Int32.ofNat i)), .val (.int y)] [(.ref a), (.int (Int32.ofNat i)), (.ref b_158)])) rfl rfl (hb hby d5_73)
  refine own_st (T' := T188) (g' := (mkF m 76 #[.val (.ref a), .val (.int (Int32.ofNat i)), .val (.int y)] [(.ref b_158), (.int (Int32.ofNat i)), (.ref b_158)])) st188 ?_
  refine own_st (T' := T188) (g' := (mkF m 79 #[.val (.ref a), .val (.int (Int32.ofNat i)), .val (.int y)] [(.int ((Int32.ofNat i) + (1 : Int32))), (.ref b_158), (.int (Int32.ofNat i)), (.ref b_158)])) (fun _ kt => XS.iloadN X188.here hx rfl (hb hby d5_76) rfl (XS.iconst X188.here hx rfl (hb hby d5_77) (XS.iadd X188.here hx rfl (hb hby d5_78) rfl kt))) ?_
  rw [own_succ (n := i) (by omega)]
  refine own_st (T' := T188) (g' := (mkF m 80 #[.val (.ref a), .val (.int (Int32.ofNat i)), .val (.int y)] [(.ref a), (.int (Int32.ofNat (i + 1))), (.ref b_158), (.int (Int32.ofNat i)), (.ref b_158)])) (fun _ kt => XS.aloadN X188.here hx rfl (hb hby d5_79) rfl rfl kt) ?_
  have F189 : Fld Z h182 a "com/example/vestwright/vestwright/census/YearlyHours" "size" "I" (.int (Int32.ofNat zs.length)) := (Fld.keep F180 K182_ (ninS ne143 nin0))
  obtain ⟨T190, X190, e190, st190⟩ := getF X188 hx hZ hown (host := "") (Or.inl (own_k hw 24 rfl)) Via.refl e188 F189 (g := (mkF m 80 #[.val (.ref a), .val (.int (Int32.ofNat i)), .val (.int y)] [(.ref a), (.int (Int32.ofNat (i + 1))), (.ref b_158), (.int (Int32.ofNat i)), (.ref b_158)])) rfl rfl (hb hby d5_80)
  refine own_st (T' := T190) (g' := (mkF m 83 #[.val (.ref a), .val (.int (Int32.ofNat i)), .val (.int y)] [(.int (Int32.ofNat zs.length)), (.int (Int32.ofNat (i + 1))), (.ref b_158), (.int (Int32.ofNat i)), (.ref b_158)])) st190 ?_
  refine own_st (T' := T190) (g' := (mkF m 85 #[.val (.ref a), .val (.int (Int32.ofNat i)), .val (.int y)] [(.int ((Int32.ofNat zs.length) - (Int32.ofNat i))), (.int (Int32.ofNat (i + 1))), (.ref b_158), (.int (Int32.ofNat i)), (.ref b_158)])) (fun _ kt => XS.iloadN X190.here hx rfl (hb hby d5_83) rfl (XS.isub X190.here hx rfl (hb hby d5_84) rfl kt)) ?_
  rw [own_sub (n := zs.length) (i := i) (by omega) (by omega)]
  have F192 : Arv Z h182 b_158 kb_158 .int (Int32.ofNat 8) (own_ha zs [(.int (0 : Int32)), (.int (0 : Int32)), (.int (0 : Int32)), (.int (0 : Int32))]) (.int (0 : Int32)) := (Arv.keep (Arv.other F171 W174 (Ne.symm ne164)) K182_ (ninS (Ne.symm ne169) nin0))
  obtain ⟨T191, h191, L191, X191, e191, N191, K191_, V191, st191⟩ := cpA X190 hx hZ hown (own_k hw 30 rfl) (own_k hw 33 rfl) (own_k hw 31 rfl) (own_k hw 32 rfl) e190 (us := ((List.range (zs.length - i)).map fun j => (own_ha zs [(.int (0 : Int32)), (.int (0 : Int32)), (.int (0 : Int32)), (.int (0 : Int32))]).getD (i + j) (.int (0 : Int32)))) F192 F192 (Or.inl ⟨rfl, rfl⟩) (own_idx (k := i + 1) (by omega) (by omega)).1 (own_idx (k := i + 2) (by omega) (by omega)).1 (own_idx (i := zs.length - i) (k := 100) (by omega) (by omega)).1 (by rw [own_tn (i := i) (by omega), own_tn (i := zs.length - i) (by omega), own_tn (i := 8) (by omega)]; omega) (by rw [own_tn (i := i + 1) (by omega), own_tn (i := zs.length - i) (by omega), own_tn (i := 8) (by omega)]; omega) (by rw [own_tn (i := zs.length - i) (by omega), own_tn (i := i) (by omega)]) (by rw [own_tn (i := i + 1) (by omega), own_tn (i := zs.length - i) (by omega), own_ha, List.length_append, List.length_map]; (try simp only [List.length_cons, List.length_nil]); omega) N182 ge170 (g := (mkF m 85 #[.val (.ref a), .val (.int (Int32.ofNat i)), .val (.int y)] [(.int (Int32.ofNat (zs.length - i))), (.int (Int32.ofNat (i + 1))), (.ref b_158), (.int (Int32.ofNat i)), (.ref b_158)])) rfl hml.symm rfl (hb hby d5_85) (by decide) (W := 0) (by show 2 * 0 + _ ≤ _; exact Nat.le_of_eq rfl) (by decide)
  have Z193 : n0 ≤ h191.size := Nat.le_trans Z184 K191_.1
  have K193 : Keep h0 h191 [a] := (Keep.trans K184 K191_ (allS (Or.inr (Nat.le_trans K151.1 P160)) all0))
  have F194 : Arv Z h191 b_158 kb_158 .int (Int32.ofNat 8) (own_mv (own_ha zs [(.int (0 : Int32)), (.int (0 : Int32)), (.int (0 : Int32)), (.int (0 : Int32))]) i (zs.length - i)) (.int (0 : Int32)) := (by have q := V191; rw [own_tn (i := i + 1) (by omega), own_tn (i := zs.length - i) (by omega)] at q; exact q)
  refine own_st (T' := T191) (g' := (mkF m 88 #[.val (.ref a), .val (.int (Int32.ofNat i)), .val (.int y)] [])) st191 ?_
  refine own_st (T' := T191) (g' := (mkF m 89 #[.val (.ref a), .val (.int (Int32.ofNat i)), .val (.int y)] [(.ref a)])) (fun _ kt => XS.aloadN X191.here hx rfl (hb hby d5_88) rfl rfl kt) ?_
  have F195 : Fld Z h191 a "com/example/vestwright/vestwright/census/YearlyHours" "years" "[I" (.ref b_138) := (Fld.keep (Fld.keep F177 K182_ (ninS ne143 nin0)) K191_ (ninS ne164 nin0))
  obtain ⟨T196, X196, e196, st196⟩ := getF X191 hx hZ hown (host := "") (Or.inl (own_k hw 11 rfl)) Via.refl e191 F195 (g := (mkF m 89 #[.val (.ref a), .val (.int (Int32.ofNat i)), .val (.int y)] [(.ref a)])) rfl rfl (hb hby d5_89)
  refine own_st (T' := T196) (g' := (mkF m 92 #[.val (.ref a), .val (.int (Int32.ofNat i)), .val (.int y)] [(.ref b_138)])) st196 ?_
  refine own_st (T' := T196) (g' := (mkF m 94 #[.val (.ref a), .val (.int (Int32.ofNat i)), .val (.int y)] [(.int y), (.int (Int32.ofNat i)), (.ref b_138)])) (fun _ kt => XS.iloadN X196.here hx rfl (hb hby d5_92) rfl (XS.iloadN X196.here hx rfl (hb hby d5_93) rfl kt)) ?_
  have F197 : Arv Z h191 b_138 kb_138 .int (Int32.ofNat 8) (own_mv (own_ya zs [(.int (0 : Int32)), (.int (0 : Int32)), (.int (0 : Int32)), (.int (0 : Int32))]) i (zs.length - i)) (.int (0 : Int32)) := (Arv.keep F185 K191_ (ninS ne169 nin0))
  obtain ⟨T198, h198, X198, e198, W198, V198, st198⟩ := own_ist X196 hx hZ e196 F197 (own_idx (by omega) (by omega)) (i := i) (own_tn (by omega)) (own_mvY (zs := zs) (pa := [(.int (0 : Int32)), (.int (0 : Int32)), (.int (0 : Int32)), (.int (0 : Int32))]) (i := i) (y := y) (h := (0 : Int32)) pr8 (by first | omega | decide)).1 (g := (mkF m 94 #[.val (.ref a), .val (.int (Int32.ofNat i)), .val (.int y)] [(.int y), (.int (Int32.ofNat i)), (.ref b_138)])) rfl rfl (hb hby d5_94)
  have N198 := Fr.snoc X198 N191 ge146
  have Z199 : n0 ≤ h198.size := Nat.le_trans Z193 (Nat.le_of_eq (Wr.size W198).symm)
  have K199 : Keep h0 h198 [a] := (Keep.wr K193 W198 (Or.inr (Nat.le_trans K0.1 P140)))
  have F200 : Arv Z h198 b_138 kb_138 .int (Int32.ofNat 8) (own_ya (own_ins zs i y (0 : Int32)) ([(.int (0 : Int32)), (.int (0 : Int32)), (.int (0 : Int32)), (.int (0 : Int32))]).tail) (.int (0 : Int32)) := (by have q := V198; rw [(own_mvY (zs := zs) (pa := [(.int (0 : Int32)), (.int (0 : Int32)), (.int (0 : Int32)), (.int (0 : Int32))]) (i := i) (y := y) (h := (0 : Int32)) pr8 (by first | omega | decide)).2] at q; exact q)
  refine own_st (T' := T198) (g' := (mkF m 95 #[.val (.ref a), .val (.int (Int32.ofNat i)), .val (.int y)] [])) st198 ?_
  refine own_st (T' := T198) (g' := (mkF m 96 #[.val (.ref a), .val (.int (Int32.ofNat i)), .val (.int y)] [(.ref a)])) (fun _ kt => XS.aloadN X198.here hx rfl (hb hby d5_95) rfl rfl kt) ?_
  have F201 : Fld Z h198 a "com/example/vestwright/vestwright/census/YearlyHours" "hours" "[I" (.ref b_158) := (Fld.other W198 (Fld.keep F186 K191_ (ninS ne164 nin0)) (Or.inl ne143))
  obtain ⟨T202, X202, e202, st202⟩ := getF X198 hx hZ hown (host := "") (Or.inl (own_k hw 13 rfl)) Via.refl e198 F201 (g := (mkF m 96 #[.val (.ref a), .val (.int (Int32.ofNat i)), .val (.int y)] [(.ref a)])) rfl rfl (hb hby d5_96)
  refine own_st (T' := T202) (g' := (mkF m 99 #[.val (.ref a), .val (.int (Int32.ofNat i)), .val (.int y)] [(.ref b_158)])) st202 ?_
  refine own_st (T' := T202) (g' := (mkF m 101 #[.val (.ref a), .val (.int (Int32.ofNat i)), .val (.int y)] [(.int (0 : Int32)), (.int (Int32.ofNat i)), (.ref b_158)])) (fun _ kt => XS.iloadN X202.here hx rfl (hb hby d5_99) rfl (XS.iconst X202.here hx rfl (hb hby d5_100) kt)) ?_
  have F203 : Arv Z h198 b_158 kb_158 .int (Int32.ofNat 8) (own_mv (own_ha zs [(.int (0 : Int32)), (.int (0 : Int32)), (.int (0 : Int32)), (.int (0 : Int32))]) i (zs.length - i)) (.int (0 : Int32)) := (Arv.other F194 W198 (Ne.symm ne169))
  obtain ⟨T204, h204, X204, e204, W204, V204, st204⟩ := own_ist X202 hx hZ e202 F203 (own_idx (by omega) (by omega)) (i := i) (own_tn (by omega)) (own_mvH (zs := zs) (pa := [(.int (0 : Int32)), (.int (0 : Int32)), (.int (0 : Int32)), (.int (0 : Int32))]) (i := i) (y := y) (h := (0 : Int32)) pr8 (by first | omega | decide)).1 (g := (mkF m 101 #[.val (.ref a), .val (.int (Int32.ofNat i)), .val (.int y)] [(.int (0 : Int32)), (.int (Int32.ofNat i)), (.ref b_158)])) rfl rfl (hb hby d5_101)
  have N204 := Fr.snoc X204 N198 ge170
  have Z205 : n0 ≤ h204.size := Nat.le_trans Z199 (Nat.le_of_eq (Wr.size W204).symm)
  have K205 : Keep h0 h204 [a] := (Keep.wr K199 W204 (Or.inr (Nat.le_trans K151.1 P160)))
  have F206 : Arv Z h204 b_158 kb_158 .int (Int32.ofNat 8) (own_ha (own_ins zs i y (0 : Int32)) ([(.int (0 : Int32)), (.int (0 : Int32)), (.int (0 : Int32)), (.int (0 : Int32))]).tail) (.int (0 : Int32)) := (by have q := V204; rw [(own_mvH (zs := zs) (pa := [(.int (0 : Int32)), (.int (0 : Int32)), (.int (0 : Int32)), (.int (0 : Int32))]) (i := i) (y := y) (h := (0 : Int32)) pr8 (by first | omega | decide)).2] at q; exact q)
  refine own_st (T' := T204) (g' := (mkF m 102 #[.val (.ref a), .val (.int (Int32.ofNat i)), .val (.int y)] [])) st204 ?_
  refine own_st (T' := T204) (g' := (mkF m 104 #[.val (.ref a), .val (.int (Int32.ofNat i)), .val (.int y)] [(.ref a), (.ref a)])) (fun _ kt => XS.aloadN X204.here hx rfl (hb hby d5_102) rfl rfl (XS.dup X204.here hx rfl (hb hby d5_103) rfl rfl kt)) ?_
  have F207 : Fld Z h204 a "com/example/vestwright/vestwright/census/YearlyHours" "size" "I" (.int (Int32.ofNat zs.length)) := (Fld.other W204 (Fld.other W198 (Fld.keep F189 K191_ (ninS ne164 nin0)) (Or.inl ne143)) (Or.inl ne164))
  obtain ⟨T208, X208, e208, st208⟩ := getF X204 hx hZ hown (host := "") (Or.inl (own_k hw 24 rfl)) Via.refl e204 F207 (g := (mkF m 104 #[.val (.ref a), .val (.int (Int32.ofNat i)), .val (.int y)] [(.ref a), (.ref a)])) rfl rfl (hb hby d5_104)
  refine own_st (T' := T208) (g' := (mkF m 107 #[.val (.ref a), .val (.int (Int32.ofNat i)), .val (.int y)] [(.int (Int32.ofNat zs.length)), (.ref a)])) st208 ?_
  refine own_st (T' := T208) (g' := (mkF m 109 #[.val (.ref a), .val (.int (Int32.ofNat i)), .val (.int y)] [(.int ((Int32.ofNat zs.length) + (1 : Int32))), (.ref a)])) (fun _ kt => XS.iconst X208.here hx rfl (hb hby d5_107) (XS.iadd X208.here hx rfl (hb hby d5_108) rfl kt)) ?_
  rw [own_succ (n := zs.length) (by omega)]
  have F209 : Exa Z h204 a "com/example/vestwright/vestwright/census/YearlyHours" := (Exa.wr W204 (Exa.wr W198 (Exa.keep (Exa.keep (Exa.wr W174 F173) K182_) K191_)))
  obtain ⟨T210, h210, X210, e210, W210, st210⟩ := putF X208 hx hZ hown (host := "") (Or.inl (own_k hw 24 rfl)) Via.refl e208 F207 F209 (Or.inl (own_k hw 25 rfl)) (own_k hw 2 rfl) (ty := .int) (by decide) rfl rfl (g := (mkF m 109 #[.val (.ref a), .val (.int (Int32.ofNat i)), .val (.int y)] [(.int (Int32.ofNat (zs.length + 1))), (.ref a)])) rfl rfl (hb hby d5_109)
  have N210 := Fr.snoc X210 N204 pr7
  have Z211 : n0 ≤ h210.size := Nat.le_trans Z205 (Nat.le_of_eq (Wr.size W210).symm)
  have K211 : Keep h0 h210 [a] := (Keep.wr K205 W210 (Or.inl (List.mem_of_getElem? (i := 0) rfl)))
  have F212 : Fld Z h210 a "com/example/vestwright/vestwright/census/YearlyHours" "size" "I" (.int (Int32.ofNat (zs.length + 1))) := Fld.same W210 F207
  refine own_st (T' := T210) (g' := (mkF m 112 #[.val (.ref a), .val (.int (Int32.ofNat i)), .val (.int y)] [])) st210 ?_
  obtain ⟨fs, hr, hrun, hended, hW, hsame⟩ := X210.leave (v := none) (fun _ => rfl)
  refine own_end (X210.returnOut hx Bd.returns (hb hby d5_112) hr) ⟨_, hrun, hended, _, _, rfl, ?_, ⟨_, rfl⟩, hW, hsame.mono (by decide) (by decide)⟩
  have F213 : Exa Z h210 a "com/example/vestwright/vestwright/census/YearlyHours" := (Exa.wr W210 F209)
  have F214 : Fld Z h210 a "com/example/vestwright/vestwright/census/YearlyHours" "years" "[I" (.ref b_138) := (Fld.other W210 (Fld.other W204 (Fld.other W198 F195 (Or.inl ne143)) (Or.inl ne164)) (Or.inr (slot_ne (Or.inl (own_k hw 12 rfl)) (Or.inl (own_k hw 25 rfl)) (by decide) (t := (.array .int)) (t' := .int) (by decide) (by decide))))
  have F215 : Fld Z h210 a "com/example/vestwright/vestwright/census/YearlyHours" "hours" "[I" (.ref b_158) := (Fld.other W210 (Fld.other W204 F201 (Or.inl ne164)) (Or.inr (slot_ne (Or.inl (own_k hw 14 rfl)) (Or.inl (own_k hw 25 rfl)) (by decide) (t := (.array .int)) (t' := .int) (by decide) (by decide))))
  have F216 : Arv Z h210 b_138 kb_138 .int (Int32.ofNat 8) (own_ya (own_ins zs i y (0 : Int32)) ([(.int (0 : Int32)), (.int (0 : Int32)), (.int (0 : Int32)), (.int (0 : Int32))]).tail) (.int (0 : Int32)) := (Arv.other (Arv.other F200 W204 ne169) W210 (Ne.symm ne143))
  have F217 : Arv Z h210 b_158 kb_158 .int (Int32.ofNat 8) (own_ha (own_ins zs i y (0 : Int32)) ([(.int (0 : Int32)), (.int (0 : Int32)), (.int (0 : Int32)), (.int (0 : Int32))]).tail) (.int (0 : Int32)) := (Arv.other F206 W210 (Ne.symm ne164))
  show own_nsGQ Z _ _ _ _ _ _ _ _ h0 n0 _ T210.heap _
  rw [e210]
  exact ⟨b_138, kb_138, b_158, kb_158, rfl, N210, K211, F213, F212, F214, F215, F216, F217, (Nat.le_trans K0.1 P140), (Nat.le_trans K151.1 P160), ne169⟩
theorem d3_0 : decode prog_32_method_2_code 0 = .ok (.aload_n 0, 1) := by decide +kernel
theorem d3_1 : decode prog_32_method_2_code 1 = .ok (.iload_n 1, 1) := by decide +kernel
theorem d3_2 : decode prog_32_method_2_code 2 = .ok (.invokevirtual 16, 3) := by decide +kernel
theorem d3_5 : decode prog_32_method_2_code 5 = .ok (.istore_n 3, 1) := by decide +kernel
theorem d3_6 : decode prog_32_method_2_code 6 = .ok (.iload_n 3, 1) := by decide +kernel
theorem d3_7 : decode prog_32_method_2_code 7 = .ok (.ifCond .ge 14, 3) := by decide +kernel
theorem d3_10 : decode prog_32_method_2_code 10 = .ok (.iload_n 3, 1) := by decide +kernel
theorem d3_11 : decode prog_32_method_2_code 11 = .ok (.ineg, 1) := by decide +kernel
theorem d3_12 : decode prog_32_method_2_code 12 = .ok (.iconst 1, 1) := by decide +kernel
theorem d3_13 : decode prog_32_method_2_code 13 = .ok (.isub, 1) := by decide +kernel
theorem d3_14 : decode prog_32_method_2_code 14 = .ok (.istore_n 3, 1) := by decide +kernel
theorem d3_15 : decode prog_32_method_2_code 15 = .ok (.aload_n 0, 1) := by decide +kernel
theorem d3_16 : decode prog_32_method_2_code 16 = .ok (.iload_n 3, 1) := by decide +kernel
theorem d3_17 : decode prog_32_method_2_code 17 = .ok (.iload_n 1, 1) := by decide +kernel
theorem d3_18 : decode prog_32_method_2_code 18 = .ok (.invokevirtual 20, 3) := by decide +kernel
theorem own_pd6 : parseMethodDescriptor "(II)V" = some ⟨[.int, .int], none⟩ := by decide +kernel
theorem d3_21 : decode prog_32_method_2_code 21 = .ok (.aload_n 0, 1) := by decide +kernel
theorem d3_22 : decode prog_32_method_2_code 22 = .ok (.getfield 13, 3) := by decide +kernel
theorem d3_25 : decode prog_32_method_2_code 25 = .ok (.iload_n 3, 1) := by decide +kernel
theorem d3_26 : decode prog_32_method_2_code 26 = .ok (.dup2, 1) := by decide +kernel
theorem d3_27 : decode prog_32_method_2_code 27 = .ok (.iaload, 1) := by decide +kernel
theorem d3_28 : decode prog_32_method_2_code 28 = .ok (.iload_n 2, 1) := by decide +kernel
theorem d3_29 : decode prog_32_method_2_code 29 = .ok (.iadd, 1) := by decide +kernel
theorem d3_30 : decode prog_32_method_2_code 30 = .ok (.iastore, 1) := by decide +kernel
theorem d3_31 : decode prog_32_method_2_code 31 = .ok (.aload_n 0, 1) := by decide +kernel
theorem d3_32 : decode prog_32_method_2_code 32 = .ok (.getfield 13, 3) := by decide +kernel
theorem d3_35 : decode prog_32_method_2_code 35 = .ok (.iload_n 3, 1) := by decide +kernel
theorem d3_36 : decode prog_32_method_2_code 36 = .ok (.iaload, 1) := by decide +kernel
theorem d3_37 : decode prog_32_method_2_code 37 = .ok (.i2l, 1) := by decide +kernel
theorem d3_38 : decode prog_32_method_2_code 38 = .ok (.lreturn, 1) := by decide +kernel
set_option maxHeartbeats 4000000 in
theorem own_ef10 (m : MethodId) (x0 : Addr) (x1 : Int32) (x2 : Int32) : entryFrame m #[(.ref x0), (.int x1), (.int x2)] 4 = mkF m 0 #[.val (.ref x0), .val (.int x1), .val (.int x2), .unset] [] := by first | (simp [entryFrame, mkF, argsToLocals, Value.category]; done) | rfl
def own_adAQ (Z : State) (a : Addr) (ya : Addr) (ky : ClassId) (ha : Addr) (kh : ClassId) (zs : own_Z) (pa : List Value) (pb : List Value) (cap : Nat) (bb : Int) (y : Int32) (hq : Int32) (h0 : Heap) (n0 : Nat) (v : Option Value) (h : Heap) (L : List Loc) : Prop := ∃ (zt : own_Z), ∃ (qa : List Value), ∃ (qb : List Value), ∃ (rr : Int64), v = some (.long rr) ∧ Fr n0 L ∧ Keep h0 h [a, ya, ha] ∧ (Exa Z h a "com/example/vestwright/vestwright/census/YearlyHours") ∧ (Fld Z h a "com/example/vestwright/vestwright/census/YearlyHours" "size" "I" (.int (Int32.ofNat zt.length))) ∧ (Fld Z h a "com/example/vestwright/vestwright/census/YearlyHours" "years" "[I" (.ref ya)) ∧ (Fld Z h a "com/example/vestwright/vestwright/census/YearlyHours" "hours" "[I" (.ref ha)) ∧ (Arv Z h ya ky .int (Int32.ofNat cap) (own_ya zt qa) (.int (0 : Int32))) ∧ (Arv Z h ha kh .int (Int32.ofNat cap) (own_ha zt qb) (.int (0 : Int32))) ∧ (own_nx zs zt y hq bb) ∧ (qa.length + zt.length = cap ∧ qb.length + zt.length = cap)
abbrev own_adAR : Room := { frames := 3, cells := 0, slots := 0, locals := 48 }
set_option maxRecDepth 65536 in
set_option maxHeartbeats 40000000 in
theorem own_adA (l : Launch) (Z : State) (a0 : Array Value) (hw : ∀ d ∈ tables_1, d.before a0 Z = true) (ws : List Jvm.Cond) (a : Addr) (ya : Addr) (ky : ClassId) (ha : Addr) (kh : ClassId) (zs : own_Z) (pa : List Value) (pb : List Value) (cap : Nat) (bb : Int) (y : Int32) (hq : Int32) (h0 : Heap) (n0 : Nat) (Z0 : n0 ≤ h0.size) (pr1 : Exa Z h0 a "com/example/vestwright/vestwright/census/YearlyHours") (pr2 : Fld Z h0 a "com/example/vestwright/vestwright/census/YearlyHours" "size" "I" (.int (Int32.ofNat zs.length))) (pr3 : Fld Z h0 a "com/example/vestwright/vestwright/census/YearlyHours" "years" "[I" (.ref ya)) (pr4 : Fld Z h0 a "com/example/vestwright/vestwright/census/YearlyHours" "hours" "[I" (.ref ha)) (pr5 : Arv Z h0 ya ky .int (Int32.ofNat cap) (own_ya zs pa) (.int (0 : Int32))) (pr6 : Arv Z h0 ha kh .int (Int32.ofNat cap) (own_ha zs pb) (.int (0 : Int32))) (pr7 : n0 ≤ a) (pr8 : n0 ≤ ya) (pr9 : n0 ≤ ha) (pr10 : ya ≠ ha) (pr11 : own_so zs) (pr12 : own_bd bb zs) (pr13 : 0 ≤ bb ∧ bb ≤ 1000000) (pr14 : 0 ≤ hq.toInt ∧ hq.toInt ≤ 1023) (pr15 : zs.length < cap) (pr16 : cap ≤ 8) (pr17 : pa.length + zs.length = cap) (pr18 : pb.length + zs.length = cap) :
    own_M l (⟨"com/example/vestwright/vestwright/census/YearlyHours", "add", "(II)J"⟩ : MethodName) prog_32_method_2_code 4 (some .long) ws own_adAR #[(.ref a), (.int y), (.int hq)] Z h0 (own_adAQ Z a ya ky ha kh zs pa pb cap bb y hq h0 n0) := by
  refine own_go (plainFor_of_name own_pn2) (fun m => own_ef10 m a y hq ) ?_
  intro p e s m below meth c s₁ Bd hx hby hml hZ hh hown hnm X0 e0
  have N0 := Fr.nil n0
  have K0 : Keep h0 h0 [a, ya, ha] := Keep.refl h0 _
  refine own_st (T' := s₁) (g' := (mkF m 2 #[.val (.ref a), .val (.int y), .val (.int hq), .unset] [(.int y), (.ref a)])) (fun _ kt => XS.aloadN X0.here hx rfl (hb hby d3_0) rfl rfl (XS.iloadN X0.here hx rfl (hb hby d3_1) rfl kt)) ?_
  obtain ⟨cl219, hcl219, hob219⟩ := Exa.cell pr1
  obtain ⟨_, _, ⟨T218, L218, k218, n218⟩, -, X218, ⟨Lc218, hQ218, l218, y218, z218⟩, st218⟩ := X0.privateBack hx (y := (⟨"com/example/vestwright/vestwright/census/YearlyHours", "indexOf", "(I)I"⟩ : MethodName)) hown (mvT hZ (own_k hw 20 rfl)) (mvT hZ (own_k hw 21 rfl)) (Kit.selects_private (by decide) (mvT hZ (own_k hw 2 rfl)) (mvP hZ (own_k hw 22 rfl)) (mvT hZ (own_k hw 21 rfl))) (Cond.privateMethod_at (mvP hZ (own_k hw 22 rfl) (args := #[]))) (mvT hZ (own_k hw 23 rfl)) (by decide) (backOf (W := 0) (own_io l Z a0 hw [] a ya ky zs pa cap y h0 n0 Z0 pr1 pr2 pr3 pr5 pr11 (show zs.length ≤ 8 from (by omega)) (show zs.length ≤ cap from (by omega)) pr16) hZ (own_k hw 23 rfl) (own_k hw 3 rfl) (by decide) (by decide)) (g := (mkF m 2 #[.val (.ref a), .val (.int y), .val (.int hq), .unset] [(.int y), (.ref a)])) rfl hml.symm (Steps.refl _) (a := a) (by rw [e0]; exact hcl219) hob219 (argsL := [(.int y)]) (rest := []) (lenOf own_pd3 rfl) rfl (by show 2 * 0 + _ ≤ _; exact Nat.le_of_eq rfl) (hb hby d3_2) (fun _ _ => ⟨rfl, e0, (by decide : 0 + 0 ≤ 0), (by decide : 0 + 0 ≤ 0)⟩)
  dsimp only [Pt.U, Pt.locs, Pt.cells, Pt.slots] at X218 l218 y218 z218 st218 hQ218
  subst l218 y218 z218
  obtain ⟨rfl, N218, e218⟩ := hQ218
  have N220 := Fr.app N0 N218
  refine own_tr (T' := T218) (g' := (mkF m 5 #[.val (.ref a), .val (.int y), .val (.int hq), .unset] [(.int (own_ix zs y))])) st218 ?_
  refine own_st (T' := T218) (g' := (mkF m 7 #[.val (.ref a), .val (.int y), .val (.int hq), .val (.int (own_ix zs y))] [(.int (own_ix zs y))])) (fun _ kt => XS.istoreN X218.here hx rfl (hb hby d3_5) rfl (l' := #[.val (.ref a), .val (.int y), .val (.int hq), .val (.int (own_ix zs y))]) rfl (XS.iloadN X218.here hx rfl (hb hby d3_6) rfl kt)) ?_
  by_cases hc221 : (own_ix zs y) < 0
  · -- pc 7: (own_ix zs y) < 0
    refine own_st (T' := T218) (g' := (mkF m 15 #[.val (.ref a), .val (.int y), .val (.int hq), .val (.int ((-(own_ix zs y)) - (1 : Int32)))] [])) (fun _ kt => XS.ifNo X218.here hx rfl (hb hby d3_7) rfl (XT.i0_ge_f hc221) (XS.iloadN X218.here hx rfl (hb hby d3_10) rfl (XS.ineg X218.here hx rfl (hb hby d3_11) rfl (XS.iconst X218.here hx rfl (hb hby d3_12) (XS.isub X218.here hx rfl (hb hby d3_13) rfl (XS.istoreN X218.here hx rfl (hb hby d3_14) rfl (l' := #[.val (.ref a), .val (.int y), .val (.int hq), .val (.int ((-(own_ix zs y)) - (1 : Int32)))]) rfl kt)))))) ?_
    have hn := own_ixneg (y := y) (zs := zs) (by omega) hc221
    rw [hn.2]
    have hcl := own_c_le zs y
    refine own_st (T' := T218) (g' := (mkF m 18 #[.val (.ref a), .val (.int y), .val (.int hq), .val (.int (Int32.ofNat (own_c zs y)))] [(.int y), (.int (Int32.ofNat (own_c zs y))), (.ref a)])) (fun _ kt => XS.aloadN X218.here hx rfl (hb hby d3_15) rfl rfl (XS.iloadN X218.here hx rfl (hb hby d3_16) rfl (XS.iloadN X218.here hx rfl (hb hby d3_17) rfl kt))) ?_
    obtain ⟨cl223, hcl223, hob223⟩ := Exa.cell pr1
    obtain ⟨_, _, ⟨T222, L222, k222, n222⟩, -, X222, ⟨Lc222, hQ222, l222, y222, z222⟩, st222⟩ := X218.privateBack hx (y := (⟨"com/example/vestwright/vestwright/census/YearlyHours", "insert", "(II)V"⟩ : MethodName)) hown (mvT hZ (own_k hw 26 rfl)) (mvT hZ (own_k hw 27 rfl)) (Kit.selects_private (by decide) (mvT hZ (own_k hw 2 rfl)) (mvP hZ (own_k hw 28 rfl)) (mvT hZ (own_k hw 27 rfl))) (Cond.privateMethod_at (mvP hZ (own_k hw 28 rfl) (args := #[]))) (mvT hZ (own_k hw 29 rfl)) (by decide) (backOf (W := 0) (own_nsA l Z a0 hw [] a ya ky ha kh zs pa pb cap (own_c zs y) y h0 n0 Z0 pr1 pr2 pr3 pr4 pr5 pr6 pr7 pr8 pr9 pr10 hcl pr15 pr16 pr17 pr18) hZ (own_k hw 29 rfl) (own_k hw 3 rfl) (by decide) (by decide)) (g := (mkF m 18 #[.val (.ref a), .val (.int y), .val (.int hq), .val (.int (Int32.ofNat (own_c zs y)))] [(.int y), (.int (Int32.ofNat (own_c zs y))), (.ref a)])) rfl hml.symm (Steps.refl _) (a := a) (by rw [e218]; exact hcl223) hob223 (argsL := [(.int (Int32.ofNat (own_c zs y))), (.int y)]) (rest := []) (lenOf own_pd6 rfl) rfl (by show 2 * 0 + _ ≤ _; exact Nat.le_of_eq rfl) (hb hby d3_18) (fun _ _ => ⟨rfl, e218, (by decide : 0 + 0 ≤ 0), (by decide : 0 + 0 ≤ 0)⟩)
    dsimp only [Pt.U, Pt.locs, Pt.cells, Pt.slots] at X222 l222 y222 z222 st222 hQ222
    subst l222 y222 z222
    obtain ⟨rfl, N222, K222_, P224, P225, P226, P227, P228, P229⟩ := hQ222
    have N230 := Fr.app N220 N222
    have Z231 : n0 ≤ T222.heap.size := Nat.le_trans Z0 K222_.1
    have K231 : Keep h0 T222.heap [a, ya, ha] := (Keep.trans K0 K222_ (allS (Or.inl (List.mem_of_getElem? (i := 0) rfl)) (allS (Or.inl (List.mem_of_getElem? (i := 1) rfl)) (allS (Or.inl (List.mem_of_getElem? (i := 2) rfl)) all0))))
    refine own_tr (T' := T222) (g' := (mkF m 21 #[.val (.ref a), .val (.int y), .val (.int hq), .val (.int (Int32.ofNat (own_c zs y)))] [])) st222 ?_
    have had := own_addN (h := hq) pr11 hn.1
    have hle : (own_add y hq zs).length = zs.length + 1 := by rw [had]; exact own_ins_len hcl
    have hcn : own_c zs y < (own_add y hq zs).length := by omega
    have F232 : Arv Z T222.heap ya ky .int (Int32.ofNat cap) (own_ya (own_add y hq zs) pa.tail) (.int (0 : Int32)) := by rw [had, own_insy (k := hq) (h := (0 : Int32))]; exact P228
    have F233 : Fld Z T222.heap a "com/example/vestwright/vestwright/census/YearlyHours" "size" "I" (.int (Int32.ofNat (own_add y hq zs).length)) := by rw [hle]; exact P225
    refine own_st (T' := T222) (g' := (mkF m 22 #[.val (.ref a), .val (.int y), .val (.int hq), .val (.int (Int32.ofNat (own_c zs y)))] [(.ref a)])) (fun _ kt => XS.aloadN X222.here hx rfl (hb hby d3_21) rfl rfl kt) ?_
    obtain ⟨T234, X234, e234, st234⟩ := getF X222 hx hZ hown (host := "") (Or.inl (own_k hw 13 rfl)) Via.refl rfl P227 (g := (mkF m 22 #[.val (.ref a), .val (.int y), .val (.int hq), .val (.int (Int32.ofNat (own_c zs y)))] [(.ref a)])) rfl rfl (hb hby d3_22)
    refine own_st (T' := T234) (g' := (mkF m 25 #[.val (.ref a), .val (.int y), .val (.int hq), .val (.int (Int32.ofNat (own_c zs y)))] [(.ref ha)])) st234 ?_
    refine own_st (T' := T234) (g' := (mkF m 27 #[.val (.ref a), .val (.int y), .val (.int hq), .val (.int (Int32.ofNat (own_c zs y)))] [(.int (Int32.ofNat (own_c zs y))), (.ref ha), (.int (Int32.ofNat (own_c zs y))), (.ref ha)])) (fun _ kt => XS.iloadN X234.here hx rfl (hb hby d3_25) rfl (XT.dup2 X234.here hx rfl (hb hby d3_26) rfl rfl rfl kt)) ?_
    refine own_st (T' := T234) (g' := (mkF m 28 #[.val (.ref a), .val (.int y), .val (.int hq), .val (.int (Int32.ofNat (own_c zs y)))] [(.int (0 : Int32)), (.int (Int32.ofNat (own_c zs y))), (.ref ha)])) (own_ial X234 hx hZ e234 P229 (own_idx (by omega) (by omega)) ((own_hg (by rw [own_ins_len hcl]; omega) (by omega)).trans (by rw [own_insh hcl])) (g := (mkF m 27 #[.val (.ref a), .val (.int y), .val (.int hq), .val (.int (Int32.ofNat (own_c zs y)))] [(.int (Int32.ofNat (own_c zs y))), (.ref ha), (.int (Int32.ofNat (own_c zs y))), (.ref ha)])) rfl rfl (hb hby d3_27)) ?_
    refine own_st (T' := T234) (g' := (mkF m 30 #[.val (.ref a), .val (.int y), .val (.int hq), .val (.int (Int32.ofNat (own_c zs y)))] [(.int ((0 : Int32) + hq)), (.int (Int32.ofNat (own_c zs y))), (.ref ha)])) (fun _ kt => XS.iloadN X234.here hx rfl (hb hby d3_28) rfl (XS.iadd X234.here hx rfl (hb hby d3_29) rfl kt)) ?_
    obtain ⟨T235, h235, X235, e235, W235, V235, st235⟩ := own_ist X234 hx hZ e234 P229 (own_idx (by omega) (by omega)) (i := (own_c zs y)) (own_tn (by omega)) (by rw [own_ha, List.length_append, List.length_map, own_ins_len hcl]; omega) (g := (mkF m 30 #[.val (.ref a), .val (.int y), .val (.int hq), .val (.int (Int32.ofNat (own_c zs y)))] [(.int ((0 : Int32) + hq)), (.int (Int32.ofNat (own_c zs y))), (.ref ha)])) rfl rfl (hb hby d3_30)
    have N235 := Fr.snoc X235 N230 pr9
    have Z236 : n0 ≤ h235.size := Nat.le_trans Z231 (Nat.le_of_eq (Wr.size W235).symm)
    have K236 : Keep h0 h235 [a, ya, ha] := (Keep.wr K231 W235 (Or.inl (List.mem_of_getElem? (i := 2) rfl)))
    have F237 : Arv Z h235 ha kh .int (Int32.ofNat cap) (own_ha (own_add y hq zs) pb.tail) (.int (0 : Int32)) := (by have q := V235; rw [Int32.zero_add, own_inset hcl, ← had] at q; exact q)
    refine own_st (T' := T235) (g' := (mkF m 31 #[.val (.ref a), .val (.int y), .val (.int hq), .val (.int (Int32.ofNat (own_c zs y)))] [])) st235 ?_
    refine own_st (T' := T235) (g' := (mkF m 32 #[.val (.ref a), .val (.int y), .val (.int hq), .val (.int (Int32.ofNat (own_c zs y)))] [(.ref a)])) (fun _ kt => XS.aloadN X235.here hx rfl (hb hby d3_31) rfl rfl kt) ?_
    have F238 : Exa Z h235 a "com/example/vestwright/vestwright/census/YearlyHours" := (Exa.wr W235 (Exa.keep pr1 K222_))
    have F239 : Fld Z h235 a "com/example/vestwright/vestwright/census/YearlyHours" "hours" "[I" (.ref ha) := (Fld.other W235 P227 (Or.inl (Exa.neArv F238 F237 (own_k hw 2 rfl))))
    obtain ⟨T240, X240, e240, st240⟩ := getF X235 hx hZ hown (host := "") (Or.inl (own_k hw 13 rfl)) Via.refl e235 F239 (g := (mkF m 32 #[.val (.ref a), .val (.int y), .val (.int hq), .val (.int (Int32.ofNat (own_c zs y)))] [(.ref a)])) rfl rfl (hb hby d3_32)
    refine own_st (T' := T240) (g' := (mkF m 35 #[.val (.ref a), .val (.int y), .val (.int hq), .val (.int (Int32.ofNat (own_c zs y)))] [(.ref ha)])) st240 ?_
    refine own_st (T' := T240) (g' := (mkF m 36 #[.val (.ref a), .val (.int y), .val (.int hq), .val (.int (Int32.ofNat (own_c zs y)))] [(.int (Int32.ofNat (own_c zs y))), (.ref ha)])) (fun _ kt => XS.iloadN X240.here hx rfl (hb hby d3_35) rfl kt) ?_
    refine own_st (T' := T240) (g' := (mkF m 37 #[.val (.ref a), .val (.int y), .val (.int hq), .val (.int (Int32.ofNat (own_c zs y)))] [(.int (own_h (own_add y hq zs) (own_c zs y)))])) (own_ial X240 hx hZ e240 F237 (own_idx (by omega) (by omega)) (own_hg hcn (by omega)) (g := (mkF m 36 #[.val (.ref a), .val (.int y), .val (.int hq), .val (.int (Int32.ofNat (own_c zs y)))] [(.int (Int32.ofNat (own_c zs y))), (.ref ha)])) rfl rfl (hb hby d3_36)) ?_
    refine own_st (T' := T240) (g' := (mkF m 38 #[.val (.ref a), .val (.int y), .val (.int hq), .val (.int (Int32.ofNat (own_c zs y)))] [(.long ((own_h (own_add y hq zs) (own_c zs y)).toInt64))])) (fun _ kt => XT.i2l X240.here hx rfl (hb hby d3_37) rfl kt) ?_
    obtain ⟨fs, hr, hrun, hended, hW, hsame⟩ := X240.leave (v := some (.long ((own_h (own_add y hq zs) (own_c zs y)).toInt64))) (fun h => by rw [Bd.returns] at h; cases h)
    refine own_end (own_retJ X240 hx Bd.returns (hb hby d3_38) hr) ⟨_, hrun, hended, _, _, rfl, ?_, ⟨_, rfl⟩, hW, hsame.mono (by decide) (by decide)⟩
    have F241 : Exa Z h235 a "com/example/vestwright/vestwright/census/YearlyHours" := (Exa.wr W235 P224)
    have F242 : Exa Z h235 a "com/example/vestwright/vestwright/census/YearlyHours" := (Exa.wr W235 (Exa.keep pr1 K222_))
    have F243 : Fld Z h235 a "com/example/vestwright/vestwright/census/YearlyHours" "size" "I" (.int (Int32.ofNat (own_add y hq zs).length)) := (Fld.other W235 F233 (Or.inl (Exa.neArv F242 F237 (own_k hw 2 rfl))))
    have F244 : Exa Z h235 a "com/example/vestwright/vestwright/census/YearlyHours" := (Exa.wr W235 (Exa.keep pr1 K222_))
    have F245 : Fld Z h235 a "com/example/vestwright/vestwright/census/YearlyHours" "years" "[I" (.ref ya) := (Fld.other W235 P226 (Or.inl (Exa.neArv F244 F237 (own_k hw 2 rfl))))
    have F246 : Arv Z h235 ya ky .int (Int32.ofNat cap) (own_ya (own_add y hq zs) pa.tail) (.int (0 : Int32)) := (Arv.other F232 W235 pr10)
    show own_adAQ Z _ _ _ _ _ _ _ _ _ _ _ _ h0 n0 _ T240.heap _
    rw [e240]
    exact ⟨(own_add y hq zs), pa.tail, pb.tail, ((own_h (own_add y hq zs) (own_c zs y)).toInt64), rfl, N235, K236, F241, F243, F245, F239, F246, F237, (own_nxt pr11 pr12 pr13 pr14), (by first | omega | (simp only [List.length_tail]; omega) | (simp; omega))⟩
  · -- pc 7: not (own_ix zs y) < 0
    refine own_st (T' := T218) (g' := (mkF m 21 #[.val (.ref a), .val (.int y), .val (.int hq), .val (.int (own_ix zs y))] [])) (fun _ kt => XS.ifYes X218.here hx rfl (pc0 := 7) (pc' := 21) rfl (hb hby d3_7) rfl (XT.i0_ge_t hc221) (by decide) (by decide) kt) ?_
    have hp := own_ixpos (y := y) (zs := zs) (by omega) hc221
    rw [hp.2]
    obtain ⟨hl, hya, hle, hha⟩ := own_addF (h := hq) pr11 hp.1 pa pb
    have hcn : own_c zs y < (own_add y hq zs).length := by omega
    have F247 : Arv Z h0 ya ky .int (Int32.ofNat cap) (own_ya (own_add y hq zs) pa) (.int (0 : Int32)) := by rw [← hya]; exact pr5
    have F248 : Fld Z h0 a "com/example/vestwright/vestwright/census/YearlyHours" "size" "I" (.int (Int32.ofNat (own_add y hq zs).length)) := by rw [hle]; exact pr2
    refine own_st (T' := T218) (g' := (mkF m 22 #[.val (.ref a), .val (.int y), .val (.int hq), .val (.int (Int32.ofNat (own_c zs y)))] [(.ref a)])) (fun _ kt => XS.aloadN X218.here hx rfl (hb hby d3_21) rfl rfl kt) ?_
    obtain ⟨T249, X249, e249, st249⟩ := getF X218 hx hZ hown (host := "") (Or.inl (own_k hw 13 rfl)) Via.refl e218 pr4 (g := (mkF m 22 #[.val (.ref a), .val (.int y), .val (.int hq), .val (.int (Int32.ofNat (own_c zs y)))] [(.ref a)])) rfl rfl (hb hby d3_22)
    refine own_st (T' := T249) (g' := (mkF m 25 #[.val (.ref a), .val (.int y), .val (.int hq), .val (.int (Int32.ofNat (own_c zs y)))] [(.ref ha)])) st249 ?_
    refine own_st (T' := T249) (g' := (mkF m 27 #[.val (.ref a), .val (.int y), .val (.int hq), .val (.int (Int32.ofNat (own_c zs y)))] [(.int (Int32.ofNat (own_c zs y))), (.ref ha), (.int (Int32.ofNat (own_c zs y))), (.ref ha)])) (fun _ kt => XS.iloadN X249.here hx rfl (hb hby d3_25) rfl (XT.dup2 X249.here hx rfl (hb hby d3_26) rfl rfl rfl kt)) ?_
    refine own_st (T' := T249) (g' := (mkF m 28 #[.val (.ref a), .val (.int y), .val (.int hq), .val (.int (Int32.ofNat (own_c zs y)))] [(.int (own_h zs (own_c zs y))), (.int (Int32.ofNat (own_c zs y))), (.ref ha)])) (own_ial X249 hx hZ e249 pr6 (own_idx (by omega) (by omega)) (own_hg hl (by omega)) (g := (mkF m 27 #[.val (.ref a), .val (.int y), .val (.int hq), .val (.int (Int32.ofNat (own_c zs y)))] [(.int (Int32.ofNat (own_c zs y))), (.ref ha), (.int (Int32.ofNat (own_c zs y))), (.ref ha)])) rfl rfl (hb hby d3_27)) ?_
    refine own_st (T' := T249) (g' := (mkF m 30 #[.val (.ref a), .val (.int y), .val (.int hq), .val (.int (Int32.ofNat (own_c zs y)))] [(.int ((own_h zs (own_c zs y)) + hq)), (.int (Int32.ofNat (own_c zs y))), (.ref ha)])) (fun _ kt => XS.iloadN X249.here hx rfl (hb hby d3_28) rfl (XS.iadd X249.here hx rfl (hb hby d3_29) rfl kt)) ?_
    obtain ⟨T250, h250, X250, e250, W250, V250, st250⟩ := own_ist X249 hx hZ e249 pr6 (own_idx (by omega) (by omega)) (i := (own_c zs y)) (own_tn (by omega)) (by rw [own_ha, List.length_append, List.length_map]; omega) (g := (mkF m 30 #[.val (.ref a), .val (.int y), .val (.int hq), .val (.int (Int32.ofNat (own_c zs y)))] [(.int ((own_h zs (own_c zs y)) + hq)), (.int (Int32.ofNat (own_c zs y))), (.ref ha)])) rfl rfl (hb hby d3_30)
    have N250 := Fr.snoc X250 N220 pr9
    have Z251 : n0 ≤ h250.size := Nat.le_trans Z0 (Nat.le_of_eq (Wr.size W250).symm)
    have K251 : Keep h0 h250 [a, ya, ha] := (Keep.wr K0 W250 (Or.inl (List.mem_of_getElem? (i := 2) rfl)))
    have F252 : Arv Z h250 ha kh .int (Int32.ofNat cap) (own_ha (own_add y hq zs) pb) (.int (0 : Int32)) := (by have q := V250; rw [hha] at q; exact q)
    refine own_st (T' := T250) (g' := (mkF m 31 #[.val (.ref a), .val (.int y), .val (.int hq), .val (.int (Int32.ofNat (own_c zs y)))] [])) st250 ?_
    refine own_st (T' := T250) (g' := (mkF m 32 #[.val (.ref a), .val (.int y), .val (.int hq), .val (.int (Int32.ofNat (own_c zs y)))] [(.ref a)])) (fun _ kt => XS.aloadN X250.here hx rfl (hb hby d3_31) rfl rfl kt) ?_
    have F253 : Exa Z h250 a "com/example/vestwright/vestwright/census/YearlyHours" := (Exa.wr W250 pr1)
    have F254 : Fld Z h250 a "com/example/vestwright/vestwright/census/YearlyHours" "hours" "[I" (.ref ha) := (Fld.other W250 pr4 (Or.inl (Exa.neArv F253 F252 (own_k hw 2 rfl))))
    obtain ⟨T255, X255, e255, st255⟩ := getF X250 hx hZ hown (host := "") (Or.inl (own_k hw 13 rfl)) Via.refl e250 F254 (g := (mkF m 32 #[.val (.ref a), .val (.int y), .val (.int hq), .val (.int (Int32.ofNat (own_c zs y)))] [(.ref a)])) rfl rfl (hb hby d3_32)
    refine own_st (T' := T255) (g' := (mkF m 35 #[.val (.ref a), .val (.int y), .val (.int hq), .val (.int (Int32.ofNat (own_c zs y)))] [(.ref ha)])) st255 ?_
    refine own_st (T' := T255) (g' := (mkF m 36 #[.val (.ref a), .val (.int y), .val (.int hq), .val (.int (Int32.ofNat (own_c zs y)))] [(.int (Int32.ofNat (own_c zs y))), (.ref ha)])) (fun _ kt => XS.iloadN X255.here hx rfl (hb hby d3_35) rfl kt) ?_
    refine own_st (T' := T255) (g' := (mkF m 37 #[.val (.ref a), .val (.int y), .val (.int hq), .val (.int (Int32.ofNat (own_c zs y)))] [(.int (own_h (own_add y hq zs) (own_c zs y)))])) (own_ial X255 hx hZ e255 F252 (own_idx (by omega) (by omega)) (own_hg hcn (by omega)) (g := (mkF m 36 #[.val (.ref a), .val (.int y), .val (.int hq), .val (.int (Int32.ofNat (own_c zs y)))] [(.int (Int32.ofNat (own_c zs y))), (.ref ha)])) rfl rfl (hb hby d3_36)) ?_
    refine own_st (T' := T255) (g' := (mkF m 38 #[.val (.ref a), .val (.int y), .val (.int hq), .val (.int (Int32.ofNat (own_c zs y)))] [(.long ((own_h (own_add y hq zs) (own_c zs y)).toInt64))])) (fun _ kt => XT.i2l X255.here hx rfl (hb hby d3_37) rfl kt) ?_
    obtain ⟨fs, hr, hrun, hended, hW, hsame⟩ := X255.leave (v := some (.long ((own_h (own_add y hq zs) (own_c zs y)).toInt64))) (fun h => by rw [Bd.returns] at h; cases h)
    refine own_end (own_retJ X255 hx Bd.returns (hb hby d3_38) hr) ⟨_, hrun, hended, _, _, rfl, ?_, ⟨_, rfl⟩, hW, hsame.mono (by decide) (by decide)⟩
    have F256 : Exa Z h250 a "com/example/vestwright/vestwright/census/YearlyHours" := (Exa.wr W250 pr1)
    have F257 : Exa Z h250 a "com/example/vestwright/vestwright/census/YearlyHours" := (Exa.wr W250 pr1)
    have F258 : Fld Z h250 a "com/example/vestwright/vestwright/census/YearlyHours" "size" "I" (.int (Int32.ofNat (own_add y hq zs).length)) := (Fld.other W250 F248 (Or.inl (Exa.neArv F257 F252 (own_k hw 2 rfl))))
    have F259 : Exa Z h250 a "com/example/vestwright/vestwright/census/YearlyHours" := (Exa.wr W250 pr1)
    have F260 : Fld Z h250 a "com/example/vestwright/vestwright/census/YearlyHours" "years" "[I" (.ref ya) := (Fld.other W250 pr3 (Or.inl (Exa.neArv F259 F252 (own_k hw 2 rfl))))
    have F261 : Arv Z h250 ya ky .int (Int32.ofNat cap) (own_ya (own_add y hq zs) pa) (.int (0 : Int32)) := (Arv.other F247 W250 pr10)
    show own_adAQ Z _ _ _ _ _ _ _ _ _ _ _ _ h0 n0 _ T255.heap _
    rw [e255]
    exact ⟨(own_add y hq zs), pa, pb, ((own_h (own_add y hq zs) (own_c zs y)).toInt64), rfl, N250, K251, F256, F258, F260, F254, F261, F252, (own_nxt pr11 pr12 pr13 pr14), (by first | omega | (simp only [List.length_tail]; omega) | (simp; omega))⟩
def own_adGQ (Z : State) (a : Addr) (ya : Addr) (ky : ClassId) (ha : Addr) (kh : ClassId) (zs : own_Z) (bb : Int) (y : Int32) (hq : Int32) (h0 : Heap) (n0 : Nat) (v : Option Value) (h : Heap) (L : List Loc) : Prop := ∃ (ya2 : Addr), ∃ (ky2 : ClassId), ∃ (ha2 : Addr), ∃ (kh2 : ClassId), ∃ (zt : own_Z), ∃ (qa : List Value), ∃ (qb : List Value), ∃ (cap2 : Nat), ∃ (rr : Int64), v = some (.long rr) ∧ Fr n0 L ∧ Keep h0 h [a, ya, ha] ∧ (Exa Z h a "com/example/vestwright/vestwright/census/YearlyHours") ∧ (Fld Z h a "com/example/vestwright/vestwright/census/YearlyHours" "size" "I" (.int (Int32.ofNat zt.length))) ∧ (Fld Z h a "com/example/vestwright/vestwright/census/YearlyHours" "years" "[I" (.ref ya2)) ∧ (Fld Z h a "com/example/vestwright/vestwright/census/YearlyHours" "hours" "[I" (.ref ha2)) ∧ (Arv Z h ya2 ky2 .int (Int32.ofNat cap2) (own_ya zt qa) (.int (0 : Int32))) ∧ (Arv Z h ha2 kh2 .int (Int32.ofNat cap2) (own_ha zt qb) (.int (0 : Int32))) ∧ (own_nx zs zt y hq bb) ∧ (zt.length ≤ cap2 ∧ cap2 ≤ 8)
abbrev own_adGR : Room := { frames := 3, cells := 2, slots := 16, locals := 48 }
set_option maxRecDepth 65536 in
set_option maxHeartbeats 40000000 in
theorem own_adG (l : Launch) (Z : State) (a0 : Array Value) (hw : ∀ d ∈ tables_1, d.before a0 Z = true) (ws : List Jvm.Cond) (a : Addr) (ya : Addr) (ky : ClassId) (ha : Addr) (kh : ClassId) (zs : own_Z) (bb : Int) (y : Int32) (hq : Int32) (h0 : Heap) (n0 : Nat) (Z0 : n0 ≤ h0.size) (pr1 : Exa Z h0 a "com/example/vestwright/vestwright/census/YearlyHours") (pr2 : Fld Z h0 a "com/example/vestwright/vestwright/census/YearlyHours" "size" "I" (.int (Int32.ofNat zs.length))) (pr3 : Fld Z h0 a "com/example/vestwright/vestwright/census/YearlyHours" "years" "[I" (.ref ya)) (pr4 : Fld Z h0 a "com/example/vestwright/vestwright/census/YearlyHours" "hours" "[I" (.ref ha)) (pr5 : Arv Z h0 ya ky .int (Int32.ofNat 4) (own_ya zs []) (.int (0 : Int32))) (pr6 : Arv Z h0 ha kh .int (Int32.ofNat 4) (own_ha zs []) (.int (0 : Int32))) (pr7 : n0 ≤ a) (pr8 : n0 ≤ ya) (pr9 : n0 ≤ ha) (pr10 : ya ≠ ha) (pr11 : own_so zs) (pr12 : own_bd bb zs) (pr13 : 0 ≤ bb ∧ bb ≤ 1000000) (pr14 : 0 ≤ hq.toInt ∧ hq.toInt ≤ 1023) (pr15 : zs.length = 4) :
    own_M l (⟨"com/example/vestwright/vestwright/census/YearlyHours", "add", "(II)J"⟩ : MethodName) prog_32_method_2_code 4 (some .long) ws own_adGR #[(.ref a), (.int y), (.int hq)] Z h0 (own_adGQ Z a ya ky ha kh zs bb y hq h0 n0) := by
  refine own_go (plainFor_of_name own_pn2) (fun m => own_ef10 m a y hq ) ?_
  intro p e s m below meth c s₁ Bd hx hby hml hZ hh hown hnm X0 e0
  have N0 := Fr.nil n0
  have K0 : Keep h0 h0 [a, ya, ha] := Keep.refl h0 _
  have hn4 := pr15
  refine own_st (T' := s₁) (g' := (mkF m 2 #[.val (.ref a), .val (.int y), .val (.int hq), .unset] [(.int y), (.ref a)])) (fun _ kt => XS.aloadN X0.here hx rfl (hb hby d3_0) rfl rfl (XS.iloadN X0.here hx rfl (hb hby d3_1) rfl kt)) ?_
  obtain ⟨cl263, hcl263, hob263⟩ := Exa.cell pr1
  obtain ⟨_, _, ⟨T262, L262, k262, n262⟩, -, X262, ⟨Lc262, hQ262, l262, y262, z262⟩, st262⟩ := X0.privateBack hx (y := (⟨"com/example/vestwright/vestwright/census/YearlyHours", "indexOf", "(I)I"⟩ : MethodName)) hown (mvT hZ (own_k hw 20 rfl)) (mvT hZ (own_k hw 21 rfl)) (Kit.selects_private (by decide) (mvT hZ (own_k hw 2 rfl)) (mvP hZ (own_k hw 22 rfl)) (mvT hZ (own_k hw 21 rfl))) (Cond.privateMethod_at (mvP hZ (own_k hw 22 rfl) (args := #[]))) (mvT hZ (own_k hw 23 rfl)) (by decide) (backOf (W := 0) (own_io l Z a0 hw [] a ya ky zs ([]) 4 y h0 n0 Z0 pr1 pr2 pr3 pr5 pr11 (show zs.length ≤ 8 from (by omega)) (show zs.length ≤ 4 from (by omega)) (show 4 ≤ 8 from (by omega))) hZ (own_k hw 23 rfl) (own_k hw 3 rfl) (by decide) (by decide)) (g := (mkF m 2 #[.val (.ref a), .val (.int y), .val (.int hq), .unset] [(.int y), (.ref a)])) rfl hml.symm (Steps.refl _) (a := a) (by rw [e0]; exact hcl263) hob263 (argsL := [(.int y)]) (rest := []) (lenOf own_pd3 rfl) rfl (by show 2 * 0 + _ ≤ _; exact Nat.le_of_eq rfl) (hb hby d3_2) (fun _ _ => ⟨rfl, e0, (by decide : 0 + 0 ≤ 2), (by decide : 0 + 0 ≤ 16)⟩)
  dsimp only [Pt.U, Pt.locs, Pt.cells, Pt.slots] at X262 l262 y262 z262 st262 hQ262
  subst l262 y262 z262
  obtain ⟨rfl, N262, e262⟩ := hQ262
  have N264 := Fr.app N0 N262
  refine own_tr (T' := T262) (g' := (mkF m 5 #[.val (.ref a), .val (.int y), .val (.int hq), .unset] [(.int (own_ix zs y))])) st262 ?_
  refine own_st (T' := T262) (g' := (mkF m 7 #[.val (.ref a), .val (.int y), .val (.int hq), .val (.int (own_ix zs y))] [(.int (own_ix zs y))])) (fun _ kt => XS.istoreN X262.here hx rfl (hb hby d3_5) rfl (l' := #[.val (.ref a), .val (.int y), .val (.int hq), .val (.int (own_ix zs y))]) rfl (XS.iloadN X262.here hx rfl (hb hby d3_6) rfl kt)) ?_
  by_cases hc265 : (own_ix zs y) < 0
  · -- pc 7: (own_ix zs y) < 0
    refine own_st (T' := T262) (g' := (mkF m 15 #[.val (.ref a), .val (.int y), .val (.int hq), .val (.int ((-(own_ix zs y)) - (1 : Int32)))] [])) (fun _ kt => XS.ifNo X262.here hx rfl (hb hby d3_7) rfl (XT.i0_ge_f hc265) (XS.iloadN X262.here hx rfl (hb hby d3_10) rfl (XS.ineg X262.here hx rfl (hb hby d3_11) rfl (XS.iconst X262.here hx rfl (hb hby d3_12) (XS.isub X262.here hx rfl (hb hby d3_13) rfl (XS.istoreN X262.here hx rfl (hb hby d3_14) rfl (l' := #[.val (.ref a), .val (.int y), .val (.int hq), .val (.int ((-(own_ix zs y)) - (1 : Int32)))]) rfl kt)))))) ?_
    have hn := own_ixneg (y := y) (zs := zs) (by omega) hc265
    rw [hn.2]
    have hcl := own_c_le zs y
    refine own_st (T' := T262) (g' := (mkF m 18 #[.val (.ref a), .val (.int y), .val (.int hq), .val (.int (Int32.ofNat (own_c zs y)))] [(.int y), (.int (Int32.ofNat (own_c zs y))), (.ref a)])) (fun _ kt => XS.aloadN X262.here hx rfl (hb hby d3_15) rfl rfl (XS.iloadN X262.here hx rfl (hb hby d3_16) rfl (XS.iloadN X262.here hx rfl (hb hby d3_17) rfl kt))) ?_
    obtain ⟨cl267, hcl267, hob267⟩ := Exa.cell pr1
    obtain ⟨_, _, ⟨T266, L266, k266, n266⟩, -, X266, ⟨Lc266, hQ266, l266, y266, z266⟩, st266⟩ := X262.privateBack hx (y := (⟨"com/example/vestwright/vestwright/census/YearlyHours", "insert", "(II)V"⟩ : MethodName)) hown (mvT hZ (own_k hw 26 rfl)) (mvT hZ (own_k hw 27 rfl)) (Kit.selects_private (by decide) (mvT hZ (own_k hw 2 rfl)) (mvP hZ (own_k hw 28 rfl)) (mvT hZ (own_k hw 27 rfl))) (Cond.privateMethod_at (mvP hZ (own_k hw 28 rfl) (args := #[]))) (mvT hZ (own_k hw 29 rfl)) (by decide) (backOf (W := 0) (own_nsG l Z a0 hw [] a ya ky ha kh zs (own_c zs y) y h0 n0 Z0 pr1 pr2 pr3 pr4 pr5 pr6 pr7 hcl pr15) hZ (own_k hw 29 rfl) (own_k hw 3 rfl) (by decide) (by decide)) (g := (mkF m 18 #[.val (.ref a), .val (.int y), .val (.int hq), .val (.int (Int32.ofNat (own_c zs y)))] [(.int y), (.int (Int32.ofNat (own_c zs y))), (.ref a)])) rfl hml.symm (Steps.refl _) (a := a) (by rw [e262]; exact hcl267) hob267 (argsL := [(.int (Int32.ofNat (own_c zs y))), (.int y)]) (rest := []) (lenOf own_pd6 rfl) rfl (by show 2 * 0 + _ ≤ _; exact Nat.le_of_eq rfl) (hb hby d3_18) (fun _ _ => ⟨rfl, e262, (by decide : 0 + 2 ≤ 2), (by decide : 0 + 16 ≤ 16)⟩)
    dsimp only [Pt.U, Pt.locs, Pt.cells, Pt.slots] at X266 l266 y266 z266 st266 hQ266
    subst l266 y266 z266
    obtain ⟨ya2_266, ky2_266, ha2_266, kh2_266, rfl, N266, K266_, P268, P269, P270, P271, P272, P273, P274, P275, P276⟩ := hQ266
    have N277 := Fr.app N264 N266
    have Z278 : n0 ≤ T266.heap.size := Nat.le_trans Z0 K266_.1
    have K278 : Keep h0 T266.heap [a, ya, ha] := (Keep.trans K0 K266_ (allS (Or.inl (List.mem_of_getElem? (i := 0) rfl)) all0))
    have ne279 : ya ≠ ya2_266 := Nat.ne_of_lt (Nat.lt_of_lt_of_le pr5.lt P274)
    have ne280 : ha ≠ ya2_266 := Nat.ne_of_lt (Nat.lt_of_lt_of_le pr6.lt P274)
    have ge281 : n0 ≤ ya2_266 := Nat.le_trans Z0 P274
    have ne282 : ya ≠ ha2_266 := Nat.ne_of_lt (Nat.lt_of_lt_of_le pr5.lt P275)
    have ne283 : ha ≠ ha2_266 := Nat.ne_of_lt (Nat.lt_of_lt_of_le pr6.lt P275)
    have ge284 : n0 ≤ ha2_266 := Nat.le_trans Z0 P275
    refine own_tr (T' := T266) (g' := (mkF m 21 #[.val (.ref a), .val (.int y), .val (.int hq), .val (.int (Int32.ofNat (own_c zs y)))] [])) st266 ?_
    have had := own_addN (h := hq) pr11 hn.1
    have hle : (own_add y hq zs).length = zs.length + 1 := by rw [had]; exact own_ins_len hcl
    have hcn : own_c zs y < (own_add y hq zs).length := by omega
    have F285 : Arv Z T266.heap ya2_266 ky2_266 .int (Int32.ofNat 8) (own_ya (own_add y hq zs) ([(.int (0 : Int32)), (.int (0 : Int32)), (.int (0 : Int32)), (.int (0 : Int32))]).tail) (.int (0 : Int32)) := by rw [had, own_insy (k := hq) (h := (0 : Int32))]; exact P272
    have F286 : Fld Z T266.heap a "com/example/vestwright/vestwright/census/YearlyHours" "size" "I" (.int (Int32.ofNat (own_add y hq zs).length)) := by rw [hle]; exact P269
    refine own_st (T' := T266) (g' := (mkF m 22 #[.val (.ref a), .val (.int y), .val (.int hq), .val (.int (Int32.ofNat (own_c zs y)))] [(.ref a)])) (fun _ kt => XS.aloadN X266.here hx rfl (hb hby d3_21) rfl rfl kt) ?_
    obtain ⟨T287, X287, e287, st287⟩ := getF X266 hx hZ hown (host := "") (Or.inl (own_k hw 13 rfl)) Via.refl rfl P271 (g := (mkF m 22 #[.val (.ref a), .val (.int y), .val (.int hq), .val (.int (Int32.ofNat (own_c zs y)))] [(.ref a)])) rfl rfl (hb hby d3_22)
    refine own_st (T' := T287) (g' := (mkF m 25 #[.val (.ref a), .val (.int y), .val (.int hq), .val (.int (Int32.ofNat (own_c zs y)))] [(.ref ha2_266)])) st287 ?_
    refine own_st (T' := T287) (g' := (mkF m 27 #[.val (.ref a), .val (.int y), .val (.int hq), .val (.int (Int32.ofNat (own_c zs y)))] [(.int (Int32.ofNat (own_c zs y))), (.ref ha2_266), (.int (Int32.ofNat (own_c zs y))), (.ref ha2_266)])) (fun _ kt => XS.iloadN X287.here hx rfl (hb hby d3_25) rfl (XT.dup2 X287.here hx rfl (hb hby d3_26) rfl rfl rfl kt)) ?_
    refine own_st (T' := T287) (g' := (mkF m 28 #[.val (.ref a), .val (.int y), .val (.int hq), .val (.int (Int32.ofNat (own_c zs y)))] [(.int (0 : Int32)), (.int (Int32.ofNat (own_c zs y))), (.ref ha2_266)])) (own_ial X287 hx hZ e287 P273 (own_idx (by omega) (by omega)) ((own_hg (by rw [own_ins_len hcl]; omega) (by omega)).trans (by rw [own_insh hcl])) (g := (mkF m 27 #[.val (.ref a), .val (.int y), .val (.int hq), .val (.int (Int32.ofNat (own_c zs y)))] [(.int (Int32.ofNat (own_c zs y))), (.ref ha2_266), (.int (Int32.ofNat (own_c zs y))), (.ref ha2_266)])) rfl rfl (hb hby d3_27)) ?_
    refine own_st (T' := T287) (g' := (mkF m 30 #[.val (.ref a), .val (.int y), .val (.int hq), .val (.int (Int32.ofNat (own_c zs y)))] [(.int ((0 : Int32) + hq)), (.int (Int32.ofNat (own_c zs y))), (.ref ha2_266)])) (fun _ kt => XS.iloadN X287.here hx rfl (hb hby d3_28) rfl (XS.iadd X287.here hx rfl (hb hby d3_29) rfl kt)) ?_
    obtain ⟨T288, h288, X288, e288, W288, V288, st288⟩ := own_ist X287 hx hZ e287 P273 (own_idx (by omega) (by omega)) (i := (own_c zs y)) (own_tn (by omega)) (by rw [own_ha, List.length_append, List.length_map, own_ins_len hcl]; omega) (g := (mkF m 30 #[.val (.ref a), .val (.int y), .val (.int hq), .val (.int (Int32.ofNat (own_c zs y)))] [(.int ((0 : Int32) + hq)), (.int (Int32.ofNat (own_c zs y))), (.ref ha2_266)])) rfl rfl (hb hby d3_30)
    have N288 := Fr.snoc X288 N277 ge284
    have Z289 : n0 ≤ h288.size := Nat.le_trans Z278 (Nat.le_of_eq (Wr.size W288).symm)
    have K289 : Keep h0 h288 [a, ya, ha] := (Keep.wr K278 W288 (Or.inr (Nat.le_trans K0.1 P275)))
    have F290 : Arv Z h288 ha2_266 kh2_266 .int (Int32.ofNat 8) (own_ha (own_add y hq zs) ([(.int (0 : Int32)), (.int (0 : Int32)), (.int (0 : Int32)), (.int (0 : Int32))]).tail) (.int (0 : Int32)) := (by have q := V288; rw [Int32.zero_add, own_inset hcl, ← had] at q; exact q)
    refine own_st (T' := T288) (g' := (mkF m 31 #[.val (.ref a), .val (.int y), .val (.int hq), .val (.int (Int32.ofNat (own_c zs y)))] [])) st288 ?_
    refine own_st (T' := T288) (g' := (mkF m 32 #[.val (.ref a), .val (.int y), .val (.int hq), .val (.int (Int32.ofNat (own_c zs y)))] [(.ref a)])) (fun _ kt => XS.aloadN X288.here hx rfl (hb hby d3_31) rfl rfl kt) ?_
    have F291 : Exa Z h288 a "com/example/vestwright/vestwright/census/YearlyHours" := (Exa.wr W288 (Exa.keep pr1 K266_))
    have F292 : Fld Z h288 a "com/example/vestwright/vestwright/census/YearlyHours" "hours" "[I" (.ref ha2_266) := (Fld.other W288 P271 (Or.inl (Exa.neArv F291 F290 (own_k hw 2 rfl))))
    obtain ⟨T293, X293, e293, st293⟩ := getF X288 hx hZ hown (host := "") (Or.inl (own_k hw 13 rfl)) Via.refl e288 F292 (g := (mkF m 32 #[.val (.ref a), .val (.int y), .val (.int hq), .val (.int (Int32.ofNat (own_c zs y)))] [(.ref a)])) rfl rfl (hb hby d3_32)
    refine own_st (T' := T293) (g' := (mkF m 35 #[.val (.ref a), .val (.int y), .val (.int hq), .val (.int (Int32.ofNat (own_c zs y)))] [(.ref ha2_266)])) st293 ?_
    refine own_st (T' := T293) (g' := (mkF m 36 #[.val (.ref a), .val (.int y), .val (.int hq), .val (.int (Int32.ofNat (own_c zs y)))] [(.int (Int32.ofNat (own_c zs y))), (.ref ha2_266)])) (fun _ kt => XS.iloadN X293.here hx rfl (hb hby d3_35) rfl kt) ?_
    refine own_st (T' := T293) (g' := (mkF m 37 #[.val (.ref a), .val (.int y), .val (.int hq), .val (.int (Int32.ofNat (own_c zs y)))] [(.int (own_h (own_add y hq zs) (own_c zs y)))])) (own_ial X293 hx hZ e293 F290 (own_idx (by omega) (by omega)) (own_hg hcn (by omega)) (g := (mkF m 36 #[.val (.ref a), .val (.int y), .val (.int hq), .val (.int (Int32.ofNat (own_c zs y)))] [(.int (Int32.ofNat (own_c zs y))), (.ref ha2_266)])) rfl rfl (hb hby d3_36)) ?_
    refine own_st (T' := T293) (g' := (mkF m 38 #[.val (.ref a), .val (.int y), .val (.int hq), .val (.int (Int32.ofNat (own_c zs y)))] [(.long ((own_h (own_add y hq zs) (own_c zs y)).toInt64))])) (fun _ kt => XT.i2l X293.here hx rfl (hb hby d3_37) rfl kt) ?_
    obtain ⟨fs, hr, hrun, hended, hW, hsame⟩ := X293.leave (v := some (.long ((own_h (own_add y hq zs) (own_c zs y)).toInt64))) (fun h => by rw [Bd.returns] at h; cases h)
    refine own_end (own_retJ X293 hx Bd.returns (hb hby d3_38) hr) ⟨_, hrun, hended, _, _, rfl, ?_, ⟨_, rfl⟩, hW, hsame.mono (by decide) (by decide)⟩
    have F294 : Exa Z h288 a "com/example/vestwright/vestwright/census/YearlyHours" := (Exa.wr W288 P268)
    have F295 : Exa Z h288 a "com/example/vestwright/vestwright/census/YearlyHours" := (Exa.wr W288 (Exa.keep pr1 K266_))
    have F296 : Fld Z h288 a "com/example/vestwright/vestwright/census/YearlyHours" "size" "I" (.int (Int32.ofNat (own_add y hq zs).length)) := (Fld.other W288 F286 (Or.inl (Exa.neArv F295 F290 (own_k hw 2 rfl))))
    have F297 : Exa Z h288 a "com/example/vestwright/vestwright/census/YearlyHours" := (Exa.wr W288 (Exa.keep pr1 K266_))
    have F298 : Fld Z h288 a "com/example/vestwright/vestwright/census/YearlyHours" "years" "[I" (.ref ya2_266) := (Fld.other W288 P270 (Or.inl (Exa.neArv F297 F290 (own_k hw 2 rfl))))
    have F299 : Arv Z h288 ya2_266 ky2_266 .int (Int32.ofNat 8) (own_ya (own_add y hq zs) ([(.int (0 : Int32)), (.int (0 : Int32)), (.int (0 : Int32)), (.int (0 : Int32))]).tail) (.int (0 : Int32)) := (Arv.other F285 W288 P276)
    show own_adGQ Z _ _ _ _ _ _ _ _ _ h0 n0 _ T293.heap _
    rw [e293]
    exact ⟨ya2_266, ky2_266, ha2_266, kh2_266, (own_add y hq zs), ([(.int (0 : Int32)), (.int (0 : Int32)), (.int (0 : Int32)), (.int (0 : Int32))]).tail, ([(.int (0 : Int32)), (.int (0 : Int32)), (.int (0 : Int32)), (.int (0 : Int32))]).tail, 8, ((own_h (own_add y hq zs) (own_c zs y)).toInt64), rfl, N288, K289, F294, F296, F298, F292, F299, F290, (own_nxt pr11 pr12 pr13 pr14), (by first | omega | (simp only [List.length_tail]; omega) | (simp; omega))⟩
  · -- pc 7: not (own_ix zs y) < 0
    refine own_st (T' := T262) (g' := (mkF m 21 #[.val (.ref a), .val (.int y), .val (.int hq), .val (.int (own_ix zs y))] [])) (fun _ kt => XS.ifYes X262.here hx rfl (pc0 := 7) (pc' := 21) rfl (hb hby d3_7) rfl (XT.i0_ge_t hc265) (by decide) (by decide) kt) ?_
    have hp := own_ixpos (y := y) (zs := zs) (by omega) hc265
    rw [hp.2]
    obtain ⟨hl, hya, hle, hha⟩ := own_addF (h := hq) pr11 hp.1 [] []
    have hcn : own_c zs y < (own_add y hq zs).length := by omega
    have F300 : Arv Z h0 ya ky .int (Int32.ofNat 4) (own_ya (own_add y hq zs) []) (.int (0 : Int32)) := by rw [← hya]; exact pr5
    have F301 : Fld Z h0 a "com/example/vestwright/vestwright/census/YearlyHours" "size" "I" (.int (Int32.ofNat (own_add y hq zs).length)) := by rw [hle]; exact pr2
    refine own_st (T' := T262) (g' := (mkF m 22 #[.val (.ref a), .val (.int y), .val (.int hq), .val (.int (Int32.ofNat (own_c zs y)))] [(.ref a)])) (fun _ kt => XS.aloadN X262.here hx rfl (hb hby d3_21) rfl rfl kt) ?_
    obtain ⟨T302, X302, e302, st302⟩ := getF X262 hx hZ hown (host := "") (Or.inl (own_k hw 13 rfl)) Via.refl e262 pr4 (g := (mkF m 22 #[.val (.ref a), .val (.int y), .val (.int hq), .val (.int (Int32.ofNat (own_c zs y)))] [(.ref a)])) rfl rfl (hb hby d3_22)
    refine own_st (T' := T302) (g' := (mkF m 25 #[.val (.ref a), .val (.int y), .val (.int hq), .val (.int (Int32.ofNat (own_c zs y)))] [(.ref ha)])) st302 ?_
    refine own_st (T' := T302) (g' := (mkF m 27 #[.val (.ref a), .val (.int y), .val (.int hq), .val (.int (Int32.ofNat (own_c zs y)))] [(.int (Int32.ofNat (own_c zs y))), (.ref ha), (.int (Int32.ofNat (own_c zs y))), (.ref ha)])) (fun _ kt => XS.iloadN X302.here hx rfl (hb hby d3_25) rfl (XT.dup2 X302.here hx rfl (hb hby d3_26) rfl rfl rfl kt)) ?_
    refine own_st (T' := T302) (g' := (mkF m 28 #[.val (.ref a), .val (.int y), .val (.int hq), .val (.int (Int32.ofNat (own_c zs y)))] [(.int (own_h zs (own_c zs y))), (.int (Int32.ofNat (own_c zs y))), (.ref ha)])) (own_ial X302 hx hZ e302 pr6 (own_idx (by omega) (by omega)) (own_hg hl (by omega)) (g := (mkF m 27 #[.val (.ref a), .val (.int y), .val (.int hq), .val (.int (Int32.ofNat (own_c zs y)))] [(.int (Int32.ofNat (own_c zs y))), (.ref ha), (.int (Int32.ofNat (own_c zs y))), (.ref ha)])) rfl rfl (hb hby d3_27)) ?_
    refine own_st (T' := T302) (g' := (mkF m 30 #[.val (.ref a), .val (.int y), .val (.int hq), .val (.int (Int32.ofNat (own_c zs y)))] [(.int ((own_h zs (own_c zs y)) + hq)), (.int (Int32.ofNat (own_c zs y))), (.ref ha)])) (fun _ kt => XS.iloadN X302.here hx rfl (hb hby d3_28) rfl (XS.iadd X302.here hx rfl (hb hby d3_29) rfl kt)) ?_
    obtain ⟨T303, h303, X303, e303, W303, V303, st303⟩ := own_ist X302 hx hZ e302 pr6 (own_idx (by omega) (by omega)) (i := (own_c zs y)) (own_tn (by omega)) (by rw [own_ha, List.length_append, List.length_map]; omega) (g := (mkF m 30 #[.val (.ref a), .val (.int y), .val (.int hq), .val (.int (Int32.ofNat (own_c zs y)))] [(.int ((own_h zs (own_c zs y)) + hq)), (.int (Int32.ofNat (own_c zs y))), (.ref ha)])) rfl rfl (hb hby d3_30)
    have N303 := Fr.snoc X303 N264 pr9
    have Z304 : n0 ≤ h303.size := Nat.le_trans Z0 (Nat.le_of_eq (Wr.size W303).symm)
    have K304 : Keep h0 h303 [a, ya, ha] := (Keep.wr K0 W303 (Or.inl (List.mem_of_getElem? (i := 2) rfl)))
    have F305 : Arv Z h303 ha kh .int (Int32.ofNat 4) (own_ha (own_add y hq zs) []) (.int (0 : Int32)) := (by have q := V303; rw [hha] at q; exact q)
    refine own_st (T' := T303) (g' := (mkF m 31 #[.val (.ref a), .val (.int y), .val (.int hq), .val (.int (Int32.ofNat (own_c zs y)))] [])) st303 ?_
    refine own_st (T' := T303) (g' := (mkF m 32 #[.val (.ref a), .val (.int y), .val (.int hq), .val (.int (Int32.ofNat (own_c zs y)))] [(.ref a)])) (fun _ kt => XS.aloadN X303.here hx rfl (hb hby d3_31) rfl rfl kt) ?_
    have F306 : Exa Z h303 a "com/example/vestwright/vestwright/census/YearlyHours" := (Exa.wr W303 pr1)
    have F307 : Fld Z h303 a "com/example/vestwright/vestwright/census/YearlyHours" "hours" "[I" (.ref ha) := (Fld.other W303 pr4 (Or.inl (Exa.neArv F306 F305 (own_k hw 2 rfl))))
    obtain ⟨T308, X308, e308, st308⟩ := getF X303 hx hZ hown (host := "") (Or.inl (own_k hw 13 rfl)) Via.refl e303 F307 (g := (mkF m 32 #[.val (.ref a), .val (.int y), .val (.int hq), .val (.int (Int32.ofNat (own_c zs y)))] [(.ref a)])) rfl rfl (hb hby d3_32)
    refine own_st (T' := T308) (g' := (mkF m 35 #[.val (.ref a), .val (.int y), .val (.int hq), .val (.int (Int32.ofNat (own_c zs y)))] [(.ref ha)])) st308 ?_
    refine own_st (T' := T308) (g' := (mkF m 36 #[.val (.ref a), .val (.int y), .val (.int hq), .val (.int (Int32.ofNat (own_c zs y)))] [(.int (Int32.ofNat (own_c zs y))), (.ref ha)])) (fun _ kt => XS.iloadN X308.here hx rfl (hb hby d3_35) rfl kt) ?_
    refine own_st (T' := T308) (g' := (mkF m 37 #[.val (.ref a), .val (.int y), .val (.int hq), .val (.int (Int32.ofNat (own_c zs y)))] [(.int (own_h (own_add y hq zs) (own_c zs y)))])) (own_ial X308 hx hZ e308 F305 (own_idx (by omega) (by omega)) (own_hg hcn (by omega)) (g := (mkF m 36 #[.val (.ref a), .val (.int y), .val (.int hq), .val (.int (Int32.ofNat (own_c zs y)))] [(.int (Int32.ofNat (own_c zs y))), (.ref ha)])) rfl rfl (hb hby d3_36)) ?_
    refine own_st (T' := T308) (g' := (mkF m 38 #[.val (.ref a), .val (.int y), .val (.int hq), .val (.int (Int32.ofNat (own_c zs y)))] [(.long ((own_h (own_add y hq zs) (own_c zs y)).toInt64))])) (fun _ kt => XT.i2l X308.here hx rfl (hb hby d3_37) rfl kt) ?_
    obtain ⟨fs, hr, hrun, hended, hW, hsame⟩ := X308.leave (v := some (.long ((own_h (own_add y hq zs) (own_c zs y)).toInt64))) (fun h => by rw [Bd.returns] at h; cases h)
    refine own_end (own_retJ X308 hx Bd.returns (hb hby d3_38) hr) ⟨_, hrun, hended, _, _, rfl, ?_, ⟨_, rfl⟩, hW, hsame.mono (by decide) (by decide)⟩
    have F309 : Exa Z h303 a "com/example/vestwright/vestwright/census/YearlyHours" := (Exa.wr W303 pr1)
    have F310 : Exa Z h303 a "com/example/vestwright/vestwright/census/YearlyHours" := (Exa.wr W303 pr1)
    have F311 : Fld Z h303 a "com/example/vestwright/vestwright/census/YearlyHours" "size" "I" (.int (Int32.ofNat (own_add y hq zs).length)) := (Fld.other W303 F301 (Or.inl (Exa.neArv F310 F305 (own_k hw 2 rfl))))
    have F312 : Exa Z h303 a "com/example/vestwright/vestwright/census/YearlyHours" := (Exa.wr W303 pr1)
    have F313 : Fld Z h303 a "com/example/vestwright/vestwright/census/YearlyHours" "years" "[I" (.ref ya) := (Fld.other W303 pr3 (Or.inl (Exa.neArv F312 F305 (own_k hw 2 rfl))))
    have F314 : Arv Z h303 ya ky .int (Int32.ofNat 4) (own_ya (own_add y hq zs) []) (.int (0 : Int32)) := (Arv.other F300 W303 pr10)
    show own_adGQ Z _ _ _ _ _ _ _ _ _ h0 n0 _ T308.heap _
    rw [e308]
    exact ⟨ya, ky, ha, kh, (own_add y hq zs), [], [], 4, ((own_h (own_add y hq zs) (own_c zs y)).toInt64), rfl, N303, K304, F309, F311, F313, F307, F314, F305, (own_nxt pr11 pr12 pr13 pr14), (by first | omega | (simp only [List.length_tail]; omega) | (simp; omega))⟩
theorem own_pd7 : parseMethodDescriptor "()V" = some ⟨[], none⟩ := by decide +kernel
theorem own_pd8 : parseMethodDescriptor "(II)J" = some ⟨[.int, .int], some .long⟩ := by decide +kernel
theorem own_pd9 : parseMethodDescriptor "(IJII)J" = some ⟨[.int, .long, .int, .int], some .long⟩ := by decide +kernel
set_option maxHeartbeats 4000000 in
theorem own_ef11 (m : MethodId) (x0 : Int32) (x1 : Int32) (x2 : Int32) (x3 : Int64) (x4 : Int32) (x5 : Int32) : entryFrame m #[(.int x0), (.int x1), (.int x2), (.long x3), (.int x4), (.int x5)] 22 = mkF m 0 #[.val (.int x0), .val (.int x1), .val (.int x2), .val (.long x3), .second, .val (.int x4), .val (.int x5), .unset, .unset, .unset, .unset, .unset, .unset, .unset, .unset, .unset, .unset, .unset, .unset, .unset, .unset, .unset] [] := by first | (simp [entryFrame, mkF, argsToLocals, Value.category]; done) | rfl
def own_lawQ (Z : State) (p1 : Int32) (p2 : Int32) (p3 : Int32) (p4 : Int64) (p5 : Int32) (p6 : Int32) (h0 : Heap) (n0 : Nat) (v : Option Value) (h : Heap) (L : List Loc) : Prop := v = some (.int (1 : Int32)) ∧ Fr n0 L
set_option maxRecDepth 65536 in
set_option maxHeartbeats 40000000 in
theorem own_law (l : Launch) (Z : State) (a0 : Array Value) (hw : ∀ d ∈ tables_1, d.before a0 Z = true) (ws : List Jvm.Cond) (p1 : Int32) (p2 : Int32) (p3 : Int32) (p4 : Int64) (p5 : Int32) (p6 : Int32) (h0 : Heap) (n0 : Nat) (Z0 : n0 ≤ h0.size)  :
    own_M l x code maxLocals ret ws room_1 #[(.int p1), (.int p2), (.int p3), (.long p4), (.int p5), (.int p6)] Z h0 (own_lawQ Z p1 p2 p3 p4 p5 p6 h0 n0) := by
  refine own_go (plainFor_of_name own_pn3) (fun m => own_ef11 m p1 p2 p3 p4 p5 p6 ) ?_
  intro p e s m below meth c s₁ Bd hx hby hml hZ hh hown hnm X0 e0
  have N0 := Fr.nil n0
  refine own_st (T' := s₁) (g' := (mkF m 16 #[.val (.int p1), .val (.int p2), .val (.int p3), .val (.long p4), .second, .val (.int p5), .val (.int p6), .val (.int p1), .val (.int p2), .val (.int p3), .val (.int (p1 + (1 : Int32))), .unset, .unset, .unset, .unset, .unset, .unset, .unset, .unset, .unset, .unset, .unset] [(.int (1 : Int32)), (.int p2)])) (fun _ kt => XS.iloadN X0.here hx rfl (hb hby at_0) rfl (XS.istore X0.here hx rfl (hb hby at_1) rfl (l' := #[.val (.int p1), .val (.int p2), .val (.int p3), .val (.long p4), .second, .val (.int p5), .val (.int p6), .val (.int p1), .unset, .unset, .unset, .unset, .unset, .unset, .unset, .unset, .unset, .unset, .unset, .unset, .unset, .unset]) rfl (XS.iloadN X0.here hx rfl (hb hby at_3) rfl (XS.istore X0.here hx rfl (hb hby at_4) rfl (l' := #[.val (.int p1), .val (.int p2), .val (.int p3), .val (.long p4), .second, .val (.int p5), .val (.int p6), .val (.int p1), .val (.int p2), .unset, .unset, .unset, .unset, .unset, .unset, .unset, .unset, .unset, .unset, .unset, .unset, .unset]) rfl (XS.iloadN X0.here hx rfl (hb hby at_6) rfl (XS.istore X0.here hx rfl (hb hby at_7) rfl (l' := #[.val (.int p1), .val (.int p2), .val (.int p3), .val (.long p4), .second, .val (.int p5), .val (.int p6), .val (.int p1), .val (.int p2), .val (.int p3), .unset, .unset, .unset, .unset, .unset, .unset, .unset, .unset, .unset, .unset, .unset, .unset]) rfl (XS.iloadN X0.here hx rfl (hb hby at_9) rfl (XS.iconst X0.here hx rfl (hb hby at_10) (XS.iadd X0.here hx rfl (hb hby at_11) rfl (XS.istore X0.here hx rfl (hb hby at_12) rfl (l' := #[.val (.int p1), .val (.int p2), .val (.int p3), .val (.long p4), .second, .val (.int p5), .val (.int p6), .val (.int p1), .val (.int p2), .val (.int p3), .val (.int (p1 + (1 : Int32))), .unset, .unset, .unset, .unset, .unset, .unset, .unset, .unset, .unset, .unset, .unset]) rfl (XS.iloadN X0.here hx rfl (hb hby at_14) rfl (XS.iconst X0.here hx rfl (hb hby at_15) kt)))))))))))) ?_
  refine own_st (T' := s₁) (g' := (mkF m 20 #[.val (.int p1), .val (.int p2), .val (.int p3), .val (.long p4), .second, .val (.int p5), .val (.int p6), .val (.int p1), .val (.int p2), .val (.int p3), .val (.int (p1 + (1 : Int32))), .val (.int (p2 - (1 : Int32))), .unset, .unset, .unset, .unset, .unset, .unset, .unset, .unset, .unset, .unset] [(.long p4)])) (fun _ kt => XS.isub X0.here hx rfl (hb hby at_16) rfl (XS.istore X0.here hx rfl (hb hby at_17) rfl (l' := #[.val (.int p1), .val (.int p2), .val (.int p3), .val (.long p4), .second, .val (.int p5), .val (.int p6), .val (.int p1), .val (.int p2), .val (.int p3), .val (.int (p1 + (1 : Int32))), .val (.int (p2 - (1 : Int32))), .unset, .unset, .unset, .unset, .unset, .unset, .unset, .unset, .unset, .unset]) rfl (XT.lloadN X0.here hx rfl (hb hby at_19) rfl kt))) ?_
  refine own_st (T' := s₁) (g' := (mkF m 23 #[.val (.int p1), .val (.int p2), .val (.int p3), .val (.long p4), .second, .val (.int p5), .val (.int p6), .val (.int p1), .val (.int p2), .val (.int p3), .val (.int (p1 + (1 : Int32))), .val (.int (p2 - (1 : Int32))), .unset, .unset, .unset, .unset, .unset, .unset, .unset, .unset, .unset, .unset] [(.long (1023 : Int64)), (.long p4)])) (Stand.ldc2Long X0 hx hown (mvT hZ (own_k hw 0 rfl)) (g := (mkF m 20 #[.val (.int p1), .val (.int p2), .val (.int p3), .val (.long p4), .second, .val (.int p5), .val (.int p6), .val (.int p1), .val (.int p2), .val (.int p3), .val (.int (p1 + (1 : Int32))), .val (.int (p2 - (1 : Int32))), .unset, .unset, .unset, .unset, .unset, .unset, .unset, .unset, .unset, .unset] [(.long p4)])) rfl (hb hby at_20)) ?_
  refine own_st (T' := s₁) (g' := (mkF m 31 #[.val (.int p1), .val (.int p2), .val (.int p3), .val (.long p4), .second, .val (.int p5), .val (.int p6), .val (.int p1), .val (.int p2), .val (.int p3), .val (.int (p1 + (1 : Int32))), .val (.int (p2 - (1 : Int32))), .val (.int ((p4 &&& (1023 : Int64)).toInt32)), .unset, .unset, .unset, .unset, .unset, .unset, .unset, .unset, .unset] [(.long (XT.ushrL p4 (10 : Int32)))])) (fun _ kt => XT.land X0.here hx rfl (hb hby at_23) rfl (XT.l2i X0.here hx rfl (hb hby at_24) rfl (XS.istore X0.here hx rfl (hb hby at_25) rfl (l' := #[.val (.int p1), .val (.int p2), .val (.int p3), .val (.long p4), .second, .val (.int p5), .val (.int p6), .val (.int p1), .val (.int p2), .val (.int p3), .val (.int (p1 + (1 : Int32))), .val (.int (p2 - (1 : Int32))), .val (.int ((p4 &&& (1023 : Int64)).toInt32)), .unset, .unset, .unset, .unset, .unset, .unset, .unset, .unset, .unset]) rfl (XT.lloadN X0.here hx rfl (hb hby at_27) rfl (XS.bipush X0.here hx rfl (hb hby at_28) (XT.lushr X0.here hx rfl (hb hby at_30) rfl kt)))))) ?_
  refine own_st (T' := s₁) (g' := (mkF m 34 #[.val (.int p1), .val (.int p2), .val (.int p3), .val (.long p4), .second, .val (.int p5), .val (.int p6), .val (.int p1), .val (.int p2), .val (.int p3), .val (.int (p1 + (1 : Int32))), .val (.int (p2 - (1 : Int32))), .val (.int ((p4 &&& (1023 : Int64)).toInt32)), .unset, .unset, .unset, .unset, .unset, .unset, .unset, .unset, .unset] [(.long (1023 : Int64)), (.long (XT.ushrL p4 (10 : Int32)))])) (Stand.ldc2Long X0 hx hown (mvT hZ (own_k hw 0 rfl)) (g := (mkF m 31 #[.val (.int p1), .val (.int p2), .val (.int p3), .val (.long p4), .second, .val (.int p5), .val (.int p6), .val (.int p1), .val (.int p2), .val (.int p3), .val (.int (p1 + (1 : Int32))), .val (.int (p2 - (1 : Int32))), .val (.int ((p4 &&& (1023 : Int64)).toInt32)), .unset, .unset, .unset, .unset, .unset, .unset, .unset, .unset, .unset] [(.long (XT.ushrL p4 (10 : Int32)))])) rfl (hb hby at_31)) ?_
  refine own_st (T' := s₁) (g' := (mkF m 42 #[.val (.int p1), .val (.int p2), .val (.int p3), .val (.long p4), .second, .val (.int p5), .val (.int p6), .val (.int p1), .val (.int p2), .val (.int p3), .val (.int (p1 + (1 : Int32))), .val (.int (p2 - (1 : Int32))), .val (.int ((p4 &&& (1023 : Int64)).toInt32)), .val (.int (((XT.ushrL p4 (10 : Int32)) &&& (1023 : Int64)).toInt32)), .unset, .unset, .unset, .unset, .unset, .unset, .unset, .unset] [(.long (XT.ushrL p4 (20 : Int32)))])) (fun _ kt => XT.land X0.here hx rfl (hb hby at_34) rfl (XT.l2i X0.here hx rfl (hb hby at_35) rfl (XS.istore X0.here hx rfl (hb hby at_36) rfl (l' := #[.val (.int p1), .val (.int p2), .val (.int p3), .val (.long p4), .second, .val (.int p5), .val (.int p6), .val (.int p1), .val (.int p2), .val (.int p3), .val (.int (p1 + (1 : Int32))), .val (.int (p2 - (1 : Int32))), .val (.int ((p4 &&& (1023 : Int64)).toInt32)), .val (.int (((XT.ushrL p4 (10 : Int32)) &&& (1023 : Int64)).toInt32)), .unset, .unset, .unset, .unset, .unset, .unset, .unset, .unset]) rfl (XT.lloadN X0.here hx rfl (hb hby at_38) rfl (XS.bipush X0.here hx rfl (hb hby at_39) (XT.lushr X0.here hx rfl (hb hby at_41) rfl kt)))))) ?_
  refine own_st (T' := s₁) (g' := (mkF m 45 #[.val (.int p1), .val (.int p2), .val (.int p3), .val (.long p4), .second, .val (.int p5), .val (.int p6), .val (.int p1), .val (.int p2), .val (.int p3), .val (.int (p1 + (1 : Int32))), .val (.int (p2 - (1 : Int32))), .val (.int ((p4 &&& (1023 : Int64)).toInt32)), .val (.int (((XT.ushrL p4 (10 : Int32)) &&& (1023 : Int64)).toInt32)), .unset, .unset, .unset, .unset, .unset, .unset, .unset, .unset] [(.long (1023 : Int64)), (.long (XT.ushrL p4 (20 : Int32)))])) (Stand.ldc2Long X0 hx hown (mvT hZ (own_k hw 0 rfl)) (g := (mkF m 42 #[.val (.int p1), .val (.int p2), .val (.int p3), .val (.long p4), .second, .val (.int p5), .val (.int p6), .val (.int p1), .val (.int p2), .val (.int p3), .val (.int (p1 + (1 : Int32))), .val (.int (p2 - (1 : Int32))), .val (.int ((p4 &&& (1023 : Int64)).toInt32)), .val (.int (((XT.ushrL p4 (10 : Int32)) &&& (1023 : Int64)).toInt32)), .unset, .unset, .unset, .unset, .unset, .unset, .unset, .unset] [(.long (XT.ushrL p4 (20 : Int32)))])) rfl (hb hby at_42)) ?_
  refine own_st (T' := s₁) (g' := (mkF m 53 #[.val (.int p1), .val (.int p2), .val (.int p3), .val (.long p4), .second, .val (.int p5), .val (.int p6), .val (.int p1), .val (.int p2), .val (.int p3), .val (.int (p1 + (1 : Int32))), .val (.int (p2 - (1 : Int32))), .val (.int ((p4 &&& (1023 : Int64)).toInt32)), .val (.int (((XT.ushrL p4 (10 : Int32)) &&& (1023 : Int64)).toInt32)), .val (.int (((XT.ushrL p4 (20 : Int32)) &&& (1023 : Int64)).toInt32)), .unset, .unset, .unset, .unset, .unset, .unset, .unset] [(.long (XT.ushrL p4 (30 : Int32)))])) (fun _ kt => XT.land X0.here hx rfl (hb hby at_45) rfl (XT.l2i X0.here hx rfl (hb hby at_46) rfl (XS.istore X0.here hx rfl (hb hby at_47) rfl (l' := #[.val (.int p1), .val (.int p2), .val (.int p3), .val (.long p4), .second, .val (.int p5), .val (.int p6), .val (.int p1), .val (.int p2), .val (.int p3), .val (.int (p1 + (1 : Int32))), .val (.int (p2 - (1 : Int32))), .val (.int ((p4 &&& (1023 : Int64)).toInt32)), .val (.int (((XT.ushrL p4 (10 : Int32)) &&& (1023 : Int64)).toInt32)), .val (.int (((XT.ushrL p4 (20 : Int32)) &&& (1023 : Int64)).toInt32)), .unset, .unset, .unset, .unset, .unset, .unset, .unset]) rfl (XT.lloadN X0.here hx rfl (hb hby at_49) rfl (XS.bipush X0.here hx rfl (hb hby at_50) (XT.lushr X0.here hx rfl (hb hby at_52) rfl kt)))))) ?_
  refine own_st (T' := s₁) (g' := (mkF m 56 #[.val (.int p1), .val (.int p2), .val (.int p3), .val (.long p4), .second, .val (.int p5), .val (.int p6), .val (.int p1), .val (.int p2), .val (.int p3), .val (.int (p1 + (1 : Int32))), .val (.int (p2 - (1 : Int32))), .val (.int ((p4 &&& (1023 : Int64)).toInt32)), .val (.int (((XT.ushrL p4 (10 : Int32)) &&& (1023 : Int64)).toInt32)), .val (.int (((XT.ushrL p4 (20 : Int32)) &&& (1023 : Int64)).toInt32)), .unset, .unset, .unset, .unset, .unset, .unset, .unset] [(.long (1023 : Int64)), (.long (XT.ushrL p4 (30 : Int32)))])) (Stand.ldc2Long X0 hx hown (mvT hZ (own_k hw 0 rfl)) (g := (mkF m 53 #[.val (.int p1), .val (.int p2), .val (.int p3), .val (.long p4), .second, .val (.int p5), .val (.int p6), .val (.int p1), .val (.int p2), .val (.int p3), .val (.int (p1 + (1 : Int32))), .val (.int (p2 - (1 : Int32))), .val (.int ((p4 &&& (1023 : Int64)).toInt32)), .val (.int (((XT.ushrL p4 (10 : Int32)) &&& (1023 : Int64)).toInt32)), .val (.int (((XT.ushrL p4 (20 : Int32)) &&& (1023 : Int64)).toInt32)), .unset, .unset, .unset, .unset, .unset, .unset, .unset] [(.long (XT.ushrL p4 (30 : Int32)))])) rfl (hb hby at_53)) ?_
  refine own_st (T' := s₁) (g' := (mkF m 64 #[.val (.int p1), .val (.int p2), .val (.int p3), .val (.long p4), .second, .val (.int p5), .val (.int p6), .val (.int p1), .val (.int p2), .val (.int p3), .val (.int (p1 + (1 : Int32))), .val (.int (p2 - (1 : Int32))), .val (.int ((p4 &&& (1023 : Int64)).toInt32)), .val (.int (((XT.ushrL p4 (10 : Int32)) &&& (1023 : Int64)).toInt32)), .val (.int (((XT.ushrL p4 (20 : Int32)) &&& (1023 : Int64)).toInt32)), .val (.int (((XT.ushrL p4 (30 : Int32)) &&& (1023 : Int64)).toInt32)), .unset, .unset, .unset, .unset, .unset, .unset] [(.long (XT.ushrL p4 (40 : Int32)))])) (fun _ kt => XT.land X0.here hx rfl (hb hby at_56) rfl (XT.l2i X0.here hx rfl (hb hby at_57) rfl (XS.istore X0.here hx rfl (hb hby at_58) rfl (l' := #[.val (.int p1), .val (.int p2), .val (.int p3), .val (.long p4), .second, .val (.int p5), .val (.int p6), .val (.int p1), .val (.int p2), .val (.int p3), .val (.int (p1 + (1 : Int32))), .val (.int (p2 - (1 : Int32))), .val (.int ((p4 &&& (1023 : Int64)).toInt32)), .val (.int (((XT.ushrL p4 (10 : Int32)) &&& (1023 : Int64)).toInt32)), .val (.int (((XT.ushrL p4 (20 : Int32)) &&& (1023 : Int64)).toInt32)), .val (.int (((XT.ushrL p4 (30 : Int32)) &&& (1023 : Int64)).toInt32)), .unset, .unset, .unset, .unset, .unset, .unset]) rfl (XT.lloadN X0.here hx rfl (hb hby at_60) rfl (XS.bipush X0.here hx rfl (hb hby at_61) (XT.lushr X0.here hx rfl (hb hby at_63) rfl kt)))))) ?_
  refine own_st (T' := s₁) (g' := (mkF m 67 #[.val (.int p1), .val (.int p2), .val (.int p3), .val (.long p4), .second, .val (.int p5), .val (.int p6), .val (.int p1), .val (.int p2), .val (.int p3), .val (.int (p1 + (1 : Int32))), .val (.int (p2 - (1 : Int32))), .val (.int ((p4 &&& (1023 : Int64)).toInt32)), .val (.int (((XT.ushrL p4 (10 : Int32)) &&& (1023 : Int64)).toInt32)), .val (.int (((XT.ushrL p4 (20 : Int32)) &&& (1023 : Int64)).toInt32)), .val (.int (((XT.ushrL p4 (30 : Int32)) &&& (1023 : Int64)).toInt32)), .unset, .unset, .unset, .unset, .unset, .unset] [(.long (1023 : Int64)), (.long (XT.ushrL p4 (40 : Int32)))])) (Stand.ldc2Long X0 hx hown (mvT hZ (own_k hw 0 rfl)) (g := (mkF m 64 #[.val (.int p1), .val (.int p2), .val (.int p3), .val (.long p4), .second, .val (.int p5), .val (.int p6), .val (.int p1), .val (.int p2), .val (.int p3), .val (.int (p1 + (1 : Int32))), .val (.int (p2 - (1 : Int32))), .val (.int ((p4 &&& (1023 : Int64)).toInt32)), .val (.int (((XT.ushrL p4 (10 : Int32)) &&& (1023 : Int64)).toInt32)), .val (.int (((XT.ushrL p4 (20 : Int32)) &&& (1023 : Int64)).toInt32)), .val (.int (((XT.ushrL p4 (30 : Int32)) &&& (1023 : Int64)).toInt32)), .unset, .unset, .unset, .unset, .unset, .unset] [(.long (XT.ushrL p4 (40 : Int32)))])) rfl (hb hby at_64)) ?_
  refine own_st (T' := s₁) (g' := (mkF m 71 #[.val (.int p1), .val (.int p2), .val (.int p3), .val (.long p4), .second, .val (.int p5), .val (.int p6), .val (.int p1), .val (.int p2), .val (.int p3), .val (.int (p1 + (1 : Int32))), .val (.int (p2 - (1 : Int32))), .val (.int ((p4 &&& (1023 : Int64)).toInt32)), .val (.int (((XT.ushrL p4 (10 : Int32)) &&& (1023 : Int64)).toInt32)), .val (.int (((XT.ushrL p4 (20 : Int32)) &&& (1023 : Int64)).toInt32)), .val (.int (((XT.ushrL p4 (30 : Int32)) &&& (1023 : Int64)).toInt32)), .val (.int (((XT.ushrL p4 (40 : Int32)) &&& (1023 : Int64)).toInt32)), .unset, .unset, .unset, .unset, .unset] [])) (fun _ kt => XT.land X0.here hx rfl (hb hby at_67) rfl (XT.l2i X0.here hx rfl (hb hby at_68) rfl (XS.istore X0.here hx rfl (hb hby at_69) rfl (l' := #[.val (.int p1), .val (.int p2), .val (.int p3), .val (.long p4), .second, .val (.int p5), .val (.int p6), .val (.int p1), .val (.int p2), .val (.int p3), .val (.int (p1 + (1 : Int32))), .val (.int (p2 - (1 : Int32))), .val (.int ((p4 &&& (1023 : Int64)).toInt32)), .val (.int (((XT.ushrL p4 (10 : Int32)) &&& (1023 : Int64)).toInt32)), .val (.int (((XT.ushrL p4 (20 : Int32)) &&& (1023 : Int64)).toInt32)), .val (.int (((XT.ushrL p4 (30 : Int32)) &&& (1023 : Int64)).toInt32)), .val (.int (((XT.ushrL p4 (40 : Int32)) &&& (1023 : Int64)).toInt32)), .unset, .unset, .unset, .unset, .unset]) rfl kt))) ?_
  obtain ⟨T315, h315, X315, e315, E315, A315, D315, -, st315⟩ := newO X0 hx hZ hown (own_k hw 1 rfl) (own_k hw 2 rfl) (own_k hw 3 rfl) e0 (g := (mkF m 71 #[.val (.int p1), .val (.int p2), .val (.int p3), .val (.long p4), .second, .val (.int p5), .val (.int p6), .val (.int p1), .val (.int p2), .val (.int p3), .val (.int (p1 + (1 : Int32))), .val (.int (p2 - (1 : Int32))), .val (.int ((p4 &&& (1023 : Int64)).toInt32)), .val (.int (((XT.ushrL p4 (10 : Int32)) &&& (1023 : Int64)).toInt32)), .val (.int (((XT.ushrL p4 (20 : Int32)) &&& (1023 : Int64)).toInt32)), .val (.int (((XT.ushrL p4 (30 : Int32)) &&& (1023 : Int64)).toInt32)), .val (.int (((XT.ushrL p4 (40 : Int32)) &&& (1023 : Int64)).toInt32)), .unset, .unset, .unset, .unset, .unset] [])) rfl (hb hby at_71) (by decide) (by decide)
  obtain ⟨b315, g315⟩ : ∃ z, z = h0.size := ⟨_, rfl⟩
  rw [← g315] at A315 D315 st315
  have Z316 : n0 ≤ h315.size := Nat.le_trans Z0 E315.1
  have ge_b315 : n0 ≤ b315 := Nat.le_trans Z0 (Nat.le_of_eq g315.symm)
  have F317 : Fld Z h315 b315 "com/example/vestwright/vestwright/census/YearlyHours" "years" "[I" .null := D315 (Or.inl (own_k hw 12 rfl)) (ty := (.array .int)) (by decide)
  have F318 : Fld Z h315 b315 "com/example/vestwright/vestwright/census/YearlyHours" "hours" "[I" .null := D315 (Or.inl (own_k hw 14 rfl)) (ty := (.array .int)) (by decide)
  have F319 : Fld Z h315 b315 "com/example/vestwright/vestwright/census/YearlyHours" "size" "I" (.int (0 : Int32)) := D315 (Or.inl (own_k hw 25 rfl)) (ty := .int) (by decide)
  refine own_st (T' := T315) (g' := (mkF m 74 #[.val (.int p1), .val (.int p2), .val (.int p3), .val (.long p4), .second, .val (.int p5), .val (.int p6), .val (.int p1), .val (.int p2), .val (.int p3), .val (.int (p1 + (1 : Int32))), .val (.int (p2 - (1 : Int32))), .val (.int ((p4 &&& (1023 : Int64)).toInt32)), .val (.int (((XT.ushrL p4 (10 : Int32)) &&& (1023 : Int64)).toInt32)), .val (.int (((XT.ushrL p4 (20 : Int32)) &&& (1023 : Int64)).toInt32)), .val (.int (((XT.ushrL p4 (30 : Int32)) &&& (1023 : Int64)).toInt32)), .val (.int (((XT.ushrL p4 (40 : Int32)) &&& (1023 : Int64)).toInt32)), .unset, .unset, .unset, .unset, .unset] [(.ref b315)])) st315 ?_
  refine own_st (T' := T315) (g' := (mkF m 75 #[.val (.int p1), .val (.int p2), .val (.int p3), .val (.long p4), .second, .val (.int p5), .val (.int p6), .val (.int p1), .val (.int p2), .val (.int p3), .val (.int (p1 + (1 : Int32))), .val (.int (p2 - (1 : Int32))), .val (.int ((p4 &&& (1023 : Int64)).toInt32)), .val (.int (((XT.ushrL p4 (10 : Int32)) &&& (1023 : Int64)).toInt32)), .val (.int (((XT.ushrL p4 (20 : Int32)) &&& (1023 : Int64)).toInt32)), .val (.int (((XT.ushrL p4 (30 : Int32)) &&& (1023 : Int64)).toInt32)), .val (.int (((XT.ushrL p4 (40 : Int32)) &&& (1023 : Int64)).toInt32)), .unset, .unset, .unset, .unset, .unset] [(.ref b315), (.ref b315)])) (fun _ kt => XS.dup X315.here hx rfl (hb hby at_74) rfl rfl kt) ?_
  obtain ⟨_, _, ⟨T320, L320, k320, n320⟩, -, X320, ⟨Lc320, hQ320, l320, y320, z320⟩, st320⟩ := X315.specialBack hx (y := (⟨"com/example/vestwright/vestwright/census/YearlyHours", "<init>", "()V"⟩ : MethodName)) rfl hown (mvT hZ (own_k hw 4 rfl)) (mvT hZ (own_k hw 5 rfl)) (mvT hZ (own_k hw 6 rfl)) (by decide) (backOf (W := 1) (own_in0 l Z a0 hw [] b315 h315 n0 Z316 A315 ge_b315 F319 F317 F318) hZ (own_k hw 6 rfl) (own_k hw 3 rfl) (by decide) (by decide)) (g := (mkF m 75 #[.val (.int p1), .val (.int p2), .val (.int p3), .val (.long p4), .second, .val (.int p5), .val (.int p6), .val (.int p1), .val (.int p2), .val (.int p3), .val (.int (p1 + (1 : Int32))), .val (.int (p2 - (1 : Int32))), .val (.int ((p4 &&& (1023 : Int64)).toInt32)), .val (.int (((XT.ushrL p4 (10 : Int32)) &&& (1023 : Int64)).toInt32)), .val (.int (((XT.ushrL p4 (20 : Int32)) &&& (1023 : Int64)).toInt32)), .val (.int (((XT.ushrL p4 (30 : Int32)) &&& (1023 : Int64)).toInt32)), .val (.int (((XT.ushrL p4 (40 : Int32)) &&& (1023 : Int64)).toInt32)), .unset, .unset, .unset, .unset, .unset] [(.ref b315), (.ref b315)])) rfl hml.symm (Steps.refl _) (a := b315) (argsL := []) (rest := [(.ref b315)]) (lenOf own_pd7 rfl) rfl (by show 2 * 0 + _ ≤ _; exact Nat.le_of_eq rfl) (hb hby at_75) (fun _ _ => ⟨rfl, e315, (by decide : 1 + 2 ≤ 24), (by decide : 3 + 8 ≤ 128)⟩)
  dsimp only [Pt.U, Pt.locs, Pt.cells, Pt.slots] at X320 l320 y320 z320 st320 hQ320
  subst l320 y320 z320
  obtain ⟨ya_320, ky_320, ha_320, kh_320, rfl, N320, K320_, P321, P322, P323, P324, P325, P326, P327, P328, P329⟩ := hQ320
  have N330 := Fr.app N0 N320
  have Z331 : n0 ≤ T320.heap.size := Nat.le_trans Z316 K320_.1
  have ge332 : n0 ≤ ya_320 := Nat.le_trans Z316 P327
  have ge333 : n0 ≤ ha_320 := Nat.le_trans Z316 P328
  refine own_tr (T' := T320) (g' := (mkF m 78 #[.val (.int p1), .val (.int p2), .val (.int p3), .val (.long p4), .second, .val (.int p5), .val (.int p6), .val (.int p1), .val (.int p2), .val (.int p3), .val (.int (p1 + (1 : Int32))), .val (.int (p2 - (1 : Int32))), .val (.int ((p4 &&& (1023 : Int64)).toInt32)), .val (.int (((XT.ushrL p4 (10 : Int32)) &&& (1023 : Int64)).toInt32)), .val (.int (((XT.ushrL p4 (20 : Int32)) &&& (1023 : Int64)).toInt32)), .val (.int (((XT.ushrL p4 (30 : Int32)) &&& (1023 : Int64)).toInt32)), .val (.int (((XT.ushrL p4 (40 : Int32)) &&& (1023 : Int64)).toInt32)), .unset, .unset, .unset, .unset, .unset] [(.ref b315)])) st320 ?_
  refine own_st (T' := T320) (g' := (mkF m 86 #[.val (.int p1), .val (.int p2), .val (.int p3), .val (.long p4), .second, .val (.int p5), .val (.int p6), .val (.int p1), .val (.int p2), .val (.int p3), .val (.int (p1 + (1 : Int32))), .val (.int (p2 - (1 : Int32))), .val (.int ((p4 &&& (1023 : Int64)).toInt32)), .val (.int (((XT.ushrL p4 (10 : Int32)) &&& (1023 : Int64)).toInt32)), .val (.int (((XT.ushrL p4 (20 : Int32)) &&& (1023 : Int64)).toInt32)), .val (.int (((XT.ushrL p4 (30 : Int32)) &&& (1023 : Int64)).toInt32)), .val (.int (((XT.ushrL p4 (40 : Int32)) &&& (1023 : Int64)).toInt32)), .val (.ref b315), .unset, .unset, .unset, .unset] [(.int ((p4 &&& (1023 : Int64)).toInt32)), (.int p1), (.ref b315)])) (fun _ kt => XS.astore X320.here hx rfl (hb hby at_78) rfl rfl (l' := #[.val (.int p1), .val (.int p2), .val (.int p3), .val (.long p4), .second, .val (.int p5), .val (.int p6), .val (.int p1), .val (.int p2), .val (.int p3), .val (.int (p1 + (1 : Int32))), .val (.int (p2 - (1 : Int32))), .val (.int ((p4 &&& (1023 : Int64)).toInt32)), .val (.int (((XT.ushrL p4 (10 : Int32)) &&& (1023 : Int64)).toInt32)), .val (.int (((XT.ushrL p4 (20 : Int32)) &&& (1023 : Int64)).toInt32)), .val (.int (((XT.ushrL p4 (30 : Int32)) &&& (1023 : Int64)).toInt32)), .val (.int (((XT.ushrL p4 (40 : Int32)) &&& (1023 : Int64)).toInt32)), .val (.ref b315), .unset, .unset, .unset, .unset]) rfl (XS.aload X320.here hx rfl (hb hby at_80) rfl rfl (XS.iload X320.here hx rfl (hb hby at_82) rfl (XS.iload X320.here hx rfl (hb hby at_84) rfl kt)))) ?_
  obtain ⟨cq335, kq335, qa335, qb335, qc335⟩ := isOf hZ rfl P321
  obtain ⟨_, _, ⟨T334, L334, k334, n334⟩, -, X334, ⟨Lc334, hQ334, l334, y334, z334⟩, st334⟩ := X320.virtualBack hx (y := (⟨"com/example/vestwright/vestwright/census/YearlyHours", "add", "(II)J"⟩ : MethodName)) (z := (⟨"com/example/vestwright/vestwright/census/YearlyHours", "add", "(II)J"⟩ : MethodName)) hown (mvT hZ (own_k hw 15 rfl)) (mvT hZ (own_k hw 16 rfl)) (notFace_of_selects (args := #[]) (mvT hZ (own_k hw 18 rfl))) (mvT hZ (own_k hw 18 rfl)) (mvT hZ (own_k hw 17 rfl)) (by decide) (backOf (W := 0) (own_adA l Z a0 hw [] b315 ya_320 ky_320 ha_320 kh_320 ([]) ([(.int (0 : Int32)), (.int (0 : Int32)), (.int (0 : Int32)), (.int (0 : Int32))]) ([(.int (0 : Int32)), (.int (0 : Int32)), (.int (0 : Int32)), (.int (0 : Int32))]) 4 0 p1 ((p4 &&& (1023 : Int64)).toInt32) T320.heap n0 Z331 P321 P322 P323 P324 P325 P326 ge_b315 ge332 ge333 P329 (show own_so ([]) from List.Pairwise.nil) (show own_bd 0 ([]) from (fun _ q => absurd q (List.not_mem_nil))) (show 0 ≤ 0 ∧ 0 ≤ 1000000 from (by decide)) (show 0 ≤ ((p4 &&& (1023 : Int64)).toInt32).toInt ∧ ((p4 &&& (1023 : Int64)).toInt32).toInt ≤ 1023 from (own_hb _)) (show ([]).length < 4 from (by decide)) (show 4 ≤ 8 from (by decide)) (show ([(.int (0 : Int32)), (.int (0 : Int32)), (.int (0 : Int32)), (.int (0 : Int32))]).length + ([]).length = 4 from (by decide)) (show ([(.int (0 : Int32)), (.int (0 : Int32)), (.int (0 : Int32)), (.int (0 : Int32))]).length + ([]).length = 4 from (by decide))) hZ (own_k hw 19 rfl) (own_k hw 3 rfl) (by decide) (by decide)) qa335 qc335 (g := (mkF m 86 #[.val (.int p1), .val (.int p2), .val (.int p3), .val (.long p4), .second, .val (.int p5), .val (.int p6), .val (.int p1), .val (.int p2), .val (.int p3), .val (.int (p1 + (1 : Int32))), .val (.int (p2 - (1 : Int32))), .val (.int ((p4 &&& (1023 : Int64)).toInt32)), .val (.int (((XT.ushrL p4 (10 : Int32)) &&& (1023 : Int64)).toInt32)), .val (.int (((XT.ushrL p4 (20 : Int32)) &&& (1023 : Int64)).toInt32)), .val (.int (((XT.ushrL p4 (30 : Int32)) &&& (1023 : Int64)).toInt32)), .val (.int (((XT.ushrL p4 (40 : Int32)) &&& (1023 : Int64)).toInt32)), .val (.ref b315), .unset, .unset, .unset, .unset] [(.int ((p4 &&& (1023 : Int64)).toInt32)), (.int p1), (.ref b315)])) rfl hml.symm (Steps.refl _) (argsL := [(.int p1), (.int ((p4 &&& (1023 : Int64)).toInt32))]) (rest := []) (lenOf own_pd8 rfl) rfl (by show 2 * 0 + _ ≤ _; exact Nat.le_of_eq rfl) (hb hby at_86) (fun _ _ => ⟨rfl, rfl, (by decide : 3 + 0 ≤ 24), (by decide : 11 + 0 ≤ 128)⟩)
  dsimp only [Pt.U, Pt.locs, Pt.cells, Pt.slots] at X334 l334 y334 z334 st334 hQ334
  subst l334 y334 z334
  obtain ⟨zt_334, qa_334, qb_334, rr_334, rfl, N334, K334_, P336, P337, P338, P339, P340, P341, q342, q343⟩ := hQ334
  have N344 := Fr.app N330 N334
  have Z345 : n0 ≤ T334.heap.size := Nat.le_trans Z331 K334_.1
  refine own_tr (T' := T334) (g' := (mkF m 89 #[.val (.int p1), .val (.int p2), .val (.int p3), .val (.long p4), .second, .val (.int p5), .val (.int p6), .val (.int p1), .val (.int p2), .val (.int p3), .val (.int (p1 + (1 : Int32))), .val (.int (p2 - (1 : Int32))), .val (.int ((p4 &&& (1023 : Int64)).toInt32)), .val (.int (((XT.ushrL p4 (10 : Int32)) &&& (1023 : Int64)).toInt32)), .val (.int (((XT.ushrL p4 (20 : Int32)) &&& (1023 : Int64)).toInt32)), .val (.int (((XT.ushrL p4 (30 : Int32)) &&& (1023 : Int64)).toInt32)), .val (.int (((XT.ushrL p4 (40 : Int32)) &&& (1023 : Int64)).toInt32)), .val (.ref b315), .unset, .unset, .unset, .unset] [(.long rr_334)])) st334 ?_
  refine own_st (T' := T334) (g' := (mkF m 96 #[.val (.int p1), .val (.int p2), .val (.int p3), .val (.long p4), .second, .val (.int p5), .val (.int p6), .val (.int p1), .val (.int p2), .val (.int p3), .val (.int (p1 + (1 : Int32))), .val (.int (p2 - (1 : Int32))), .val (.int ((p4 &&& (1023 : Int64)).toInt32)), .val (.int (((XT.ushrL p4 (10 : Int32)) &&& (1023 : Int64)).toInt32)), .val (.int (((XT.ushrL p4 (20 : Int32)) &&& (1023 : Int64)).toInt32)), .val (.int (((XT.ushrL p4 (30 : Int32)) &&& (1023 : Int64)).toInt32)), .val (.int (((XT.ushrL p4 (40 : Int32)) &&& (1023 : Int64)).toInt32)), .val (.ref b315), .unset, .unset, .unset, .unset] [(.int (((XT.ushrL p4 (10 : Int32)) &&& (1023 : Int64)).toInt32)), (.int p2), (.ref b315)])) (fun _ kt => own_pop2 X334.here hx rfl (hb hby at_89) rfl rfl (XS.aload X334.here hx rfl (hb hby at_90) rfl rfl (XS.iload X334.here hx rfl (hb hby at_92) rfl (XS.iload X334.here hx rfl (hb hby at_94) rfl kt)))) ?_
  obtain ⟨cq347, kq347, qa347, qb347, qc347⟩ := isOf hZ rfl P336
  obtain ⟨_, _, ⟨T346, L346, k346, n346⟩, -, X346, ⟨Lc346, hQ346, l346, y346, z346⟩, st346⟩ := X334.virtualBack hx (y := (⟨"com/example/vestwright/vestwright/census/YearlyHours", "add", "(II)J"⟩ : MethodName)) (z := (⟨"com/example/vestwright/vestwright/census/YearlyHours", "add", "(II)J"⟩ : MethodName)) hown (mvT hZ (own_k hw 15 rfl)) (mvT hZ (own_k hw 16 rfl)) (notFace_of_selects (args := #[]) (mvT hZ (own_k hw 18 rfl))) (mvT hZ (own_k hw 18 rfl)) (mvT hZ (own_k hw 17 rfl)) (by decide) (backOf (W := 0) (own_adA l Z a0 hw [] b315 ya_320 ky_320 ha_320 kh_320 zt_334 qa_334 qb_334 4 1023 p2 (((XT.ushrL p4 (10 : Int32)) &&& (1023 : Int64)).toInt32) T334.heap n0 Z345 P336 P337 P338 P339 P340 P341 ge_b315 ge332 ge333 P329 (show own_so zt_334 from q342.1) (show own_bd 1023 zt_334 from q342.2.1) (show 0 ≤ 1023 ∧ 1023 ≤ 1000000 from (by decide)) (show 0 ≤ (((XT.ushrL p4 (10 : Int32)) &&& (1023 : Int64)).toInt32).toInt ∧ (((XT.ushrL p4 (10 : Int32)) &&& (1023 : Int64)).toInt32).toInt ≤ 1023 from (own_hb _)) (show zt_334.length < 4 from (by have := q342.2.2.1; have := q343; simp only [List.length_nil] at *; omega)) (show 4 ≤ 8 from (by have := q342.2.2.1; have := q343; simp only [List.length_nil] at *; omega)) (show qa_334.length + zt_334.length = 4 from (by have := q342.2.2.1; have := q343; simp only [List.length_nil] at *; omega)) (show qb_334.length + zt_334.length = 4 from (by have := q342.2.2.1; have := q343; simp only [List.length_nil] at *; omega))) hZ (own_k hw 19 rfl) (own_k hw 3 rfl) (by decide) (by decide)) qa347 qc347 (g := (mkF m 96 #[.val (.int p1), .val (.int p2), .val (.int p3), .val (.long p4), .second, .val (.int p5), .val (.int p6), .val (.int p1), .val (.int p2), .val (.int p3), .val (.int (p1 + (1 : Int32))), .val (.int (p2 - (1 : Int32))), .val (.int ((p4 &&& (1023 : Int64)).toInt32)), .val (.int (((XT.ushrL p4 (10 : Int32)) &&& (1023 : Int64)).toInt32)), .val (.int (((XT.ushrL p4 (20 : Int32)) &&& (1023 : Int64)).toInt32)), .val (.int (((XT.ushrL p4 (30 : Int32)) &&& (1023 : Int64)).toInt32)), .val (.int (((XT.ushrL p4 (40 : Int32)) &&& (1023 : Int64)).toInt32)), .val (.ref b315), .unset, .unset, .unset, .unset] [(.int (((XT.ushrL p4 (10 : Int32)) &&& (1023 : Int64)).toInt32)), (.int p2), (.ref b315)])) rfl hml.symm (Steps.refl _) (argsL := [(.int p2), (.int (((XT.ushrL p4 (10 : Int32)) &&& (1023 : Int64)).toInt32))]) (rest := []) (lenOf own_pd8 rfl) rfl (by show 2 * 0 + _ ≤ _; exact Nat.le_of_eq rfl) (hb hby at_96) (fun _ _ => ⟨rfl, rfl, (by decide : 3 + 0 ≤ 24), (by decide : 11 + 0 ≤ 128)⟩)
  dsimp only [Pt.U, Pt.locs, Pt.cells, Pt.slots] at X346 l346 y346 z346 st346 hQ346
  subst l346 y346 z346
  obtain ⟨zt_346, qa_346, qb_346, rr_346, rfl, N346, K346_, P348, P349, P350, P351, P352, P353, q354, q355⟩ := hQ346
  have N356 := Fr.app N344 N346
  have Z357 : n0 ≤ T346.heap.size := Nat.le_trans Z345 K346_.1
  refine own_tr (T' := T346) (g' := (mkF m 99 #[.val (.int p1), .val (.int p2), .val (.int p3), .val (.long p4), .second, .val (.int p5), .val (.int p6), .val (.int p1), .val (.int p2), .val (.int p3), .val (.int (p1 + (1 : Int32))), .val (.int (p2 - (1 : Int32))), .val (.int ((p4 &&& (1023 : Int64)).toInt32)), .val (.int (((XT.ushrL p4 (10 : Int32)) &&& (1023 : Int64)).toInt32)), .val (.int (((XT.ushrL p4 (20 : Int32)) &&& (1023 : Int64)).toInt32)), .val (.int (((XT.ushrL p4 (30 : Int32)) &&& (1023 : Int64)).toInt32)), .val (.int (((XT.ushrL p4 (40 : Int32)) &&& (1023 : Int64)).toInt32)), .val (.ref b315), .unset, .unset, .unset, .unset] [(.long rr_346)])) st346 ?_
  refine own_st (T' := T346) (g' := (mkF m 106 #[.val (.int p1), .val (.int p2), .val (.int p3), .val (.long p4), .second, .val (.int p5), .val (.int p6), .val (.int p1), .val (.int p2), .val (.int p3), .val (.int (p1 + (1 : Int32))), .val (.int (p2 - (1 : Int32))), .val (.int ((p4 &&& (1023 : Int64)).toInt32)), .val (.int (((XT.ushrL p4 (10 : Int32)) &&& (1023 : Int64)).toInt32)), .val (.int (((XT.ushrL p4 (20 : Int32)) &&& (1023 : Int64)).toInt32)), .val (.int (((XT.ushrL p4 (30 : Int32)) &&& (1023 : Int64)).toInt32)), .val (.int (((XT.ushrL p4 (40 : Int32)) &&& (1023 : Int64)).toInt32)), .val (.ref b315), .unset, .unset, .unset, .unset] [(.int (((XT.ushrL p4 (20 : Int32)) &&& (1023 : Int64)).toInt32)), (.int p3), (.ref b315)])) (fun _ kt => own_pop2 X346.here hx rfl (hb hby at_99) rfl rfl (XS.aload X346.here hx rfl (hb hby at_100) rfl rfl (XS.iload X346.here hx rfl (hb hby at_102) rfl (XS.iload X346.here hx rfl (hb hby at_104) rfl kt)))) ?_
  obtain ⟨cq359, kq359, qa359, qb359, qc359⟩ := isOf hZ rfl P348
  obtain ⟨_, _, ⟨T358, L358, k358, n358⟩, -, X358, ⟨Lc358, hQ358, l358, y358, z358⟩, st358⟩ := X346.virtualBack hx (y := (⟨"com/example/vestwright/vestwright/census/YearlyHours", "add", "(II)J"⟩ : MethodName)) (z := (⟨"com/example/vestwright/vestwright/census/YearlyHours", "add", "(II)J"⟩ : MethodName)) hown (mvT hZ (own_k hw 15 rfl)) (mvT hZ (own_k hw 16 rfl)) (notFace_of_selects (args := #[]) (mvT hZ (own_k hw 18 rfl))) (mvT hZ (own_k hw 18 rfl)) (mvT hZ (own_k hw 17 rfl)) (by decide) (backOf (W := 0) (own_adA l Z a0 hw [] b315 ya_320 ky_320 ha_320 kh_320 zt_346 qa_346 qb_346 4 2046 p3 (((XT.ushrL p4 (20 : Int32)) &&& (1023 : Int64)).toInt32) T346.heap n0 Z357 P348 P349 P350 P351 P352 P353 ge_b315 ge332 ge333 P329 (show own_so zt_346 from q354.1) (show own_bd 2046 zt_346 from q354.2.1) (show 0 ≤ 2046 ∧ 2046 ≤ 1000000 from (by decide)) (show 0 ≤ (((XT.ushrL p4 (20 : Int32)) &&& (1023 : Int64)).toInt32).toInt ∧ (((XT.ushrL p4 (20 : Int32)) &&& (1023 : Int64)).toInt32).toInt ≤ 1023 from (own_hb _)) (show zt_346.length < 4 from (by have := q342.2.2.1; have := q354.2.2.1; have := q343; have := q355; simp only [List.length_nil] at *; omega)) (show 4 ≤ 8 from (by have := q342.2.2.1; have := q354.2.2.1; have := q343; have := q355; simp only [List.length_nil] at *; omega)) (show qa_346.length + zt_346.length = 4 from (by have := q342.2.2.1; have := q354.2.2.1; have := q343; have := q355; simp only [List.length_nil] at *; omega)) (show qb_346.length + zt_346.length = 4 from (by have := q342.2.2.1; have := q354.2.2.1; have := q343; have := q355; simp only [List.length_nil] at *; omega))) hZ (own_k hw 19 rfl) (own_k hw 3 rfl) (by decide) (by decide)) qa359 qc359 (g := (mkF m 106 #[.val (.int p1), .val (.int p2), .val (.int p3), .val (.long p4), .second, .val (.int p5), .val (.int p6), .val (.int p1), .val (.int p2), .val (.int p3), .val (.int (p1 + (1 : Int32))), .val (.int (p2 - (1 : Int32))), .val (.int ((p4 &&& (1023 : Int64)).toInt32)), .val (.int (((XT.ushrL p4 (10 : Int32)) &&& (1023 : Int64)).toInt32)), .val (.int (((XT.ushrL p4 (20 : Int32)) &&& (1023 : Int64)).toInt32)), .val (.int (((XT.ushrL p4 (30 : Int32)) &&& (1023 : Int64)).toInt32)), .val (.int (((XT.ushrL p4 (40 : Int32)) &&& (1023 : Int64)).toInt32)), .val (.ref b315), .unset, .unset, .unset, .unset] [(.int (((XT.ushrL p4 (20 : Int32)) &&& (1023 : Int64)).toInt32)), (.int p3), (.ref b315)])) rfl hml.symm (Steps.refl _) (argsL := [(.int p3), (.int (((XT.ushrL p4 (20 : Int32)) &&& (1023 : Int64)).toInt32))]) (rest := []) (lenOf own_pd8 rfl) rfl (by show 2 * 0 + _ ≤ _; exact Nat.le_of_eq rfl) (hb hby at_106) (fun _ _ => ⟨rfl, rfl, (by decide : 3 + 0 ≤ 24), (by decide : 11 + 0 ≤ 128)⟩)
  dsimp only [Pt.U, Pt.locs, Pt.cells, Pt.slots] at X358 l358 y358 z358 st358 hQ358
  subst l358 y358 z358
  obtain ⟨zt_358, qa_358, qb_358, rr_358, rfl, N358, K358_, P360, P361, P362, P363, P364, P365, q366, q367⟩ := hQ358
  have N368 := Fr.app N356 N358
  have Z369 : n0 ≤ T358.heap.size := Nat.le_trans Z357 K358_.1
  refine own_tr (T' := T358) (g' := (mkF m 109 #[.val (.int p1), .val (.int p2), .val (.int p3), .val (.long p4), .second, .val (.int p5), .val (.int p6), .val (.int p1), .val (.int p2), .val (.int p3), .val (.int (p1 + (1 : Int32))), .val (.int (p2 - (1 : Int32))), .val (.int ((p4 &&& (1023 : Int64)).toInt32)), .val (.int (((XT.ushrL p4 (10 : Int32)) &&& (1023 : Int64)).toInt32)), .val (.int (((XT.ushrL p4 (20 : Int32)) &&& (1023 : Int64)).toInt32)), .val (.int (((XT.ushrL p4 (30 : Int32)) &&& (1023 : Int64)).toInt32)), .val (.int (((XT.ushrL p4 (40 : Int32)) &&& (1023 : Int64)).toInt32)), .val (.ref b315), .unset, .unset, .unset, .unset] [(.long rr_358)])) st358 ?_
  refine own_st (T' := T358) (g' := (mkF m 116 #[.val (.int p1), .val (.int p2), .val (.int p3), .val (.long p4), .second, .val (.int p5), .val (.int p6), .val (.int p1), .val (.int p2), .val (.int p3), .val (.int (p1 + (1 : Int32))), .val (.int (p2 - (1 : Int32))), .val (.int ((p4 &&& (1023 : Int64)).toInt32)), .val (.int (((XT.ushrL p4 (10 : Int32)) &&& (1023 : Int64)).toInt32)), .val (.int (((XT.ushrL p4 (20 : Int32)) &&& (1023 : Int64)).toInt32)), .val (.int (((XT.ushrL p4 (30 : Int32)) &&& (1023 : Int64)).toInt32)), .val (.int (((XT.ushrL p4 (40 : Int32)) &&& (1023 : Int64)).toInt32)), .val (.ref b315), .unset, .unset, .unset, .unset] [(.int (((XT.ushrL p4 (30 : Int32)) &&& (1023 : Int64)).toInt32)), (.int (p1 + (1 : Int32))), (.ref b315)])) (fun _ kt => own_pop2 X358.here hx rfl (hb hby at_109) rfl rfl (XS.aload X358.here hx rfl (hb hby at_110) rfl rfl (XS.iload X358.here hx rfl (hb hby at_112) rfl (XS.iload X358.here hx rfl (hb hby at_114) rfl kt)))) ?_
  obtain ⟨cq371, kq371, qa371, qb371, qc371⟩ := isOf hZ rfl P360
  obtain ⟨_, _, ⟨T370, L370, k370, n370⟩, -, X370, ⟨Lc370, hQ370, l370, y370, z370⟩, st370⟩ := X358.virtualBack hx (y := (⟨"com/example/vestwright/vestwright/census/YearlyHours", "add", "(II)J"⟩ : MethodName)) (z := (⟨"com/example/vestwright/vestwright/census/YearlyHours", "add", "(II)J"⟩ : MethodName)) hown (mvT hZ (own_k hw 15 rfl)) (mvT hZ (own_k hw 16 rfl)) (notFace_of_selects (args := #[]) (mvT hZ (own_k hw 18 rfl))) (mvT hZ (own_k hw 18 rfl)) (mvT hZ (own_k hw 17 rfl)) (by decide) (backOf (W := 0) (own_adA l Z a0 hw [] b315 ya_320 ky_320 ha_320 kh_320 zt_358 qa_358 qb_358 4 3069 (p1 + (1 : Int32)) (((XT.ushrL p4 (30 : Int32)) &&& (1023 : Int64)).toInt32) T358.heap n0 Z369 P360 P361 P362 P363 P364 P365 ge_b315 ge332 ge333 P329 (show own_so zt_358 from q366.1) (show own_bd 3069 zt_358 from q366.2.1) (show 0 ≤ 3069 ∧ 3069 ≤ 1000000 from (by decide)) (show 0 ≤ (((XT.ushrL p4 (30 : Int32)) &&& (1023 : Int64)).toInt32).toInt ∧ (((XT.ushrL p4 (30 : Int32)) &&& (1023 : Int64)).toInt32).toInt ≤ 1023 from (own_hb _)) (show zt_358.length < 4 from (by have := q342.2.2.1; have := q354.2.2.1; have := q366.2.2.1; have := q343; have := q355; have := q367; simp only [List.length_nil] at *; omega)) (show 4 ≤ 8 from (by have := q342.2.2.1; have := q354.2.2.1; have := q366.2.2.1; have := q343; have := q355; have := q367; simp only [List.length_nil] at *; omega)) (show qa_358.length + zt_358.length = 4 from (by have := q342.2.2.1; have := q354.2.2.1; have := q366.2.2.1; have := q343; have := q355; have := q367; simp only [List.length_nil] at *; omega)) (show qb_358.length + zt_358.length = 4 from (by have := q342.2.2.1; have := q354.2.2.1; have := q366.2.2.1; have := q343; have := q355; have := q367; simp only [List.length_nil] at *; omega))) hZ (own_k hw 19 rfl) (own_k hw 3 rfl) (by decide) (by decide)) qa371 qc371 (g := (mkF m 116 #[.val (.int p1), .val (.int p2), .val (.int p3), .val (.long p4), .second, .val (.int p5), .val (.int p6), .val (.int p1), .val (.int p2), .val (.int p3), .val (.int (p1 + (1 : Int32))), .val (.int (p2 - (1 : Int32))), .val (.int ((p4 &&& (1023 : Int64)).toInt32)), .val (.int (((XT.ushrL p4 (10 : Int32)) &&& (1023 : Int64)).toInt32)), .val (.int (((XT.ushrL p4 (20 : Int32)) &&& (1023 : Int64)).toInt32)), .val (.int (((XT.ushrL p4 (30 : Int32)) &&& (1023 : Int64)).toInt32)), .val (.int (((XT.ushrL p4 (40 : Int32)) &&& (1023 : Int64)).toInt32)), .val (.ref b315), .unset, .unset, .unset, .unset] [(.int (((XT.ushrL p4 (30 : Int32)) &&& (1023 : Int64)).toInt32)), (.int (p1 + (1 : Int32))), (.ref b315)])) rfl hml.symm (Steps.refl _) (argsL := [(.int (p1 + (1 : Int32))), (.int (((XT.ushrL p4 (30 : Int32)) &&& (1023 : Int64)).toInt32))]) (rest := []) (lenOf own_pd8 rfl) rfl (by show 2 * 0 + _ ≤ _; exact Nat.le_of_eq rfl) (hb hby at_116) (fun _ _ => ⟨rfl, rfl, (by decide : 3 + 0 ≤ 24), (by decide : 11 + 0 ≤ 128)⟩)
  dsimp only [Pt.U, Pt.locs, Pt.cells, Pt.slots] at X370 l370 y370 z370 st370 hQ370
  subst l370 y370 z370
  obtain ⟨zt_370, qa_370, qb_370, rr_370, rfl, N370, K370_, P372, P373, P374, P375, P376, P377, q378, q379⟩ := hQ370
  have N380 := Fr.app N368 N370
  have Z381 : n0 ≤ T370.heap.size := Nat.le_trans Z369 K370_.1
  refine own_tr (T' := T370) (g' := (mkF m 119 #[.val (.int p1), .val (.int p2), .val (.int p3), .val (.long p4), .second, .val (.int p5), .val (.int p6), .val (.int p1), .val (.int p2), .val (.int p3), .val (.int (p1 + (1 : Int32))), .val (.int (p2 - (1 : Int32))), .val (.int ((p4 &&& (1023 : Int64)).toInt32)), .val (.int (((XT.ushrL p4 (10 : Int32)) &&& (1023 : Int64)).toInt32)), .val (.int (((XT.ushrL p4 (20 : Int32)) &&& (1023 : Int64)).toInt32)), .val (.int (((XT.ushrL p4 (30 : Int32)) &&& (1023 : Int64)).toInt32)), .val (.int (((XT.ushrL p4 (40 : Int32)) &&& (1023 : Int64)).toInt32)), .val (.ref b315), .unset, .unset, .unset, .unset] [(.long rr_370)])) st370 ?_
  refine own_st (T' := T370) (g' := (mkF m 126 #[.val (.int p1), .val (.int p2), .val (.int p3), .val (.long p4), .second, .val (.int p5), .val (.int p6), .val (.int p1), .val (.int p2), .val (.int p3), .val (.int (p1 + (1 : Int32))), .val (.int (p2 - (1 : Int32))), .val (.int ((p4 &&& (1023 : Int64)).toInt32)), .val (.int (((XT.ushrL p4 (10 : Int32)) &&& (1023 : Int64)).toInt32)), .val (.int (((XT.ushrL p4 (20 : Int32)) &&& (1023 : Int64)).toInt32)), .val (.int (((XT.ushrL p4 (30 : Int32)) &&& (1023 : Int64)).toInt32)), .val (.int (((XT.ushrL p4 (40 : Int32)) &&& (1023 : Int64)).toInt32)), .val (.ref b315), .unset, .unset, .unset, .unset] [(.int (((XT.ushrL p4 (40 : Int32)) &&& (1023 : Int64)).toInt32)), (.int (p2 - (1 : Int32))), (.ref b315)])) (fun _ kt => own_pop2 X370.here hx rfl (hb hby at_119) rfl rfl (XS.aload X370.here hx rfl (hb hby at_120) rfl rfl (XS.iload X370.here hx rfl (hb hby at_122) rfl (XS.iload X370.here hx rfl (hb hby at_124) rfl kt)))) ?_
  by_cases hA : zt_370.length < 4
  ·
    obtain ⟨cq383, kq383, qa383, qb383, qc383⟩ := isOf hZ rfl P372
    obtain ⟨_, _, ⟨T382, L382, k382, n382⟩, -, X382, ⟨Lc382, hQ382, l382, y382, z382⟩, st382⟩ := X370.virtualBack hx (y := (⟨"com/example/vestwright/vestwright/census/YearlyHours", "add", "(II)J"⟩ : MethodName)) (z := (⟨"com/example/vestwright/vestwright/census/YearlyHours", "add", "(II)J"⟩ : MethodName)) hown (mvT hZ (own_k hw 15 rfl)) (mvT hZ (own_k hw 16 rfl)) (notFace_of_selects (args := #[]) (mvT hZ (own_k hw 18 rfl))) (mvT hZ (own_k hw 18 rfl)) (mvT hZ (own_k hw 17 rfl)) (by decide) (backOf (W := 0) (own_adA l Z a0 hw [] b315 ya_320 ky_320 ha_320 kh_320 zt_370 qa_370 qb_370 4 4092 (p2 - (1 : Int32)) (((XT.ushrL p4 (40 : Int32)) &&& (1023 : Int64)).toInt32) T370.heap n0 Z381 P372 P373 P374 P375 P376 P377 ge_b315 ge332 ge333 P329 (show own_so zt_370 from q378.1) (show own_bd 4092 zt_370 from q378.2.1) (show 0 ≤ 4092 ∧ 4092 ≤ 1000000 from (by decide)) (show 0 ≤ (((XT.ushrL p4 (40 : Int32)) &&& (1023 : Int64)).toInt32).toInt ∧ (((XT.ushrL p4 (40 : Int32)) &&& (1023 : Int64)).toInt32).toInt ≤ 1023 from (own_hb _)) (show zt_370.length < 4 from (by have := q342.2.2.1; have := q354.2.2.1; have := q366.2.2.1; have := q378.2.2.1; have := q343; have := q355; have := q367; have := q379; have := hA; simp only [List.length_nil] at *; omega)) (show 4 ≤ 8 from (by have := q342.2.2.1; have := q354.2.2.1; have := q366.2.2.1; have := q378.2.2.1; have := q343; have := q355; have := q367; have := q379; have := hA; simp only [List.length_nil] at *; omega)) (show qa_370.length + zt_370.length = 4 from (by have := q342.2.2.1; have := q354.2.2.1; have := q366.2.2.1; have := q378.2.2.1; have := q343; have := q355; have := q367; have := q379; have := hA; simp only [List.length_nil] at *; omega)) (show qb_370.length + zt_370.length = 4 from (by have := q342.2.2.1; have := q354.2.2.1; have := q366.2.2.1; have := q378.2.2.1; have := q343; have := q355; have := q367; have := q379; have := hA; simp only [List.length_nil] at *; omega))) hZ (own_k hw 19 rfl) (own_k hw 3 rfl) (by decide) (by decide)) qa383 qc383 (g := (mkF m 126 #[.val (.int p1), .val (.int p2), .val (.int p3), .val (.long p4), .second, .val (.int p5), .val (.int p6), .val (.int p1), .val (.int p2), .val (.int p3), .val (.int (p1 + (1 : Int32))), .val (.int (p2 - (1 : Int32))), .val (.int ((p4 &&& (1023 : Int64)).toInt32)), .val (.int (((XT.ushrL p4 (10 : Int32)) &&& (1023 : Int64)).toInt32)), .val (.int (((XT.ushrL p4 (20 : Int32)) &&& (1023 : Int64)).toInt32)), .val (.int (((XT.ushrL p4 (30 : Int32)) &&& (1023 : Int64)).toInt32)), .val (.int (((XT.ushrL p4 (40 : Int32)) &&& (1023 : Int64)).toInt32)), .val (.ref b315), .unset, .unset, .unset, .unset] [(.int (((XT.ushrL p4 (40 : Int32)) &&& (1023 : Int64)).toInt32)), (.int (p2 - (1 : Int32))), (.ref b315)])) rfl hml.symm (Steps.refl _) (argsL := [(.int (p2 - (1 : Int32))), (.int (((XT.ushrL p4 (40 : Int32)) &&& (1023 : Int64)).toInt32))]) (rest := []) (lenOf own_pd8 rfl) rfl (by show 2 * 0 + _ ≤ _; exact Nat.le_of_eq rfl) (hb hby at_126) (fun _ _ => ⟨rfl, rfl, (by decide : 3 + 0 ≤ 24), (by decide : 11 + 0 ≤ 128)⟩)
    dsimp only [Pt.U, Pt.locs, Pt.cells, Pt.slots] at X382 l382 y382 z382 st382 hQ382
    subst l382 y382 z382
    obtain ⟨zt_382, qa_382, qb_382, rr_382, rfl, N382, K382_, P384, P385, P386, P387, P388, P389, q390, q391⟩ := hQ382
    have N392 := Fr.app N380 N382
    have Z393 : n0 ≤ T382.heap.size := Nat.le_trans Z381 K382_.1
    refine own_tr (T' := T382) (g' := (mkF m 129 #[.val (.int p1), .val (.int p2), .val (.int p3), .val (.long p4), .second, .val (.int p5), .val (.int p6), .val (.int p1), .val (.int p2), .val (.int p3), .val (.int (p1 + (1 : Int32))), .val (.int (p2 - (1 : Int32))), .val (.int ((p4 &&& (1023 : Int64)).toInt32)), .val (.int (((XT.ushrL p4 (10 : Int32)) &&& (1023 : Int64)).toInt32)), .val (.int (((XT.ushrL p4 (20 : Int32)) &&& (1023 : Int64)).toInt32)), .val (.int (((XT.ushrL p4 (30 : Int32)) &&& (1023 : Int64)).toInt32)), .val (.int (((XT.ushrL p4 (40 : Int32)) &&& (1023 : Int64)).toInt32)), .val (.ref b315), .unset, .unset, .unset, .unset] [(.long rr_382)])) st382 ?_
    refine own_st (T' := T382) (g' := (mkF m 136 #[.val (.int p1), .val (.int p2), .val (.int p3), .val (.long p4), .second, .val (.int p5), .val (.int p6), .val (.int p1), .val (.int p2), .val (.int p3), .val (.int (p1 + (1 : Int32))), .val (.int (p2 - (1 : Int32))), .val (.int ((p4 &&& (1023 : Int64)).toInt32)), .val (.int (((XT.ushrL p4 (10 : Int32)) &&& (1023 : Int64)).toInt32)), .val (.int (((XT.ushrL p4 (20 : Int32)) &&& (1023 : Int64)).toInt32)), .val (.int (((XT.ushrL p4 (30 : Int32)) &&& (1023 : Int64)).toInt32)), .val (.int (((XT.ushrL p4 (40 : Int32)) &&& (1023 : Int64)).toInt32)), .val (.ref b315), .unset, .unset, .unset, .unset] [(.int p6), (.int p5), (.ref b315)])) (fun _ kt => own_pop2 X382.here hx rfl (hb hby at_129) rfl rfl (XS.aload X382.here hx rfl (hb hby at_130) rfl rfl (XS.iload X382.here hx rfl (hb hby at_132) rfl (XS.iload X382.here hx rfl (hb hby at_134) rfl kt)))) ?_
    obtain ⟨cq395, kq395, qa395, qb395, qc395⟩ := isOf hZ rfl P384
    obtain ⟨_, _, ⟨T394, L394, k394, n394⟩, -, X394, ⟨Lc394, hQ394, l394, y394, z394⟩, st394⟩ := X382.virtualBack hx (y := (⟨"com/example/vestwright/vestwright/census/YearlyHours", "hoursIn", "(II)J"⟩ : MethodName)) (z := (⟨"com/example/vestwright/vestwright/census/YearlyHours", "hoursIn", "(II)J"⟩ : MethodName)) hown (mvT hZ (own_k hw 44 rfl)) (mvT hZ (own_k hw 45 rfl)) (notFace_of_selects (args := #[]) (mvT hZ (own_k hw 47 rfl))) (mvT hZ (own_k hw 47 rfl)) (mvT hZ (own_k hw 46 rfl)) (by decide) (backOf (W := 0) (own_hi l Z a0 hw [] b315 ya_320 ky_320 ha_320 kh_320 zt_382 qa_382 qb_382 4 p5 p6 T382.heap n0 Z393 P384 P385 P386 P387 P388 P389 (show own_so zt_382 from q390.1) (show zt_382.length ≤ 8 from (by have := q342.2.2.1; have := q354.2.2.1; have := q366.2.2.1; have := q378.2.2.1; have := q390.2.2.1; have := q343; have := q355; have := q367; have := q379; have := q391; simp only [List.length_nil] at *; omega)) (show zt_382.length ≤ 4 from (by have := q342.2.2.1; have := q354.2.2.1; have := q366.2.2.1; have := q378.2.2.1; have := q390.2.2.1; have := q343; have := q355; have := q367; have := q379; have := q391; simp only [List.length_nil] at *; omega)) (show 4 ≤ 8 from (by have := q342.2.2.1; have := q354.2.2.1; have := q366.2.2.1; have := q378.2.2.1; have := q390.2.2.1; have := q343; have := q355; have := q367; have := q379; have := q391; simp only [List.length_nil] at *; omega))) hZ (own_k hw 48 rfl) (own_k hw 3 rfl) (by decide) (by decide)) qa395 qc395 (g := (mkF m 136 #[.val (.int p1), .val (.int p2), .val (.int p3), .val (.long p4), .second, .val (.int p5), .val (.int p6), .val (.int p1), .val (.int p2), .val (.int p3), .val (.int (p1 + (1 : Int32))), .val (.int (p2 - (1 : Int32))), .val (.int ((p4 &&& (1023 : Int64)).toInt32)), .val (.int (((XT.ushrL p4 (10 : Int32)) &&& (1023 : Int64)).toInt32)), .val (.int (((XT.ushrL p4 (20 : Int32)) &&& (1023 : Int64)).toInt32)), .val (.int (((XT.ushrL p4 (30 : Int32)) &&& (1023 : Int64)).toInt32)), .val (.int (((XT.ushrL p4 (40 : Int32)) &&& (1023 : Int64)).toInt32)), .val (.ref b315), .unset, .unset, .unset, .unset] [(.int p6), (.int p5), (.ref b315)])) rfl hml.symm (Steps.refl _) (argsL := [(.int p5), (.int p6)]) (rest := []) (lenOf own_pd8 rfl) rfl (by show 2 * 0 + _ ≤ _; exact Nat.le_of_eq rfl) (hb hby at_136) (fun _ _ => ⟨rfl, rfl, (by decide : 3 + 0 ≤ 24), (by decide : 11 + 0 ≤ 128)⟩)
    dsimp only [Pt.U, Pt.locs, Pt.cells, Pt.slots] at X394 l394 y394 z394 st394 hQ394
    subst l394 y394 z394
    obtain ⟨rfl, N394, e394⟩ := hQ394
    have N396 := Fr.app N392 N394
    refine own_tr (T' := T394) (g' := (mkF m 139 #[.val (.int p1), .val (.int p2), .val (.int p3), .val (.long p4), .second, .val (.int p5), .val (.int p6), .val (.int p1), .val (.int p2), .val (.int p3), .val (.int (p1 + (1 : Int32))), .val (.int (p2 - (1 : Int32))), .val (.int ((p4 &&& (1023 : Int64)).toInt32)), .val (.int (((XT.ushrL p4 (10 : Int32)) &&& (1023 : Int64)).toInt32)), .val (.int (((XT.ushrL p4 (20 : Int32)) &&& (1023 : Int64)).toInt32)), .val (.int (((XT.ushrL p4 (30 : Int32)) &&& (1023 : Int64)).toInt32)), .val (.int (((XT.ushrL p4 (40 : Int32)) &&& (1023 : Int64)).toInt32)), .val (.ref b315), .unset, .unset, .unset, .unset] [(.long (own_tot p5 p6 zt_382))])) st394 ?_
    refine own_st (T' := T394) (g' := (mkF m 150 #[.val (.int p1), .val (.int p2), .val (.int p3), .val (.long p4), .second, .val (.int p5), .val (.int p6), .val (.int p1), .val (.int p2), .val (.int p3), .val (.int (p1 + (1 : Int32))), .val (.int (p2 - (1 : Int32))), .val (.int ((p4 &&& (1023 : Int64)).toInt32)), .val (.int (((XT.ushrL p4 (10 : Int32)) &&& (1023 : Int64)).toInt32)), .val (.int (((XT.ushrL p4 (20 : Int32)) &&& (1023 : Int64)).toInt32)), .val (.int (((XT.ushrL p4 (30 : Int32)) &&& (1023 : Int64)).toInt32)), .val (.int (((XT.ushrL p4 (40 : Int32)) &&& (1023 : Int64)).toInt32)), .val (.ref b315), .val (.long (own_tot p5 p6 zt_382)), .second, .unset, .unset] [(.int p6), (.int p5), (.long (((p4 &&& (1023 : Int64)).toInt32).toInt64)), (.int p1)])) (fun _ kt => XT.lstore X394.here hx rfl (hb hby at_139) rfl (l' := #[.val (.int p1), .val (.int p2), .val (.int p3), .val (.long p4), .second, .val (.int p5), .val (.int p6), .val (.int p1), .val (.int p2), .val (.int p3), .val (.int (p1 + (1 : Int32))), .val (.int (p2 - (1 : Int32))), .val (.int ((p4 &&& (1023 : Int64)).toInt32)), .val (.int (((XT.ushrL p4 (10 : Int32)) &&& (1023 : Int64)).toInt32)), .val (.int (((XT.ushrL p4 (20 : Int32)) &&& (1023 : Int64)).toInt32)), .val (.int (((XT.ushrL p4 (30 : Int32)) &&& (1023 : Int64)).toInt32)), .val (.int (((XT.ushrL p4 (40 : Int32)) &&& (1023 : Int64)).toInt32)), .val (.ref b315), .val (.long (own_tot p5 p6 zt_382)), .second, .unset, .unset]) rfl (XS.iload X394.here hx rfl (hb hby at_141) rfl (XS.iload X394.here hx rfl (hb hby at_143) rfl (XT.i2l X394.here hx rfl (hb hby at_145) rfl (XS.iload X394.here hx rfl (hb hby at_146) rfl (XS.iload X394.here hx rfl (hb hby at_148) rfl kt)))))) ?_
    obtain ⟨_, _, ⟨T397, L397, k397, n397⟩, -, X397, ⟨Lc397, hQ397, l397, y397, z397⟩, st397⟩ := Jvm.LawKit.callS X394 hx (y := (⟨"com/example/vestwright/vestwright/census/YearlyHoursHoursInPinLaw", "part", "(IJII)J"⟩ : MethodName)) hown (mvT hZ (own_k hw 53 rfl)) (mvT hZ (own_k hw 54 rfl)) (mvT hZ (own_k hw 55 rfl)) (mvT hZ (own_k hw 56 rfl)) (by decide) (backOf (W := 0) (own_pp l Z a0 hw [] p1 (((p4 &&& (1023 : Int64)).toInt32).toInt64) p5 p6 T382.heap n0 Z393 ) hZ (own_k hw 56 rfl) (own_k hw 55 rfl) (by decide) (by decide)) (g := (mkF m 150 #[.val (.int p1), .val (.int p2), .val (.int p3), .val (.long p4), .second, .val (.int p5), .val (.int p6), .val (.int p1), .val (.int p2), .val (.int p3), .val (.int (p1 + (1 : Int32))), .val (.int (p2 - (1 : Int32))), .val (.int ((p4 &&& (1023 : Int64)).toInt32)), .val (.int (((XT.ushrL p4 (10 : Int32)) &&& (1023 : Int64)).toInt32)), .val (.int (((XT.ushrL p4 (20 : Int32)) &&& (1023 : Int64)).toInt32)), .val (.int (((XT.ushrL p4 (30 : Int32)) &&& (1023 : Int64)).toInt32)), .val (.int (((XT.ushrL p4 (40 : Int32)) &&& (1023 : Int64)).toInt32)), .val (.ref b315), .val (.long (own_tot p5 p6 zt_382)), .second, .unset, .unset] [(.int p6), (.int p5), (.long (((p4 &&& (1023 : Int64)).toInt32).toInt64)), (.int p1)])) rfl hml.symm  (argsL := [(.int p1), (.long (((p4 &&& (1023 : Int64)).toInt32).toInt64)), (.int p5), (.int p6)]) (rest := []) (lenOf own_pd9 rfl) rfl (by show 2 * 0 + _ ≤ _; exact Nat.le_of_eq rfl) (hb hby at_150) (fun _ _ => ⟨rfl, e394, (by decide : 3 + 0 ≤ 24), (by decide : 11 + 0 ≤ 128)⟩)
    dsimp only [Pt.U, Pt.locs, Pt.cells, Pt.slots] at X397 l397 y397 z397 st397 hQ397
    subst l397 y397 z397
    obtain ⟨rfl, N397, e397⟩ := hQ397
    have N398 := Fr.app N396 N397
    refine own_st (T' := T397) (g' := (mkF m 153 #[.val (.int p1), .val (.int p2), .val (.int p3), .val (.long p4), .second, .val (.int p5), .val (.int p6), .val (.int p1), .val (.int p2), .val (.int p3), .val (.int (p1 + (1 : Int32))), .val (.int (p2 - (1 : Int32))), .val (.int ((p4 &&& (1023 : Int64)).toInt32)), .val (.int (((XT.ushrL p4 (10 : Int32)) &&& (1023 : Int64)).toInt32)), .val (.int (((XT.ushrL p4 (20 : Int32)) &&& (1023 : Int64)).toInt32)), .val (.int (((XT.ushrL p4 (30 : Int32)) &&& (1023 : Int64)).toInt32)), .val (.int (((XT.ushrL p4 (40 : Int32)) &&& (1023 : Int64)).toInt32)), .val (.ref b315), .val (.long (own_tot p5 p6 zt_382)), .second, .unset, .unset] [(.long (own_pt p1 (((p4 &&& (1023 : Int64)).toInt32).toInt64) p5 p6))])) st397 ?_
    refine own_st (T' := T397) (g' := (mkF m 162 #[.val (.int p1), .val (.int p2), .val (.int p3), .val (.long p4), .second, .val (.int p5), .val (.int p6), .val (.int p1), .val (.int p2), .val (.int p3), .val (.int (p1 + (1 : Int32))), .val (.int (p2 - (1 : Int32))), .val (.int ((p4 &&& (1023 : Int64)).toInt32)), .val (.int (((XT.ushrL p4 (10 : Int32)) &&& (1023 : Int64)).toInt32)), .val (.int (((XT.ushrL p4 (20 : Int32)) &&& (1023 : Int64)).toInt32)), .val (.int (((XT.ushrL p4 (30 : Int32)) &&& (1023 : Int64)).toInt32)), .val (.int (((XT.ushrL p4 (40 : Int32)) &&& (1023 : Int64)).toInt32)), .val (.ref b315), .val (.long (own_tot p5 p6 zt_382)), .second, .unset, .unset] [(.int p6), (.int p5), (.long ((((XT.ushrL p4 (10 : Int32)) &&& (1023 : Int64)).toInt32).toInt64)), (.int p2), (.long (own_pt p1 (((p4 &&& (1023 : Int64)).toInt32).toInt64) p5 p6))])) (fun _ kt => XS.iload X397.here hx rfl (hb hby at_153) rfl (XS.iload X397.here hx rfl (hb hby at_155) rfl (XT.i2l X397.here hx rfl (hb hby at_157) rfl (XS.iload X397.here hx rfl (hb hby at_158) rfl (XS.iload X397.here hx rfl (hb hby at_160) rfl kt))))) ?_
    obtain ⟨_, _, ⟨T399, L399, k399, n399⟩, -, X399, ⟨Lc399, hQ399, l399, y399, z399⟩, st399⟩ := Jvm.LawKit.callS X397 hx (y := (⟨"com/example/vestwright/vestwright/census/YearlyHoursHoursInPinLaw", "part", "(IJII)J"⟩ : MethodName)) hown (mvT hZ (own_k hw 53 rfl)) (mvT hZ (own_k hw 54 rfl)) (mvT hZ (own_k hw 55 rfl)) (mvT hZ (own_k hw 56 rfl)) (by decide) (backOf (W := 2) (own_pp l Z a0 hw [] p2 ((((XT.ushrL p4 (10 : Int32)) &&& (1023 : Int64)).toInt32).toInt64) p5 p6 T382.heap n0 Z393 ) hZ (own_k hw 56 rfl) (own_k hw 55 rfl) (by decide) (by decide)) (g := (mkF m 162 #[.val (.int p1), .val (.int p2), .val (.int p3), .val (.long p4), .second, .val (.int p5), .val (.int p6), .val (.int p1), .val (.int p2), .val (.int p3), .val (.int (p1 + (1 : Int32))), .val (.int (p2 - (1 : Int32))), .val (.int ((p4 &&& (1023 : Int64)).toInt32)), .val (.int (((XT.ushrL p4 (10 : Int32)) &&& (1023 : Int64)).toInt32)), .val (.int (((XT.ushrL p4 (20 : Int32)) &&& (1023 : Int64)).toInt32)), .val (.int (((XT.ushrL p4 (30 : Int32)) &&& (1023 : Int64)).toInt32)), .val (.int (((XT.ushrL p4 (40 : Int32)) &&& (1023 : Int64)).toInt32)), .val (.ref b315), .val (.long (own_tot p5 p6 zt_382)), .second, .unset, .unset] [(.int p6), (.int p5), (.long ((((XT.ushrL p4 (10 : Int32)) &&& (1023 : Int64)).toInt32).toInt64)), (.int p2), (.long (own_pt p1 (((p4 &&& (1023 : Int64)).toInt32).toInt64) p5 p6))])) rfl hml.symm  (argsL := [(.int p2), (.long ((((XT.ushrL p4 (10 : Int32)) &&& (1023 : Int64)).toInt32).toInt64)), (.int p5), (.int p6)]) (rest := [(.long (own_pt p1 (((p4 &&& (1023 : Int64)).toInt32).toInt64) p5 p6))]) (lenOf own_pd9 rfl) rfl (by show 2 * 0 + _ ≤ _; exact Nat.le_of_eq rfl) (hb hby at_162) (fun _ _ => ⟨rfl, e397, (by decide : 3 + 0 ≤ 24), (by decide : 11 + 0 ≤ 128)⟩)
    dsimp only [Pt.U, Pt.locs, Pt.cells, Pt.slots] at X399 l399 y399 z399 st399 hQ399
    subst l399 y399 z399
    obtain ⟨rfl, N399, e399⟩ := hQ399
    have N400 := Fr.app N398 N399
    refine own_st (T' := T399) (g' := (mkF m 165 #[.val (.int p1), .val (.int p2), .val (.int p3), .val (.long p4), .second, .val (.int p5), .val (.int p6), .val (.int p1), .val (.int p2), .val (.int p3), .val (.int (p1 + (1 : Int32))), .val (.int (p2 - (1 : Int32))), .val (.int ((p4 &&& (1023 : Int64)).toInt32)), .val (.int (((XT.ushrL p4 (10 : Int32)) &&& (1023 : Int64)).toInt32)), .val (.int (((XT.ushrL p4 (20 : Int32)) &&& (1023 : Int64)).toInt32)), .val (.int (((XT.ushrL p4 (30 : Int32)) &&& (1023 : Int64)).toInt32)), .val (.int (((XT.ushrL p4 (40 : Int32)) &&& (1023 : Int64)).toInt32)), .val (.ref b315), .val (.long (own_tot p5 p6 zt_382)), .second, .unset, .unset] [(.long (own_pt p2 ((((XT.ushrL p4 (10 : Int32)) &&& (1023 : Int64)).toInt32).toInt64) p5 p6)), (.long (own_pt p1 (((p4 &&& (1023 : Int64)).toInt32).toInt64) p5 p6))])) st399 ?_
    refine own_st (T' := T399) (g' := (mkF m 175 #[.val (.int p1), .val (.int p2), .val (.int p3), .val (.long p4), .second, .val (.int p5), .val (.int p6), .val (.int p1), .val (.int p2), .val (.int p3), .val (.int (p1 + (1 : Int32))), .val (.int (p2 - (1 : Int32))), .val (.int ((p4 &&& (1023 : Int64)).toInt32)), .val (.int (((XT.ushrL p4 (10 : Int32)) &&& (1023 : Int64)).toInt32)), .val (.int (((XT.ushrL p4 (20 : Int32)) &&& (1023 : Int64)).toInt32)), .val (.int (((XT.ushrL p4 (30 : Int32)) &&& (1023 : Int64)).toInt32)), .val (.int (((XT.ushrL p4 (40 : Int32)) &&& (1023 : Int64)).toInt32)), .val (.ref b315), .val (.long (own_tot p5 p6 zt_382)), .second, .unset, .unset] [(.int p6), (.int p5), (.long ((((XT.ushrL p4 (20 : Int32)) &&& (1023 : Int64)).toInt32).toInt64)), (.int p3), (.long ((own_pt p1 (((p4 &&& (1023 : Int64)).toInt32).toInt64) p5 p6) + (own_pt p2 ((((XT.ushrL p4 (10 : Int32)) &&& (1023 : Int64)).toInt32).toInt64) p5 p6)))])) (fun _ kt => XT.ladd X399.here hx rfl (hb hby at_165) rfl (XS.iload X399.here hx rfl (hb hby at_166) rfl (XS.iload X399.here hx rfl (hb hby at_168) rfl (XT.i2l X399.here hx rfl (hb hby at_170) rfl (XS.iload X399.here hx rfl (hb hby at_171) rfl (XS.iload X399.here hx rfl (hb hby at_173) rfl kt)))))) ?_
    obtain ⟨_, _, ⟨T401, L401, k401, n401⟩, -, X401, ⟨Lc401, hQ401, l401, y401, z401⟩, st401⟩ := Jvm.LawKit.callS X399 hx (y := (⟨"com/example/vestwright/vestwright/census/YearlyHoursHoursInPinLaw", "part", "(IJII)J"⟩ : MethodName)) hown (mvT hZ (own_k hw 53 rfl)) (mvT hZ (own_k hw 54 rfl)) (mvT hZ (own_k hw 55 rfl)) (mvT hZ (own_k hw 56 rfl)) (by decide) (backOf (W := 2) (own_pp l Z a0 hw [] p3 ((((XT.ushrL p4 (20 : Int32)) &&& (1023 : Int64)).toInt32).toInt64) p5 p6 T382.heap n0 Z393 ) hZ (own_k hw 56 rfl) (own_k hw 55 rfl) (by decide) (by decide)) (g := (mkF m 175 #[.val (.int p1), .val (.int p2), .val (.int p3), .val (.long p4), .second, .val (.int p5), .val (.int p6), .val (.int p1), .val (.int p2), .val (.int p3), .val (.int (p1 + (1 : Int32))), .val (.int (p2 - (1 : Int32))), .val (.int ((p4 &&& (1023 : Int64)).toInt32)), .val (.int (((XT.ushrL p4 (10 : Int32)) &&& (1023 : Int64)).toInt32)), .val (.int (((XT.ushrL p4 (20 : Int32)) &&& (1023 : Int64)).toInt32)), .val (.int (((XT.ushrL p4 (30 : Int32)) &&& (1023 : Int64)).toInt32)), .val (.int (((XT.ushrL p4 (40 : Int32)) &&& (1023 : Int64)).toInt32)), .val (.ref b315), .val (.long (own_tot p5 p6 zt_382)), .second, .unset, .unset] [(.int p6), (.int p5), (.long ((((XT.ushrL p4 (20 : Int32)) &&& (1023 : Int64)).toInt32).toInt64)), (.int p3), (.long ((own_pt p1 (((p4 &&& (1023 : Int64)).toInt32).toInt64) p5 p6) + (own_pt p2 ((((XT.ushrL p4 (10 : Int32)) &&& (1023 : Int64)).toInt32).toInt64) p5 p6)))])) rfl hml.symm  (argsL := [(.int p3), (.long ((((XT.ushrL p4 (20 : Int32)) &&& (1023 : Int64)).toInt32).toInt64)), (.int p5), (.int p6)]) (rest := [(.long ((own_pt p1 (((p4 &&& (1023 : Int64)).toInt32).toInt64) p5 p6) + (own_pt p2 ((((XT.ushrL p4 (10 : Int32)) &&& (1023 : Int64)).toInt32).toInt64) p5 p6)))]) (lenOf own_pd9 rfl) rfl (by show 2 * 0 + _ ≤ _; exact Nat.le_of_eq rfl) (hb hby at_175) (fun _ _ => ⟨rfl, e399, (by decide : 3 + 0 ≤ 24), (by decide : 11 + 0 ≤ 128)⟩)
    dsimp only [Pt.U, Pt.locs, Pt.cells, Pt.slots] at X401 l401 y401 z401 st401 hQ401
    subst l401 y401 z401
    obtain ⟨rfl, N401, e401⟩ := hQ401
    have N402 := Fr.app N400 N401
    refine own_st (T' := T401) (g' := (mkF m 178 #[.val (.int p1), .val (.int p2), .val (.int p3), .val (.long p4), .second, .val (.int p5), .val (.int p6), .val (.int p1), .val (.int p2), .val (.int p3), .val (.int (p1 + (1 : Int32))), .val (.int (p2 - (1 : Int32))), .val (.int ((p4 &&& (1023 : Int64)).toInt32)), .val (.int (((XT.ushrL p4 (10 : Int32)) &&& (1023 : Int64)).toInt32)), .val (.int (((XT.ushrL p4 (20 : Int32)) &&& (1023 : Int64)).toInt32)), .val (.int (((XT.ushrL p4 (30 : Int32)) &&& (1023 : Int64)).toInt32)), .val (.int (((XT.ushrL p4 (40 : Int32)) &&& (1023 : Int64)).toInt32)), .val (.ref b315), .val (.long (own_tot p5 p6 zt_382)), .second, .unset, .unset] [(.long (own_pt p3 ((((XT.ushrL p4 (20 : Int32)) &&& (1023 : Int64)).toInt32).toInt64) p5 p6)), (.long ((own_pt p1 (((p4 &&& (1023 : Int64)).toInt32).toInt64) p5 p6) + (own_pt p2 ((((XT.ushrL p4 (10 : Int32)) &&& (1023 : Int64)).toInt32).toInt64) p5 p6)))])) st401 ?_
    refine own_st (T' := T401) (g' := (mkF m 188 #[.val (.int p1), .val (.int p2), .val (.int p3), .val (.long p4), .second, .val (.int p5), .val (.int p6), .val (.int p1), .val (.int p2), .val (.int p3), .val (.int (p1 + (1 : Int32))), .val (.int (p2 - (1 : Int32))), .val (.int ((p4 &&& (1023 : Int64)).toInt32)), .val (.int (((XT.ushrL p4 (10 : Int32)) &&& (1023 : Int64)).toInt32)), .val (.int (((XT.ushrL p4 (20 : Int32)) &&& (1023 : Int64)).toInt32)), .val (.int (((XT.ushrL p4 (30 : Int32)) &&& (1023 : Int64)).toInt32)), .val (.int (((XT.ushrL p4 (40 : Int32)) &&& (1023 : Int64)).toInt32)), .val (.ref b315), .val (.long (own_tot p5 p6 zt_382)), .second, .unset, .unset] [(.int p6), (.int p5), (.long ((((XT.ushrL p4 (30 : Int32)) &&& (1023 : Int64)).toInt32).toInt64)), (.int (p1 + (1 : Int32))), (.long (((own_pt p1 (((p4 &&& (1023 : Int64)).toInt32).toInt64) p5 p6) + (own_pt p2 ((((XT.ushrL p4 (10 : Int32)) &&& (1023 : Int64)).toInt32).toInt64) p5 p6)) + (own_pt p3 ((((XT.ushrL p4 (20 : Int32)) &&& (1023 : Int64)).toInt32).toInt64) p5 p6)))])) (fun _ kt => XT.ladd X401.here hx rfl (hb hby at_178) rfl (XS.iload X401.here hx rfl (hb hby at_179) rfl (XS.iload X401.here hx rfl (hb hby at_181) rfl (XT.i2l X401.here hx rfl (hb hby at_183) rfl (XS.iload X401.here hx rfl (hb hby at_184) rfl (XS.iload X401.here hx rfl (hb hby at_186) rfl kt)))))) ?_
    obtain ⟨_, _, ⟨T403, L403, k403, n403⟩, -, X403, ⟨Lc403, hQ403, l403, y403, z403⟩, st403⟩ := Jvm.LawKit.callS X401 hx (y := (⟨"com/example/vestwright/vestwright/census/YearlyHoursHoursInPinLaw", "part", "(IJII)J"⟩ : MethodName)) hown (mvT hZ (own_k hw 53 rfl)) (mvT hZ (own_k hw 54 rfl)) (mvT hZ (own_k hw 55 rfl)) (mvT hZ (own_k hw 56 rfl)) (by decide) (backOf (W := 2) (own_pp l Z a0 hw [] (p1 + (1 : Int32)) ((((XT.ushrL p4 (30 : Int32)) &&& (1023 : Int64)).toInt32).toInt64) p5 p6 T382.heap n0 Z393 ) hZ (own_k hw 56 rfl) (own_k hw 55 rfl) (by decide) (by decide)) (g := (mkF m 188 #[.val (.int p1), .val (.int p2), .val (.int p3), .val (.long p4), .second, .val (.int p5), .val (.int p6), .val (.int p1), .val (.int p2), .val (.int p3), .val (.int (p1 + (1 : Int32))), .val (.int (p2 - (1 : Int32))), .val (.int ((p4 &&& (1023 : Int64)).toInt32)), .val (.int (((XT.ushrL p4 (10 : Int32)) &&& (1023 : Int64)).toInt32)), .val (.int (((XT.ushrL p4 (20 : Int32)) &&& (1023 : Int64)).toInt32)), .val (.int (((XT.ushrL p4 (30 : Int32)) &&& (1023 : Int64)).toInt32)), .val (.int (((XT.ushrL p4 (40 : Int32)) &&& (1023 : Int64)).toInt32)), .val (.ref b315), .val (.long (own_tot p5 p6 zt_382)), .second, .unset, .unset] [(.int p6), (.int p5), (.long ((((XT.ushrL p4 (30 : Int32)) &&& (1023 : Int64)).toInt32).toInt64)), (.int (p1 + (1 : Int32))), (.long (((own_pt p1 (((p4 &&& (1023 : Int64)).toInt32).toInt64) p5 p6) + (own_pt p2 ((((XT.ushrL p4 (10 : Int32)) &&& (1023 : Int64)).toInt32).toInt64) p5 p6)) + (own_pt p3 ((((XT.ushrL p4 (20 : Int32)) &&& (1023 : Int64)).toInt32).toInt64) p5 p6)))])) rfl hml.symm  (argsL := [(.int (p1 + (1 : Int32))), (.long ((((XT.ushrL p4 (30 : Int32)) &&& (1023 : Int64)).toInt32).toInt64)), (.int p5), (.int p6)]) (rest := [(.long (((own_pt p1 (((p4 &&& (1023 : Int64)).toInt32).toInt64) p5 p6) + (own_pt p2 ((((XT.ushrL p4 (10 : Int32)) &&& (1023 : Int64)).toInt32).toInt64) p5 p6)) + (own_pt p3 ((((XT.ushrL p4 (20 : Int32)) &&& (1023 : Int64)).toInt32).toInt64) p5 p6)))]) (lenOf own_pd9 rfl) rfl (by show 2 * 0 + _ ≤ _; exact Nat.le_of_eq rfl) (hb hby at_188) (fun _ _ => ⟨rfl, e401, (by decide : 3 + 0 ≤ 24), (by decide : 11 + 0 ≤ 128)⟩)
    dsimp only [Pt.U, Pt.locs, Pt.cells, Pt.slots] at X403 l403 y403 z403 st403 hQ403
    subst l403 y403 z403
    obtain ⟨rfl, N403, e403⟩ := hQ403
    have N404 := Fr.app N402 N403
    refine own_st (T' := T403) (g' := (mkF m 191 #[.val (.int p1), .val (.int p2), .val (.int p3), .val (.long p4), .second, .val (.int p5), .val (.int p6), .val (.int p1), .val (.int p2), .val (.int p3), .val (.int (p1 + (1 : Int32))), .val (.int (p2 - (1 : Int32))), .val (.int ((p4 &&& (1023 : Int64)).toInt32)), .val (.int (((XT.ushrL p4 (10 : Int32)) &&& (1023 : Int64)).toInt32)), .val (.int (((XT.ushrL p4 (20 : Int32)) &&& (1023 : Int64)).toInt32)), .val (.int (((XT.ushrL p4 (30 : Int32)) &&& (1023 : Int64)).toInt32)), .val (.int (((XT.ushrL p4 (40 : Int32)) &&& (1023 : Int64)).toInt32)), .val (.ref b315), .val (.long (own_tot p5 p6 zt_382)), .second, .unset, .unset] [(.long (own_pt (p1 + (1 : Int32)) ((((XT.ushrL p4 (30 : Int32)) &&& (1023 : Int64)).toInt32).toInt64) p5 p6)), (.long (((own_pt p1 (((p4 &&& (1023 : Int64)).toInt32).toInt64) p5 p6) + (own_pt p2 ((((XT.ushrL p4 (10 : Int32)) &&& (1023 : Int64)).toInt32).toInt64) p5 p6)) + (own_pt p3 ((((XT.ushrL p4 (20 : Int32)) &&& (1023 : Int64)).toInt32).toInt64) p5 p6)))])) st403 ?_
    refine own_st (T' := T403) (g' := (mkF m 201 #[.val (.int p1), .val (.int p2), .val (.int p3), .val (.long p4), .second, .val (.int p5), .val (.int p6), .val (.int p1), .val (.int p2), .val (.int p3), .val (.int (p1 + (1 : Int32))), .val (.int (p2 - (1 : Int32))), .val (.int ((p4 &&& (1023 : Int64)).toInt32)), .val (.int (((XT.ushrL p4 (10 : Int32)) &&& (1023 : Int64)).toInt32)), .val (.int (((XT.ushrL p4 (20 : Int32)) &&& (1023 : Int64)).toInt32)), .val (.int (((XT.ushrL p4 (30 : Int32)) &&& (1023 : Int64)).toInt32)), .val (.int (((XT.ushrL p4 (40 : Int32)) &&& (1023 : Int64)).toInt32)), .val (.ref b315), .val (.long (own_tot p5 p6 zt_382)), .second, .unset, .unset] [(.int p6), (.int p5), (.long ((((XT.ushrL p4 (40 : Int32)) &&& (1023 : Int64)).toInt32).toInt64)), (.int (p2 - (1 : Int32))), (.long ((((own_pt p1 (((p4 &&& (1023 : Int64)).toInt32).toInt64) p5 p6) + (own_pt p2 ((((XT.ushrL p4 (10 : Int32)) &&& (1023 : Int64)).toInt32).toInt64) p5 p6)) + (own_pt p3 ((((XT.ushrL p4 (20 : Int32)) &&& (1023 : Int64)).toInt32).toInt64) p5 p6)) + (own_pt (p1 + (1 : Int32)) ((((XT.ushrL p4 (30 : Int32)) &&& (1023 : Int64)).toInt32).toInt64) p5 p6)))])) (fun _ kt => XT.ladd X403.here hx rfl (hb hby at_191) rfl (XS.iload X403.here hx rfl (hb hby at_192) rfl (XS.iload X403.here hx rfl (hb hby at_194) rfl (XT.i2l X403.here hx rfl (hb hby at_196) rfl (XS.iload X403.here hx rfl (hb hby at_197) rfl (XS.iload X403.here hx rfl (hb hby at_199) rfl kt)))))) ?_
    obtain ⟨_, _, ⟨T405, L405, k405, n405⟩, -, X405, ⟨Lc405, hQ405, l405, y405, z405⟩, st405⟩ := Jvm.LawKit.callS X403 hx (y := (⟨"com/example/vestwright/vestwright/census/YearlyHoursHoursInPinLaw", "part", "(IJII)J"⟩ : MethodName)) hown (mvT hZ (own_k hw 53 rfl)) (mvT hZ (own_k hw 54 rfl)) (mvT hZ (own_k hw 55 rfl)) (mvT hZ (own_k hw 56 rfl)) (by decide) (backOf (W := 2) (own_pp l Z a0 hw [] (p2 - (1 : Int32)) ((((XT.ushrL p4 (40 : Int32)) &&& (1023 : Int64)).toInt32).toInt64) p5 p6 T382.heap n0 Z393 ) hZ (own_k hw 56 rfl) (own_k hw 55 rfl) (by decide) (by decide)) (g := (mkF m 201 #[.val (.int p1), .val (.int p2), .val (.int p3), .val (.long p4), .second, .val (.int p5), .val (.int p6), .val (.int p1), .val (.int p2), .val (.int p3), .val (.int (p1 + (1 : Int32))), .val (.int (p2 - (1 : Int32))), .val (.int ((p4 &&& (1023 : Int64)).toInt32)), .val (.int (((XT.ushrL p4 (10 : Int32)) &&& (1023 : Int64)).toInt32)), .val (.int (((XT.ushrL p4 (20 : Int32)) &&& (1023 : Int64)).toInt32)), .val (.int (((XT.ushrL p4 (30 : Int32)) &&& (1023 : Int64)).toInt32)), .val (.int (((XT.ushrL p4 (40 : Int32)) &&& (1023 : Int64)).toInt32)), .val (.ref b315), .val (.long (own_tot p5 p6 zt_382)), .second, .unset, .unset] [(.int p6), (.int p5), (.long ((((XT.ushrL p4 (40 : Int32)) &&& (1023 : Int64)).toInt32).toInt64)), (.int (p2 - (1 : Int32))), (.long ((((own_pt p1 (((p4 &&& (1023 : Int64)).toInt32).toInt64) p5 p6) + (own_pt p2 ((((XT.ushrL p4 (10 : Int32)) &&& (1023 : Int64)).toInt32).toInt64) p5 p6)) + (own_pt p3 ((((XT.ushrL p4 (20 : Int32)) &&& (1023 : Int64)).toInt32).toInt64) p5 p6)) + (own_pt (p1 + (1 : Int32)) ((((XT.ushrL p4 (30 : Int32)) &&& (1023 : Int64)).toInt32).toInt64) p5 p6)))])) rfl hml.symm  (argsL := [(.int (p2 - (1 : Int32))), (.long ((((XT.ushrL p4 (40 : Int32)) &&& (1023 : Int64)).toInt32).toInt64)), (.int p5), (.int p6)]) (rest := [(.long ((((own_pt p1 (((p4 &&& (1023 : Int64)).toInt32).toInt64) p5 p6) + (own_pt p2 ((((XT.ushrL p4 (10 : Int32)) &&& (1023 : Int64)).toInt32).toInt64) p5 p6)) + (own_pt p3 ((((XT.ushrL p4 (20 : Int32)) &&& (1023 : Int64)).toInt32).toInt64) p5 p6)) + (own_pt (p1 + (1 : Int32)) ((((XT.ushrL p4 (30 : Int32)) &&& (1023 : Int64)).toInt32).toInt64) p5 p6)))]) (lenOf own_pd9 rfl) rfl (by show 2 * 0 + _ ≤ _; exact Nat.le_of_eq rfl) (hb hby at_201) (fun _ _ => ⟨rfl, e403, (by decide : 3 + 0 ≤ 24), (by decide : 11 + 0 ≤ 128)⟩)
    dsimp only [Pt.U, Pt.locs, Pt.cells, Pt.slots] at X405 l405 y405 z405 st405 hQ405
    subst l405 y405 z405
    obtain ⟨rfl, N405, e405⟩ := hQ405
    have N406 := Fr.app N404 N405
    refine own_st (T' := T405) (g' := (mkF m 204 #[.val (.int p1), .val (.int p2), .val (.int p3), .val (.long p4), .second, .val (.int p5), .val (.int p6), .val (.int p1), .val (.int p2), .val (.int p3), .val (.int (p1 + (1 : Int32))), .val (.int (p2 - (1 : Int32))), .val (.int ((p4 &&& (1023 : Int64)).toInt32)), .val (.int (((XT.ushrL p4 (10 : Int32)) &&& (1023 : Int64)).toInt32)), .val (.int (((XT.ushrL p4 (20 : Int32)) &&& (1023 : Int64)).toInt32)), .val (.int (((XT.ushrL p4 (30 : Int32)) &&& (1023 : Int64)).toInt32)), .val (.int (((XT.ushrL p4 (40 : Int32)) &&& (1023 : Int64)).toInt32)), .val (.ref b315), .val (.long (own_tot p5 p6 zt_382)), .second, .unset, .unset] [(.long (own_pt (p2 - (1 : Int32)) ((((XT.ushrL p4 (40 : Int32)) &&& (1023 : Int64)).toInt32).toInt64) p5 p6)), (.long ((((own_pt p1 (((p4 &&& (1023 : Int64)).toInt32).toInt64) p5 p6) + (own_pt p2 ((((XT.ushrL p4 (10 : Int32)) &&& (1023 : Int64)).toInt32).toInt64) p5 p6)) + (own_pt p3 ((((XT.ushrL p4 (20 : Int32)) &&& (1023 : Int64)).toInt32).toInt64) p5 p6)) + (own_pt (p1 + (1 : Int32)) ((((XT.ushrL p4 (30 : Int32)) &&& (1023 : Int64)).toInt32).toInt64) p5 p6)))])) st405 ?_
    refine own_st (T' := T405) (g' := (mkF m 220 #[.val (.int p1), .val (.int p2), .val (.int p3), .val (.long p4), .second, .val (.int p5), .val (.int p6), .val (.int p1), .val (.int p2), .val (.int p3), .val (.int (p1 + (1 : Int32))), .val (.int (p2 - (1 : Int32))), .val (.int ((p4 &&& (1023 : Int64)).toInt32)), .val (.int (((XT.ushrL p4 (10 : Int32)) &&& (1023 : Int64)).toInt32)), .val (.int (((XT.ushrL p4 (20 : Int32)) &&& (1023 : Int64)).toInt32)), .val (.int (((XT.ushrL p4 (30 : Int32)) &&& (1023 : Int64)).toInt32)), .val (.int (((XT.ushrL p4 (40 : Int32)) &&& (1023 : Int64)).toInt32)), .val (.ref b315), .val (.long (own_tot p5 p6 zt_382)), .second, .val (.long (((((own_pt p1 (((p4 &&& (1023 : Int64)).toInt32).toInt64) p5 p6) + (own_pt p2 ((((XT.ushrL p4 (10 : Int32)) &&& (1023 : Int64)).toInt32).toInt64) p5 p6)) + (own_pt p3 ((((XT.ushrL p4 (20 : Int32)) &&& (1023 : Int64)).toInt32).toInt64) p5 p6)) + (own_pt (p1 + (1 : Int32)) ((((XT.ushrL p4 (30 : Int32)) &&& (1023 : Int64)).toInt32).toInt64) p5 p6)) + (own_pt (p2 - (1 : Int32)) ((((XT.ushrL p4 (40 : Int32)) &&& (1023 : Int64)).toInt32).toInt64) p5 p6))), .second] [(.int (1 : Int32))])) (fun _ kt => XT.ladd X405.here hx rfl (hb hby at_204) rfl (XT.lstore X405.here hx rfl (hb hby at_205) rfl (l' := #[.val (.int p1), .val (.int p2), .val (.int p3), .val (.long p4), .second, .val (.int p5), .val (.int p6), .val (.int p1), .val (.int p2), .val (.int p3), .val (.int (p1 + (1 : Int32))), .val (.int (p2 - (1 : Int32))), .val (.int ((p4 &&& (1023 : Int64)).toInt32)), .val (.int (((XT.ushrL p4 (10 : Int32)) &&& (1023 : Int64)).toInt32)), .val (.int (((XT.ushrL p4 (20 : Int32)) &&& (1023 : Int64)).toInt32)), .val (.int (((XT.ushrL p4 (30 : Int32)) &&& (1023 : Int64)).toInt32)), .val (.int (((XT.ushrL p4 (40 : Int32)) &&& (1023 : Int64)).toInt32)), .val (.ref b315), .val (.long (own_tot p5 p6 zt_382)), .second, .val (.long (((((own_pt p1 (((p4 &&& (1023 : Int64)).toInt32).toInt64) p5 p6) + (own_pt p2 ((((XT.ushrL p4 (10 : Int32)) &&& (1023 : Int64)).toInt32).toInt64) p5 p6)) + (own_pt p3 ((((XT.ushrL p4 (20 : Int32)) &&& (1023 : Int64)).toInt32).toInt64) p5 p6)) + (own_pt (p1 + (1 : Int32)) ((((XT.ushrL p4 (30 : Int32)) &&& (1023 : Int64)).toInt32).toInt64) p5 p6)) + (own_pt (p2 - (1 : Int32)) ((((XT.ushrL p4 (40 : Int32)) &&& (1023 : Int64)).toInt32).toInt64) p5 p6))), .second]) rfl (XT.lload X405.here hx rfl (hb hby at_207) rfl (XT.lload X405.here hx rfl (hb hby at_209) rfl (XT.lcmp X405.here hx rfl (hb hby at_211) rfl (XS.ifNo X405.here hx rfl (hb hby at_212) rfl (XT.ll_ne_f (by have q1 := q342.2.2.2 p5 p6; have q2 := q354.2.2.2 p5 p6; have q3 := q366.2.2.2 p5 p6; have q4 := q378.2.2.2 p5 p6; have q5 := q390.2.2.2 p5 p6; rw [q5, q4, q3, q2, q1, show own_tot p5 p6 [] = 0 from rfl, Int64.zero_add]; rfl)) (XS.iconst X405.here hx rfl (hb hby at_215) (XS.goto X405.here hx rfl (pc0 := 216) (pc' := 220) rfl (hb hby at_216) (by decide) (by decide) kt)))))))) ?_
    obtain ⟨fs, hr, hrun, hended, hW, hsame⟩ := X405.leave (v := some (.int (1 : Int32))) (fun h => by rw [Bd.returns] at h; cases h)
    refine own_end (retN X405 hx (t := .boolean) Bd.returns (by simp) (hb hby at_220) hr) ⟨_, hrun, hended, _, _, rfl, ?_, ⟨_, rfl⟩, hW, hsame.mono (by decide) (by decide)⟩
    show own_lawQ Z _ _ _ _ _ _ h0 n0 _ T405.heap _
    rw [e405]
    exact ⟨rfl, N406⟩
  ·
    have hG : zt_370.length = 4 := by have := q342.2.2.1; have := q354.2.2.1; have := q366.2.2.1; have := q378.2.2.1; simp only [List.length_nil] at *; omega
    obtain rfl : qa_370 = [] := List.length_eq_zero_iff.mp (by have := q379; omega)
    obtain rfl : qb_370 = [] := List.length_eq_zero_iff.mp (by have := q379; omega)
    obtain ⟨cq408, kq408, qa408, qb408, qc408⟩ := isOf hZ rfl P372
    obtain ⟨_, _, ⟨T407, L407, k407, n407⟩, -, X407, ⟨Lc407, hQ407, l407, y407, z407⟩, st407⟩ := X370.virtualBack hx (y := (⟨"com/example/vestwright/vestwright/census/YearlyHours", "add", "(II)J"⟩ : MethodName)) (z := (⟨"com/example/vestwright/vestwright/census/YearlyHours", "add", "(II)J"⟩ : MethodName)) hown (mvT hZ (own_k hw 15 rfl)) (mvT hZ (own_k hw 16 rfl)) (notFace_of_selects (args := #[]) (mvT hZ (own_k hw 18 rfl))) (mvT hZ (own_k hw 18 rfl)) (mvT hZ (own_k hw 17 rfl)) (by decide) (backOf (W := 0) (own_adG l Z a0 hw [] b315 ya_320 ky_320 ha_320 kh_320 zt_370 4092 (p2 - (1 : Int32)) (((XT.ushrL p4 (40 : Int32)) &&& (1023 : Int64)).toInt32) T370.heap n0 Z381 P372 P373 P374 P375 P376 P377 ge_b315 ge332 ge333 P329 (show own_so zt_370 from q378.1) (show own_bd 4092 zt_370 from q378.2.1) (show 0 ≤ 4092 ∧ 4092 ≤ 1000000 from (by decide)) (show 0 ≤ (((XT.ushrL p4 (40 : Int32)) &&& (1023 : Int64)).toInt32).toInt ∧ (((XT.ushrL p4 (40 : Int32)) &&& (1023 : Int64)).toInt32).toInt ≤ 1023 from (own_hb _)) hG) hZ (own_k hw 19 rfl) (own_k hw 3 rfl) (by decide) (by decide)) qa408 qc408 (g := (mkF m 126 #[.val (.int p1), .val (.int p2), .val (.int p3), .val (.long p4), .second, .val (.int p5), .val (.int p6), .val (.int p1), .val (.int p2), .val (.int p3), .val (.int (p1 + (1 : Int32))), .val (.int (p2 - (1 : Int32))), .val (.int ((p4 &&& (1023 : Int64)).toInt32)), .val (.int (((XT.ushrL p4 (10 : Int32)) &&& (1023 : Int64)).toInt32)), .val (.int (((XT.ushrL p4 (20 : Int32)) &&& (1023 : Int64)).toInt32)), .val (.int (((XT.ushrL p4 (30 : Int32)) &&& (1023 : Int64)).toInt32)), .val (.int (((XT.ushrL p4 (40 : Int32)) &&& (1023 : Int64)).toInt32)), .val (.ref b315), .unset, .unset, .unset, .unset] [(.int (((XT.ushrL p4 (40 : Int32)) &&& (1023 : Int64)).toInt32)), (.int (p2 - (1 : Int32))), (.ref b315)])) rfl hml.symm (Steps.refl _) (argsL := [(.int (p2 - (1 : Int32))), (.int (((XT.ushrL p4 (40 : Int32)) &&& (1023 : Int64)).toInt32))]) (rest := []) (lenOf own_pd8 rfl) rfl (by show 2 * 0 + _ ≤ _; exact Nat.le_of_eq rfl) (hb hby at_126) (fun _ _ => ⟨rfl, rfl, (by decide : 3 + 2 ≤ 24), (by decide : 11 + 16 ≤ 128)⟩)
    dsimp only [Pt.U, Pt.locs, Pt.cells, Pt.slots] at X407 l407 y407 z407 st407 hQ407
    subst l407 y407 z407
    obtain ⟨ya2_407, ky2_407, ha2_407, kh2_407, zt_407, qa_407, qb_407, cap2_407, rr_407, rfl, N407, K407_, P409, P410, P411, P412, P413, P414, q415, q416⟩ := hQ407
    have N417 := Fr.app N380 N407
    have Z418 : n0 ≤ T407.heap.size := Nat.le_trans Z381 K407_.1
    refine own_tr (T' := T407) (g' := (mkF m 129 #[.val (.int p1), .val (.int p2), .val (.int p3), .val (.long p4), .second, .val (.int p5), .val (.int p6), .val (.int p1), .val (.int p2), .val (.int p3), .val (.int (p1 + (1 : Int32))), .val (.int (p2 - (1 : Int32))), .val (.int ((p4 &&& (1023 : Int64)).toInt32)), .val (.int (((XT.ushrL p4 (10 : Int32)) &&& (1023 : Int64)).toInt32)), .val (.int (((XT.ushrL p4 (20 : Int32)) &&& (1023 : Int64)).toInt32)), .val (.int (((XT.ushrL p4 (30 : Int32)) &&& (1023 : Int64)).toInt32)), .val (.int (((XT.ushrL p4 (40 : Int32)) &&& (1023 : Int64)).toInt32)), .val (.ref b315), .unset, .unset, .unset, .unset] [(.long rr_407)])) st407 ?_
    refine own_st (T' := T407) (g' := (mkF m 136 #[.val (.int p1), .val (.int p2), .val (.int p3), .val (.long p4), .second, .val (.int p5), .val (.int p6), .val (.int p1), .val (.int p2), .val (.int p3), .val (.int (p1 + (1 : Int32))), .val (.int (p2 - (1 : Int32))), .val (.int ((p4 &&& (1023 : Int64)).toInt32)), .val (.int (((XT.ushrL p4 (10 : Int32)) &&& (1023 : Int64)).toInt32)), .val (.int (((XT.ushrL p4 (20 : Int32)) &&& (1023 : Int64)).toInt32)), .val (.int (((XT.ushrL p4 (30 : Int32)) &&& (1023 : Int64)).toInt32)), .val (.int (((XT.ushrL p4 (40 : Int32)) &&& (1023 : Int64)).toInt32)), .val (.ref b315), .unset, .unset, .unset, .unset] [(.int p6), (.int p5), (.ref b315)])) (fun _ kt => own_pop2 X407.here hx rfl (hb hby at_129) rfl rfl (XS.aload X407.here hx rfl (hb hby at_130) rfl rfl (XS.iload X407.here hx rfl (hb hby at_132) rfl (XS.iload X407.here hx rfl (hb hby at_134) rfl kt)))) ?_
    obtain ⟨cq420, kq420, qa420, qb420, qc420⟩ := isOf hZ rfl P409
    obtain ⟨_, _, ⟨T419, L419, k419, n419⟩, -, X419, ⟨Lc419, hQ419, l419, y419, z419⟩, st419⟩ := X407.virtualBack hx (y := (⟨"com/example/vestwright/vestwright/census/YearlyHours", "hoursIn", "(II)J"⟩ : MethodName)) (z := (⟨"com/example/vestwright/vestwright/census/YearlyHours", "hoursIn", "(II)J"⟩ : MethodName)) hown (mvT hZ (own_k hw 44 rfl)) (mvT hZ (own_k hw 45 rfl)) (notFace_of_selects (args := #[]) (mvT hZ (own_k hw 47 rfl))) (mvT hZ (own_k hw 47 rfl)) (mvT hZ (own_k hw 46 rfl)) (by decide) (backOf (W := 0) (own_hi l Z a0 hw [] b315 ya2_407 ky2_407 ha2_407 kh2_407 zt_407 qa_407 qb_407 cap2_407 p5 p6 T407.heap n0 Z418 P409 P410 P411 P412 P413 P414 (show own_so zt_407 from q415.1) (show zt_407.length ≤ 8 from (by have := q342.2.2.1; have := q354.2.2.1; have := q366.2.2.1; have := q378.2.2.1; have := q415.2.2.1; have := q343; have := q355; have := q367; have := q379; have := q416; simp only [List.length_nil] at *; omega)) (show zt_407.length ≤ cap2_407 from (by have := q342.2.2.1; have := q354.2.2.1; have := q366.2.2.1; have := q378.2.2.1; have := q415.2.2.1; have := q343; have := q355; have := q367; have := q379; have := q416; simp only [List.length_nil] at *; omega)) (show cap2_407 ≤ 8 from (by have := q342.2.2.1; have := q354.2.2.1; have := q366.2.2.1; have := q378.2.2.1; have := q415.2.2.1; have := q343; have := q355; have := q367; have := q379; have := q416; simp only [List.length_nil] at *; omega))) hZ (own_k hw 48 rfl) (own_k hw 3 rfl) (by decide) (by decide)) qa420 qc420 (g := (mkF m 136 #[.val (.int p1), .val (.int p2), .val (.int p3), .val (.long p4), .second, .val (.int p5), .val (.int p6), .val (.int p1), .val (.int p2), .val (.int p3), .val (.int (p1 + (1 : Int32))), .val (.int (p2 - (1 : Int32))), .val (.int ((p4 &&& (1023 : Int64)).toInt32)), .val (.int (((XT.ushrL p4 (10 : Int32)) &&& (1023 : Int64)).toInt32)), .val (.int (((XT.ushrL p4 (20 : Int32)) &&& (1023 : Int64)).toInt32)), .val (.int (((XT.ushrL p4 (30 : Int32)) &&& (1023 : Int64)).toInt32)), .val (.int (((XT.ushrL p4 (40 : Int32)) &&& (1023 : Int64)).toInt32)), .val (.ref b315), .unset, .unset, .unset, .unset] [(.int p6), (.int p5), (.ref b315)])) rfl hml.symm (Steps.refl _) (argsL := [(.int p5), (.int p6)]) (rest := []) (lenOf own_pd8 rfl) rfl (by show 2 * 0 + _ ≤ _; exact Nat.le_of_eq rfl) (hb hby at_136) (fun _ _ => ⟨rfl, rfl, (by decide : 5 + 0 ≤ 24), (by decide : 27 + 0 ≤ 128)⟩)
    dsimp only [Pt.U, Pt.locs, Pt.cells, Pt.slots] at X419 l419 y419 z419 st419 hQ419
    subst l419 y419 z419
    obtain ⟨rfl, N419, e419⟩ := hQ419
    have N421 := Fr.app N417 N419
    refine own_tr (T' := T419) (g' := (mkF m 139 #[.val (.int p1), .val (.int p2), .val (.int p3), .val (.long p4), .second, .val (.int p5), .val (.int p6), .val (.int p1), .val (.int p2), .val (.int p3), .val (.int (p1 + (1 : Int32))), .val (.int (p2 - (1 : Int32))), .val (.int ((p4 &&& (1023 : Int64)).toInt32)), .val (.int (((XT.ushrL p4 (10 : Int32)) &&& (1023 : Int64)).toInt32)), .val (.int (((XT.ushrL p4 (20 : Int32)) &&& (1023 : Int64)).toInt32)), .val (.int (((XT.ushrL p4 (30 : Int32)) &&& (1023 : Int64)).toInt32)), .val (.int (((XT.ushrL p4 (40 : Int32)) &&& (1023 : Int64)).toInt32)), .val (.ref b315), .unset, .unset, .unset, .unset] [(.long (own_tot p5 p6 zt_407))])) st419 ?_
    refine own_st (T' := T419) (g' := (mkF m 150 #[.val (.int p1), .val (.int p2), .val (.int p3), .val (.long p4), .second, .val (.int p5), .val (.int p6), .val (.int p1), .val (.int p2), .val (.int p3), .val (.int (p1 + (1 : Int32))), .val (.int (p2 - (1 : Int32))), .val (.int ((p4 &&& (1023 : Int64)).toInt32)), .val (.int (((XT.ushrL p4 (10 : Int32)) &&& (1023 : Int64)).toInt32)), .val (.int (((XT.ushrL p4 (20 : Int32)) &&& (1023 : Int64)).toInt32)), .val (.int (((XT.ushrL p4 (30 : Int32)) &&& (1023 : Int64)).toInt32)), .val (.int (((XT.ushrL p4 (40 : Int32)) &&& (1023 : Int64)).toInt32)), .val (.ref b315), .val (.long (own_tot p5 p6 zt_407)), .second, .unset, .unset] [(.int p6), (.int p5), (.long (((p4 &&& (1023 : Int64)).toInt32).toInt64)), (.int p1)])) (fun _ kt => XT.lstore X419.here hx rfl (hb hby at_139) rfl (l' := #[.val (.int p1), .val (.int p2), .val (.int p3), .val (.long p4), .second, .val (.int p5), .val (.int p6), .val (.int p1), .val (.int p2), .val (.int p3), .val (.int (p1 + (1 : Int32))), .val (.int (p2 - (1 : Int32))), .val (.int ((p4 &&& (1023 : Int64)).toInt32)), .val (.int (((XT.ushrL p4 (10 : Int32)) &&& (1023 : Int64)).toInt32)), .val (.int (((XT.ushrL p4 (20 : Int32)) &&& (1023 : Int64)).toInt32)), .val (.int (((XT.ushrL p4 (30 : Int32)) &&& (1023 : Int64)).toInt32)), .val (.int (((XT.ushrL p4 (40 : Int32)) &&& (1023 : Int64)).toInt32)), .val (.ref b315), .val (.long (own_tot p5 p6 zt_407)), .second, .unset, .unset]) rfl (XS.iload X419.here hx rfl (hb hby at_141) rfl (XS.iload X419.here hx rfl (hb hby at_143) rfl (XT.i2l X419.here hx rfl (hb hby at_145) rfl (XS.iload X419.here hx rfl (hb hby at_146) rfl (XS.iload X419.here hx rfl (hb hby at_148) rfl kt)))))) ?_
    obtain ⟨_, _, ⟨T422, L422, k422, n422⟩, -, X422, ⟨Lc422, hQ422, l422, y422, z422⟩, st422⟩ := Jvm.LawKit.callS X419 hx (y := (⟨"com/example/vestwright/vestwright/census/YearlyHoursHoursInPinLaw", "part", "(IJII)J"⟩ : MethodName)) hown (mvT hZ (own_k hw 53 rfl)) (mvT hZ (own_k hw 54 rfl)) (mvT hZ (own_k hw 55 rfl)) (mvT hZ (own_k hw 56 rfl)) (by decide) (backOf (W := 0) (own_pp l Z a0 hw [] p1 (((p4 &&& (1023 : Int64)).toInt32).toInt64) p5 p6 T407.heap n0 Z418 ) hZ (own_k hw 56 rfl) (own_k hw 55 rfl) (by decide) (by decide)) (g := (mkF m 150 #[.val (.int p1), .val (.int p2), .val (.int p3), .val (.long p4), .second, .val (.int p5), .val (.int p6), .val (.int p1), .val (.int p2), .val (.int p3), .val (.int (p1 + (1 : Int32))), .val (.int (p2 - (1 : Int32))), .val (.int ((p4 &&& (1023 : Int64)).toInt32)), .val (.int (((XT.ushrL p4 (10 : Int32)) &&& (1023 : Int64)).toInt32)), .val (.int (((XT.ushrL p4 (20 : Int32)) &&& (1023 : Int64)).toInt32)), .val (.int (((XT.ushrL p4 (30 : Int32)) &&& (1023 : Int64)).toInt32)), .val (.int (((XT.ushrL p4 (40 : Int32)) &&& (1023 : Int64)).toInt32)), .val (.ref b315), .val (.long (own_tot p5 p6 zt_407)), .second, .unset, .unset] [(.int p6), (.int p5), (.long (((p4 &&& (1023 : Int64)).toInt32).toInt64)), (.int p1)])) rfl hml.symm  (argsL := [(.int p1), (.long (((p4 &&& (1023 : Int64)).toInt32).toInt64)), (.int p5), (.int p6)]) (rest := []) (lenOf own_pd9 rfl) rfl (by show 2 * 0 + _ ≤ _; exact Nat.le_of_eq rfl) (hb hby at_150) (fun _ _ => ⟨rfl, e419, (by decide : 5 + 0 ≤ 24), (by decide : 27 + 0 ≤ 128)⟩)
    dsimp only [Pt.U, Pt.locs, Pt.cells, Pt.slots] at X422 l422 y422 z422 st422 hQ422
    subst l422 y422 z422
    obtain ⟨rfl, N422, e422⟩ := hQ422
    have N423 := Fr.app N421 N422
    refine own_st (T' := T422) (g' := (mkF m 153 #[.val (.int p1), .val (.int p2), .val (.int p3), .val (.long p4), .second, .val (.int p5), .val (.int p6), .val (.int p1), .val (.int p2), .val (.int p3), .val (.int (p1 + (1 : Int32))), .val (.int (p2 - (1 : Int32))), .val (.int ((p4 &&& (1023 : Int64)).toInt32)), .val (.int (((XT.ushrL p4 (10 : Int32)) &&& (1023 : Int64)).toInt32)), .val (.int (((XT.ushrL p4 (20 : Int32)) &&& (1023 : Int64)).toInt32)), .val (.int (((XT.ushrL p4 (30 : Int32)) &&& (1023 : Int64)).toInt32)), .val (.int (((XT.ushrL p4 (40 : Int32)) &&& (1023 : Int64)).toInt32)), .val (.ref b315), .val (.long (own_tot p5 p6 zt_407)), .second, .unset, .unset] [(.long (own_pt p1 (((p4 &&& (1023 : Int64)).toInt32).toInt64) p5 p6))])) st422 ?_
    refine own_st (T' := T422) (g' := (mkF m 162 #[.val (.int p1), .val (.int p2), .val (.int p3), .val (.long p4), .second, .val (.int p5), .val (.int p6), .val (.int p1), .val (.int p2), .val (.int p3), .val (.int (p1 + (1 : Int32))), .val (.int (p2 - (1 : Int32))), .val (.int ((p4 &&& (1023 : Int64)).toInt32)), .val (.int (((XT.ushrL p4 (10 : Int32)) &&& (1023 : Int64)).toInt32)), .val (.int (((XT.ushrL p4 (20 : Int32)) &&& (1023 : Int64)).toInt32)), .val (.int (((XT.ushrL p4 (30 : Int32)) &&& (1023 : Int64)).toInt32)), .val (.int (((XT.ushrL p4 (40 : Int32)) &&& (1023 : Int64)).toInt32)), .val (.ref b315), .val (.long (own_tot p5 p6 zt_407)), .second, .unset, .unset] [(.int p6), (.int p5), (.long ((((XT.ushrL p4 (10 : Int32)) &&& (1023 : Int64)).toInt32).toInt64)), (.int p2), (.long (own_pt p1 (((p4 &&& (1023 : Int64)).toInt32).toInt64) p5 p6))])) (fun _ kt => XS.iload X422.here hx rfl (hb hby at_153) rfl (XS.iload X422.here hx rfl (hb hby at_155) rfl (XT.i2l X422.here hx rfl (hb hby at_157) rfl (XS.iload X422.here hx rfl (hb hby at_158) rfl (XS.iload X422.here hx rfl (hb hby at_160) rfl kt))))) ?_
    obtain ⟨_, _, ⟨T424, L424, k424, n424⟩, -, X424, ⟨Lc424, hQ424, l424, y424, z424⟩, st424⟩ := Jvm.LawKit.callS X422 hx (y := (⟨"com/example/vestwright/vestwright/census/YearlyHoursHoursInPinLaw", "part", "(IJII)J"⟩ : MethodName)) hown (mvT hZ (own_k hw 53 rfl)) (mvT hZ (own_k hw 54 rfl)) (mvT hZ (own_k hw 55 rfl)) (mvT hZ (own_k hw 56 rfl)) (by decide) (backOf (W := 2) (own_pp l Z a0 hw [] p2 ((((XT.ushrL p4 (10 : Int32)) &&& (1023 : Int64)).toInt32).toInt64) p5 p6 T407.heap n0 Z418 ) hZ (own_k hw 56 rfl) (own_k hw 55 rfl) (by decide) (by decide)) (g := (mkF m 162 #[.val (.int p1), .val (.int p2), .val (.int p3), .val (.long p4), .second, .val (.int p5), .val (.int p6), .val (.int p1), .val (.int p2), .val (.int p3), .val (.int (p1 + (1 : Int32))), .val (.int (p2 - (1 : Int32))), .val (.int ((p4 &&& (1023 : Int64)).toInt32)), .val (.int (((XT.ushrL p4 (10 : Int32)) &&& (1023 : Int64)).toInt32)), .val (.int (((XT.ushrL p4 (20 : Int32)) &&& (1023 : Int64)).toInt32)), .val (.int (((XT.ushrL p4 (30 : Int32)) &&& (1023 : Int64)).toInt32)), .val (.int (((XT.ushrL p4 (40 : Int32)) &&& (1023 : Int64)).toInt32)), .val (.ref b315), .val (.long (own_tot p5 p6 zt_407)), .second, .unset, .unset] [(.int p6), (.int p5), (.long ((((XT.ushrL p4 (10 : Int32)) &&& (1023 : Int64)).toInt32).toInt64)), (.int p2), (.long (own_pt p1 (((p4 &&& (1023 : Int64)).toInt32).toInt64) p5 p6))])) rfl hml.symm  (argsL := [(.int p2), (.long ((((XT.ushrL p4 (10 : Int32)) &&& (1023 : Int64)).toInt32).toInt64)), (.int p5), (.int p6)]) (rest := [(.long (own_pt p1 (((p4 &&& (1023 : Int64)).toInt32).toInt64) p5 p6))]) (lenOf own_pd9 rfl) rfl (by show 2 * 0 + _ ≤ _; exact Nat.le_of_eq rfl) (hb hby at_162) (fun _ _ => ⟨rfl, e422, (by decide : 5 + 0 ≤ 24), (by decide : 27 + 0 ≤ 128)⟩)
    dsimp only [Pt.U, Pt.locs, Pt.cells, Pt.slots] at X424 l424 y424 z424 st424 hQ424
    subst l424 y424 z424
    obtain ⟨rfl, N424, e424⟩ := hQ424
    have N425 := Fr.app N423 N424
    refine own_st (T' := T424) (g' := (mkF m 165 #[.val (.int p1), .val (.int p2), .val (.int p3), .val (.long p4), .second, .val (.int p5), .val (.int p6), .val (.int p1), .val (.int p2), .val (.int p3), .val (.int (p1 + (1 : Int32))), .val (.int (p2 - (1 : Int32))), .val (.int ((p4 &&& (1023 : Int64)).toInt32)), .val (.int (((XT.ushrL p4 (10 : Int32)) &&& (1023 : Int64)).toInt32)), .val (.int (((XT.ushrL p4 (20 : Int32)) &&& (1023 : Int64)).toInt32)), .val (.int (((XT.ushrL p4 (30 : Int32)) &&& (1023 : Int64)).toInt32)), .val (.int (((XT.ushrL p4 (40 : Int32)) &&& (1023 : Int64)).toInt32)), .val (.ref b315), .val (.long (own_tot p5 p6 zt_407)), .second, .unset, .unset] [(.long (own_pt p2 ((((XT.ushrL p4 (10 : Int32)) &&& (1023 : Int64)).toInt32).toInt64) p5 p6)), (.long (own_pt p1 (((p4 &&& (1023 : Int64)).toInt32).toInt64) p5 p6))])) st424 ?_
    refine own_st (T' := T424) (g' := (mkF m 175 #[.val (.int p1), .val (.int p2), .val (.int p3), .val (.long p4), .second, .val (.int p5), .val (.int p6), .val (.int p1), .val (.int p2), .val (.int p3), .val (.int (p1 + (1 : Int32))), .val (.int (p2 - (1 : Int32))), .val (.int ((p4 &&& (1023 : Int64)).toInt32)), .val (.int (((XT.ushrL p4 (10 : Int32)) &&& (1023 : Int64)).toInt32)), .val (.int (((XT.ushrL p4 (20 : Int32)) &&& (1023 : Int64)).toInt32)), .val (.int (((XT.ushrL p4 (30 : Int32)) &&& (1023 : Int64)).toInt32)), .val (.int (((XT.ushrL p4 (40 : Int32)) &&& (1023 : Int64)).toInt32)), .val (.ref b315), .val (.long (own_tot p5 p6 zt_407)), .second, .unset, .unset] [(.int p6), (.int p5), (.long ((((XT.ushrL p4 (20 : Int32)) &&& (1023 : Int64)).toInt32).toInt64)), (.int p3), (.long ((own_pt p1 (((p4 &&& (1023 : Int64)).toInt32).toInt64) p5 p6) + (own_pt p2 ((((XT.ushrL p4 (10 : Int32)) &&& (1023 : Int64)).toInt32).toInt64) p5 p6)))])) (fun _ kt => XT.ladd X424.here hx rfl (hb hby at_165) rfl (XS.iload X424.here hx rfl (hb hby at_166) rfl (XS.iload X424.here hx rfl (hb hby at_168) rfl (XT.i2l X424.here hx rfl (hb hby at_170) rfl (XS.iload X424.here hx rfl (hb hby at_171) rfl (XS.iload X424.here hx rfl (hb hby at_173) rfl kt)))))) ?_
    obtain ⟨_, _, ⟨T426, L426, k426, n426⟩, -, X426, ⟨Lc426, hQ426, l426, y426, z426⟩, st426⟩ := Jvm.LawKit.callS X424 hx (y := (⟨"com/example/vestwright/vestwright/census/YearlyHoursHoursInPinLaw", "part", "(IJII)J"⟩ : MethodName)) hown (mvT hZ (own_k hw 53 rfl)) (mvT hZ (own_k hw 54 rfl)) (mvT hZ (own_k hw 55 rfl)) (mvT hZ (own_k hw 56 rfl)) (by decide) (backOf (W := 2) (own_pp l Z a0 hw [] p3 ((((XT.ushrL p4 (20 : Int32)) &&& (1023 : Int64)).toInt32).toInt64) p5 p6 T407.heap n0 Z418 ) hZ (own_k hw 56 rfl) (own_k hw 55 rfl) (by decide) (by decide)) (g := (mkF m 175 #[.val (.int p1), .val (.int p2), .val (.int p3), .val (.long p4), .second, .val (.int p5), .val (.int p6), .val (.int p1), .val (.int p2), .val (.int p3), .val (.int (p1 + (1 : Int32))), .val (.int (p2 - (1 : Int32))), .val (.int ((p4 &&& (1023 : Int64)).toInt32)), .val (.int (((XT.ushrL p4 (10 : Int32)) &&& (1023 : Int64)).toInt32)), .val (.int (((XT.ushrL p4 (20 : Int32)) &&& (1023 : Int64)).toInt32)), .val (.int (((XT.ushrL p4 (30 : Int32)) &&& (1023 : Int64)).toInt32)), .val (.int (((XT.ushrL p4 (40 : Int32)) &&& (1023 : Int64)).toInt32)), .val (.ref b315), .val (.long (own_tot p5 p6 zt_407)), .second, .unset, .unset] [(.int p6), (.int p5), (.long ((((XT.ushrL p4 (20 : Int32)) &&& (1023 : Int64)).toInt32).toInt64)), (.int p3), (.long ((own_pt p1 (((p4 &&& (1023 : Int64)).toInt32).toInt64) p5 p6) + (own_pt p2 ((((XT.ushrL p4 (10 : Int32)) &&& (1023 : Int64)).toInt32).toInt64) p5 p6)))])) rfl hml.symm  (argsL := [(.int p3), (.long ((((XT.ushrL p4 (20 : Int32)) &&& (1023 : Int64)).toInt32).toInt64)), (.int p5), (.int p6)]) (rest := [(.long ((own_pt p1 (((p4 &&& (1023 : Int64)).toInt32).toInt64) p5 p6) + (own_pt p2 ((((XT.ushrL p4 (10 : Int32)) &&& (1023 : Int64)).toInt32).toInt64) p5 p6)))]) (lenOf own_pd9 rfl) rfl (by show 2 * 0 + _ ≤ _; exact Nat.le_of_eq rfl) (hb hby at_175) (fun _ _ => ⟨rfl, e424, (by decide : 5 + 0 ≤ 24), (by decide : 27 + 0 ≤ 128)⟩)
    dsimp only [Pt.U, Pt.locs, Pt.cells, Pt.slots] at X426 l426 y426 z426 st426 hQ426
    subst l426 y426 z426
    obtain ⟨rfl, N426, e426⟩ := hQ426
    have N427 := Fr.app N425 N426
    refine own_st (T' := T426) (g' := (mkF m 178 #[.val (.int p1), .val (.int p2), .val (.int p3), .val (.long p4), .second, .val (.int p5), .val (.int p6), .val (.int p1), .val (.int p2), .val (.int p3), .val (.int (p1 + (1 : Int32))), .val (.int (p2 - (1 : Int32))), .val (.int ((p4 &&& (1023 : Int64)).toInt32)), .val (.int (((XT.ushrL p4 (10 : Int32)) &&& (1023 : Int64)).toInt32)), .val (.int (((XT.ushrL p4 (20 : Int32)) &&& (1023 : Int64)).toInt32)), .val (.int (((XT.ushrL p4 (30 : Int32)) &&& (1023 : Int64)).toInt32)), .val (.int (((XT.ushrL p4 (40 : Int32)) &&& (1023 : Int64)).toInt32)), .val (.ref b315), .val (.long (own_tot p5 p6 zt_407)), .second, .unset, .unset] [(.long (own_pt p3 ((((XT.ushrL p4 (20 : Int32)) &&& (1023 : Int64)).toInt32).toInt64) p5 p6)), (.long ((own_pt p1 (((p4 &&& (1023 : Int64)).toInt32).toInt64) p5 p6) + (own_pt p2 ((((XT.ushrL p4 (10 : Int32)) &&& (1023 : Int64)).toInt32).toInt64) p5 p6)))])) st426 ?_
    refine own_st (T' := T426) (g' := (mkF m 188 #[.val (.int p1), .val (.int p2), .val (.int p3), .val (.long p4), .second, .val (.int p5), .val (.int p6), .val (.int p1), .val (.int p2), .val (.int p3), .val (.int (p1 + (1 : Int32))), .val (.int (p2 - (1 : Int32))), .val (.int ((p4 &&& (1023 : Int64)).toInt32)), .val (.int (((XT.ushrL p4 (10 : Int32)) &&& (1023 : Int64)).toInt32)), .val (.int (((XT.ushrL p4 (20 : Int32)) &&& (1023 : Int64)).toInt32)), .val (.int (((XT.ushrL p4 (30 : Int32)) &&& (1023 : Int64)).toInt32)), .val (.int (((XT.ushrL p4 (40 : Int32)) &&& (1023 : Int64)).toInt32)), .val (.ref b315), .val (.long (own_tot p5 p6 zt_407)), .second, .unset, .unset] [(.int p6), (.int p5), (.long ((((XT.ushrL p4 (30 : Int32)) &&& (1023 : Int64)).toInt32).toInt64)), (.int (p1 + (1 : Int32))), (.long (((own_pt p1 (((p4 &&& (1023 : Int64)).toInt32).toInt64) p5 p6) + (own_pt p2 ((((XT.ushrL p4 (10 : Int32)) &&& (1023 : Int64)).toInt32).toInt64) p5 p6)) + (own_pt p3 ((((XT.ushrL p4 (20 : Int32)) &&& (1023 : Int64)).toInt32).toInt64) p5 p6)))])) (fun _ kt => XT.ladd X426.here hx rfl (hb hby at_178) rfl (XS.iload X426.here hx rfl (hb hby at_179) rfl (XS.iload X426.here hx rfl (hb hby at_181) rfl (XT.i2l X426.here hx rfl (hb hby at_183) rfl (XS.iload X426.here hx rfl (hb hby at_184) rfl (XS.iload X426.here hx rfl (hb hby at_186) rfl kt)))))) ?_
    obtain ⟨_, _, ⟨T428, L428, k428, n428⟩, -, X428, ⟨Lc428, hQ428, l428, y428, z428⟩, st428⟩ := Jvm.LawKit.callS X426 hx (y := (⟨"com/example/vestwright/vestwright/census/YearlyHoursHoursInPinLaw", "part", "(IJII)J"⟩ : MethodName)) hown (mvT hZ (own_k hw 53 rfl)) (mvT hZ (own_k hw 54 rfl)) (mvT hZ (own_k hw 55 rfl)) (mvT hZ (own_k hw 56 rfl)) (by decide) (backOf (W := 2) (own_pp l Z a0 hw [] (p1 + (1 : Int32)) ((((XT.ushrL p4 (30 : Int32)) &&& (1023 : Int64)).toInt32).toInt64) p5 p6 T407.heap n0 Z418 ) hZ (own_k hw 56 rfl) (own_k hw 55 rfl) (by decide) (by decide)) (g := (mkF m 188 #[.val (.int p1), .val (.int p2), .val (.int p3), .val (.long p4), .second, .val (.int p5), .val (.int p6), .val (.int p1), .val (.int p2), .val (.int p3), .val (.int (p1 + (1 : Int32))), .val (.int (p2 - (1 : Int32))), .val (.int ((p4 &&& (1023 : Int64)).toInt32)), .val (.int (((XT.ushrL p4 (10 : Int32)) &&& (1023 : Int64)).toInt32)), .val (.int (((XT.ushrL p4 (20 : Int32)) &&& (1023 : Int64)).toInt32)), .val (.int (((XT.ushrL p4 (30 : Int32)) &&& (1023 : Int64)).toInt32)), .val (.int (((XT.ushrL p4 (40 : Int32)) &&& (1023 : Int64)).toInt32)), .val (.ref b315), .val (.long (own_tot p5 p6 zt_407)), .second, .unset, .unset] [(.int p6), (.int p5), (.long ((((XT.ushrL p4 (30 : Int32)) &&& (1023 : Int64)).toInt32).toInt64)), (.int (p1 + (1 : Int32))), (.long (((own_pt p1 (((p4 &&& (1023 : Int64)).toInt32).toInt64) p5 p6) + (own_pt p2 ((((XT.ushrL p4 (10 : Int32)) &&& (1023 : Int64)).toInt32).toInt64) p5 p6)) + (own_pt p3 ((((XT.ushrL p4 (20 : Int32)) &&& (1023 : Int64)).toInt32).toInt64) p5 p6)))])) rfl hml.symm  (argsL := [(.int (p1 + (1 : Int32))), (.long ((((XT.ushrL p4 (30 : Int32)) &&& (1023 : Int64)).toInt32).toInt64)), (.int p5), (.int p6)]) (rest := [(.long (((own_pt p1 (((p4 &&& (1023 : Int64)).toInt32).toInt64) p5 p6) + (own_pt p2 ((((XT.ushrL p4 (10 : Int32)) &&& (1023 : Int64)).toInt32).toInt64) p5 p6)) + (own_pt p3 ((((XT.ushrL p4 (20 : Int32)) &&& (1023 : Int64)).toInt32).toInt64) p5 p6)))]) (lenOf own_pd9 rfl) rfl (by show 2 * 0 + _ ≤ _; exact Nat.le_of_eq rfl) (hb hby at_188) (fun _ _ => ⟨rfl, e426, (by decide : 5 + 0 ≤ 24), (by decide : 27 + 0 ≤ 128)⟩)
    dsimp only [Pt.U, Pt.locs, Pt.cells, Pt.slots] at X428 l428 y428 z428 st428 hQ428
    subst l428 y428 z428
    obtain ⟨rfl, N428, e428⟩ := hQ428
    have N429 := Fr.app N427 N428
    refine own_st (T' := T428) (g' := (mkF m 191 #[.val (.int p1), .val (.int p2), .val (.int p3), .val (.long p4), .second, .val (.int p5), .val (.int p6), .val (.int p1), .val (.int p2), .val (.int p3), .val (.int (p1 + (1 : Int32))), .val (.int (p2 - (1 : Int32))), .val (.int ((p4 &&& (1023 : Int64)).toInt32)), .val (.int (((XT.ushrL p4 (10 : Int32)) &&& (1023 : Int64)).toInt32)), .val (.int (((XT.ushrL p4 (20 : Int32)) &&& (1023 : Int64)).toInt32)), .val (.int (((XT.ushrL p4 (30 : Int32)) &&& (1023 : Int64)).toInt32)), .val (.int (((XT.ushrL p4 (40 : Int32)) &&& (1023 : Int64)).toInt32)), .val (.ref b315), .val (.long (own_tot p5 p6 zt_407)), .second, .unset, .unset] [(.long (own_pt (p1 + (1 : Int32)) ((((XT.ushrL p4 (30 : Int32)) &&& (1023 : Int64)).toInt32).toInt64) p5 p6)), (.long (((own_pt p1 (((p4 &&& (1023 : Int64)).toInt32).toInt64) p5 p6) + (own_pt p2 ((((XT.ushrL p4 (10 : Int32)) &&& (1023 : Int64)).toInt32).toInt64) p5 p6)) + (own_pt p3 ((((XT.ushrL p4 (20 : Int32)) &&& (1023 : Int64)).toInt32).toInt64) p5 p6)))])) st428 ?_
    refine own_st (T' := T428) (g' := (mkF m 201 #[.val (.int p1), .val (.int p2), .val (.int p3), .val (.long p4), .second, .val (.int p5), .val (.int p6), .val (.int p1), .val (.int p2), .val (.int p3), .val (.int (p1 + (1 : Int32))), .val (.int (p2 - (1 : Int32))), .val (.int ((p4 &&& (1023 : Int64)).toInt32)), .val (.int (((XT.ushrL p4 (10 : Int32)) &&& (1023 : Int64)).toInt32)), .val (.int (((XT.ushrL p4 (20 : Int32)) &&& (1023 : Int64)).toInt32)), .val (.int (((XT.ushrL p4 (30 : Int32)) &&& (1023 : Int64)).toInt32)), .val (.int (((XT.ushrL p4 (40 : Int32)) &&& (1023 : Int64)).toInt32)), .val (.ref b315), .val (.long (own_tot p5 p6 zt_407)), .second, .unset, .unset] [(.int p6), (.int p5), (.long ((((XT.ushrL p4 (40 : Int32)) &&& (1023 : Int64)).toInt32).toInt64)), (.int (p2 - (1 : Int32))), (.long ((((own_pt p1 (((p4 &&& (1023 : Int64)).toInt32).toInt64) p5 p6) + (own_pt p2 ((((XT.ushrL p4 (10 : Int32)) &&& (1023 : Int64)).toInt32).toInt64) p5 p6)) + (own_pt p3 ((((XT.ushrL p4 (20 : Int32)) &&& (1023 : Int64)).toInt32).toInt64) p5 p6)) + (own_pt (p1 + (1 : Int32)) ((((XT.ushrL p4 (30 : Int32)) &&& (1023 : Int64)).toInt32).toInt64) p5 p6)))])) (fun _ kt => XT.ladd X428.here hx rfl (hb hby at_191) rfl (XS.iload X428.here hx rfl (hb hby at_192) rfl (XS.iload X428.here hx rfl (hb hby at_194) rfl (XT.i2l X428.here hx rfl (hb hby at_196) rfl (XS.iload X428.here hx rfl (hb hby at_197) rfl (XS.iload X428.here hx rfl (hb hby at_199) rfl kt)))))) ?_
    obtain ⟨_, _, ⟨T430, L430, k430, n430⟩, -, X430, ⟨Lc430, hQ430, l430, y430, z430⟩, st430⟩ := Jvm.LawKit.callS X428 hx (y := (⟨"com/example/vestwright/vestwright/census/YearlyHoursHoursInPinLaw", "part", "(IJII)J"⟩ : MethodName)) hown (mvT hZ (own_k hw 53 rfl)) (mvT hZ (own_k hw 54 rfl)) (mvT hZ (own_k hw 55 rfl)) (mvT hZ (own_k hw 56 rfl)) (by decide) (backOf (W := 2) (own_pp l Z a0 hw [] (p2 - (1 : Int32)) ((((XT.ushrL p4 (40 : Int32)) &&& (1023 : Int64)).toInt32).toInt64) p5 p6 T407.heap n0 Z418 ) hZ (own_k hw 56 rfl) (own_k hw 55 rfl) (by decide) (by decide)) (g := (mkF m 201 #[.val (.int p1), .val (.int p2), .val (.int p3), .val (.long p4), .second, .val (.int p5), .val (.int p6), .val (.int p1), .val (.int p2), .val (.int p3), .val (.int (p1 + (1 : Int32))), .val (.int (p2 - (1 : Int32))), .val (.int ((p4 &&& (1023 : Int64)).toInt32)), .val (.int (((XT.ushrL p4 (10 : Int32)) &&& (1023 : Int64)).toInt32)), .val (.int (((XT.ushrL p4 (20 : Int32)) &&& (1023 : Int64)).toInt32)), .val (.int (((XT.ushrL p4 (30 : Int32)) &&& (1023 : Int64)).toInt32)), .val (.int (((XT.ushrL p4 (40 : Int32)) &&& (1023 : Int64)).toInt32)), .val (.ref b315), .val (.long (own_tot p5 p6 zt_407)), .second, .unset, .unset] [(.int p6), (.int p5), (.long ((((XT.ushrL p4 (40 : Int32)) &&& (1023 : Int64)).toInt32).toInt64)), (.int (p2 - (1 : Int32))), (.long ((((own_pt p1 (((p4 &&& (1023 : Int64)).toInt32).toInt64) p5 p6) + (own_pt p2 ((((XT.ushrL p4 (10 : Int32)) &&& (1023 : Int64)).toInt32).toInt64) p5 p6)) + (own_pt p3 ((((XT.ushrL p4 (20 : Int32)) &&& (1023 : Int64)).toInt32).toInt64) p5 p6)) + (own_pt (p1 + (1 : Int32)) ((((XT.ushrL p4 (30 : Int32)) &&& (1023 : Int64)).toInt32).toInt64) p5 p6)))])) rfl hml.symm  (argsL := [(.int (p2 - (1 : Int32))), (.long ((((XT.ushrL p4 (40 : Int32)) &&& (1023 : Int64)).toInt32).toInt64)), (.int p5), (.int p6)]) (rest := [(.long ((((own_pt p1 (((p4 &&& (1023 : Int64)).toInt32).toInt64) p5 p6) + (own_pt p2 ((((XT.ushrL p4 (10 : Int32)) &&& (1023 : Int64)).toInt32).toInt64) p5 p6)) + (own_pt p3 ((((XT.ushrL p4 (20 : Int32)) &&& (1023 : Int64)).toInt32).toInt64) p5 p6)) + (own_pt (p1 + (1 : Int32)) ((((XT.ushrL p4 (30 : Int32)) &&& (1023 : Int64)).toInt32).toInt64) p5 p6)))]) (lenOf own_pd9 rfl) rfl (by show 2 * 0 + _ ≤ _; exact Nat.le_of_eq rfl) (hb hby at_201) (fun _ _ => ⟨rfl, e428, (by decide : 5 + 0 ≤ 24), (by decide : 27 + 0 ≤ 128)⟩)
    dsimp only [Pt.U, Pt.locs, Pt.cells, Pt.slots] at X430 l430 y430 z430 st430 hQ430
    subst l430 y430 z430
    obtain ⟨rfl, N430, e430⟩ := hQ430
    have N431 := Fr.app N429 N430
    refine own_st (T' := T430) (g' := (mkF m 204 #[.val (.int p1), .val (.int p2), .val (.int p3), .val (.long p4), .second, .val (.int p5), .val (.int p6), .val (.int p1), .val (.int p2), .val (.int p3), .val (.int (p1 + (1 : Int32))), .val (.int (p2 - (1 : Int32))), .val (.int ((p4 &&& (1023 : Int64)).toInt32)), .val (.int (((XT.ushrL p4 (10 : Int32)) &&& (1023 : Int64)).toInt32)), .val (.int (((XT.ushrL p4 (20 : Int32)) &&& (1023 : Int64)).toInt32)), .val (.int (((XT.ushrL p4 (30 : Int32)) &&& (1023 : Int64)).toInt32)), .val (.int (((XT.ushrL p4 (40 : Int32)) &&& (1023 : Int64)).toInt32)), .val (.ref b315), .val (.long (own_tot p5 p6 zt_407)), .second, .unset, .unset] [(.long (own_pt (p2 - (1 : Int32)) ((((XT.ushrL p4 (40 : Int32)) &&& (1023 : Int64)).toInt32).toInt64) p5 p6)), (.long ((((own_pt p1 (((p4 &&& (1023 : Int64)).toInt32).toInt64) p5 p6) + (own_pt p2 ((((XT.ushrL p4 (10 : Int32)) &&& (1023 : Int64)).toInt32).toInt64) p5 p6)) + (own_pt p3 ((((XT.ushrL p4 (20 : Int32)) &&& (1023 : Int64)).toInt32).toInt64) p5 p6)) + (own_pt (p1 + (1 : Int32)) ((((XT.ushrL p4 (30 : Int32)) &&& (1023 : Int64)).toInt32).toInt64) p5 p6)))])) st430 ?_
    refine own_st (T' := T430) (g' := (mkF m 220 #[.val (.int p1), .val (.int p2), .val (.int p3), .val (.long p4), .second, .val (.int p5), .val (.int p6), .val (.int p1), .val (.int p2), .val (.int p3), .val (.int (p1 + (1 : Int32))), .val (.int (p2 - (1 : Int32))), .val (.int ((p4 &&& (1023 : Int64)).toInt32)), .val (.int (((XT.ushrL p4 (10 : Int32)) &&& (1023 : Int64)).toInt32)), .val (.int (((XT.ushrL p4 (20 : Int32)) &&& (1023 : Int64)).toInt32)), .val (.int (((XT.ushrL p4 (30 : Int32)) &&& (1023 : Int64)).toInt32)), .val (.int (((XT.ushrL p4 (40 : Int32)) &&& (1023 : Int64)).toInt32)), .val (.ref b315), .val (.long (own_tot p5 p6 zt_407)), .second, .val (.long (((((own_pt p1 (((p4 &&& (1023 : Int64)).toInt32).toInt64) p5 p6) + (own_pt p2 ((((XT.ushrL p4 (10 : Int32)) &&& (1023 : Int64)).toInt32).toInt64) p5 p6)) + (own_pt p3 ((((XT.ushrL p4 (20 : Int32)) &&& (1023 : Int64)).toInt32).toInt64) p5 p6)) + (own_pt (p1 + (1 : Int32)) ((((XT.ushrL p4 (30 : Int32)) &&& (1023 : Int64)).toInt32).toInt64) p5 p6)) + (own_pt (p2 - (1 : Int32)) ((((XT.ushrL p4 (40 : Int32)) &&& (1023 : Int64)).toInt32).toInt64) p5 p6))), .second] [(.int (1 : Int32))])) (fun _ kt => XT.ladd X430.here hx rfl (hb hby at_204) rfl (XT.lstore X430.here hx rfl (hb hby at_205) rfl (l' := #[.val (.int p1), .val (.int p2), .val (.int p3), .val (.long p4), .second, .val (.int p5), .val (.int p6), .val (.int p1), .val (.int p2), .val (.int p3), .val (.int (p1 + (1 : Int32))), .val (.int (p2 - (1 : Int32))), .val (.int ((p4 &&& (1023 : Int64)).toInt32)), .val (.int (((XT.ushrL p4 (10 : Int32)) &&& (1023 : Int64)).toInt32)), .val (.int (((XT.ushrL p4 (20 : Int32)) &&& (1023 : Int64)).toInt32)), .val (.int (((XT.ushrL p4 (30 : Int32)) &&& (1023 : Int64)).toInt32)), .val (.int (((XT.ushrL p4 (40 : Int32)) &&& (1023 : Int64)).toInt32)), .val (.ref b315), .val (.long (own_tot p5 p6 zt_407)), .second, .val (.long (((((own_pt p1 (((p4 &&& (1023 : Int64)).toInt32).toInt64) p5 p6) + (own_pt p2 ((((XT.ushrL p4 (10 : Int32)) &&& (1023 : Int64)).toInt32).toInt64) p5 p6)) + (own_pt p3 ((((XT.ushrL p4 (20 : Int32)) &&& (1023 : Int64)).toInt32).toInt64) p5 p6)) + (own_pt (p1 + (1 : Int32)) ((((XT.ushrL p4 (30 : Int32)) &&& (1023 : Int64)).toInt32).toInt64) p5 p6)) + (own_pt (p2 - (1 : Int32)) ((((XT.ushrL p4 (40 : Int32)) &&& (1023 : Int64)).toInt32).toInt64) p5 p6))), .second]) rfl (XT.lload X430.here hx rfl (hb hby at_207) rfl (XT.lload X430.here hx rfl (hb hby at_209) rfl (XT.lcmp X430.here hx rfl (hb hby at_211) rfl (XS.ifNo X430.here hx rfl (hb hby at_212) rfl (XT.ll_ne_f (by have q1 := q342.2.2.2 p5 p6; have q2 := q354.2.2.2 p5 p6; have q3 := q366.2.2.2 p5 p6; have q4 := q378.2.2.2 p5 p6; have q5 := q415.2.2.2 p5 p6; rw [q5, q4, q3, q2, q1, show own_tot p5 p6 [] = 0 from rfl, Int64.zero_add]; rfl)) (XS.iconst X430.here hx rfl (hb hby at_215) (XS.goto X430.here hx rfl (pc0 := 216) (pc' := 220) rfl (hb hby at_216) (by decide) (by decide) kt)))))))) ?_
    obtain ⟨fs, hr, hrun, hended, hW, hsame⟩ := X430.leave (v := some (.int (1 : Int32))) (fun h => by rw [Bd.returns] at h; cases h)
    refine own_end (retN X430 hx (t := .boolean) Bd.returns (by simp) (hb hby at_220) hr) ⟨_, hrun, hended, _, _, rfl, ?_, ⟨_, rfl⟩, hW, hsame.mono (by decide) (by decide)⟩
    show own_lawQ Z _ _ _ _ _ _ h0 n0 _ T430.heap _
    rw [e430]
    exact ⟨rfl, N431⟩
set_option maxRecDepth 65536 in
set_option maxHeartbeats 40000000 in
theorem comes_1 {Post : Tables → Env → Array Value → State → Outcome → State → Prop} (hpost : ∀ tb e args s v u, (limb_1_1.after args s (.returned v) u = true ∧ limb_1_2.after args s (.returned v) u = true ∧ True) → FrameEnd s (.returned v) u (Jvm.fieldLocs frame_1_writes args s ++ Jvm.arrayLocs frame_1_arrays args s ++ Jvm.staticLocs frame_1_statics s) 24 128 → Post tb e args s (.returned v) u) :
    ArmFor flags0 classFile x code maxLocals ret World_1 tables_1 room_1 Calls_1 rest_1 Pre_1 Post := by
  intro l hfl _ _ p e ha hc hk s m args below hf hA hF happ hP
  obtain ⟨hcalls, hrest, hpre⟩ := hP
  obtain ⟨-, -, -, hnamed, -, -, -, hat⟩ := (Spec.applies_iff hf).mp happ
  obtain ⟨hg, hn⟩ := and_e (Cond.before_iff.mp (show (Jvm.Cond.and given_1 narrow_1).before args s = true from hpre))
  obtain ⟨g0, hg⟩ := and_e hg
  obtain ⟨g1, hg⟩ := and_e hg
  obtain ⟨g2, hg⟩ := and_e hg
  obtain ⟨g3, hg⟩ := and_e hg
  obtain ⟨g4, hg⟩ := and_e hg
  obtain ⟨g5, hg⟩ := and_e hg
  obtain ⟨w0, w1, w2, w3, w4, w5, rfl⟩ : ∃ w0 w1 w2 w3 w4 w5 : Value, args = #[w0, w1, w2, w3, w4, w5] := by
    have hs : args.size = 6 := by simpa [Cond.value, given_1] using g0
    obtain ⟨L⟩ := args
    match L, hs with
    | [w0, w1, w2, w3, w4, w5], _ => exact ⟨w0, w1, w2, w3, w4, w5, rfl⟩
  have hw := fun d (hd : d ∈ tables_1) => atoms_spec (ws := Jvm.Cond.code x code maxLocals ret :: tables_1) hat d (List.mem_cons_of_mem _ hd)
  have hfit : Fit s := fun {y c} hc i hi => by
    obtain ⟨ha, rfl⟩ := Array.getElem?_eq_some_iff.mp hc
    have q := List.all_eq_true.mp ((Array.all_eq_true_iff_forall_mem.mp hF) _ (Array.getElem_mem ha)) i (List.mem_range.mpr hi)
    simpa [Array.getElem?_eq_getElem hi] using q
  obtain ⟨i0, e0⟩ := is_v g1
  obtain rfl : w0 = (.int i0) := Option.some.inj e0
  obtain ⟨i1, e1⟩ := is_v g2
  obtain rfl : w1 = (.int i1) := Option.some.inj e1
  obtain ⟨i2, e2⟩ := is_v g3
  obtain rfl : w2 = (.int i2) := Option.some.inj e2
  obtain ⟨i3, e3⟩ := isL_v g4
  obtain rfl : w3 = (.long i3) := Option.some.inj e3
  obtain ⟨i4, e4⟩ := is_v g5
  obtain rfl : w4 = (.int i4) := Option.some.inj e4
  obtain ⟨i5, e5⟩ := is_v hg
  obtain rfl : w5 = (.int i5) := Option.some.inj e5
  obtain ⟨n, o, h1, h2, h3, _, L, rfl, ⟨rfl, N⟩, hq⟩ := own_law l s _ hw tables_1 i0 i1 i2 i3 i4 i5 s.heap s.heap.size (Nat.le_refl _)  p e ha hc hk s m _ below hf ((Spec.applies_iff_loose hf).mp happ).1 ⟨rfl, State.Warmed39.refl s, rfl⟩ trivial
  refine ⟨n, _, h1, h2, h3, hpost _ _ _ _ _ _ ⟨Cond.after_iff.mpr rfl, Cond.after_iff.mpr (eq_i res_at (Term.int_eval (1)) rfl), trivial⟩ ⟨hq.1, hq.2.1, (hq.2.2.sift fun y hy => Or.inr (N y hy)).mono (by decide) (by decide)⟩⟩
theorem main_1_1 : Claimed_1_1 := comes_1 fun _ _ _ _ _ _ h hF => ⟨h.1, hF⟩
theorem main_1_2 : Claimed_1_2 := comes_1 fun _ _ _ _ _ _ h hF => ⟨h.2.1, hF⟩
end Jvm.Pilot.@@N@@
namespace Jvm.Pilot.@@N@@
open Jvm Jvm.ClassFile Sem Op Lib Jvm.Free Jvm.Stand Jvm.Pilot.@@N@@.Jvm.D
/-! MADE BY PROGRAM (witnessworld.py) out of the Statement's table words and the real class files: 12 classes; the members and pool entries that the words name. The judged class is class 1, her method 2. -/
namespace start1
open Jvm.ClassFile
def u (s : String) : CpInfo := .utf8 (stringToUtf16 s)
/-- a pool by its gaps: so many unusable entries, then the entry; so many at the end -/
def gap : Nat → List CpInfo → List CpInfo
  | 0, r => r
  | n + 1, r => .unusable :: gap n r
def poolList (es : List (Nat × CpInfo)) (last : Nat) : List CpInfo := es.foldr (fun e r => gap e.1 (e.2 :: r)) (gap last [])
def pool (es : List (Nat × CpInfo)) (last : Nat) : Array CpInfo := ⟨poolList es last⟩
def fileOf (pool : Array CpInfo) (this : Nat) (attrs : Array Attribute := #[]) (ms : Array MethodInfo := #[]) (fl : Nat := 33) (sup : Nat := 0) (ifs : Array Nat := #[]) (fds : Array FieldInfo := #[]) : ClassFile where
  minorVersion := 0
  majorVersion := 65
  constantPool := pool
  accessFlags := fl
  thisClass := this
  superClass := sup
  interfaces := ifs
  fields := fds
  methods := ms
  attributes := attrs
def plain (name : String) (sup : Option ClassId) : Class where
  name := name
  kind := .ordinary
  loader := none
  accessFlags := 33
  super := sup
  interfaces := #[]
  cf := none
  fields := #[]
  methods := #[]
  instanceTypes := #[]
  staticTypes := #[]
  resolved := #[]
  callSites := []
  init := .initialized
  statics := none
  mirror := none

def pool0 : Array CpInfo := pool [(5, u "<init>"), (0, u "()V"), (1, .class_ 10), (1, u "java/lang/Object")] 113

def k0c0 : Code := { maxStack := 0, maxLocals := 1, code := object_method_1_code, exceptionTable := #[], attributes := #[] }
def k0m0 : Method := { name := "<init>", desc := "()V", sig := { parameters := [], returnType := none }, accessFlags := 1, code := some k0c0 }
/-- java/lang/Object -/
def k0 : Class := { plain "java/lang/Object" none with
  accessFlags := 33
  interfaces := #[]
  cf := some (fileOf pool0 8 #[] #[{ accessFlags := 1, nameIndex := 5, descriptorIndex := 6, attributes := #[] }] 33 0 #[] #[])
  fields := #[]
  methods := #[k0m0]
  instanceTypes := #[]
  staticTypes := #[]
  resolved := Array.replicate 124 none
  statics := none }

def pool1 : Array CpInfo := pool [(2, .class_ 4), (0, .nameAndType 5 6), (0, u "java/lang/Object"), (0, u "<init>"), (0, u "()V"), (0, .long 1023), (1, .class_ 10), (0, u "com/example/vestwright/vestwright/census/YearlyHours"), (0, .methodref 9 3), (0, .methodref 9 13), (0, .nameAndType 14 15), (0, u "add"), (0, u "(II)J"), (0, .methodref 9 17), (0, .nameAndType 18 15), (0, u "hoursIn"), (0, .methodref 20 21), (0, .class_ 22), (0, .nameAndType 23 24), (0, u "com/example/vestwright/vestwright/census/YearlyHoursHoursInPinLaw"), (0, u "part"), (0, u "(IJII)J"), (3, u "law"), (0, u "(IIIJII)Z")] 2

def k1m0 : Method := { name := "<init>", desc := "()V", sig := { parameters := [], returnType := none }, accessFlags := 2, code := none }
def k1c1 : Code := { maxStack := 2, maxLocals := 5, code := method_2_code, exceptionTable := #[], attributes := #[] }
def k1m1 : Method := { name := "part", desc := "(IJII)J", sig := { parameters := [.int, .long, .int, .int], returnType := some .long }, accessFlags := 10, code := some k1c1 }
def k1c2 : Code := { maxStack := 7, maxLocals := 22, code := code, exceptionTable := #[], attributes := #[] }
def k1m2 : Method := { name := "law", desc := "(IIIJII)Z", sig := { parameters := [.int, .int, .int, .long, .int, .int], returnType := some .boolean }, accessFlags := 9, code := some k1c2 }
/-- com/example/vestwright/vestwright/census/YearlyHoursHoursInPinLaw -/
def k1 : Class := { plain "com/example/vestwright/vestwright/census/YearlyHoursHoursInPinLaw" (some 0) with
  accessFlags := 49
  interfaces := #[]
  cf := some (fileOf pool1 20 #[] #[{ accessFlags := 2, nameIndex := 5, descriptorIndex := 6, attributes := #[] }, { accessFlags := 10, nameIndex := 23, descriptorIndex := 24, attributes := #[] }, { accessFlags := 9, nameIndex := 28, descriptorIndex := 29, attributes := #[] }] 49 2 #[] #[])
  fields := #[]
  methods := #[k1m0, k1m1, k1m2]
  instanceTypes := #[]
  staticTypes := #[]
  resolved := Array.replicate 32 none
  statics := none }

def pool2 : Array CpInfo := pool [(1, .methodref 2 3), (0, .class_ 4), (0, .nameAndType 5 6), (0, u "java/lang/Object"), (0, u "<init>"), (0, u "()V"), (0, .class_ 8), (0, u "com/example/vestwright/vestwright/census/YearlyHours"), (0, .fieldref 7 10), (0, .nameAndType 11 12), (0, u "years"), (0, u "[I"), (0, .fieldref 7 14), (0, .nameAndType 15 12), (0, u "hours"), (0, .methodref 7 17), (0, .nameAndType 18 19), (0, u "indexOf"), (0, u "(I)I"), (0, .methodref 7 21), (0, .nameAndType 22 23), (0, u "insert"), (0, u "(II)V"), (0, .methodref 7 25), (0, .nameAndType 26 19), (0, u "indexFrom"), (0, .fieldref 7 28), (0, .nameAndType 29 30), (0, u "size"), (0, u "I"), (16, .methodref 48 49), (0, .class_ 50), (0, .nameAndType 51 52), (0, u "java/util/Arrays"), (0, u "binarySearch"), (0, u "([IIII)I"), (0, .methodref 48 54), (0, .nameAndType 55 56), (0, u "copyOf"), (0, u "([II)[I"), (0, .methodref 58 59), (0, .class_ 60), (0, .nameAndType 61 62), (0, u "java/lang/System"), (0, u "arraycopy"), (0, u "(Ljava/lang/Object;ILjava/lang/Object;II)V"), (0, u "FIRST_ROOM"), (4, u "add"), (0, u "(II)J"), (1, u "hoursIn")] 8

def k2c0 : Code := { maxStack := 2, maxLocals := 1, code := prog_32_method_1_code, exceptionTable := #[], attributes := #[] }
def k2m0 : Method := { name := "<init>", desc := "()V", sig := { parameters := [], returnType := none }, accessFlags := 0, code := some k2c0 }
def k2c1 : Code := { maxStack := 4, maxLocals := 4, code := prog_32_method_2_code, exceptionTable := #[], attributes := #[] }
def k2m1 : Method := { name := "add", desc := "(II)J", sig := { parameters := [.int, .int], returnType := some .long }, accessFlags := 0, code := some k2c1 }
def k2c2 : Code := { maxStack := 4, maxLocals := 6, code := prog_32_method_3_code, exceptionTable := #[], attributes := #[] }
def k2m2 : Method := { name := "hoursIn", desc := "(II)J", sig := { parameters := [.int, .int], returnType := some .long }, accessFlags := 0, code := some k2c2 }
def k2c3 : Code := { maxStack := 2, maxLocals := 3, code := prog_32_method_6_code, exceptionTable := #[], attributes := #[] }
def k2m3 : Method := { name := "indexFrom", desc := "(I)I", sig := { parameters := [.int], returnType := some .int }, accessFlags := 2, code := some k2c3 }
def k2c4 : Code := { maxStack := 4, maxLocals := 3, code := prog_32_method_7_code, exceptionTable := #[], attributes := #[] }
def k2m4 : Method := { name := "indexOf", desc := "(I)I", sig := { parameters := [.int], returnType := some .int }, accessFlags := 2, code := some k2c4 }
def k2c5 : Code := { maxStack := 6, maxLocals := 3, code := prog_32_method_8_code, exceptionTable := #[], attributes := #[] }
def k2m5 : Method := { name := "insert", desc := "(II)V", sig := { parameters := [.int, .int], returnType := none }, accessFlags := 2, code := some k2c5 }
/-- com/example/vestwright/vestwright/census/YearlyHours -/
def k2 : Class := { plain "com/example/vestwright/vestwright/census/YearlyHours" (some 0) with
  accessFlags := 48
  interfaces := #[]
  cf := some (fileOf pool2 7 #[] #[{ accessFlags := 0, nameIndex := 5, descriptorIndex := 6, attributes := #[] }, { accessFlags := 0, nameIndex := 68, descriptorIndex := 69, attributes := #[] }, { accessFlags := 0, nameIndex := 71, descriptorIndex := 69, attributes := #[] }, { accessFlags := 2, nameIndex := 26, descriptorIndex := 19, attributes := #[] }, { accessFlags := 2, nameIndex := 18, descriptorIndex := 19, attributes := #[] }, { accessFlags := 2, nameIndex := 22, descriptorIndex := 23, attributes := #[] }] 48 2 #[] #[{ accessFlags := 26, nameIndex := 63, descriptorIndex := 30, attributes := #[] }, { accessFlags := 2, nameIndex := 11, descriptorIndex := 12, attributes := #[] }, { accessFlags := 2, nameIndex := 15, descriptorIndex := 12, attributes := #[] }, { accessFlags := 2, nameIndex := 29, descriptorIndex := 30, attributes := #[] }])
  fields := #[{ name := "FIRST_ROOM", type := .int, accessFlags := 26, slot := 0, constantValue := 0 }, { name := "years", type := (.array .int), accessFlags := 2, slot := 0, constantValue := 0 }, { name := "hours", type := (.array .int), accessFlags := 2, slot := 1, constantValue := 0 }, { name := "size", type := .int, accessFlags := 2, slot := 2, constantValue := 0 }]
  methods := #[k2m0, k2m1, k2m2, k2m3, k2m4, k2m5]
  instanceTypes := #[(.array .int), (.array .int), .int]
  staticTypes := #[.int]
  resolved := Array.replicate 80 none
  statics := none }

def pool3 : Array CpInfo := pool [(2, .class_ 4), (1, u "java/lang/Object"), (0, u "<init>"), (0, u "()V"), (1, .class_ 10), (1, u "java/lang/System"), (0, u "allowSecurityManager"), (0, u "I"), (16, u "cons"), (0, u "Ljava/io/Console;"), (77, .class_ 110), (1, u "java/lang/System$CallersHolder"), (43, u "initialErrStream"), (0, u "Ljava/io/PrintStream;"), (19, u "security"), (0, u "Ljava/lang/SecurityManager;"), (31, .class_ 209), (0, u "java/lang/System$1"), (7, u "props"), (0, u "Ljava/util/Properties;"), (2, u "lineSeparator"), (0, u "Ljava/lang/String;"), (96, .class_ 321), (1, u "java/lang/System$LoggerFinder"), (5, .class_ 328), (0, u "java/lang/System$Logger"), (67, u "err"), (2, u "out"), (91, u "notSupportedJnuEncoding"), (15, u "in"), (17, u "initialIn"), (0, u "Ljava/io/InputStream;"), (35, u "bootLayer"), (0, u "Ljava/lang/ModuleLayer;"), (99, .class_ 664), (0, u "java/lang/System$2"), (9, u "NEVER"), (2, u "MAYBE"), (49, u "arraycopy"), (0, u "(Ljava/lang/Object;ILjava/lang/Object;II)V"), (72, .class_ 802), (0, u "java/lang/System$Logger$Level")] 31

def k3m0 : Method := { name := "<init>", desc := "()V", sig := { parameters := [], returnType := none }, accessFlags := 2, code := none }
def k3m1 : Method := { name := "arraycopy", desc := "(Ljava/lang/Object;ILjava/lang/Object;II)V", sig := { parameters := [(.object "java/lang/Object"), .int, (.object "java/lang/Object"), .int, .int], returnType := none }, accessFlags := 265, code := none }
/-- java/lang/System -/
def k3 : Class := { plain "java/lang/System" (some 0) with
  accessFlags := 49
  interfaces := #[]
  cf := some (fileOf pool3 8 #[.nestMembers #[319, 327, 801, 108, 663, 208]] #[{ accessFlags := 2, nameIndex := 5, descriptorIndex := 6, attributes := #[] }, { accessFlags := 265, nameIndex := 727, descriptorIndex := 728, attributes := #[] }] 49 2 #[] #[{ accessFlags := 25, nameIndex := 507, descriptorIndex := 526, attributes := #[] }, { accessFlags := 25, nameIndex := 399, descriptorIndex := 155, attributes := #[] }, { accessFlags := 25, nameIndex := 396, descriptorIndex := 155, attributes := #[] }, { accessFlags := 10, nameIndex := 525, descriptorIndex := 526, attributes := #[] }, { accessFlags := 26, nameIndex := 674, descriptorIndex := 12, attributes := #[] }, { accessFlags := 26, nameIndex := 677, descriptorIndex := 12, attributes := #[] }, { accessFlags := 10, nameIndex := 11, descriptorIndex := 12, attributes := #[] }, { accessFlags := 74, nameIndex := 175, descriptorIndex := 176, attributes := #[] }, { accessFlags := 10, nameIndex := 491, descriptorIndex := 222, attributes := #[] }, { accessFlags := 74, nameIndex := 29, descriptorIndex := 30, attributes := #[] }, { accessFlags := 74, nameIndex := 154, descriptorIndex := 155, attributes := #[] }, { accessFlags := 10, nameIndex := 217, descriptorIndex := 218, attributes := #[] }, { accessFlags := 10, nameIndex := 221, descriptorIndex := 222, attributes := #[] }, { accessFlags := 8, nameIndex := 562, descriptorIndex := 563, attributes := #[] }])
  fields := #[{ name := "in", type := (.object "java/io/InputStream"), accessFlags := 25, slot := 0, constantValue := 0 }, { name := "out", type := (.object "java/io/PrintStream"), accessFlags := 25, slot := 1, constantValue := 0 }, { name := "err", type := (.object "java/io/PrintStream"), accessFlags := 25, slot := 2, constantValue := 0 }, { name := "initialIn", type := (.object "java/io/InputStream"), accessFlags := 10, slot := 3, constantValue := 0 }, { name := "NEVER", type := .int, accessFlags := 26, slot := 4, constantValue := 0 }, { name := "MAYBE", type := .int, accessFlags := 26, slot := 5, constantValue := 0 }, { name := "allowSecurityManager", type := .int, accessFlags := 10, slot := 6, constantValue := 0 }, { name := "security", type := (.object "java/lang/SecurityManager"), accessFlags := 74, slot := 7, constantValue := 0 }, { name := "notSupportedJnuEncoding", type := (.object "java/lang/String"), accessFlags := 10, slot := 8, constantValue := 0 }, { name := "cons", type := (.object "java/io/Console"), accessFlags := 74, slot := 9, constantValue := 0 }, { name := "initialErrStream", type := (.object "java/io/PrintStream"), accessFlags := 74, slot := 10, constantValue := 0 }, { name := "props", type := (.object "java/util/Properties"), accessFlags := 10, slot := 11, constantValue := 0 }, { name := "lineSeparator", type := (.object "java/lang/String"), accessFlags := 10, slot := 12, constantValue := 0 }, { name := "bootLayer", type := (.object "java/lang/ModuleLayer"), accessFlags := 8, slot := 13, constantValue := 0 }]
  methods := #[k3m0, k3m1]
  instanceTypes := #[]
  staticTypes := #[(.object "java/io/InputStream"), (.object "java/io/PrintStream"), (.object "java/io/PrintStream"), (.object "java/io/InputStream"), .int, .int, .int, (.object "java/lang/SecurityManager"), (.object "java/lang/String"), (.object "java/io/Console"), (.object "java/io/PrintStream"), (.object "java/util/Properties"), (.object "java/lang/String"), (.object "java/lang/ModuleLayer")]
  resolved := Array.replicate 834 none
  statics := none }

def pool4 : Array CpInfo := pool [(2, .class_ 4), (1, u "java/lang/Object"), (0, u "<init>"), (0, u "()V"), (6, .methodref 14 15), (0, .class_ 16), (0, .nameAndType 17 18), (0, u "java/util/Arrays"), (0, u "rangeCheck"), (0, u "(III)V"), (55, .class_ 76), (1, u "java/util/Arrays$NaturalOrder"), (36, .class_ 115), (1, u "java/util/Arrays$LegacyMergeSort"), (1, u "Z"), (32, .methodref 151 152), (0, .class_ 153), (0, .nameAndType 154 155), (0, u "java/lang/System"), (0, u "arraycopy"), (0, u "(Ljava/lang/Object;ILjava/lang/Object;II)V"), (51, u "binarySearch0"), (1, .methodref 14 210), (0, .nameAndType 207 211), (0, u "([IIII)I"), (90, u "copyOf"), (1, .methodref 305 306), (0, .class_ 307), (0, .nameAndType 308 309), (0, u "java/lang/Math"), (0, u "min"), (0, u "(II)I"), (65, .class_ 376), (0, u "java/util/Arrays$ArrayList"), (68, u "$assertionsDisabled"), (269, u "MIN_ARRAY_SORT_GRAN"), (0, u "I"), (2, u "INSERTIONSORT_THRESHOLD"), (74, u "binarySearch"), (76, u "([II)[I"), (103, .class_ 976), (0, u "java/util/Arrays$ArrayItr")] 52

def k4m0 : Method := { name := "<init>", desc := "()V", sig := { parameters := [], returnType := none }, accessFlags := 2, code := none }
def k4c1 : Code := { maxStack := 4, maxLocals := 3, code := jdk_65_method_30_code, exceptionTable := #[], attributes := #[] }
def k4m1 : Method := { name := "rangeCheck", desc := "(III)V", sig := { parameters := [.int, .int, .int], returnType := none }, accessFlags := 8, code := some k4c1 }
def k4c2 : Code := { maxStack := 4, maxLocals := 4, code := jdk_65_method_58_code, exceptionTable := #[], attributes := #[] }
def k4m2 : Method := { name := "binarySearch", desc := "([IIII)I", sig := { parameters := [(.array .int), .int, .int, .int], returnType := some .int }, accessFlags := 9, code := some k4c2 }
def k4c3 : Code := { maxStack := 2, maxLocals := 8, code := jdk_65_method_59_code, exceptionTable := #[], attributes := #[] }
def k4m3 : Method := { name := "binarySearch0", desc := "([IIII)I", sig := { parameters := [(.array .int), .int, .int, .int], returnType := some .int }, accessFlags := 10, code := some k4c3 }
def k4c4 : Code := { maxStack := 6, maxLocals := 3, code := jdk_65_method_123_code, exceptionTable := #[], attributes := #[] }
def k4m4 : Method := { name := "copyOf", desc := "([II)[I", sig := { parameters := [(.array .int), .int], returnType := some (.array .int) }, accessFlags := 9, code := some k4c4 }
/-- java/util/Arrays -/
def k4 : Class := { plain "java/util/Arrays" (some 0) with
  accessFlags := 49
  interfaces := #[]
  cf := some (fileOf pool4 14 #[.nestMembers #[975, 375, 113, 74]] #[{ accessFlags := 2, nameIndex := 5, descriptorIndex := 6, attributes := #[] }, { accessFlags := 8, nameIndex := 17, descriptorIndex := 18, attributes := #[] }, { accessFlags := 9, nameIndex := 794, descriptorIndex := 211, attributes := #[] }, { accessFlags := 10, nameIndex := 207, descriptorIndex := 211, attributes := #[] }, { accessFlags := 9, nameIndex := 302, descriptorIndex := 871, attributes := #[] }] 49 2 #[] #[{ accessFlags := 26, nameIndex := 715, descriptorIndex := 716, attributes := #[] }, { accessFlags := 26, nameIndex := 719, descriptorIndex := 716, attributes := #[] }, { accessFlags := 4120, nameIndex := 445, descriptorIndex := 117, attributes := #[] }])
  fields := #[{ name := "MIN_ARRAY_SORT_GRAN", type := .int, accessFlags := 26, slot := 0, constantValue := 0 }, { name := "INSERTIONSORT_THRESHOLD", type := .int, accessFlags := 26, slot := 1, constantValue := 0 }, { name := "$assertionsDisabled", type := .boolean, accessFlags := 4120, slot := 2, constantValue := 0 }]
  methods := #[k4m0, k4m1, k4m2, k4m3, k4m4]
  instanceTypes := #[]
  staticTypes := #[.int, .int, .boolean]
  resolved := Array.replicate 1029 none
  statics := none }

def pool5 : Array CpInfo := pool [(1, .class_ 2), (0, u "java/lang/Math"), (1, .class_ 6), (1, u "java/lang/Object"), (0, u "<init>"), (0, u "()V"), (89, .class_ 100), (1, u "java/lang/Math$RandomNumberGeneratorHolder"), (71, u "negativeZeroFloatBits"), (0, u "J"), (2, u "negativeZeroDoubleBits"), (24, u "min"), (43, u "$assertionsDisabled"), (0, u "Z"), (88, u "(II)I"), (2, u "twoToTheDoubleScaleDown"), (0, u "D"), (4, u "twoToTheDoubleScaleUp"), (9, u "E"), (3, u "PI"), (2, u "TAU"), (2, u "DEGREES_TO_RADIANS"), (0, u "RADIANS_TO_DEGREES")] 94

def k5m0 : Method := { name := "<init>", desc := "()V", sig := { parameters := [], returnType := none }, accessFlags := 2, code := none }
def k5c1 : Code := { maxStack := 2, maxLocals := 2, code := jdk_29_method_69_code, exceptionTable := #[], attributes := #[] }
def k5m1 : Method := { name := "min", desc := "(II)I", sig := { parameters := [.int, .int], returnType := some .int }, accessFlags := 9, code := some k5c1 }
/-- java/lang/Math -/
def k5 : Class := { plain "java/lang/Math" (some 0) with
  accessFlags := 49
  interfaces := #[]
  cf := some (fileOf pool5 1 #[.nestMembers #[98]] #[{ accessFlags := 2, nameIndex := 7, descriptorIndex := 8, attributes := #[] }, { accessFlags := 9, nameIndex := 201, descriptorIndex := 335, attributes := #[] }] 49 4 #[] #[{ accessFlags := 25, nameIndex := 354, descriptorIndex := 339, attributes := #[] }, { accessFlags := 25, nameIndex := 358, descriptorIndex := 339, attributes := #[] }, { accessFlags := 25, nameIndex := 361, descriptorIndex := 339, attributes := #[] }, { accessFlags := 26, nameIndex := 364, descriptorIndex := 339, attributes := #[] }, { accessFlags := 26, nameIndex := 365, descriptorIndex := 339, attributes := #[] }, { accessFlags := 26, nameIndex := 172, descriptorIndex := 173, attributes := #[] }, { accessFlags := 26, nameIndex := 176, descriptorIndex := 173, attributes := #[] }, { accessFlags := 8, nameIndex := 344, descriptorIndex := 339, attributes := #[] }, { accessFlags := 8, nameIndex := 338, descriptorIndex := 339, attributes := #[] }, { accessFlags := 4120, nameIndex := 245, descriptorIndex := 246, attributes := #[] }])
  fields := #[{ name := "E", type := .double, accessFlags := 25, slot := 0, constantValue := 0 }, { name := "PI", type := .double, accessFlags := 25, slot := 1, constantValue := 0 }, { name := "TAU", type := .double, accessFlags := 25, slot := 2, constantValue := 0 }, { name := "DEGREES_TO_RADIANS", type := .double, accessFlags := 26, slot := 3, constantValue := 0 }, { name := "RADIANS_TO_DEGREES", type := .double, accessFlags := 26, slot := 4, constantValue := 0 }, { name := "negativeZeroFloatBits", type := .long, accessFlags := 26, slot := 5, constantValue := 0 }, { name := "negativeZeroDoubleBits", type := .long, accessFlags := 26, slot := 6, constantValue := 0 }, { name := "twoToTheDoubleScaleUp", type := .double, accessFlags := 8, slot := 7, constantValue := 0 }, { name := "twoToTheDoubleScaleDown", type := .double, accessFlags := 8, slot := 8, constantValue := 0 }, { name := "$assertionsDisabled", type := .boolean, accessFlags := 4120, slot := 9, constantValue := 0 }]
  methods := #[k5m0, k5m1]
  instanceTypes := #[]
  staticTypes := #[.double, .double, .double, .double, .double, .long, .long, .double, .double, .boolean]
  resolved := Array.replicate 460 none
  statics := none }

def pool6 : Array CpInfo := pool [(1, u "java/lang/Cloneable"), (0, .class_ 1), (0, u "java/lang/Object"), (0, .class_ 3)] 3

/-- java/lang/Cloneable -/
def k6 : Class := { plain "java/lang/Cloneable" (some 0) with
  accessFlags := 1537
  interfaces := #[]
  cf := some (fileOf pool6 2 #[] #[] 1537 4 #[] #[])
  fields := #[]
  methods := #[]
  instanceTypes := #[]
  staticTypes := #[]
  resolved := Array.replicate 8 none
  statics := none }

def pool7 : Array CpInfo := pool [(1, u "java/io/Serializable"), (0, .class_ 1), (0, u "java/lang/Object"), (0, .class_ 3)] 3

/-- java/io/Serializable -/
def k7 : Class := { plain "java/io/Serializable" (some 0) with
  accessFlags := 1537
  interfaces := #[]
  cf := some (fileOf pool7 2 #[] #[] 1537 4 #[] #[])
  fields := #[]
  methods := #[]
  instanceTypes := #[]
  staticTypes := #[]
  resolved := Array.replicate 8 none
  statics := none }

/-- the primitive byte -/
def k8 : Class := { plain "byte" none with kind := .primitive 'B', accessFlags := 0x411 }
/-- [B -/
def k9 : Class := { plain "[B" (some 0) with kind := .array 8 .byte, interfaces := #[6, 7], accessFlags := 1041 }

/-- the primitive int -/
def k10 : Class := { plain "int" none with kind := .primitive 'I', accessFlags := 0x411 }
/-- [I -/
def k11 : Class := { plain "[I" (some 0) with kind := .array 10 .int, interfaces := #[6, 7], accessFlags := 1041 }

def heap : Heap := #[]
def classes : Array Class := #[k0, k1, k2, k3, k4, k5, k6, k7, k8, k9, k10, k11]
def interned : List (Array UInt16 × Addr) := []
def slotsUsed : Nat := 0
def theMethod : MethodId := ⟨1, 2⟩
def args0 : Array Value := #[.int 5, .int 5, .int 5, .long 5, .int 5, .int 5]
def aboutOver (below : List Frame) : State where
  vm := { classes := classes, interned := interned.toArray }
  heap := heap
  slotsUsed := slotsUsed
  threads := #[{ frames := .invoking theMethod args0 :: below }]
def below0 : List Frame := [.native { method := ⟨0, 0⟩, args := #[] }]
def about1 : State := aboutOver below0
def p0 : Program := .bare "" "" ""
def e0 : Env := launch0.env 0 0 0
theorem w_frames : about1.frames = Frame.invoking theMethod args0 :: below0 := rfl
set_option maxRecDepth 65536 in
theorem w_args : argsFit about1.vm theMethod args0 = true := by decide +kernel
set_option maxRecDepth 65536 in
theorem w_heap : heapFits about1 = true := by decide +kernel
set_option maxRecDepth 65536 in
theorem w_runnable : about1.curStatus? = some .runnable := by decide +kernel
set_option maxRecDepth 65536 in
theorem w_alone : about1.alone = true := by decide +kernel
set_option maxRecDepth 65536 in
theorem w_named : about1.methodNamed? x = some theMethod := by decide +kernel
set_option maxRecDepth 65536 in
theorem w_hears : about1.hears theMethod below0 = true := by decide +kernel
set_option maxRecDepth 65536 in
theorem w_ripe : about1.ripe theMethod args0 below0 = true := by decide +kernel
theorem w_running : about1.status = .running := rfl
set_option maxRecDepth 65536 in
theorem w_room : about1.hasRoom e0.platform room_1 = true :=
  launch0.hasRoom_least _ room_1 (by decide +kernel) (by decide +kernel) (by decide +kernel) (by decide +kernel) (by decide +kernel) (by decide +kernel)
theorem allAtoms_all (ts : List Jvm.Cond) (a : Array Jvm.Value) (st : Jvm.State) : (allAtoms ts).before a st = ts.all (fun c => c.before a st) := by
  induction ts with
  | nil => rfl
  | cons c t ih =>
    show (Jvm.Cond.and c (allAtoms t)).before a st = _
    rw [Jvm.Cond.before_and, ih, List.all_cons]
def words1 : List Jvm.Cond := Jvm.Cond.code x code maxLocals ret :: tables_1
/-- a 'code' word, met by the world's own term for the bytes: nothing is compared byte by byte -/
theorem code_word {y : MethodName} {bytes : ByteArray} {mx : Nat} {rt : Option FieldType} {a : Array Value} {s : State} {m : MethodId} {meth : Method} {c : Code} (h1 : s.methodNamed? y = some m) (h2 : s.vm.method? m = some meth) (h3 : meth.code = some c) (h4 : c.code = bytes)
    (h5 : (c.maxLocals == mx && c.exceptionTable.isEmpty && decide (c.maxStack ≤ mostOperands) && decide (meth.sig.returnType = rt) && !meth.locks && decide (parseMethodDescriptor y.desc = some meth.sig)) = true) : (Jvm.Cond.code y bytes mx rt).before a s = true := by
  simp only [Bool.and_eq_true, beq_iff_eq, Bool.not_eq_true', decide_eq_true_eq] at h5
  obtain ⟨⟨⟨⟨⟨g1, g2⟩, g3⟩, g4⟩, g5⟩, g6⟩ := h5
  simp [Cond.before, Cond.holds, Cond.value, h1, h2, h3, h4, g1, g2, g3, g4, g5, g6]
def isCode : Jvm.Cond → Bool
  | .code _ _ _ _ => true
  | _ => false
theorem all_split {L : List Jvm.Cond} {P : Jvm.Cond → Bool} (h1 : L.all (fun c => isCode c || P c) = true) (h2 : ∀ c ∈ L.filter isCode, P c = true) : L.all P = true := by
  refine List.all_eq_true.mpr fun c hc => ?_
  have h := List.all_eq_true.mp h1 c hc
  rcases Bool.eq_false_or_eq_true (isCode c) with hi | hi
  · exact h2 c (List.mem_filter.mpr ⟨hc, hi⟩)
  · simpa [hi] using h
set_option maxRecDepth 65536 in
theorem w_c0 : (Jvm.Cond.code x code maxLocals ret).before args0 about1 = true := code_word (m := ⟨1, 2⟩) (meth := k1m2) (c := k1c2) (by decide +kernel) rfl rfl rfl (by decide +kernel)
set_option maxRecDepth 65536 in
theorem w_c1 : (Jvm.Cond.code ({ cls := "com/example/vestwright/vestwright/census/YearlyHours", name := "<init>", desc := "()V" } : Jvm.MethodName) prog_32_method_1_code (1 : Nat) (Option.none : Option Jvm.ClassFile.FieldType)).before args0 about1 = true := code_word (m := ⟨2, 0⟩) (meth := k2m0) (c := k2c0) (by decide +kernel) rfl rfl rfl (by decide +kernel)
set_option maxRecDepth 65536 in
theorem w_c2 : (Jvm.Cond.code ({ cls := "java/lang/Object", name := "<init>", desc := "()V" } : Jvm.MethodName) object_method_1_code (1 : Nat) (Option.none : Option Jvm.ClassFile.FieldType)).before args0 about1 = true := code_word (m := ⟨0, 0⟩) (meth := k0m0) (c := k0c0) (by decide +kernel) rfl rfl rfl (by decide +kernel)
set_option maxRecDepth 65536 in
theorem w_c3 : (Jvm.Cond.code ({ cls := "com/example/vestwright/vestwright/census/YearlyHours", name := "add", desc := "(II)J" } : Jvm.MethodName) prog_32_method_2_code (4 : Nat) (Option.some Jvm.ClassFile.FieldType.long)).before args0 about1 = true := code_word (m := ⟨2, 1⟩) (meth := k2m1) (c := k2c1) (by decide +kernel) rfl rfl rfl (by decide +kernel)
set_option maxRecDepth 65536 in
theorem w_c4 : (Jvm.Cond.code ({ cls := "com/example/vestwright/vestwright/census/YearlyHours", name := "indexOf", desc := "(I)I" } : Jvm.MethodName) prog_32_method_7_code (3 : Nat) (Option.some Jvm.ClassFile.FieldType.int)).before args0 about1 = true := code_word (m := ⟨2, 4⟩) (meth := k2m4) (c := k2c4) (by decide +kernel) rfl rfl rfl (by decide +kernel)
set_option maxRecDepth 65536 in
theorem w_c5 : (Jvm.Cond.code ({ cls := "com/example/vestwright/vestwright/census/YearlyHours", name := "insert", desc := "(II)V" } : Jvm.MethodName) prog_32_method_8_code (3 : Nat) (Option.none : Option Jvm.ClassFile.FieldType)).before args0 about1 = true := code_word (m := ⟨2, 5⟩) (meth := k2m5) (c := k2c5) (by decide +kernel) rfl rfl rfl (by decide +kernel)
set_option maxRecDepth 65536 in
theorem w_c6 : (Jvm.Cond.code ({ cls := "java/util/Arrays", name := "binarySearch", desc := "([IIII)I" } : Jvm.MethodName) jdk_65_method_58_code (4 : Nat) (Option.some Jvm.ClassFile.FieldType.int)).before args0 about1 = true := code_word (m := ⟨4, 2⟩) (meth := k4m2) (c := k4c2) (by decide +kernel) rfl rfl rfl (by decide +kernel)
set_option maxRecDepth 65536 in
theorem w_c7 : (Jvm.Cond.code ({ cls := "java/util/Arrays", name := "rangeCheck", desc := "(III)V" } : Jvm.MethodName) jdk_65_method_30_code (3 : Nat) (Option.none : Option Jvm.ClassFile.FieldType)).before args0 about1 = true := code_word (m := ⟨4, 1⟩) (meth := k4m1) (c := k4c1) (by decide +kernel) rfl rfl rfl (by decide +kernel)
set_option maxRecDepth 65536 in
theorem w_c8 : (Jvm.Cond.code ({ cls := "java/util/Arrays", name := "binarySearch0", desc := "([IIII)I" } : Jvm.MethodName) jdk_65_method_59_code (8 : Nat) (Option.some Jvm.ClassFile.FieldType.int)).before args0 about1 = true := code_word (m := ⟨4, 3⟩) (meth := k4m3) (c := k4c3) (by decide +kernel) rfl rfl rfl (by decide +kernel)
set_option maxRecDepth 65536 in
theorem w_c9 : (Jvm.Cond.code ({ cls := "com/example/vestwright/vestwright/census/YearlyHours", name := "hoursIn", desc := "(II)J" } : Jvm.MethodName) prog_32_method_3_code (6 : Nat) (Option.some Jvm.ClassFile.FieldType.long)).before args0 about1 = true := code_word (m := ⟨2, 2⟩) (meth := k2m2) (c := k2c2) (by decide +kernel) rfl rfl rfl (by decide +kernel)
set_option maxRecDepth 65536 in
theorem w_c10 : (Jvm.Cond.code ({ cls := "com/example/vestwright/vestwright/census/YearlyHours", name := "indexFrom", desc := "(I)I" } : Jvm.MethodName) prog_32_method_6_code (3 : Nat) (Option.some Jvm.ClassFile.FieldType.int)).before args0 about1 = true := code_word (m := ⟨2, 3⟩) (meth := k2m3) (c := k2c3) (by decide +kernel) rfl rfl rfl (by decide +kernel)
set_option maxRecDepth 65536 in
theorem w_c11 : (Jvm.Cond.code ({ cls := "com/example/vestwright/vestwright/census/YearlyHoursHoursInPinLaw", name := "part", desc := "(IJII)J" } : Jvm.MethodName) method_2_code (5 : Nat) (Option.some Jvm.ClassFile.FieldType.long)).before args0 about1 = true := code_word (m := ⟨1, 1⟩) (meth := k1m1) (c := k1c1) (by decide +kernel) rfl rfl rfl (by decide +kernel)
set_option maxRecDepth 65536 in
theorem w_c12 : (Jvm.Cond.code ({ cls := "java/util/Arrays", name := "copyOf", desc := "([II)[I" } : Jvm.MethodName) jdk_65_method_123_code (3 : Nat) (Option.some (Jvm.ClassFile.FieldType.array Jvm.ClassFile.FieldType.int))).before args0 about1 = true := code_word (m := ⟨4, 4⟩) (meth := k4m4) (c := k4c4) (by decide +kernel) rfl rfl rfl (by decide +kernel)
set_option maxRecDepth 65536 in
theorem w_c13 : (Jvm.Cond.code ({ cls := "java/lang/Math", name := "min", desc := "(II)I" } : Jvm.MethodName) jdk_29_method_69_code (2 : Nat) (Option.some Jvm.ClassFile.FieldType.int)).before args0 about1 = true := code_word (m := ⟨5, 1⟩) (meth := k5m1) (c := k5c1) (by decide +kernel) rfl rfl rfl (by decide +kernel)
def codes1 : List Jvm.Cond := [Jvm.Cond.code x code maxLocals ret, Jvm.Cond.code ({ cls := "com/example/vestwright/vestwright/census/YearlyHours", name := "<init>", desc := "()V" } : Jvm.MethodName) prog_32_method_1_code (1 : Nat) (Option.none : Option Jvm.ClassFile.FieldType), Jvm.Cond.code ({ cls := "java/lang/Object", name := "<init>", desc := "()V" } : Jvm.MethodName) object_method_1_code (1 : Nat) (Option.none : Option Jvm.ClassFile.FieldType), Jvm.Cond.code ({ cls := "com/example/vestwright/vestwright/census/YearlyHours", name := "add", desc := "(II)J" } : Jvm.MethodName) prog_32_method_2_code (4 : Nat) (Option.some Jvm.ClassFile.FieldType.long), Jvm.Cond.code ({ cls := "com/example/vestwright/vestwright/census/YearlyHours", name := "indexOf", desc := "(I)I" } : Jvm.MethodName) prog_32_method_7_code (3 : Nat) (Option.some Jvm.ClassFile.FieldType.int), Jvm.Cond.code ({ cls := "com/example/vestwright/vestwright/census/YearlyHours", name := "insert", desc := "(II)V" } : Jvm.MethodName) prog_32_method_8_code (3 : Nat) (Option.none : Option Jvm.ClassFile.FieldType), Jvm.Cond.code ({ cls := "java/util/Arrays", name := "binarySearch", desc := "([IIII)I" } : Jvm.MethodName) jdk_65_method_58_code (4 : Nat) (Option.some Jvm.ClassFile.FieldType.int), Jvm.Cond.code ({ cls := "java/util/Arrays", name := "rangeCheck", desc := "(III)V" } : Jvm.MethodName) jdk_65_method_30_code (3 : Nat) (Option.none : Option Jvm.ClassFile.FieldType), Jvm.Cond.code ({ cls := "java/util/Arrays", name := "binarySearch0", desc := "([IIII)I" } : Jvm.MethodName) jdk_65_method_59_code (8 : Nat) (Option.some Jvm.ClassFile.FieldType.int), Jvm.Cond.code ({ cls := "com/example/vestwright/vestwright/census/YearlyHours", name := "hoursIn", desc := "(II)J" } : Jvm.MethodName) prog_32_method_3_code (6 : Nat) (Option.some Jvm.ClassFile.FieldType.long), Jvm.Cond.code ({ cls := "com/example/vestwright/vestwright/census/YearlyHours", name := "indexFrom", desc := "(I)I" } : Jvm.MethodName) prog_32_method_6_code (3 : Nat) (Option.some Jvm.ClassFile.FieldType.int), Jvm.Cond.code ({ cls := "com/example/vestwright/vestwright/census/YearlyHoursHoursInPinLaw", name := "part", desc := "(IJII)J" } : Jvm.MethodName) method_2_code (5 : Nat) (Option.some Jvm.ClassFile.FieldType.long), Jvm.Cond.code ({ cls := "java/util/Arrays", name := "copyOf", desc := "([II)[I" } : Jvm.MethodName) jdk_65_method_123_code (3 : Nat) (Option.some (Jvm.ClassFile.FieldType.array Jvm.ClassFile.FieldType.int)), Jvm.Cond.code ({ cls := "java/lang/Math", name := "min", desc := "(II)I" } : Jvm.MethodName) jdk_29_method_69_code (2 : Nat) (Option.some Jvm.ClassFile.FieldType.int)]
set_option maxRecDepth 65536 in
theorem codes_eq : words1.filter isCode = codes1 := rfl
theorem w_codes : ∀ c ∈ words1.filter isCode, c.before args0 about1 = true := by
  rw [codes_eq]
  intro c hc
  simp only [codes1, List.mem_cons, List.not_mem_nil, or_false] at hc
  rcases hc with rfl | rfl | rfl | rfl | rfl | rfl | rfl | rfl | rfl | rfl | rfl | rfl | rfl | rfl
  · exact w_c0
  · exact w_c1
  · exact w_c2
  · exact w_c3
  · exact w_c4
  · exact w_c5
  · exact w_c6
  · exact w_c7
  · exact w_c8
  · exact w_c9
  · exact w_c10
  · exact w_c11
  · exact w_c12
  · exact w_c13
set_option maxRecDepth 65536 in
theorem w_t1 : (words1.take 24).all (fun c => isCode c || c.before args0 about1) = true := by decide +kernel
set_option maxRecDepth 65536 in
theorem w_t2 : ((words1.drop 24).take 24).all (fun c => isCode c || c.before args0 about1) = true := by decide +kernel
set_option maxRecDepth 65536 in
theorem w_t3 : ((words1.drop 24).drop 24).all (fun c => isCode c || c.before args0 about1) = true := by decide +kernel
theorem w_tables : (allAtoms (Jvm.Cond.code x code maxLocals ret :: tables_1)).before args0 about1 = true := by
  rw [allAtoms_all]
  show words1.all (fun c => c.before args0 about1) = true
  refine all_split ?_ w_codes
  rw [← List.take_append_drop 24 words1, List.all_append, w_t1, ← List.take_append_drop 24 (words1.drop 24), List.all_append, w_t2, w_t3]
  rfl
set_option maxRecDepth 65536 in
theorem w_case : (Jvm.Cond.and given_1 narrow_1).before args0 about1 = true := by decide +kernel
theorem w_applies : (headSpec (Jvm.Cond.code x code maxLocals ret :: tables_1) room_1).applies x e0.platform about1 = true :=
  (Spec.applies_iff w_frames).mpr ⟨w_running, w_runnable, w_alone, w_named, w_hears, w_ripe, w_room, w_tables⟩
theorem atStart : AtStart classFile x code maxLocals ret World_1 tables_1 room_1 Calls_1 rest_1 Pre_1 launch0 p0 e0 about1 theMethod args0 below0 :=
  ⟨lists_1, trivial, launch0.admits_env _ _ _, launch0.least_env, fairChoices_fair.cas, fairChoices_fair.clock, w_frames, w_args, w_heap, w_applies, trivial, trivial, w_case⟩
end start1
theorem witness_1 : WitnessClaimed_1 := ⟨start1.p0, start1.e0, start1.about1, start1.theMethod, start1.args0, start1.below0, start1.atStart⟩
end Jvm.Pilot.@@N@@
