import JvmDerived
import JvmDerived.Pilot.@@N@@Statement
import JvmDerived.Pilot.@@N@@Code
set_option linter.unusedVariables false
set_option linter.unusedSimpArgs false
@@BLOCK:NumsL.lean.txt@@
namespace Jvm.Pilot.@@N@@
open Jvm Jvm.ClassFile Sem Op Lib Jvm.Free Jvm.Stand Jvm.LawKit Jvm.RoadKit Bundle Jvm.Pilot.@@N@@.Jvm.D
theorem own_k {Z : State} {a0 : Array Value} (hw : ∀ d ∈ tables_1, d.before a0 Z = true) {d : Jvm.Cond} (i : Nat) (h : tables_1[i]? = some d) : d.before a0 Z = true := hw d (List.mem_of_getElem? h)
theorem own_nn32 {n : Nat} (h : n < 2147483648) : ¬ Int32.ofNat n < 0 := by
  rw [Int32.lt_iff_toInt_lt, Int32.toInt_ofNat_of_lt (by omega), show (0 : Int32).toInt = 0 from rfl]
  omega
/-- from here the run ends as F says -/
def own_G (p : Program) (e : Env) (below : List Frame) (T : State) (g : JFrame) (F : State → Prop) : Prop := ∃ s₂, Steps p.tables e below (T.setTop g) s₂ ∧ F s₂
theorem own_st {p : Program} {e : Env} {below : List Frame} {T T' : State} {g g' : JFrame} {F : State → Prop} (h : ∀ target, Steps p.tables e below (T'.setTop g') target → Steps p.tables e below (T.setTop g) target) (k : own_G p e below T' g' F) : own_G p e below T g F := by
  obtain ⟨s2, a, b⟩ := k
  exact ⟨s2, h _ a, b⟩
theorem own_tr {p : Program} {e : Env} {below : List Frame} {T T' : State} {g g' : JFrame} {F : State → Prop} (h : Steps p.tables e below (T.setTop g) (T'.setTop g')) (k : own_G p e below T' g' F) : own_G p e below T g F := by
  obtain ⟨s2, a, b⟩ := k
  exact ⟨s2, h.trans a, b⟩
theorem own_end {p : Program} {e : Env} {below : List Frame} {T s2 : State} {g : JFrame} {F : State → Prop} (h : Steps p.tables e below (T.setTop g) s2) (k : F s2) : own_G p e below T g F := ⟨s2, h, k⟩
theorem own_join {α : Type} {p : Program} {e : Env} {below : List Frame} {T : State} {g : JFrame} {gj : α → JFrame} {P : α → Prop} {F : State → Prop} (k : ∀ q, P q → own_G p e below T (gj q) F) (h : (∀ q, P q → own_G p e below T (gj q) F) → own_G p e below T g F) : own_G p e below T g F := h k
abbrev own_E (s : State) (below : List Frame) (R : Room) (Q : Option Value → Heap → List Loc → Prop) : State → Prop := fun s₂ => ∃ o, s₂.status = .running ∧ Ended s₂ below o ∧ ∃ v L, o = .returned v ∧ Q v s₂.heap L ∧ FrameEnd s o s₂ L R.cells R.slots
abbrev own_EndW (s : State) (below : List Frame) (R : Room) (Q : Option Value → Heap → List Loc → Prop) : State → Prop := fun s₂ => ∃ o, s₂.status = .running ∧ Ended s₂ below o ∧ ∃ v L, o = .returned v ∧ Q v s₂.heap L ∧ ReturnedEndW s o s₂ L R.cells R.slots
abbrev own_EndH (Z : State) (EL : List (String × Nat)) (s : State) (below : List Frame) (R : Room) (Q : Option Value → Heap → List Loc → Prop) : State → Prop := fun s₂ => ∃ o, s₂.status = .running ∧ Ended s₂ below o ∧ ∃ v L, o = .returned v ∧ Q v s₂.heap L ∧ CHr Z EL s.vm s.heap s₂.vm s₂.heap ∧ ReturnedEndW s o s₂ L R.cells R.slots
abbrev own_M (l : Launch) (y : MethodName) (bs : ByteArray) (ml : Nat) (rt : Option FieldType) (ws : List Jvm.Cond) (R : Room) (as' : Array Value) (Z : State) (h0 : Heap) (Q : Option Value → Heap → List Loc → Prop) : Prop :=
  MetFree l y (head1 (Jvm.Cond.code y bs ml rt :: ws) R) (fun av U => av = as' ∧ Z.Warmed39 U.vm ∧ U.heap = h0) (fun _ _ _ _ _ => True) (fun _ U o U' => ∃ v L, o = .returned v ∧ Q v U'.heap L ∧ FrameEnd U o U' L R.cells R.slots)
abbrev own_MW (l : Launch) (y : MethodName) (bs : ByteArray) (ml : Nat) (rt : Option FieldType) (ws : List Jvm.Cond) (R : Room) (as' : Array Value) (Z : State) (h0 : Heap) (Q : Option Value → Heap → List Loc → Prop) : Prop :=
  MetFree l y (head1 (Jvm.Cond.code y bs ml rt :: ws) R) (fun av U => av = as' ∧ Z.Warmed39 U.vm ∧ U.heap = h0) (fun _ _ _ _ _ => True) (fun _ U o U' => ∃ v L, o = .returned v ∧ Q v U'.heap L ∧ ReturnedEndW U o U' L R.cells R.slots)
abbrev own_MH (EL : List (String × Nat)) (l : Launch) (y : MethodName) (bs : ByteArray) (ml : Nat) (rt : Option FieldType) (ws : List Jvm.Cond) (R : Room) (as' : Array Value) (Z : State) (h0 : Heap) (Q : Option Value → Heap → List Loc → Prop) : Prop :=
  MetFree l y (head1 (Jvm.Cond.code y bs ml rt :: ws) R) (fun av U => av = as' ∧ Z.Warmed39 U.vm ∧ U.heap = h0 ∧ CHv Z EL U.vm h0) (fun _ _ _ _ _ => True) (fun _ U o U' => ∃ v L, o = .returned v ∧ Q v U'.heap L ∧ CHr Z EL U.vm U.heap U'.vm U'.heap ∧ ReturnedEndW U o U' L R.cells R.slots)
theorem own_go {l : Launch} {y : MethodName} {bs : ByteArray} {ml : Nat} {rt : Option FieldType} {ws : List Jvm.Cond} {R : Room} {as' : Array Value} {Z : State} {h0 : Heap} {Q : Option Value → Heap → List Loc → Prop} (hpn : plainFor y = true) {ff : MethodId → JFrame} (hff : ∀ m, entryFrame m as' ml = ff m)
    (body : ∀ p e s m below meth c s₁, BodyLoose p l y (head1 (Jvm.Cond.code y bs ml rt :: ws) R) bs ml rt e s m as' below meth c s₁ → p.tables.exec = Jvm.exec → c.code = bs → c.maxLocals = ml → Z.Warmed39 s.vm → s.heap = h0 → s.vm.findClass y.cls = some m.cls → meth.name = y.name → Stand p l e R s m as' below meth c s₁ [] 0 0 → s₁.heap = h0 → own_G p e below s₁ (ff m) (own_E s below R Q)) : own_M l y bs ml rt ws R as' Z h0 Q := by
  refine MetFree.of_bodySF hpn hisR ?_
  intro p e s m args below meth c s₁ Bd hml0 hP hK
  obtain ⟨rfl, hZ, hh⟩ := hP
  obtain ⟨s2, g1, o, g2⟩ := body p e s m below meth c s₁ Bd Bd.exec Bd.bytes hml0 hZ hh (findClass_of_methodNamed Bd.named) (name_of_methodNamed Bd.named Bd.method).1 (Stand.of_body Bd) (by rw [← hh, Bd.state]; rfl)
  exact ⟨s2, o, castTop (hff m) g1, g2⟩
theorem own_goW {l : Launch} {y : MethodName} {bs : ByteArray} {ml : Nat} {rt : Option FieldType} {ws : List Jvm.Cond} {R : Room} {as' : Array Value} {Z : State} {h0 : Heap} {Q : Option Value → Heap → List Loc → Prop} (hpn : plainFor y = true) {ff : MethodId → JFrame} (hff : ∀ m, entryFrame m as' ml = ff m)
    (body : ∀ p e s m below meth c s₁, BodyLoose p l y (head1 (Jvm.Cond.code y bs ml rt :: ws) R) bs ml rt e s m as' below meth c s₁ → p.tables.exec = Jvm.exec → c.code = bs → c.maxLocals = ml → Z.Warmed39 s.vm → s.heap = h0 → s.vm.findClass y.cls = some m.cls → meth.name = y.name → Stand p l e R (s.setVm s.vm) m as' below meth c s₁ [] 0 0 → s₁.heap = h0 → s.Since s.vm h0.size → own_G p e below s₁ (ff m) (own_EndW s below R Q)) : own_MW l y bs ml rt ws R as' Z h0 Q := by
  refine MetFree.of_bodySF hpn hisR ?_
  intro p e s m args below meth c s₁ Bd hml0 hP hK
  obtain ⟨rfl, hZ, hh⟩ := hP
  obtain ⟨s2, g1, o, g2⟩ := body p e s m below meth c s₁ Bd Bd.exec Bd.bytes hml0 hZ hh (findClass_of_methodNamed Bd.named) (name_of_methodNamed Bd.named Bd.method).1 (Stand.of_body Bd) (by rw [← hh, Bd.state]; rfl) ((State.WarmedH.refl s).since _)
  exact ⟨s2, o, castTop (hff m) g1, g2⟩
theorem own_goH {EL : List (String × Nat)} {l : Launch} {y : MethodName} {bs : ByteArray} {ml : Nat} {rt : Option FieldType} {ws : List Jvm.Cond} {R : Room} {as' : Array Value} {Z : State} {h0 : Heap} {Q : Option Value → Heap → List Loc → Prop} (hpn : plainFor y = true) {ff : MethodId → JFrame} (hff : ∀ m, entryFrame m as' ml = ff m)
    (body : ∀ p e s m below meth c s₁, BodyLoose p l y (head1 (Jvm.Cond.code y bs ml rt :: ws) R) bs ml rt e s m as' below meth c s₁ → p.tables.exec = Jvm.exec → c.code = bs → c.maxLocals = ml → Z.Warmed39 s.vm → s.heap = h0 → s.vm.findClass y.cls = some m.cls → meth.name = y.name → Stand p l e R (s.setVm s.vm) m as' below meth c s₁ [] 0 0 → s₁.heap = h0 → s.Since s.vm h0.size → CHr Z EL s.vm h0 s.vm h0 → own_G p e below s₁ (ff m) (own_EndH Z EL s below R Q)) : own_MH EL l y bs ml rt ws R as' Z h0 Q := by
  refine MetFree.of_bodySF hpn hisR ?_
  intro p e s m args below meth c s₁ Bd hml0 hP hK
  obtain ⟨rfl, hZ, hh, hCH⟩ := hP
  obtain ⟨s2, g1, o, g2⟩ := body p e s m below meth c s₁ Bd Bd.exec Bd.bytes hml0 hZ hh (findClass_of_methodNamed Bd.named) (name_of_methodNamed Bd.named Bd.method).1 (Stand.of_body Bd) (by rw [← hh, Bd.state]; rfl) ((State.WarmedH.refl s).since _) (CHr.refl hCH)
  exact ⟨s2, o, castTop (hff m) g1, g2⟩
theorem own_pop2 {tb : Tables} [Ours tb] {e : Env} {below : List Frame} {T target : State} {m : MethodId} {c : Code} {g : JFrame} (h : At T m c below) (hx : tb.exec = Jvm.exec) (hg : g.method = m) {x : Value} {rest : List Value} (hd : decode c.code g.pc = .ok (.pop2, 1)) (hs : g.stack = x :: rest) (hc : x.category = 2)
    (hr : Steps tb e below (T.setTop { g with pc := g.pc + 1, stack := rest }) target) : Steps tb e below (T.setTop g) target := by
  subst hg
  jvm_step h [h.top, hx, hd, hs, hc]
  exact hr
section Own
variable {p : Program} {l : Launch} {e : Env} {R : Room} {s : State} {m : MethodId} {args : Array Value} {below : List Frame} {meth : Method} {c : Code} {T : State} {locs : List Loc} {cells slots : Nat} {Z : State} {h h' : Heap} {a : Addr} {k : ClassId} {ty : FieldType} {z j : Int32} {vs : List Value} {d v : Value} {g : JFrame} {rest : List Value}
theorem own_joinT {α : Type} {gj : α → JFrame} {P : α → Prop} {F : State → Prop} (X : Stand p l e R s m args below meth c T locs cells slots) (eT : T.heap = h)
    (k : ∀ T' q, P q → Stand p l e R s m args below meth c T' locs cells slots → T'.heap = h → own_G p e below T' (gj q) F) (r : (∀ T' q, P q → Stand p l e R s m args below meth c T' locs cells slots → T'.heap = h → own_G p e below T' (gj q) F) → own_G p e below T g F) : own_G p e below T g F := r k
theorem own_loop {α : Type} {gj : α → JFrame} {P : Nat → α → Prop} {F : State → Prop} (X : Stand p l e R s m args below meth c T locs cells slots) (eT : T.heap = h)
    (k : ∀ n, (∀ i, i < n → ∀ T' q, P i q → Stand p l e R s m args below meth c T' locs cells slots → T'.heap = h → own_G p e below T' (gj q) F) → ∀ T' q, P n q → Stand p l e R s m args below meth c T' locs cells slots → T'.heap = h → own_G p e below T' (gj q) F)
    (r : (∀ n T' q, P n q → Stand p l e R s m args below meth c T' locs cells slots → T'.heap = h → own_G p e below T' (gj q) F) → own_G p e below T g F) : own_G p e below T g F :=
  r fun n => Nat.strongRecOn n fun n ih => k n ih
theorem own_joinH {α : Type} {gj : α → JFrame} {P : List Loc → Heap → α → Prop} {F : State → Prop} {cells' slots' : Nat} (X : Stand p l e R s m args below meth c T locs cells slots)
    (k : ∀ T' L h' q, P L h' q → Stand p l e R s m args below meth c T' L cells' slots' → T'.heap = h' → own_G p e below T' (gj q) F) (r : (∀ T' L h' q, P L h' q → Stand p l e R s m args below meth c T' L cells' slots' → T'.heap = h' → own_G p e below T' (gj q) F) → own_G p e below T g F) : own_G p e below T g F := r k
theorem own_joinHV {α : Type} {gj : α → JFrame} {P : Vm → Nat → List Loc → Heap → α → Prop} {F : State → Prop} {cells' slots' : Nat} {vm0 : Vm} (X : Stand p l e R (s.setVm vm0) m args below meth c T locs cells slots)
    (k : ∀ vm1 k1 T' L h' q, P vm1 k1 L h' q → Stand p l e R (s.setVm vm1) m args below meth c T' L cells' slots' → T'.heap = h' → own_G p e below T' (gj q) F) (r : (∀ vm1 k1 T' L h' q, P vm1 k1 L h' q → Stand p l e R (s.setVm vm1) m args below meth c T' L cells' slots' → T'.heap = h' → own_G p e below T' (gj q) F) → own_G p e below T g F) : own_G p e below T g F := r k
theorem own_alen (X : Stand p l e R s m args below meth c T locs cells slots) (hx : p.tables.exec = Jvm.exec) (hZ : Z.Warmed39 s.vm) (eT : T.heap = h) (F : Arv Z h a k ty z vs d) (hg : g.method = m) (hs : g.stack = .ref a :: rest) (hd : decode c.code g.pc = .ok (.arraylength, 1)) :
    ∀ target, Steps p.tables e below (T.setTop { g with pc := g.pc + 1, stack := .int z :: rest }) target → Steps p.tables e below (T.setTop g) target := by
  obtain ⟨cl, A, -, S, M, -⟩ := F
  intro target hr
  refine X.arraylength hx (cell := cl) (by rw [eT]; exact A.1) (State.isArrayOf_alike hZ.alike A.2.1) hg hs hd target ?_
  rw [len_of S M]; exact hr
theorem own_ial (X : Stand p l e R s m args below meth c T locs cells slots) (hx : p.tables.exec = Jvm.exec) (hZ : Z.Warmed39 s.vm) (eT : T.heap = h) (F : Arv Z h a k .int z vs d) (hj : ¬ j < 0 ∧ j < z) (hv : vs.getD j.toNatClampNeg d = v) (hg : g.method = m) (hs : g.stack = .int j :: .ref a :: rest) (hd : decode c.code g.pc = .ok (.iaload, 1)) :
    ∀ target, Steps p.tables e below (T.setTop { g with pc := g.pc + 1, stack := v :: rest }) target → Steps p.tables e below (T.setTop g) target := by
  obtain ⟨cl, A, -, S, M, H, -⟩ := F
  intro target hr
  exact X.iaload hx (by rw [eT]; exact A.1) (State.isArrayOf_alike hZ.alike A.2.1) A.2.2 (inb_of S hj) (H.at (inb_of S hj) hv) hg hs hd target hr
theorem own_cal (X : Stand p l e R s m args below meth c T locs cells slots) (hx : p.tables.exec = Jvm.exec) (hZ : Z.Warmed39 s.vm) (eT : T.heap = h) (F : Arv Z h a k .char z vs d) (hj : ¬ j < 0 ∧ j < z) (hv : vs.getD j.toNatClampNeg d = v) (hg : g.method = m) (hs : g.stack = .int j :: .ref a :: rest) (hd : decode c.code g.pc = .ok (.caload, 1)) :
    ∀ target, Steps p.tables e below (T.setTop { g with pc := g.pc + 1, stack := v :: rest }) target → Steps p.tables e below (T.setTop g) target := by
  obtain ⟨cl, A, -, S, M, H, -⟩ := F
  intro target hr
  exact X.caload hx (by rw [eT]; exact A.1) (State.isArrayOf_alike hZ.alike A.2.1) A.2.2 (inb_of S hj) (H.at (inb_of S hj) hv) hg hs hd target hr
theorem own_bal (X : Stand p l e R s m args below meth c T locs cells slots) (hx : p.tables.exec = Jvm.exec) (hZ : Z.Warmed39 s.vm) (eT : T.heap = h) (F : Arv Z h a k .byte z vs d) (hj : ¬ j < 0 ∧ j < z) (hv : vs.getD j.toNatClampNeg d = v) (hg : g.method = m) (hs : g.stack = .int j :: .ref a :: rest) (hd : decode c.code g.pc = .ok (.baload, 1)) :
    ∀ target, Steps p.tables e below (T.setTop { g with pc := g.pc + 1, stack := v :: rest }) target → Steps p.tables e below (T.setTop g) target := by
  obtain ⟨cl, A, -, S, M, H, -⟩ := F
  intro target hr
  exact X.baloadBytes hx (by rw [eT]; exact A.1) (State.isArrayOf_alike hZ.alike A.2.1) A.2.2 (inb_of S hj) (H.at (inb_of S hj) hv) hg hs hd target hr
theorem own_lal (X : Stand p l e R s m args below meth c T locs cells slots) (hx : p.tables.exec = Jvm.exec) (hZ : Z.Warmed39 s.vm) (eT : T.heap = h) (F : Arv Z h a k .long z vs d) (hj : ¬ j < 0 ∧ j < z) (hv : vs.getD j.toNatClampNeg d = v) (hg : g.method = m) (hs : g.stack = .int j :: .ref a :: rest) (hd : decode c.code g.pc = .ok (.laload, 1)) :
    ∀ target, Steps p.tables e below (T.setTop { g with pc := g.pc + 1, stack := v :: rest }) target → Steps p.tables e below (T.setTop g) target := by
  obtain ⟨cl, A, -, S, M, H, -⟩ := F
  intro target hr
  exact X.laload hx (by rw [eT]; exact A.1) (State.isArrayOf_alike hZ.alike A.2.1) A.2.2 (inb_of S hj) (H.at (inb_of S hj) hv) hg hs hd target hr
theorem own_dal (X : Stand p l e R s m args below meth c T locs cells slots) (hx : p.tables.exec = Jvm.exec) (hZ : Z.Warmed39 s.vm) (eT : T.heap = h) (F : Arv Z h a k .double z vs d) (hj : ¬ j < 0 ∧ j < z) (hv : vs.getD j.toNatClampNeg d = v) (hg : g.method = m) (hs : g.stack = .int j :: .ref a :: rest) (hd : decode c.code g.pc = .ok (.daload, 1)) :
    ∀ target, Steps p.tables e below (T.setTop { g with pc := g.pc + 1, stack := v :: rest }) target → Steps p.tables e below (T.setTop g) target := by
  obtain ⟨cl, A, -, S, M, H, -⟩ := F
  intro target hr
  exact X.daload hx (by rw [eT]; exact A.1) (State.isArrayOf_alike hZ.alike A.2.1) A.2.2 (inb_of S hj) (H.at (inb_of S hj) hv) hg hs hd target hr
theorem own_aal (X : Stand p l e R s m args below meth c T locs cells slots) (hx : p.tables.exec = Jvm.exec) (hZ : Z.Warmed39 s.vm) (eT : T.heap = h) (F : Arv Z h a k ty z vs d) (hty : ty.isReference = true) (hj : ¬ j < 0 ∧ j < z) (hv : vs.getD j.toNatClampNeg d = v) (hg : g.method = m) (hs : g.stack = .int j :: .ref a :: rest) (hd : decode c.code g.pc = .ok (.aaload, 1)) :
    ∀ target, Steps p.tables e below (T.setTop { g with pc := g.pc + 1, stack := v :: rest }) target → Steps p.tables e below (T.setTop g) target := by
  obtain ⟨cl, A, -, S, M, H, -⟩ := F
  intro target hr
  exact X.aaload hx (by rw [eT]; exact A.1) (State.isArrayOf_alike hZ.alike A.2.1) hty A.2.2 (inb_of S hj) (H.at (inb_of S hj) hv) hg hs hd target hr
theorem own_ist (X : Stand p l e R s m args below meth c T locs cells slots) (hx : p.tables.exec = Jvm.exec) (hZ : Z.Warmed39 s.vm) (eT : T.heap = h) (F : Arv Z h a k .int z vs d) (hj : ¬ j < 0 ∧ j < z) {i : Nat} (hi : j.toNatClampNeg = i) (hl : i < vs.length) {x : Int32} (hg : g.method = m) (hs : g.stack = .int x :: .int j :: .ref a :: rest) (hd : decode c.code g.pc = .ok (.iastore, 1)) :
    ∃ T' h', Stand p l e R s m args below meth c T' (locs ++ [⟨a, j.toNatClampNeg⟩]) cells slots ∧ T'.heap = h' ∧ Wr h h' a j.toNatClampNeg (.int x) ∧ Arv Z h' a k .int z (vs.set i (.int x)) d ∧ ∀ target, Steps p.tables e below (T'.setTop { g with pc := g.pc + 1, stack := rest }) target → Steps p.tables e below (T.setTop g) target := by
  obtain ⟨cl, A, q, S, M, H, G⟩ := F
  obtain ⟨T', h', X', e', W, st⟩ := stI X hx hZ eT A (inb_of S hj) hg hs hd
  exact ⟨T', h', X', e', W, Arv.set A q S M H G rfl W i hi hl, st⟩
theorem own_lst (X : Stand p l e R s m args below meth c T locs cells slots) (hx : p.tables.exec = Jvm.exec) (hZ : Z.Warmed39 s.vm) (eT : T.heap = h) (F : Arv Z h a k .long z vs d) (hj : ¬ j < 0 ∧ j < z) {i : Nat} (hi : j.toNatClampNeg = i) (hl : i < vs.length) {x : Int64} (hg : g.method = m) (hs : g.stack = .long x :: .int j :: .ref a :: rest) (hd : decode c.code g.pc = .ok (.lastore, 1)) :
    ∃ T' h', Stand p l e R s m args below meth c T' (locs ++ [⟨a, j.toNatClampNeg⟩]) cells slots ∧ T'.heap = h' ∧ Wr h h' a j.toNatClampNeg (.long x) ∧ Arv Z h' a k .long z (vs.set i (.long x)) d ∧ ∀ target, Steps p.tables e below (T'.setTop { g with pc := g.pc + 1, stack := rest }) target → Steps p.tables e below (T.setTop g) target := by
  obtain ⟨cl, A, q, S, M, H, G⟩ := F
  obtain ⟨T', h', X', e', W, st⟩ := stJ X hx hZ eT A (inb_of S hj) hg hs hd
  exact ⟨T', h', X', e', W, Arv.set A q S M H G rfl W i hi hl, st⟩
theorem own_dst (X : Stand p l e R s m args below meth c T locs cells slots) (hx : p.tables.exec = Jvm.exec) (hZ : Z.Warmed39 s.vm) (eT : T.heap = h) (F : Arv Z h a k .double z vs d) (hj : ¬ j < 0 ∧ j < z) {i : Nat} (hi : j.toNatClampNeg = i) (hl : i < vs.length) {x : UInt64} (hg : g.method = m) (hs : g.stack = .double x :: .int j :: .ref a :: rest) (hd : decode c.code g.pc = .ok (.dastore, 1)) :
    ∃ T' h', Stand p l e R s m args below meth c T' (locs ++ [⟨a, j.toNatClampNeg⟩]) cells slots ∧ T'.heap = h' ∧ Wr h h' a j.toNatClampNeg (.double x) ∧ Arv Z h' a k .double z (vs.set i (.double x)) d ∧ ∀ target, Steps p.tables e below (T'.setTop { g with pc := g.pc + 1, stack := rest }) target → Steps p.tables e below (T.setTop g) target := by
  obtain ⟨cl, A, q, S, M, H, G⟩ := F
  obtain ⟨T', h', X', e', W, st⟩ := stD X hx hZ eT A (inb_of S hj) hg hs hd
  exact ⟨T', h', X', e', W, Arv.set A q S M H G rfl W i hi hl, st⟩
theorem own_cst (X : Stand p l e R s m args below meth c T locs cells slots) (hx : p.tables.exec = Jvm.exec) (hZ : Z.Warmed39 s.vm) (eT : T.heap = h) (F : Arv Z h a k .char z vs d) (hj : ¬ j < 0 ∧ j < z) {i : Nat} (hi : j.toNatClampNeg = i) (hl : i < vs.length) {x y : Int32} (hn : nar .char x = y) (hg : g.method = m) (hs : g.stack = .int x :: .int j :: .ref a :: rest) (hd : decode c.code g.pc = .ok (.castore, 1)) :
    ∃ T' h', Stand p l e R s m args below meth c T' (locs ++ [⟨a, j.toNatClampNeg⟩]) cells slots ∧ T'.heap = h' ∧ Wr h h' a j.toNatClampNeg (.int y) ∧ Arv Z h' a k .char z (vs.set i (.int y)) d ∧ ∀ target, Steps p.tables e below (T'.setTop { g with pc := g.pc + 1, stack := rest }) target → Steps p.tables e below (T.setTop g) target := by
  obtain ⟨cl, A, q, S, M, H, G⟩ := F
  obtain ⟨T', h', X', e', W, st⟩ := stC X hx hZ eT A (inb_of S hj) hg hs hd
  rw [hn] at W
  exact ⟨T', h', X', e', W, Arv.set A q S M H G (by rw [← hn]; exact fits_nar_char x) W i hi hl, st⟩
theorem own_bst (X : Stand p l e R s m args below meth c T locs cells slots) (hx : p.tables.exec = Jvm.exec) (hZ : Z.Warmed39 s.vm) (eT : T.heap = h) (F : Arv Z h a k .byte z vs d) (hj : ¬ j < 0 ∧ j < z) {i : Nat} (hi : j.toNatClampNeg = i) (hl : i < vs.length) {x y : Int32} (hn : nar .byte x = y) (hg : g.method = m) (hs : g.stack = .int x :: .int j :: .ref a :: rest) (hd : decode c.code g.pc = .ok (.bastore, 1)) :
    ∃ T' h', Stand p l e R s m args below meth c T' (locs ++ [⟨a, j.toNatClampNeg⟩]) cells slots ∧ T'.heap = h' ∧ Wr h h' a j.toNatClampNeg (.int y) ∧ Arv Z h' a k .byte z (vs.set i (.int y)) d ∧ ∀ target, Steps p.tables e below (T'.setTop { g with pc := g.pc + 1, stack := rest }) target → Steps p.tables e below (T.setTop g) target := by
  obtain ⟨cl, A, q, S, M, H, G⟩ := F
  obtain ⟨T', h', X', e', W, st⟩ := stB X hx hZ eT A (inb_of S hj) hg hs hd
  rw [hn] at W
  exact ⟨T', h', X', e', W, Arv.set A q S M H G (by rw [← hn]; exact fits_nar_byte x) W i hi hl, st⟩
theorem own_ast (X : Stand p l e R s m args below meth c T locs cells slots) (hx : p.tables.exec = Jvm.exec) (hZ : Z.Warmed39 s.vm) (eT : T.heap = h) (F : Arv Z h a k ty z vs d) (hty : ty.isReference = true) (hj : ¬ j < 0 ∧ j < z) {i : Nat} (hi : j.toNatClampNeg = i) (hl : i < vs.length) (hv : fits ty v = true) (Q : Sto Z h a v) (hg : g.method = m) (hs : g.stack = v :: .int j :: .ref a :: rest) (hd : decode c.code g.pc = .ok (.aastore, 1)) :
    ∃ T' h', Stand p l e R s m args below meth c T' (locs ++ [⟨a, j.toNatClampNeg⟩]) cells slots ∧ T'.heap = h' ∧ Wr h h' a j.toNatClampNeg v ∧ Arv Z h' a k ty z (vs.set i v) d ∧ ∀ target, Steps p.tables e below (T'.setTop { g with pc := g.pc + 1, stack := rest }) target → Steps p.tables e below (T.setTop g) target := by
  obtain ⟨cl, A, q, S, M, H, G⟩ := F
  obtain ⟨T', h', X', e', W, st⟩ := stR X hx hZ eT A (inb_of S hj) hty Q hg hs hd
  exact ⟨T', h', X', e', W, Arv.set A q S M H G hv W i hi hl, st⟩
theorem own_retJ (X : Stand p l e R s m args below meth c T locs cells slots) (hx : p.tables.exec = Jvm.exec) {pc : Nat} {Ls : Array Slot} {w : Int64} (hret : meth.sig.returnType = some .long) (hd : decode c.code pc = .ok (.lreturn, 1)) {fs : List Frame}
    (hl : ∀ (f : JFrame) (acts : List Action), f.method = m → f.locked = none → f.entered = [] → (doReturn e (T.setTop f) acts (some (.long w))).1 = T.setFrames fs) : Steps p.tables e below (T.setTop (mkF m pc Ls (.long w :: rest))) (T.setFrames fs) :=
  retOut X hx hret rfl (Or.inr (Or.inl ⟨rfl, rfl, w, rfl⟩)) hd hl
theorem own_retD (X : Stand p l e R s m args below meth c T locs cells slots) (hx : p.tables.exec = Jvm.exec) {pc : Nat} {Ls : Array Slot} {w : UInt64} (hret : meth.sig.returnType = some .double) (hd : decode c.code pc = .ok (.dreturn, 1)) {fs : List Frame}
    (hl : ∀ (f : JFrame) (acts : List Action), f.method = m → f.locked = none → f.entered = [] → (doReturn e (T.setTop f) acts (some (.double w))).1 = T.setFrames fs) : Steps p.tables e below (T.setTop (mkF m pc Ls (.double w :: rest))) (T.setFrames fs) :=
  retOut X hx hret rfl (Or.inr (Or.inr (Or.inl ⟨rfl, rfl, w, rfl⟩))) hd hl
theorem own_retI (X : Stand p l e R s m args below meth c T locs cells slots) (hx : p.tables.exec = Jvm.exec) {pc : Nat} {Ls : Array Slot} {w : Int32} (hret : meth.sig.returnType = some .int) (hd : decode c.code pc = .ok (.ireturn, 1)) {fs : List Frame}
    (hl : ∀ (f : JFrame) (acts : List Action), f.method = m → f.locked = none → f.entered = [] → (doReturn e (T.setTop f) acts (some (.int w))).1 = T.setFrames fs) : Steps p.tables e below (T.setTop (mkF m pc Ls (.int w :: rest))) (T.setFrames fs) :=
  retOut X hx hret rfl (Or.inl ⟨rfl, Or.inl rfl, w, rfl⟩) hd hl
theorem own_retA (X : Stand p l e R s m args below meth c T locs cells slots) (hx : p.tables.exec = Jvm.exec) {pc : Nat} {Ls : Array Slot} {w : Value} {t : FieldType} (hret : meth.sig.returnType = some t) (ht : t.isReference = true) (hn : narrow t w = w) (hw : w.isRef = true) (hd : decode c.code pc = .ok (.areturn, 1)) {fs : List Frame}
    (hl : ∀ (f : JFrame) (acts : List Action), f.method = m → f.locked = none → f.entered = [] → (doReturn e (T.setTop f) acts (some w)).1 = T.setFrames fs) : Steps p.tables e below (T.setTop (mkF m pc Ls (w :: rest))) (T.setFrames fs) :=
  retOut X hx hret hn (Or.inr (Or.inr (Or.inr (Or.inr ⟨rfl, ht, hw⟩)))) hd hl
end Own
open Jvm.FP.Core in
theorem own_divz {a b : UInt64} {s : Bool} {c d : Nat} {q r : Int} (ha : val64 a = .fin s c q) (hb : val64 b = .fin false d r) (hd : d ≠ 0) :
    val64 (ddiv a b) ≠ .nan ∧ sgn (val64 (ddiv a b)) = s ∧
    (∀ v, val64 v ≠ .nan → zmag b64 (val64 a) * one64 ≤ zmag b64 (val64 v) * zmag b64 (val64 b) → zmag b64 (val64 (ddiv a b)) ≤ zmag b64 (val64 v)) ∧
    (∀ v, val64 v ≠ .nan → zmag b64 (val64 v) * zmag b64 (val64 b) ≤ zmag b64 (val64 a) * one64 → zmag b64 (val64 v) ≤ zmag b64 (val64 (ddiv a b))) := by
  have fa := val64_fits a
  have fb := val64_fits b
  have e : val64 (ddiv a b) = roundRatio b64 s c d (q - r) := by
    rw [val64_ddiv, ha, hb]
    show (if d = 0 then _ else roundRatio b64 (s != false) c d (q - r)) = _
    rw [if_neg hd]; cases s <;> rfl
  rw [ha] at fa; rw [hb] at fb
  have q1 := fa.2.1; have r1 := fb.2.1
  have qm : b64.qmin = -1074 := qmin_b64
  have u1 : inUnits c (q - r) (2 * b64.qmin - r) = zmag b64 (val64 a) * one64 := by
    rw [ha]; show c * 2 ^ (q - r - (2 * b64.qmin - r)).toNat = c * 2 ^ (q - b64.qmin).toNat * one64
    rw [one64, Nat.mul_assoc, ← Nat.pow_add]
    congr 2; omega
  have u2 : ∀ V : Datum, zmag b64 V * 2 ^ (b64.qmin - (2 * b64.qmin - r)).toNat * d = zmag b64 V * zmag b64 (val64 b) := by
    intro V
    rw [hb]; show _ = zmag b64 V * (d * 2 ^ (r - b64.qmin).toNat)
    rw [Nat.mul_assoc, Nat.mul_comm d, show (b64.qmin - (2 * b64.qmin - r)).toNat = (r - b64.qmin).toNat by omega]
  rw [e]
  refine ⟨roundRatio_ne_nan _ _ _ _ _, sgn_roundRatio _ _ _ _ _, fun v hv h => ?_, fun v hv h => ?_⟩
  · refine zmag_roundRatio_le good_b64 (e0 := 2 * b64.qmin - r) (by omega) (val64_fits v) hv (by omega) (by omega) ?_
    rw [u1, u2]; exact h
  · refine zmag_roundRatio_ge good_b64 (e0 := 2 * b64.qmin - r) (by omega) (val64_fits v) (by omega) (by omega) ?_
    rw [u1, u2]; exact h
open Jvm.FP.Core in
theorem own_cmpz {a b : UInt64} (ha : val64 a ≠ .nan) (hb : val64 b ≠ .nan) : FP.dcmp a b = some (compare (zval b64 (val64 a)) (zval b64 (val64 b))) :=
  order_zval good_b64 (val64_fits a) (val64_fits b) ha hb
open Jvm.FP.Core in
/-- the double n / 2^K -/
def own_dy (n : Int) (K : Nat) : UInt64 := of64 (round b64 (.fin (decide (n < 0)) n.natAbs (-(K : Int))))
open Jvm.FP.Core in
theorem own_dyz {n : Int} {K : Nat} (hn : n.natAbs < 2 ^ 53) (hK : K ≤ 1000) : val64 (own_dy n K) ≠ .nan ∧ zval b64 (val64 (own_dy n K)) = n * ((2 ^ (1074 - K) : Nat) : Int) ∧ DFin (own_dy n K) := by
  have e : val64 (own_dy n K) = round b64 (.fin (decide (n < 0)) n.natAbs (-(K : Int))) := val64_of64 (round_fits good_b64 _)
  have qm : b64.qmin = -1074 := qmin_b64
  have qx : b64.qmax = 971 := by decide
  obtain ⟨c', q', h1, h2⟩ := round_exact good_b64 (decide (n < 0)) (c := n.natAbs) (q := -(K : Int)) hn (by omega) (by omega)
  have e2 := e.trans h1
  refine ⟨(fun q => by rw [e2] at q; cases q), ?_, ⟨_, _, _, e2⟩⟩
  rw [e2]
  show signed (decide (n < 0)) (inUnits c' q' b64.qmin) = _
  rw [h2]; show signed _ (n.natAbs * 2 ^ (-(K : Int) - b64.qmin).toNat) = _
  rw [signed_mul, show (-(K : Int) - b64.qmin).toNat = 1074 - K by omega]
  congr 1
  unfold signed
  by_cases h : n < 0
  · rw [decide_eq_true h, if_pos rfl]; omega
  · rw [decide_eq_false h, if_neg (by decide)]; omega
open Jvm.FP.Core in
/-- x is the double n / 2^K -/
def own_D (n : Int) (K : Nat) (x : UInt64) : Prop := DFin x ∧ zval b64 (val64 x) = n * ((2 ^ (1074 - K) : Nat) : Int)
open Jvm.Free.Fl in
theorem own_Dn {n : Int} {K : Nat} {x : UInt64} (h : own_D n K x) : NoNaN64 x := val64_no.mpr h.1.ne_nan
open Jvm.FP.Core in
theorem own_finof {x y : UInt64} (hx : val64 x ≠ .nan) (hy : DFin y) (h : zval b64 (val64 x) = zval b64 (val64 y)) : DFin x := by
  obtain ⟨t, d, r, hy⟩ := hy
  have fy := val64_fits y
  cases e : val64 x with
  | nan => exact absurd e hx
  | fin s c q => exact ⟨s, c, q, e⟩
  | inf s =>
    rw [hy] at fy
    have := zmag_lt_top good_b64 fy
    have h2 := congrArg Int.natAbs h
    rw [e, hy] at h2
    unfold zval at h2
    rw [natAbs_signed, natAbs_signed] at h2
    exact absurd (Nat.lt_of_le_of_lt (Nat.le_of_eq h2) this) (Nat.lt_irrefl _)
open Jvm.FP.Core in
theorem own_Drnd {x : UInt64} {n : Int} {K : Nat} {s : Bool} {c : Nat} {q e0 : Int} (hx : val64 x = round b64 (.fin s c q)) (hn : n.natAbs < 2 ^ 53) (hK : K ≤ 1000) (h0 : e0 ≤ b64.qmin) (h0e : e0 ≤ q)
    (h : signed s (inUnits c q e0) = n * ((2 ^ (1074 - K) : Nat) : Int) * ((2 ^ (b64.qmin - e0).toNat : Nat) : Int)) : own_D n K x := by
  obtain ⟨v1, v2, v3⟩ := own_dyz hn hK
  have z : zval b64 (val64 x) = zval b64 (val64 (own_dy n K)) := by
    rw [hx]
    refine Int.le_antisymm (zval_round_le good_b64 (val64_fits _) v1 h0 h0e ?_) (zval_round_ge good_b64 (val64_fits _) v1 h0 h0e ?_)
    · rw [h, v2]; exact Int.le_refl _
    · rw [h, v2]; exact Int.le_refl _
  refine ⟨own_finof ?_ v3 z, z.trans v2⟩
  rw [hx]; exact roundRatio_ne_nan _ _ _ _ _
open Jvm.FP.Core in
theorem own_Dl {v : Int64} (h : v.toInt.natAbs ≤ 2 ^ 53) : own_D v.toInt 0 (FP.l2d v) := ⟨l2d_fin v, DInt_zval (l2d_int h)⟩
open Jvm.FP.Core in
theorem own_Di (v : Int32) : own_D v.toInt 0 (FP.i2d v) := ⟨i2d_fin v, DInt_zval (i2d_int v)⟩
open Jvm.FP.Core in
theorem own_Dsub {a b : Int} {K : Nat} {x y : UInt64} (X : own_D a K x) (Y : own_D b K y) (hn : (a - b).natAbs < 2 ^ 53) (hK : K ≤ 1000) : own_D (a - b) K (FP.dsub x y) := by
  obtain ⟨⟨s, c, q, hx⟩, zx⟩ := X
  obtain ⟨⟨t, d, r, hy⟩, zy⟩ := Y
  have fx : Jvm.FP.Core.fits b64 (.fin s c q) := hx ▸ val64_fits x
  have fy : Jvm.FP.Core.fits b64 (.fin (!t) d r) := negate_fits (d := .fin t d r) (hy ▸ val64_fits y)
  obtain ⟨sg, n, e, h1, h2, h3⟩ := sum_units fx fy
  refine own_Drnd (e0 := b64.qmin) (s := sg) (c := n) (q := e) ?_ hn hK (Int.le_refl _) h2 ?_
  · show val64 (dsub x y) = _
    rw [val64_dsub, hx, hy]; exact congrArg _ h1
  · rw [h3, ← hx, show Datum.fin (!t) d r = negate (val64 y) by rw [hy]; rfl, zval_negate, zx, zy, Int.sub_self, show ((2 ^ (0 : Int).toNat : Nat) : Int) = 1 from rfl, Int.mul_one, Int.sub_mul]
    rfl
open Jvm.FP.Core in
theorem own_sgm (s t : Bool) (x y : Nat) : signed (s != t) (x * y) = signed s x * signed t y := by
  cases s <;> cases t <;> simp [signed, Int.mul_neg, Int.neg_mul]
open Jvm.FP.Core in
theorem own_Dmul {a b : Int} {K L : Nat} {x y : UInt64} (X : own_D a K x) (Y : own_D b L y) (hn : (a * b).natAbs < 2 ^ 53) (hK : K + L ≤ 1000) : own_D (a * b) (K + L) (FP.dmul x y) := by
  obtain ⟨⟨s, c, q, hx⟩, zx⟩ := X
  obtain ⟨⟨t, d, r, hy⟩, zy⟩ := Y
  have fx : Jvm.FP.Core.fits b64 (.fin s c q) := hx ▸ val64_fits x
  have fy : Jvm.FP.Core.fits b64 (.fin t d r) := hy ▸ val64_fits y
  obtain ⟨h1, h2, h3⟩ := product_units fx fy
  have qm : b64.qmin = -1074 := qmin_b64
  refine own_Drnd (e0 := 2 * b64.qmin) (s := s != t) (c := c * d) (q := q + r) ?_ hn hK (by omega) h2 ?_
  · show val64 (dmul x y) = _
    rw [val64_dmul, hx, hy]; exact congrArg _ h1
  · rw [h3, own_sgm]
    show zval b64 (.fin s c q) * zval b64 (.fin t d r) = _
    rw [← hx, ← hy, zx, zy, show (b64.qmin - 2 * b64.qmin).toNat = 1074 by omega, Int.mul_assoc (a * b), ← Int.natCast_mul, ← Nat.pow_add,
      show 1074 - (K + L) + 1074 = (1074 - K) + (1074 - L) by omega, Nat.pow_add, Int.natCast_mul]
    ac_rfl
open Jvm.FP.Core in
theorem own_divS {x y : UInt64} {s : Bool} {c : Nat} {q : Int} (hx : val64 x = .fin s c q) (hy : DFin y) (yp : 0 < zval b64 (val64 y)) :
    val64 (ddiv x y) ≠ .nan ∧
    (∀ v, val64 v ≠ .nan → zval b64 (val64 x) * (one64 : Int) ≤ zval b64 (val64 v) * zval b64 (val64 y) → zval b64 (val64 (ddiv x y)) ≤ zval b64 (val64 v)) ∧
    (∀ v, val64 v ≠ .nan → zval b64 (val64 v) * zval b64 (val64 y) ≤ zval b64 (val64 x) * (one64 : Int) → zval b64 (val64 v) ≤ zval b64 (val64 (ddiv x y))) := by
  obtain ⟨t, d, r, hy⟩ := hy
  have ht : t = false := by
    cases t with
    | false => rfl
    | true => rw [hy] at yp; unfold zval signed at yp; rw [if_pos (show sgn (Datum.fin true d r) = true from rfl)] at yp; omega
  subst ht
  have hd : d ≠ 0 := by
    intro q0; rw [hy, q0] at yp
    have : zval b64 (.fin false 0 r) = 0 := by show signed false (0 * _) = 0; rw [Nat.zero_mul]; rfl
    omega
  obtain ⟨w1, w2, w3, w4⟩ := own_divz hx hy hd
  have zyn : zval b64 (val64 y) = (zmag b64 (val64 y) : Int) := by rw [hy]; rfl
  have zxs : zval b64 (val64 x) = signed s (zmag b64 (val64 x)) := by rw [hx]; rfl
  have zds : zval b64 (val64 (ddiv x y)) = signed s (zmag b64 (val64 (ddiv x y))) := by unfold zval; rw [w2]
  refine ⟨w1, fun v hv h => ?_, fun v hv h => ?_⟩
  · have a3 := w3 v hv
    have a4 := w4 v hv
    have hz : zmag b64 (val64 v) * zmag b64 (val64 y) = 0 → zmag b64 (val64 v) = 0 := by
      intro g; rcases Nat.mul_eq_zero.mp g with g | g <;> omega
    rw [zds]
    rw [zxs, zyn] at h
    unfold zval at h ⊢
    rw [← signed_mul, ← signed_mul] at h
    generalize zmag b64 (val64 v) * zmag b64 (val64 y) = P at *
    generalize zmag b64 (val64 x) * one64 = Q at *
    generalize sgn (val64 v) = t at *
    cases s <;> cases t <;> simp only [signed, if_true, Bool.false_eq_true, if_false] at h ⊢ <;> omega
  · have a3 := w3 v hv
    have a4 := w4 v hv
    have hz : zmag b64 (val64 v) * zmag b64 (val64 y) = 0 → zmag b64 (val64 v) = 0 := by
      intro g; rcases Nat.mul_eq_zero.mp g with g | g <;> omega
    rw [zds]
    rw [zxs, zyn] at h
    unfold zval at h ⊢
    rw [← signed_mul, ← signed_mul] at h
    generalize zmag b64 (val64 v) * zmag b64 (val64 y) = P at *
    generalize zmag b64 (val64 x) * one64 = Q at *
    generalize sgn (val64 v) = t at *
    cases s <;> cases t <;> simp only [signed, if_true, Bool.false_eq_true, if_false] at h ⊢ <;> omega
open Jvm.FP.Core in
theorem own_Ddiv {a b n : Int} {K L M : Nat} {x y : UInt64} (X : own_D a K x) (Y : own_D b L y) (hb : 0 < b) (hn : n.natAbs < 2 ^ 53) (hM : M ≤ 1000)
    (h : a * ((2 ^ (1074 - K) : Nat) : Int) * ((2 ^ 1074 : Nat) : Int) = n * ((2 ^ (1074 - M) : Nat) : Int) * (b * ((2 ^ (1074 - L) : Nat) : Int))) : own_D n M (FP.ddiv x y) := by
  obtain ⟨⟨s, c, q, hx⟩, zx⟩ := X
  obtain ⟨Y, zy⟩ := Y
  obtain ⟨v1, v2, v3⟩ := own_dyz hn hM
  have yp : 0 < b * ((2 ^ (1074 - L) : Nat) : Int) := Int.mul_pos hb (by have := Nat.two_pow_pos (1074 - L); omega)
  rw [← zx, ← zy, ← v2] at h
  rw [← zy] at yp
  obtain ⟨w1, w2, w3⟩ := own_divS hx Y yp
  have z2 : zval b64 (val64 (ddiv x y)) = zval b64 (val64 (own_dy n M)) := Int.le_antisymm (w2 _ v1 (Int.le_of_eq h)) (w3 _ v1 (Int.le_of_eq h.symm))
  exact ⟨own_finof w1 v3 z2, z2.trans v2⟩
open Jvm.FP.Core in
theorem own_Dadd {a b : Int} {K : Nat} {x y : UInt64} (X : own_D a K x) (Y : own_D b K y) (hn : (a + b).natAbs < 2 ^ 53) (hK : K ≤ 1000) : own_D (a + b) K (FP.dadd x y) := by
  obtain ⟨⟨s, c, q, hx⟩, zx⟩ := X
  obtain ⟨⟨t, d, r, hy⟩, zy⟩ := Y
  have fx : Jvm.FP.Core.fits b64 (.fin s c q) := hx ▸ val64_fits x
  have fy : Jvm.FP.Core.fits b64 (.fin t d r) := hy ▸ val64_fits y
  obtain ⟨sg, n, e, h1, h2, h3⟩ := sum_units fx fy
  refine own_Drnd (e0 := b64.qmin) (s := sg) (c := n) (q := e) ?_ hn hK (Int.le_refl _) h2 ?_
  · show val64 (dadd x y) = _
    rw [val64_dadd, hx, hy]; exact congrArg _ h1
  · rw [h3, ← hx, ← hy, zx, zy, Int.sub_self, show ((2 ^ (0 : Int).toNat : Nat) : Int) = 1 from rfl, Int.mul_one, Int.add_mul]
theorem own_Dup {a : Int} {K : Nat} (J : Nat) {x : UInt64} (X : own_D a K x) (h : K + J ≤ 1074) : own_D (a * ((2 ^ J : Nat) : Int)) (K + J) x := by
  refine ⟨X.1, X.2.trans ?_⟩
  rw [Int.mul_assoc, ← Int.natCast_mul, ← Nat.pow_add, show J + (1074 - (K + J)) = 1074 - K by omega]
open Jvm.FP.Core in
theorem own_Dlt {x y : UInt64} (hx : val64 x ≠ .nan) (hy : val64 y ≠ .nan) (h : zval b64 (val64 x) < zval b64 (val64 y)) (o : CmpOp) : cmpValue (FP.dcmp x y) o = -1 := by
  rw [own_cmpz hx hy, Int.compare_eq_lt.mpr h]
  cases o <;> rfl
theorem own_Deq {n : Int} {K : Nat} {x y : UInt64} (X : own_D n K x) (Y : own_D n K y) (o : CmpOp) : cmpValue (FP.dcmp x y) o = 0 := by
  rw [own_cmpz X.1.ne_nan Y.1.ne_nan, X.2, Y.2, Int.compare_eq_eq.mpr rfl]
  cases o <;> rfl

def own_max (a b : Int32) : Int32 := if a < b then b else a
theorem own_maxt {a b : Int32} (h : a < b) : b = own_max a b := (if_pos h).symm
theorem own_maxf {a b : Int32} (h : ¬ a < b) : a = own_max a b := (if_neg h).symm
def own_ok (n : Int32) (q : Int64) : Prop := 1 ≤ n.toInt ∧ ((n.toInt ≤ 1048576 ∧ -2147483648 ≤ q.toInt ∧ q.toInt ≤ 2147483648) ∨ (-2097152 ≤ q.toInt ∧ q.toInt ≤ 2097152))
def own_rk (n r : Int32) : Prop := 0 ≤ r.toInt ∧ r.toInt < n.toInt
theorem own_ok1 (p x : Int32) : own_ok ((p &&& (1048575 : Int32)) + (1 : Int32)) x.toInt64 := by
  have q := Jvm.Kit.i32_mask p (1048575 : Int32) (k := 20) (by decide) (by decide)
  have := x.toInt_lt; have := x.le_toInt
  unfold own_ok
  rw [Jvm.Kit.i64_of_i32, Jvm.Kit.i32_add (by rw [q, show (1 : Int32).toInt = 1 from rfl]; omega) (by rw [q, show (1 : Int32).toInt = 1 from rfl]; omega), q, show (1 : Int32).toInt = 1 from rfl]
  omega
theorem own_ok2 (p x : Int32) : own_ok (own_max (1 : Int32) (p &&& (2147483647 : Int32))) (x >>> ((10 : Int32) &&& 31)).toInt64 := by
  have q := Jvm.Kit.i32_shr x ((10 : Int32) &&& 31) (k := 10) (by decide)
  have := x.toInt_lt; have := x.le_toInt
  unfold own_ok own_max
  rw [Jvm.Kit.i64_of_i32, q]
  refine ⟨?_, Or.inr (by omega)⟩
  by_cases h : (1 : Int32) < p &&& (2147483647 : Int32)
  · rw [if_pos h]; rw [Int32.lt_iff_toInt_lt, show (1 : Int32).toInt = 1 from rfl] at h; omega
  · rw [if_neg h]; decide
theorem own_rk1 {n : Int32} {q : Int64} (h : own_ok n q) : own_rk n (n / (2 : Int32)) := by
  obtain ⟨h, -⟩ := h
  unfold own_rk
  rw [Jvm.Kit.i32_div (by rw [show (2 : Int32).toInt = 2 from rfl]; omega), show (2 : Int32).toInt = 2 from rfl, Int.tdiv_eq_ediv_of_nonneg (by omega)]
  omega
theorem own_n64 {n : Int32} {q : Int64} (h : own_ok n q) : n.toInt64 ≠ 0 := by
  intro g
  have := congrArg Int64.toInt g
  rw [Jvm.Kit.i64_of_i32, show (0 : Int64).toInt = 0 from rfl] at this
  have := h.1
  omega
theorem own_rk2 {n : Int32} {q : Int64} (h : own_ok n q) (x : Int32) : own_rk n ((x.toInt64 &&& (2147483647 : Int64)) - ((x.toInt64 &&& (2147483647 : Int64)) / n.toInt64) * n.toInt64).toInt32 := by
  have g := Jvm.Kit.i64_mask x.toInt64 (2147483647 : Int64) (k := 31) (by decide) (by decide)
  have hn := n.toInt_lt
  have h1 := h.1
  have g2 := Jvm.Kit.i64_rem_nonneg (x := x.toInt64 &&& (2147483647 : Int64)) (y := n.toInt64) (by rw [g]; omega)
  rw [Jvm.Kit.i64_of_i32] at g2
  have a1 := Int.emod_nonneg (x.toInt64 &&& (2147483647 : Int64)).toInt (show n.toInt ≠ 0 by omega)
  have a2 := Int.emod_lt_of_pos (x.toInt64 &&& (2147483647 : Int64)).toInt (show 0 < n.toInt by omega)
  unfold own_rk
  rw [Jvm.Kit.i32_of_i64 (by rw [g2]; omega) (by rw [g2]; omega), g2]
  omega
theorem own_half : own_D 1 1 (4602678819172646912 : UInt64) := ⟨⟨false, _, _, rfl⟩, by decide +kernel⟩
theorem own_L {n r : Int32} {q : Int64} (h : own_ok n q) (hr : own_rk n r) : (n.toInt64 * q + r.toInt64).toInt = n.toInt * q.toInt + r.toInt ∧ (n.toInt * q.toInt + r.toInt).natAbs < 2 ^ 53 := by
  obtain ⟨h1, h2⟩ := h
  obtain ⟨h3, h4⟩ := hr
  have hn := n.toInt_lt
  have b : -4503599627370496 ≤ n.toInt * q.toInt ∧ n.toInt * q.toInt ≤ 4503599627370496 := by
    rcases h2 with ⟨h5, h6, h7⟩ | ⟨h6, h7⟩
    · have b1 : n.toInt * q.toInt ≤ n.toInt * 2147483648 := Int.mul_le_mul_of_nonneg_left h7 (by omega)
      have b2 : n.toInt * (-2147483648) ≤ n.toInt * q.toInt := Int.mul_le_mul_of_nonneg_left h6 (by omega)
      omega
    · have b1 : n.toInt * q.toInt ≤ n.toInt * 2097152 := Int.mul_le_mul_of_nonneg_left h7 (by omega)
      have b2 : n.toInt * (-2097152) ≤ n.toInt * q.toInt := Int.mul_le_mul_of_nonneg_left h6 (by omega)
      omega
  have m : (n.toInt64 * q).toInt = n.toInt * q.toInt := by
    rw [Jvm.Kit.i64_mul (by rw [Jvm.Kit.i64_of_i32]; generalize n.toInt * q.toInt = z at *; omega) (by rw [Jvm.Kit.i64_of_i32]; generalize n.toInt * q.toInt = z at *; omega), Jvm.Kit.i64_of_i32]
  generalize n.toInt * q.toInt = z at *
  refine ⟨?_, by omega⟩
  rw [Jvm.Kit.i64_add (by rw [m, Jvm.Kit.i64_of_i32]; omega) (by rw [m, Jvm.Kit.i64_of_i32]; omega), m, Jvm.Kit.i64_of_i32]
open Jvm.FP.Core in
theorem own_avg {n r : Int32} {q : Int64} (h : own_ok n q) (hr : own_rk n r) {V : UInt64} (hV : V = FP.ddiv (FP.l2d (n.toInt64 * q + r.toInt64)) (FP.i2d n)) :
    Fl.NoNaN64 V ∧ (r = 0 → cmpValue (FP.dcmp V (FP.l2d q)) .l = 0) ∧ (r ≠ 0 → cmpValue (FP.dcmp (FP.l2d q) V) .g = -1 ∧ cmpValue (FP.dcmp V (FP.l2d (q + 1))) .g = -1) ∧
    Fl.NoNaN64 (FP.dadd (FP.l2d q) 4602678819172646912) ∧ ((2 : Int64) * r.toInt64 = n.toInt64 → cmpValue (FP.dcmp V (FP.dadd (FP.l2d q) 4602678819172646912)) .l = 0) := by
  obtain ⟨l1, l2⟩ := own_L h hr
  obtain ⟨h1, h2⟩ := h
  obtain ⟨h3, h4⟩ := hr
  have hn := n.toInt_lt
  have q31 : -2147483648 ≤ q.toInt ∧ q.toInt ≤ 2147483648 := by omega
  have DL := own_Dl (v := n.toInt64 * q + r.toInt64) (by rw [l1]; omega)
  rw [l1] at DL
  have DN := own_Di n
  have DQ := own_Dl (v := q) (by omega)
  have q1 : (q + 1).toInt = q.toInt + 1 := by
    rw [Jvm.Kit.i64_add (by rw [show (1 : Int64).toInt = 1 from rfl]; omega) (by rw [show (1 : Int64).toInt = 1 from rfl]; omega)]; rfl
  have DQ1 := own_Dl (v := q + 1) (by rw [q1]; omega)
  rw [q1] at DQ1
  have op : (0 : Int) < ((2 ^ 1074 : Nat) : Int) := by have := Nat.two_pow_pos 1074; omega
  have yp : 0 < zval b64 (val64 (FP.i2d n)) := by rw [DN.2]; exact Int.mul_pos (by omega) op
  obtain ⟨s, c, e, hx⟩ := DL.1
  obtain ⟨w1, w2, w3⟩ := own_divS hx DN.1 yp
  have DH := own_Dadd (own_Dup 1 DQ (by omega)) own_half (by rw [show ((2 ^ 1 : Nat) : Int) = 2 from rfl]; omega) (by omega)
  refine ⟨?_, ?_, ?_, own_Dn DH, ?_⟩
  · rw [hV]; exact Fl.val64_no.mpr w1
  · intro r0
    have r0' : r.toInt = 0 := by rw [r0]; rfl
    rw [hV]
    refine own_Deq (own_Ddiv DL DN (by omega) (n := q.toInt) (M := 0) (by omega) (by omega) ?_) DQ _
    rw [r0', Int.add_zero]
    show n.toInt * q.toInt * ((2 ^ 1074 : Nat) : Int) * ((2 ^ 1074 : Nat) : Int) = q.toInt * ((2 ^ 1074 : Nat) : Int) * (n.toInt * ((2 ^ 1074 : Nat) : Int))
    generalize ((2 ^ 1074 : Nat) : Int) = O
    ac_rfl
  · intro r0
    have r1 : 1 ≤ r.toInt := by
      rcases Int.lt_or_le 0 r.toInt with g | g
      · omega
      · exact absurd (Int32.toInt_inj.mp (show r.toInt = (0 : Int32).toInt by rw [show (0 : Int32).toInt = 0 from rfl]; omega)) r0
    have key : ∀ (k : Nat), k ≤ 31 → n.toInt ≤ ((2 ^ k : Nat) : Int) → (q.toInt * ((2 ^ k : Nat) : Int) + 1).natAbs < 2 ^ 53 → ((q.toInt + 1) * ((2 ^ k : Nat) : Int) - 1).natAbs < 2 ^ 53 →
        cmpValue (FP.dcmp (FP.l2d q) V) .g = -1 ∧ cmpValue (FP.dcmp V (FP.l2d (q + 1))) .g = -1 := by
      intro k hk hnk u1 u2
      obtain ⟨a1, a2, a3⟩ := own_dyz u1 (show k ≤ 1000 by omega)
      obtain ⟨b1, b2, b3⟩ := own_dyz u2 (show k ≤ 1000 by omega)
      have pw : ((2 ^ k : Nat) : Int) * ((2 ^ (1074 - k) : Nat) : Int) = ((2 ^ 1074 : Nat) : Int) := by
        rw [← Int.natCast_mul, ← Nat.pow_add, show k + (1074 - k) = 1074 by omega]
      have up : (0 : Int) < ((2 ^ (1074 - k) : Nat) : Int) := by have := Nat.two_pow_pos (1074 - k); omega
      have x1 := w3 (own_dy (q.toInt * ((2 ^ k : Nat) : Int) + 1) k) a1 (by
        rw [a2, DL.2, DN.2]
        show _ ≤ _ * ((2 ^ 1074 : Nat) : Int) * ((2 ^ 1074 : Nat) : Int)
        show (q.toInt * ((2 ^ k : Nat) : Int) + 1) * ((2 ^ (1074 - k) : Nat) : Int) * (n.toInt * ((2 ^ 1074 : Nat) : Int)) ≤ _
        rw [← Int.mul_assoc]
        refine Int.mul_le_mul_of_nonneg_right ?_ (by omega)
        rw [← pw]
        generalize ((2 ^ k : Nat) : Int) = P at *
        generalize ((2 ^ (1074 - k) : Nat) : Int) = U at *
        have e1 : (q.toInt * P + 1) * U * n.toInt = (n.toInt * q.toInt) * P * U + n.toInt * U := by
          rw [Int.add_mul, Int.add_mul, Int.one_mul]; ac_rfl
        have e2 : (n.toInt * q.toInt + r.toInt) * (P * U) = (n.toInt * q.toInt) * P * U + r.toInt * P * U := by
          rw [Int.add_mul]; ac_rfl
        rw [e1, e2]
        have : n.toInt * U ≤ r.toInt * P * U := Int.mul_le_mul_of_nonneg_right (by
          have : 1 * P ≤ r.toInt * P := Int.mul_le_mul_of_nonneg_right r1 (by omega)
          omega) (by omega)
        omega)
      have x2 := w2 (own_dy ((q.toInt + 1) * ((2 ^ k : Nat) : Int) - 1) k) b1 (by
        rw [b2, DL.2, DN.2]
        show _ * ((2 ^ 1074 : Nat) : Int) * ((2 ^ 1074 : Nat) : Int) ≤ _
        show _ ≤ ((q.toInt + 1) * ((2 ^ k : Nat) : Int) - 1) * ((2 ^ (1074 - k) : Nat) : Int) * (n.toInt * ((2 ^ 1074 : Nat) : Int))
        rw [← Int.mul_assoc (((q.toInt + 1) * ((2 ^ k : Nat) : Int) - 1) * ((2 ^ (1074 - k) : Nat) : Int))]
        refine Int.mul_le_mul_of_nonneg_right ?_ (by omega)
        rw [← pw]
        generalize ((2 ^ k : Nat) : Int) = P at *
        generalize ((2 ^ (1074 - k) : Nat) : Int) = U at *
        have e1 : ((q.toInt + 1) * P - 1) * U * n.toInt = (n.toInt * q.toInt) * P * U + n.toInt * P * U - n.toInt * U := by
          rw [Int.sub_mul, Int.sub_mul, Int.one_mul, Int.add_mul, Int.add_mul, Int.add_mul, Int.one_mul, Int.mul_comm U n.toInt, show q.toInt * P * U * n.toInt = n.toInt * q.toInt * P * U by ac_rfl, show P * U * n.toInt = n.toInt * P * U by ac_rfl]
        have e2 : (n.toInt * q.toInt + r.toInt) * (P * U) = (n.toInt * q.toInt) * P * U + r.toInt * P * U := by
          rw [Int.add_mul]; ac_rfl
        rw [e1, e2]
        have : r.toInt * P * U + n.toInt * U ≤ n.toInt * P * U := by
          rw [← Int.add_mul]
          refine Int.mul_le_mul_of_nonneg_right ?_ (by omega)
          have : (r.toInt + 1) * P ≤ n.toInt * P := Int.mul_le_mul_of_nonneg_right (by omega) (by omega)
          rw [Int.add_mul] at this
          omega
        omega)
      rw [hV]
      constructor
      · refine own_Dlt DQ.1.ne_nan w1 (Int.lt_of_lt_of_le ?_ x1) _
        rw [DQ.2, a2]; show q.toInt * ((2 ^ 1074 : Nat) : Int) < _
        rw [← pw, Int.add_mul, ← Int.mul_assoc]; omega
      · refine own_Dlt w1 DQ1.1.ne_nan (Int.lt_of_le_of_lt x2 ?_) _
        rw [DQ1.2, b2]; show _ < (q.toInt + 1) * ((2 ^ 1074 : Nat) : Int)
        rw [← pw, Int.sub_mul, ← Int.mul_assoc]; omega
    rcases h2 with ⟨h5, h6, h7⟩ | ⟨h6, h7⟩
    · exact key 20 (by omega) (by rw [show ((2 ^ 20 : Nat) : Int) = 1048576 from rfl]; omega) (by rw [show ((2 ^ 20 : Nat) : Int) = 1048576 from rfl]; omega) (by rw [show ((2 ^ 20 : Nat) : Int) = 1048576 from rfl]; omega)
    · exact key 31 (by omega) (by rw [show ((2 ^ 31 : Nat) : Int) = 2147483648 from rfl]; omega) (by rw [show ((2 ^ 31 : Nat) : Int) = 2147483648 from rfl]; omega) (by rw [show ((2 ^ 31 : Nat) : Int) = 2147483648 from rfl]; omega)
  · intro hh
    have h5 : 2 * r.toInt = n.toInt := by
      have := congrArg Int64.toInt hh
      rw [Jvm.Kit.i64_mul (by rw [Jvm.Kit.i64_of_i32, show (2 : Int64).toInt = 2 from rfl]; omega) (by rw [Jvm.Kit.i64_of_i32, show (2 : Int64).toInt = 2 from rfl]; omega), Jvm.Kit.i64_of_i32, Jvm.Kit.i64_of_i32] at this
      exact this
    rw [hV]
    refine own_Deq (own_Ddiv DL DN (by omega) (n := q.toInt * ((2 ^ 1 : Nat) : Int) + 1) (M := 0 + 1) (by rw [show ((2 ^ 1 : Nat) : Int) = 2 from rfl]; omega) (by omega) ?_) DH _
    have pw : (2 : Int) * ((2 ^ (1074 - (0 + 1)) : Nat) : Int) = ((2 ^ 1074 : Nat) : Int) := by
      rw [show (2 : Int) = ((2 ^ 1 : Nat) : Int) from rfl, ← Int.natCast_mul, ← Nat.pow_add]
    show (n.toInt * q.toInt + r.toInt) * ((2 ^ 1074 : Nat) : Int) * ((2 ^ 1074 : Nat) : Int) = (q.toInt * 2 + 1) * ((2 ^ (1074 - (0 + 1)) : Nat) : Int) * (n.toInt * ((2 ^ 1074 : Nat) : Int))
    rw [← Int.mul_assoc]
    congr 1
    rw [← pw, ← h5]
    generalize ((2 ^ (1074 - (0 + 1)) : Nat) : Int) = U
    rw [show 2 * r.toInt * q.toInt + r.toInt = r.toInt * (q.toInt * 2 + 1) by rw [Int.mul_add, Int.mul_one]; congr 1; ac_rfl]
    ac_rfl
theorem d3_0 : decode jdk_30_method_1_code 0 = .ok (.aload_n 0, 1) := by decide +kernel
theorem d3_1 : decode jdk_30_method_1_code 1 = .ok (.invokespecial 1, 3) := by decide +kernel
theorem d3_4 : decode jdk_30_method_1_code 4 = .ok (.return_, 1) := by decide +kernel
set_option maxHeartbeats 4000000 in
theorem own_ef1 (m : MethodId) (x0 : Addr) : entryFrame m #[(.ref x0)] 1 = mkF m 0 #[.val (.ref x0)] [] := by first | (simp [entryFrame, mkF, argsToLocals, Value.category]; done) | rfl
def own_r1Q (Z : State) (a : Addr) (h0 : Heap) (n0 : Nat) (v : Option Value) (h : Heap) (L : List Loc) : Prop := v = none ∧ Fr n0 L ∧ h = h0
theorem own_pn1 : plainName "java/lang/Record" = true := by first | (simp [plainName, overriddenIn]; done) | decide +kernel
abbrev own_r1R : Room := { frames := 1, cells := 0, slots := 0, locals := 12 }
set_option maxRecDepth 65536 in
set_option maxHeartbeats 40000000 in
theorem own_r1 (l : Launch) (Z : State) (a0 : Array Value) (hw : ∀ d ∈ tables_1, d.before a0 Z = true) (ws : List Jvm.Cond) (a : Addr) (h0 : Heap) (n0 : Nat) (Z0 : n0 ≤ h0.size)  :
    own_M l (⟨"java/lang/Record", "<init>", "()V"⟩ : MethodName) jdk_30_method_1_code 1 none ws own_r1R #[(.ref a)] Z h0 (own_r1Q Z a h0 n0) := by
  refine own_go (plainFor_of_name own_pn1) (fun m => own_ef1 m a ) ?_
  intro p e s m below meth c s₁ Bd hx hby hml hZ hh hown hnm X0 e0
  have N0 := Fr.nil n0
  refine own_st (T' := s₁) (g' := (mkF m 1 #[.val (.ref a)] [(.ref a)])) (fun _ kt => XS.aloadN X0.here hx rfl (hb hby d3_0) rfl rfl kt) ?_
  obtain ⟨T1, X1, e1, st1⟩ := initO X0 hx hZ hown (own_k hw 17 rfl) (own_k hw 18 rfl) (own_k hw 19 rfl) e0 (g := (mkF m 1 #[.val (.ref a)] [(.ref a)])) rfl hml.symm rfl (hb hby d3_1) (by decide) (W := 0) (by show 2 * 0 + _ ≤ _; exact Nat.le_of_eq rfl) (by decide)
  refine own_st (T' := T1) (g' := (mkF m 4 #[.val (.ref a)] [])) st1 ?_
  obtain ⟨fs, hr, hrun, hended, hW, hsame⟩ := X1.leave (v := none) (fun _ => rfl)
  refine own_end (X1.returnOut hx Bd.returns (hb hby d3_4) hr) ⟨_, hrun, hended, _, _, rfl, ?_, ⟨_, rfl⟩, hW, hsame.mono (by decide) (by decide)⟩
  show own_r1Q Z a h0 n0 _ T1.heap _
  rw [e1]
  exact ⟨rfl, N0, rfl⟩
theorem d1_0 : decode jdk_29_method_65_code 0 = .ok (.iload_n 0, 1) := by decide +kernel
theorem d1_1 : decode jdk_29_method_65_code 1 = .ok (.iload_n 1, 1) := by decide +kernel
theorem d1_2 : decode jdk_29_method_65_code 2 = .ok (.if_icmp .lt 7, 3) := by decide +kernel
theorem d1_9 : decode jdk_29_method_65_code 9 = .ok (.iload_n 1, 1) := by decide +kernel
theorem d1_10 : decode jdk_29_method_65_code 10 = .ok (.ireturn, 1) := by decide +kernel
theorem d1_5 : decode jdk_29_method_65_code 5 = .ok (.iload_n 0, 1) := by decide +kernel
theorem d1_6 : decode jdk_29_method_65_code 6 = .ok (.goto 4, 3) := by decide +kernel
set_option maxHeartbeats 4000000 in
theorem own_ef2 (m : MethodId) (x0 : Int32) (x1 : Int32) : entryFrame m #[(.int x0), (.int x1)] 2 = mkF m 0 #[.val (.int x0), .val (.int x1)] [] := by first | (simp [entryFrame, mkF, argsToLocals, Value.category]; done) | rfl
def own_mxQ (Z : State) (u1 : Int32) (u2 : Int32) (h0 : Heap) (n0 : Nat) (v : Option Value) (h : Heap) (L : List Loc) : Prop := v = some (.int (own_max u1 u2)) ∧ Fr n0 L ∧ h = h0
abbrev own_mxR : Room := { frames := 0, cells := 0, slots := 0, locals := 0 }
set_option maxRecDepth 65536 in
set_option maxHeartbeats 40000000 in
theorem own_mx (l : Launch) (Z : State) (a0 : Array Value) (hw : ∀ d ∈ tables_1, d.before a0 Z = true) (ws : List Jvm.Cond) (u1 : Int32) (u2 : Int32) (h0 : Heap) (n0 : Nat) (Z0 : n0 ≤ h0.size)  :
    own_M l (⟨"java/lang/Math", "max", "(II)I"⟩ : MethodName) jdk_29_method_65_code 2 (some .int) ws own_mxR #[(.int u1), (.int u2)] Z h0 (own_mxQ Z u1 u2 h0 n0) := by
  refine own_go (Jvm.Free.JP.mathPlain rfl (by decide)) (fun m => own_ef2 m u1 u2 ) ?_
  intro p e s m below meth c s₁ Bd hx hby hml hZ hh hown hnm X0 e0
  have N0 := Fr.nil n0
  refine own_st (T' := s₁) (g' := (mkF m 2 #[.val (.int u1), .val (.int u2)] [(.int u2), (.int u1)])) (fun _ kt => XS.iloadN X0.here hx rfl (hb hby d1_0) rfl (XS.iloadN X0.here hx rfl (hb hby d1_1) rfl kt)) ?_
  by_cases hc2 : u1 < u2
  · -- pc 2: u1 < u2
    refine own_st (T' := s₁) (g' := (mkF m 10 #[.val (.int u1), .val (.int u2)] [(.int u2)])) (fun _ kt => XS.icmpYes X0.here hx rfl (pc0 := 2) (pc' := 9) rfl (hb hby d1_2) rfl (XT.ii_lt_t hc2) (by decide) (by decide) (XS.iloadN X0.here hx rfl (hb hby d1_9) rfl kt)) ?_
    obtain ⟨fs, hr, hrun, hended, hW, hsame⟩ := X0.leave (v := some (.int u2)) (fun h => by rw [Bd.returns] at h; cases h)
    refine own_end (own_retI X0 hx Bd.returns (hb hby d1_10) hr) ⟨_, hrun, hended, _, _, rfl, ?_, ⟨_, rfl⟩, hW, hsame.mono (by decide) (by decide)⟩
    show own_mxQ Z u1 u2 h0 n0 _ s₁.heap _
    rw [e0]
    exact ⟨(congrArg (fun z => some (Value.int z)) (own_maxt hc2)), N0, rfl⟩
  · -- pc 2: not u1 < u2
    refine own_st (T' := s₁) (g' := (mkF m 10 #[.val (.int u1), .val (.int u2)] [(.int u1)])) (fun _ kt => XS.icmpNo X0.here hx rfl (hb hby d1_2) rfl (XT.ii_lt_f hc2) (XS.iloadN X0.here hx rfl (hb hby d1_5) rfl (XS.goto X0.here hx rfl (pc0 := 6) (pc' := 10) rfl (hb hby d1_6) (by decide) (by decide) kt))) ?_
    obtain ⟨fs, hr, hrun, hended, hW, hsame⟩ := X0.leave (v := some (.int u1)) (fun h => by rw [Bd.returns] at h; cases h)
    refine own_end (own_retI X0 hx Bd.returns (hb hby d1_10) hr) ⟨_, hrun, hended, _, _, rfl, ?_, ⟨_, rfl⟩, hW, hsame.mono (by decide) (by decide)⟩
    show own_mxQ Z u1 u2 h0 n0 _ s₁.heap _
    rw [e0]
    exact ⟨(congrArg (fun z => some (Value.int z)) (own_maxf hc2)), N0, rfl⟩
theorem d2_0 : decode prog_54_method_1_code 0 = .ok (.aload_n 0, 1) := by decide +kernel
theorem d2_1 : decode prog_54_method_1_code 1 = .ok (.invokespecial 1, 3) := by decide +kernel
theorem own_pd1 : parseMethodDescriptor "()V" = some ⟨[], none⟩ := by decide +kernel
theorem d2_4 : decode prog_54_method_1_code 4 = .ok (.aload_n 0, 1) := by decide +kernel
theorem d2_5 : decode prog_54_method_1_code 5 = .ok (.iload_n 1, 1) := by decide +kernel
theorem d2_6 : decode prog_54_method_1_code 6 = .ok (.putfield 7, 3) := by decide +kernel
theorem d2_9 : decode prog_54_method_1_code 9 = .ok (.aload_n 0, 1) := by decide +kernel
theorem d2_10 : decode prog_54_method_1_code 10 = .ok (.lload_n 2, 1) := by decide +kernel
theorem d2_11 : decode prog_54_method_1_code 11 = .ok (.putfield 13, 3) := by decide +kernel
theorem d2_14 : decode prog_54_method_1_code 14 = .ok (.return_, 1) := by decide +kernel
set_option maxHeartbeats 4000000 in
theorem own_ef3 (m : MethodId) (x0 : Addr) (x1 : Int32) (x2 : Int64) : entryFrame m #[(.ref x0), (.int x1), (.long x2)] 4 = mkF m 0 #[.val (.ref x0), .val (.int x1), .val (.long x2), .second] [] := by first | (simp [entryFrame, mkF, argsToLocals, Value.category]; done) | rfl
def own_ciQ (Z : State) (a : Addr) (u1 : Int32) (u2 : Int64) (h0 : Heap) (n0 : Nat) (v : Option Value) (h : Heap) (L : List Loc) : Prop := v = none ∧ Fr n0 L ∧ Keep h0 h [a] ∧ (Exa Z h a "com/example/tally_rank/tallyrank/search/CollectionStatistics") ∧ (Fld Z h a "com/example/tally_rank/tallyrank/search/CollectionStatistics" "documentCount" "I" (.int u1)) ∧ (Fld Z h a "com/example/tally_rank/tallyrank/search/CollectionStatistics" "length" "J" (.long u2))
theorem own_pn2 : plainName "com/example/tally_rank/tallyrank/search/CollectionStatistics" = true := by first | (simp [plainName, overriddenIn]; done) | decide +kernel
abbrev own_ciR : Room := { frames := 2, cells := 0, slots := 0, locals := 24 }
set_option maxRecDepth 65536 in
set_option maxHeartbeats 40000000 in
theorem own_ci (l : Launch) (Z : State) (a0 : Array Value) (hw : ∀ d ∈ tables_1, d.before a0 Z = true) (ws : List Jvm.Cond) (a : Addr) (u1 : Int32) (u2 : Int64) (h0 : Heap) (n0 : Nat) (Z0 : n0 ≤ h0.size) (pr1 : Exa Z h0 a "com/example/tally_rank/tallyrank/search/CollectionStatistics") (pr2 : n0 ≤ a) (pr3 : Fld Z h0 a "com/example/tally_rank/tallyrank/search/CollectionStatistics" "documentCount" "I" (.int (0 : Int32))) (pr4 : Fld Z h0 a "com/example/tally_rank/tallyrank/search/CollectionStatistics" "length" "J" (.long (0 : Int64))) :
    own_M l (⟨"com/example/tally_rank/tallyrank/search/CollectionStatistics", "<init>", "(IJ)V"⟩ : MethodName) prog_54_method_1_code 4 none ws own_ciR #[(.ref a), (.int u1), (.long u2)] Z h0 (own_ciQ Z a u1 u2 h0 n0) := by
  refine own_go (plainFor_of_name own_pn2) (fun m => own_ef3 m a u1 u2 ) ?_
  intro p e s m below meth c s₁ Bd hx hby hml hZ hh hown hnm X0 e0
  have N0 := Fr.nil n0
  have K0 : Keep h0 h0 [a] := Keep.refl h0 _
  refine own_st (T' := s₁) (g' := (mkF m 1 #[.val (.ref a), .val (.int u1), .val (.long u2), .second] [(.ref a)])) (fun _ kt => XS.aloadN X0.here hx rfl (hb hby d2_0) rfl rfl kt) ?_
  obtain ⟨_, _, ⟨T3, L3, k3, n3⟩, -, X3, ⟨Lc3, hQ3, l3, y3, z3⟩, st3⟩ := X0.specialBack hx (y := (⟨"java/lang/Record", "<init>", "()V"⟩ : MethodName)) rfl hown (mvT hZ (own_k hw 12 rfl)) (mvT hZ (own_k hw 13 rfl)) (mvT hZ (own_k hw 16 rfl)) (by decide) (backOf (W := 0) (own_r1 l Z a0 hw [] a h0 n0 Z0 ) hZ (own_k hw 16 rfl) (own_k hw 15 rfl) (by decide) (by decide)) (g := (mkF m 1 #[.val (.ref a), .val (.int u1), .val (.long u2), .second] [(.ref a)])) rfl hml.symm (Steps.refl _) (a := a) (argsL := []) (rest := []) (lenOf own_pd1 rfl) rfl (by show 2 * 0 + _ ≤ _; exact Nat.le_of_eq rfl) (hb hby d2_1) (fun _ _ => ⟨rfl, e0, (by decide : 0 + 0 ≤ 0), (by decide : 0 + 0 ≤ 0)⟩)
  dsimp only [Pt.U, Pt.locs, Pt.cells, Pt.slots] at X3 l3 y3 z3 st3 hQ3
  subst l3 y3 z3
  obtain ⟨rfl, N3, e3⟩ := hQ3
  have N4 := Fr.app N0 N3
  refine own_tr (T' := T3) (g' := (mkF m 4 #[.val (.ref a), .val (.int u1), .val (.long u2), .second] [])) st3 ?_
  refine own_st (T' := T3) (g' := (mkF m 6 #[.val (.ref a), .val (.int u1), .val (.long u2), .second] [(.int u1), (.ref a)])) (fun _ kt => XS.aloadN X3.here hx rfl (hb hby d2_4) rfl rfl (XS.iloadN X3.here hx rfl (hb hby d2_5) rfl kt)) ?_
  obtain ⟨T5, h5, X5, e5, W5, st5⟩ := putF X3 hx hZ hown (host := "") (Or.inl (own_k hw 20 rfl)) Via.refl e3 pr3 pr1 (Or.inr ⟨(own_k hw 21 rfl), rfl, hnm⟩) (own_k hw 7 rfl) (ty := .int) (by decide) rfl rfl (g := (mkF m 6 #[.val (.ref a), .val (.int u1), .val (.long u2), .second] [(.int u1), (.ref a)])) rfl rfl (hb hby d2_6)
  have N5 := Fr.snoc X5 N4 pr2
  have Z6 : n0 ≤ h5.size := Nat.le_trans Z0 (Nat.le_of_eq (Wr.size W5).symm)
  have K6 : Keep h0 h5 [a] := (Keep.wr K0 W5 (Or.inl (List.mem_of_getElem? (i := 0) rfl)))
  have F7 : Fld Z h5 a "com/example/tally_rank/tallyrank/search/CollectionStatistics" "documentCount" "I" (.int u1) := Fld.same W5 pr3
  refine own_st (T' := T5) (g' := (mkF m 9 #[.val (.ref a), .val (.int u1), .val (.long u2), .second] [])) st5 ?_
  refine own_st (T' := T5) (g' := (mkF m 11 #[.val (.ref a), .val (.int u1), .val (.long u2), .second] [(.long u2), (.ref a)])) (fun _ kt => XS.aloadN X5.here hx rfl (hb hby d2_9) rfl rfl (XT.lloadN X5.here hx rfl (hb hby d2_10) rfl kt)) ?_
  have F8 : Fld Z h5 a "com/example/tally_rank/tallyrank/search/CollectionStatistics" "length" "J" (.long (0 : Int64)) := (Fld.other W5 pr4 (Or.inr (slot_ne (Or.inr (own_k hw 23 rfl)) (Or.inr (own_k hw 21 rfl)) (by decide) (t := .long) (t' := .int) (by decide) (by decide))))
  have F9 : Exa Z h5 a "com/example/tally_rank/tallyrank/search/CollectionStatistics" := (Exa.wr W5 pr1)
  obtain ⟨T10, h10, X10, e10, W10, st10⟩ := putF X5 hx hZ hown (host := "") (Or.inl (own_k hw 22 rfl)) Via.refl e5 F8 F9 (Or.inr ⟨(own_k hw 23 rfl), rfl, hnm⟩) (own_k hw 7 rfl) (ty := .long) (by decide) rfl rfl (g := (mkF m 11 #[.val (.ref a), .val (.int u1), .val (.long u2), .second] [(.long u2), (.ref a)])) rfl rfl (hb hby d2_11)
  have N10 := Fr.snoc X10 N5 pr2
  have Z11 : n0 ≤ h10.size := Nat.le_trans Z6 (Nat.le_of_eq (Wr.size W10).symm)
  have K11 : Keep h0 h10 [a] := (Keep.wr K6 W10 (Or.inl (List.mem_of_getElem? (i := 0) rfl)))
  have F12 : Fld Z h10 a "com/example/tally_rank/tallyrank/search/CollectionStatistics" "length" "J" (.long u2) := Fld.same W10 F8
  refine own_st (T' := T10) (g' := (mkF m 14 #[.val (.ref a), .val (.int u1), .val (.long u2), .second] [])) st10 ?_
  obtain ⟨fs, hr, hrun, hended, hW, hsame⟩ := X10.leave (v := none) (fun _ => rfl)
  refine own_end (X10.returnOut hx Bd.returns (hb hby d2_14) hr) ⟨_, hrun, hended, _, _, rfl, ?_, ⟨_, rfl⟩, hW, hsame.mono (by decide) (by decide)⟩
  have F13 : Exa Z h10 a "com/example/tally_rank/tallyrank/search/CollectionStatistics" := (Exa.wr W10 F9)
  have F14 : Fld Z h10 a "com/example/tally_rank/tallyrank/search/CollectionStatistics" "documentCount" "I" (.int u1) := (Fld.other W10 F7 (Or.inr (slot_ne (Or.inr (own_k hw 21 rfl)) (Or.inr (own_k hw 23 rfl)) (by decide) (t := .int) (t' := .long) (by decide) (by decide))))
  show own_ciQ Z a u1 u2 h0 n0 _ T10.heap _
  rw [e10]
  exact ⟨rfl, N10, K11, F13, F14, F12⟩
theorem d5_0 : decode prog_54_method_3_code 0 = .ok (.aload_n 0, 1) := by decide +kernel
theorem d5_1 : decode prog_54_method_3_code 1 = .ok (.getfield 7, 3) := by decide +kernel
theorem d5_4 : decode prog_54_method_3_code 4 = .ok (.ifCond .ne 7, 3) := by decide +kernel
theorem d5_7 : decode prog_54_method_3_code 7 = .ok (.dconst 0, 1) := by decide +kernel
theorem d5_8 : decode prog_54_method_3_code 8 = .ok (.goto 14, 3) := by decide +kernel
theorem d5_22 : decode prog_54_method_3_code 22 = .ok (.dreturn, 1) := by decide +kernel
def own_a0Q (Z : State) (a : Addr) (h0 : Heap) (n0 : Nat) (v : Option Value) (h : Heap) (L : List Loc) : Prop := v = some (.double (0 : UInt64)) ∧ Fr n0 L ∧ h = h0
abbrev own_a0R : Room := { frames := 0, cells := 0, slots := 0, locals := 0 }
set_option maxRecDepth 65536 in
set_option maxHeartbeats 40000000 in
theorem own_a0 (l : Launch) (Z : State) (a0 : Array Value) (hw : ∀ d ∈ tables_1, d.before a0 Z = true) (ws : List Jvm.Cond) (a : Addr) (h0 : Heap) (n0 : Nat) (Z0 : n0 ≤ h0.size) (pr1 : Fld Z h0 a "com/example/tally_rank/tallyrank/search/CollectionStatistics" "documentCount" "I" (.int (0 : Int32))) :
    own_M l (⟨"com/example/tally_rank/tallyrank/search/CollectionStatistics", "averageLength", "()D"⟩ : MethodName) prog_54_method_3_code 1 (some .double) ws own_a0R #[(.ref a)] Z h0 (own_a0Q Z a h0 n0) := by
  refine own_go (plainFor_of_name own_pn2) (fun m => own_ef1 m a ) ?_
  intro p e s m below meth c s₁ Bd hx hby hml hZ hh hown hnm X0 e0
  have N0 := Fr.nil n0
  refine own_st (T' := s₁) (g' := (mkF m 1 #[.val (.ref a)] [(.ref a)])) (fun _ kt => XS.aloadN X0.here hx rfl (hb hby d5_0) rfl rfl kt) ?_
  obtain ⟨T15, X15, e15, st15⟩ := getF X0 hx hZ hown (host := "") (Or.inl (own_k hw 20 rfl)) Via.refl e0 pr1 (g := (mkF m 1 #[.val (.ref a)] [(.ref a)])) rfl rfl (hb hby d5_1)
  refine own_st (T' := T15) (g' := (mkF m 4 #[.val (.ref a)] [(.int (0 : Int32))])) st15 ?_
  refine own_st (T' := T15) (g' := (mkF m 22 #[.val (.ref a)] [(.double (0 : UInt64))])) (fun _ kt => XS.ifNo X15.here hx rfl (hb hby d5_4) rfl (XT.i0_ne_f (by decide)) (XS.dconst0 X15.here hx rfl (hb hby d5_7) rfl (XS.goto X15.here hx rfl (pc0 := 8) (pc' := 22) rfl (hb hby d5_8) (by decide) (by decide) kt))) ?_
  obtain ⟨fs, hr, hrun, hended, hW, hsame⟩ := X15.leave (v := some (.double (0 : UInt64))) (fun h => by rw [Bd.returns] at h; cases h)
  refine own_end (own_retD X15 hx Bd.returns (hb hby d5_22) hr) ⟨_, hrun, hended, _, _, rfl, ?_, ⟨_, rfl⟩, hW, hsame.mono (by decide) (by decide)⟩
  show own_a0Q Z a h0 n0 _ T15.heap _
  rw [e15]
  exact ⟨rfl, N0, rfl⟩
theorem d5_11 : decode prog_54_method_3_code 11 = .ok (.aload_n 0, 1) := by decide +kernel
theorem d5_12 : decode prog_54_method_3_code 12 = .ok (.getfield 13, 3) := by decide +kernel
theorem d5_15 : decode prog_54_method_3_code 15 = .ok (.l2d, 1) := by decide +kernel
theorem d5_16 : decode prog_54_method_3_code 16 = .ok (.aload_n 0, 1) := by decide +kernel
theorem d5_17 : decode prog_54_method_3_code 17 = .ok (.getfield 7, 3) := by decide +kernel
theorem d5_20 : decode prog_54_method_3_code 20 = .ok (.i2d, 1) := by decide +kernel
theorem d5_21 : decode prog_54_method_3_code 21 = .ok (.ddiv, 1) := by decide +kernel
def own_a1Q (Z : State) (a : Addr) (u1 : Int32) (u2 : Int64) (h0 : Heap) (n0 : Nat) (v : Option Value) (h : Heap) (L : List Loc) : Prop := v = some (.double (FP.ddiv (FP.l2d u2) (FP.i2d u1))) ∧ Fr n0 L ∧ h = h0
abbrev own_a1R : Room := { frames := 0, cells := 0, slots := 0, locals := 0 }
set_option maxRecDepth 65536 in
set_option maxHeartbeats 40000000 in
theorem own_a1 (l : Launch) (Z : State) (a0 : Array Value) (hw : ∀ d ∈ tables_1, d.before a0 Z = true) (ws : List Jvm.Cond) (a : Addr) (u1 : Int32) (u2 : Int64) (h0 : Heap) (n0 : Nat) (Z0 : n0 ≤ h0.size) (pr1 : Fld Z h0 a "com/example/tally_rank/tallyrank/search/CollectionStatistics" "documentCount" "I" (.int u1)) (pr2 : Fld Z h0 a "com/example/tally_rank/tallyrank/search/CollectionStatistics" "length" "J" (.long u2)) (pr3 : u1 ≠ 0) (pr4 : Fl.NoNaN64 (FP.ddiv (FP.l2d u2) (FP.i2d u1))) :
    own_M l (⟨"com/example/tally_rank/tallyrank/search/CollectionStatistics", "averageLength", "()D"⟩ : MethodName) prog_54_method_3_code 1 (some .double) ws own_a1R #[(.ref a)] Z h0 (own_a1Q Z a u1 u2 h0 n0) := by
  refine own_go (plainFor_of_name own_pn2) (fun m => own_ef1 m a ) ?_
  intro p e s m below meth c s₁ Bd hx hby hml hZ hh hown hnm X0 e0
  have N0 := Fr.nil n0
  refine own_st (T' := s₁) (g' := (mkF m 1 #[.val (.ref a)] [(.ref a)])) (fun _ kt => XS.aloadN X0.here hx rfl (hb hby d5_0) rfl rfl kt) ?_
  obtain ⟨T16, X16, e16, st16⟩ := getF X0 hx hZ hown (host := "") (Or.inl (own_k hw 20 rfl)) Via.refl e0 pr1 (g := (mkF m 1 #[.val (.ref a)] [(.ref a)])) rfl rfl (hb hby d5_1)
  refine own_st (T' := T16) (g' := (mkF m 4 #[.val (.ref a)] [(.int u1)])) st16 ?_
  refine own_st (T' := T16) (g' := (mkF m 12 #[.val (.ref a)] [(.ref a)])) (fun _ kt => XS.ifYes X16.here hx rfl (pc0 := 4) (pc' := 11) rfl (hb hby d5_4) rfl (XT.i0_ne_t pr3) (by decide) (by decide) (XS.aloadN X16.here hx rfl (hb hby d5_11) rfl rfl kt)) ?_
  obtain ⟨T17, X17, e17, st17⟩ := getF X16 hx hZ hown (host := "") (Or.inl (own_k hw 22 rfl)) Via.refl e16 pr2 (g := (mkF m 12 #[.val (.ref a)] [(.ref a)])) rfl rfl (hb hby d5_12)
  refine own_st (T' := T17) (g' := (mkF m 15 #[.val (.ref a)] [(.long u2)])) st17 ?_
  refine own_st (T' := T17) (g' := (mkF m 17 #[.val (.ref a)] [(.ref a), (.double (FP.l2d u2))])) (fun _ kt => XS.l2dS X17.here hx rfl (hb hby d5_15) rfl rfl (XS.aloadN X17.here hx rfl (hb hby d5_16) rfl rfl kt)) ?_
  obtain ⟨T18, X18, e18, st18⟩ := getF X17 hx hZ hown (host := "") (Or.inl (own_k hw 20 rfl)) Via.refl e17 pr1 (g := (mkF m 17 #[.val (.ref a)] [(.ref a), (.double (FP.l2d u2))])) rfl rfl (hb hby d5_17)
  refine own_st (T' := T18) (g' := (mkF m 20 #[.val (.ref a)] [(.int u1), (.double (FP.l2d u2))])) st18 ?_
  refine own_st (T' := T18) (g' := (mkF m 22 #[.val (.ref a)] [(.double (FP.ddiv (FP.l2d u2) (FP.i2d u1)))])) (fun _ kt => XS.i2dS X18.here hx rfl (hb hby d5_20) rfl rfl (XS.ddivS X18.here hx rfl (hb hby d5_21) rfl pr4 rfl kt)) ?_
  obtain ⟨fs, hr, hrun, hended, hW, hsame⟩ := X18.leave (v := some (.double (FP.ddiv (FP.l2d u2) (FP.i2d u1)))) (fun h => by rw [Bd.returns] at h; cases h)
  refine own_end (own_retD X18 hx Bd.returns (hb hby d5_22) hr) ⟨_, hrun, hended, _, _, rfl, ?_, ⟨_, rfl⟩, hW, hsame.mono (by decide) (by decide)⟩
  show own_a1Q Z a u1 u2 h0 n0 _ T18.heap _
  rw [e18]
  exact ⟨rfl, N0, rfl⟩
theorem own_pd2 : parseMethodDescriptor "(IJ)V" = some ⟨[.int, .long], none⟩ := by decide +kernel
theorem own_pd3 : parseMethodDescriptor "()D" = some ⟨[], some .double⟩ := by decide +kernel
theorem own_pd4 : parseMethodDescriptor "(II)I" = some ⟨[.int, .int], some .int⟩ := by decide +kernel
set_option maxHeartbeats 4000000 in
theorem own_ef4 (m : MethodId) (x0 : Int32) (x1 : Int64) (x2 : Int32) (x3 : Int32) (x4 : Int32) : entryFrame m #[(.int x0), (.long x1), (.int x2), (.int x3), (.int x4)] 20 = mkF m 0 #[.val (.int x0), .val (.long x1), .second, .val (.int x2), .val (.int x3), .val (.int x4), .unset, .unset, .unset, .unset, .unset, .unset, .unset, .unset, .unset, .unset, .unset, .unset, .unset, .unset] [] := by first | (simp [entryFrame, mkF, argsToLocals, Value.category]; done) | rfl
def own_lawQ (Z : State) (p1 : Int32) (p2 : Int64) (p3 : Int32) (p4 : Int32) (p5 : Int32) (h0 : Heap) (n0 : Nat) (v : Option Value) (h : Heap) (L : List Loc) : Prop := v = some (.int (1 : Int32)) ∧ Fr n0 L
theorem own_pn3 : plainName "com/example/tally_rank/tallyrank/search/CollectionStatisticsAverageLengthPinLaw" = true := by first | (simp [plainName, overriddenIn]; done) | decide +kernel
set_option maxRecDepth 65536 in
set_option maxHeartbeats 40000000 in
theorem own_law (l : Launch) (Z : State) (a0 : Array Value) (hw : ∀ d ∈ tables_1, d.before a0 Z = true) (ws : List Jvm.Cond) (p1 : Int32) (p2 : Int64) (p3 : Int32) (p4 : Int32) (p5 : Int32) (h0 : Heap) (n0 : Nat) (Z0 : n0 ≤ h0.size)  :
    own_M l x code maxLocals ret ws room_1 #[(.int p1), (.long p2), (.int p3), (.int p4), (.int p5)] Z h0 (own_lawQ Z p1 p2 p3 p4 p5 h0 n0) := by
  refine own_go (plainFor_of_name own_pn3) (fun m => own_ef4 m p1 p2 p3 p4 p5 ) ?_
  intro p e s m below meth c s₁ Bd hx hby hml hZ hh hown hnm X0 e0
  have N0 := Fr.nil n0
  refine own_st (T' := s₁) (g' := (mkF m 8 #[.val (.int p1), .val (.long p2), .second, .val (.int p3), .val (.int p4), .val (.int p5), .val (.int (p5 &&& (3 : Int32))), .unset, .unset, .unset, .unset, .unset, .unset, .unset, .unset, .unset, .unset, .unset, .unset, .unset] [(.int (p5 &&& (3 : Int32)))])) (fun _ kt => XS.iload X0.here hx rfl (hb hby at_0) rfl (XS.iconst X0.here hx rfl (hb hby at_2) (XS.iand X0.here hx rfl (hb hby at_3) rfl (XS.istore X0.here hx rfl (hb hby at_4) rfl (l' := #[.val (.int p1), .val (.long p2), .second, .val (.int p3), .val (.int p4), .val (.int p5), .val (.int (p5 &&& (3 : Int32))), .unset, .unset, .unset, .unset, .unset, .unset, .unset, .unset, .unset, .unset, .unset, .unset, .unset]) rfl (XS.iload X0.here hx rfl (hb hby at_6) rfl kt))))) ?_
  by_cases hc19 : (p5 &&& (3 : Int32)) = 0
  · -- pc 8: (p5 &&& (3 : Int32)) = 0
    refine own_st (T' := s₁) (g' := (mkF m 11 #[.val (.int p1), .val (.long p2), .second, .val (.int p3), .val (.int p4), .val (.int p5), .val (.int (p5 &&& (3 : Int32))), .unset, .unset, .unset, .unset, .unset, .unset, .unset, .unset, .unset, .unset, .unset, .unset, .unset] [])) (fun _ kt => XS.ifNo X0.here hx rfl (hb hby at_8) rfl (XT.i0_ne_f hc19) kt) ?_
    obtain ⟨T20, h20, X20, e20, E20, A20, D20, -, st20⟩ := newO X0 hx hZ hown (own_k hw 6 rfl) (own_k hw 7 rfl) (own_k hw 8 rfl) e0 (g := (mkF m 11 #[.val (.int p1), .val (.long p2), .second, .val (.int p3), .val (.int p4), .val (.int p5), .val (.int (p5 &&& (3 : Int32))), .unset, .unset, .unset, .unset, .unset, .unset, .unset, .unset, .unset, .unset, .unset, .unset, .unset] [])) rfl (hb hby at_11) (by decide) (by decide)
    obtain ⟨b20, g20⟩ : ∃ z, z = h0.size := ⟨_, rfl⟩
    rw [← g20] at A20 D20 st20
    have Z21 : n0 ≤ h20.size := Nat.le_trans Z0 E20.1
    have ge_b20 : n0 ≤ b20 := Nat.le_trans Z0 (Nat.le_of_eq g20.symm)
    have F22 : Fld Z h20 b20 "com/example/tally_rank/tallyrank/search/CollectionStatistics" "documentCount" "I" (.int (0 : Int32)) := D20 (Or.inr (own_k hw 21 rfl)) (ty := .int) (by decide)
    have F23 : Fld Z h20 b20 "com/example/tally_rank/tallyrank/search/CollectionStatistics" "length" "J" (.long (0 : Int64)) := D20 (Or.inr (own_k hw 23 rfl)) (ty := .long) (by decide)
    refine own_st (T' := T20) (g' := (mkF m 14 #[.val (.int p1), .val (.long p2), .second, .val (.int p3), .val (.int p4), .val (.int p5), .val (.int (p5 &&& (3 : Int32))), .unset, .unset, .unset, .unset, .unset, .unset, .unset, .unset, .unset, .unset, .unset, .unset, .unset] [(.ref b20)])) st20 ?_
    refine own_st (T' := T20) (g' := (mkF m 17 #[.val (.int p1), .val (.long p2), .second, .val (.int p3), .val (.int p4), .val (.int p5), .val (.int (p5 &&& (3 : Int32))), .unset, .unset, .unset, .unset, .unset, .unset, .unset, .unset, .unset, .unset, .unset, .unset, .unset] [(.long p2), (.int (0 : Int32)), (.ref b20), (.ref b20)])) (fun _ kt => XS.dup X20.here hx rfl (hb hby at_14) rfl rfl (XS.iconst X20.here hx rfl (hb hby at_15) (XT.lloadN X20.here hx rfl (hb hby at_16) rfl kt))) ?_
    obtain ⟨_, _, ⟨T24, L24, k24, n24⟩, -, X24, ⟨Lc24, hQ24, l24, y24, z24⟩, st24⟩ := X20.specialBack hx (y := (⟨"com/example/tally_rank/tallyrank/search/CollectionStatistics", "<init>", "(IJ)V"⟩ : MethodName)) rfl hown (mvT hZ (own_k hw 9 rfl)) (mvT hZ (own_k hw 10 rfl)) (mvT hZ (own_k hw 11 rfl)) (by decide) (backOf (W := 1) (own_ci l Z a0 hw [] b20 (0 : Int32) p2 h20 n0 Z21 A20 ge_b20 F22 F23) hZ (own_k hw 11 rfl) (own_k hw 8 rfl) (by decide) (by decide)) (g := (mkF m 17 #[.val (.int p1), .val (.long p2), .second, .val (.int p3), .val (.int p4), .val (.int p5), .val (.int (p5 &&& (3 : Int32))), .unset, .unset, .unset, .unset, .unset, .unset, .unset, .unset, .unset, .unset, .unset, .unset, .unset] [(.long p2), (.int (0 : Int32)), (.ref b20), (.ref b20)])) rfl hml.symm (Steps.refl _) (a := b20) (argsL := [(.int (0 : Int32)), (.long p2)]) (rest := [(.ref b20)]) (lenOf own_pd2 rfl) rfl (by show 2 * 0 + _ ≤ _; exact Nat.le_of_eq rfl) (hb hby at_17) (fun _ _ => ⟨rfl, e20, (by decide : 1 + 0 ≤ 16), (by decide : 2 + 0 ≤ 128)⟩)
    dsimp only [Pt.U, Pt.locs, Pt.cells, Pt.slots] at X24 l24 y24 z24 st24 hQ24
    subst l24 y24 z24
    obtain ⟨rfl, N24, K24_, P25, P26, P27⟩ := hQ24
    have N28 := Fr.app N0 N24
    have Z29 : n0 ≤ T24.heap.size := Nat.le_trans Z21 K24_.1
    refine own_tr (T' := T24) (g' := (mkF m 20 #[.val (.int p1), .val (.long p2), .second, .val (.int p3), .val (.int p4), .val (.int p5), .val (.int (p5 &&& (3 : Int32))), .unset, .unset, .unset, .unset, .unset, .unset, .unset, .unset, .unset, .unset, .unset, .unset, .unset] [(.ref b20)])) st24 ?_
    obtain ⟨cq31, kq31, qa31, qb31, qc31⟩ := isOf hZ rfl P25
    obtain ⟨_, _, ⟨T30, L30, k30, n30⟩, -, X30, ⟨Lc30, hQ30, l30, y30, z30⟩, st30⟩ := X24.virtualBack hx (y := (⟨"com/example/tally_rank/tallyrank/search/CollectionStatistics", "averageLength", "()D"⟩ : MethodName)) (z := (⟨"com/example/tally_rank/tallyrank/search/CollectionStatistics", "averageLength", "()D"⟩ : MethodName)) hown (mvT hZ (own_k hw 24 rfl)) (mvT hZ (own_k hw 25 rfl)) (notFace_of_selects (args := #[]) (mvT hZ (own_k hw 27 rfl))) (mvT hZ (own_k hw 27 rfl)) (mvT hZ (own_k hw 26 rfl)) (by decide) (backOf (W := 0) (own_a0 l Z a0 hw [] b20 T24.heap n0 Z29 P26) hZ (own_k hw 28 rfl) (own_k hw 8 rfl) (by decide) (by decide)) qa31 qc31 (g := (mkF m 20 #[.val (.int p1), .val (.long p2), .second, .val (.int p3), .val (.int p4), .val (.int p5), .val (.int (p5 &&& (3 : Int32))), .unset, .unset, .unset, .unset, .unset, .unset, .unset, .unset, .unset, .unset, .unset, .unset, .unset] [(.ref b20)])) rfl hml.symm (Steps.refl _) (argsL := []) (rest := []) (lenOf own_pd3 rfl) rfl (by show 2 * 0 + _ ≤ _; exact Nat.le_of_eq rfl) (hb hby at_20) (fun _ _ => ⟨rfl, rfl, (by decide : 1 + 0 ≤ 16), (by decide : 2 + 0 ≤ 128)⟩)
    dsimp only [Pt.U, Pt.locs, Pt.cells, Pt.slots] at X30 l30 y30 z30 st30 hQ30
    subst l30 y30 z30
    obtain ⟨rfl, N30, e30⟩ := hQ30
    have N32 := Fr.app N28 N30
    refine own_tr (T' := T30) (g' := (mkF m 23 #[.val (.int p1), .val (.long p2), .second, .val (.int p3), .val (.int p4), .val (.int p5), .val (.int (p5 &&& (3 : Int32))), .unset, .unset, .unset, .unset, .unset, .unset, .unset, .unset, .unset, .unset, .unset, .unset, .unset] [(.double (0 : UInt64))])) st30 ?_
    refine own_st (T' := T30) (g' := (mkF m 37 #[.val (.int p1), .val (.long p2), .second, .val (.int p3), .val (.int p4), .val (.int p5), .val (.int (p5 &&& (3 : Int32))), .val (.double (0 : UInt64)), .second, .unset, .unset, .unset, .unset, .unset, .unset, .unset, .unset, .unset, .unset, .unset] [(.int (1 : Int32))])) (fun _ kt => XS.dstore X30.here hx rfl (hb hby at_23) rfl (l' := #[.val (.int p1), .val (.long p2), .second, .val (.int p3), .val (.int p4), .val (.int p5), .val (.int (p5 &&& (3 : Int32))), .val (.double (0 : UInt64)), .second, .unset, .unset, .unset, .unset, .unset, .unset, .unset, .unset, .unset, .unset, .unset]) rfl (XS.dload X30.here hx rfl (hb hby at_25) rfl (XS.dconst0 X30.here hx rfl (hb hby at_27) rfl (XS.dcmpS X30.here hx rfl (hb hby at_28) rfl (dcmpV_self (by unfold Fl.NoNaN64 <;> decide) _) (XS.ifNo X30.here hx rfl (hb hby at_29) rfl (XT.i0_ne_f (by decide)) (XS.iconst X30.here hx rfl (hb hby at_32) (XS.goto X30.here hx rfl (pc0 := 33) (pc' := 37) rfl (hb hby at_33) (by decide) (by decide) kt))))))) ?_
    obtain ⟨fs, hr, hrun, hended, hW, hsame⟩ := X30.leave (v := some (.int (1 : Int32))) (fun h => by rw [Bd.returns] at h; cases h)
    refine own_end (retN X30 hx (t := .boolean) Bd.returns (by simp) (hb hby at_37) hr) ⟨_, hrun, hended, _, _, rfl, ?_, ⟨_, rfl⟩, hW, hsame.mono (by decide) (by decide)⟩
    show own_lawQ Z p1 p2 p3 p4 p5 h0 n0 _ T30.heap _
    rw [e30]
    exact ⟨rfl, N32⟩
  · -- pc 8: not (p5 &&& (3 : Int32)) = 0
    refine own_st (T' := s₁) (g' := (mkF m 38 #[.val (.int p1), .val (.long p2), .second, .val (.int p3), .val (.int p4), .val (.int p5), .val (.int (p5 &&& (3 : Int32))), .unset, .unset, .unset, .unset, .unset, .unset, .unset, .unset, .unset, .unset, .unset, .unset, .unset] [])) (fun _ kt => XS.ifYes X0.here hx rfl (pc0 := 8) (pc' := 38) rfl (hb hby at_8) rfl (XT.i0_ne_t hc19) (by decide) (by decide) kt) ?_
    refine own_joinH (α := Int32 × Int64) X0 (cells' := 0) (slots' := 0) (gj := fun q => (mkF m 76 #[.val (.int p1), .val (.long p2), .second, .val (.int p3), .val (.int p4), .val (.int p5), .val (.int (p5 &&& (3 : Int32))), .val (.int q.1), .val (.long q.2), .second, .unset, .unset, .unset, .unset, .unset, .unset, .unset, .unset, .unset, .unset] [])) (P := fun L_ h_ q => (Fr n0 L_) ∧ (n0 ≤ h_.size) ∧ (own_ok q.1 q.2)) ?_ (fun J33 => ?_)
    · rintro T33 L33 h33 ⟨nn, qq⟩ ⟨N33, Z33, hj33⟩ X33 e33
      try dsimp only at hj33 ⊢
      refine own_join (α := Int32) (gj := fun q => (mkF m 106 #[.val (.int p1), .val (.long p2), .second, .val (.int p3), .val (.int p4), .val (.int p5), .val (.int (p5 &&& (3 : Int32))), .val (.int nn), .val (.long qq), .second, .val (.int q), .unset, .unset, .unset, .unset, .unset, .unset, .unset, .unset, .unset] [])) (P := fun q => own_rk nn q) ?_ (fun J34 => ?_)
      · rintro rr hj34
        try dsimp only at hj34 ⊢
        obtain ⟨n1, n2, n3, n4, n5⟩ := own_avg hj33 hj34 rfl
        refine own_st (T' := T33) (g' := (mkF m 118 #[.val (.int p1), .val (.long p2), .second, .val (.int p3), .val (.int p4), .val (.int p5), .val (.int (p5 &&& (3 : Int32))), .val (.int nn), .val (.long qq), .second, .val (.int rr), .val (.long (((nn.toInt64) * qq) + (rr.toInt64))), .second, .unset, .unset, .unset, .unset, .unset, .unset, .unset] [])) (fun _ kt => XS.iload X33.here hx rfl (hb hby at_106) rfl (XT.i2l X33.here hx rfl (hb hby at_108) rfl (XT.lload X33.here hx rfl (hb hby at_109) rfl (XT.lmul X33.here hx rfl (hb hby at_111) rfl (XS.iload X33.here hx rfl (hb hby at_112) rfl (XT.i2l X33.here hx rfl (hb hby at_114) rfl (XT.ladd X33.here hx rfl (hb hby at_115) rfl (XT.lstore X33.here hx rfl (hb hby at_116) rfl (l' := #[.val (.int p1), .val (.long p2), .second, .val (.int p3), .val (.int p4), .val (.int p5), .val (.int (p5 &&& (3 : Int32))), .val (.int nn), .val (.long qq), .second, .val (.int rr), .val (.long (((nn.toInt64) * qq) + (rr.toInt64))), .second, .unset, .unset, .unset, .unset, .unset, .unset, .unset]) rfl kt)))))))) ?_
        obtain ⟨T35, h35, X35, e35, E35, A35, D35, -, st35⟩ := newO X33 hx hZ hown (own_k hw 6 rfl) (own_k hw 7 rfl) (own_k hw 8 rfl) e33 (g := (mkF m 118 #[.val (.int p1), .val (.long p2), .second, .val (.int p3), .val (.int p4), .val (.int p5), .val (.int (p5 &&& (3 : Int32))), .val (.int nn), .val (.long qq), .second, .val (.int rr), .val (.long (((nn.toInt64) * qq) + (rr.toInt64))), .second, .unset, .unset, .unset, .unset, .unset, .unset, .unset] [])) rfl (hb hby at_118) (by decide) (by decide)
        obtain ⟨b35, g35⟩ : ∃ z, z = h33.size := ⟨_, rfl⟩
        rw [← g35] at A35 D35 st35
        have Z36 : n0 ≤ h35.size := Nat.le_trans Z33 E35.1
        have ge_b35 : n0 ≤ b35 := Nat.le_trans Z33 (Nat.le_of_eq g35.symm)
        have F37 : Fld Z h35 b35 "com/example/tally_rank/tallyrank/search/CollectionStatistics" "documentCount" "I" (.int (0 : Int32)) := D35 (Or.inr (own_k hw 21 rfl)) (ty := .int) (by decide)
        have F38 : Fld Z h35 b35 "com/example/tally_rank/tallyrank/search/CollectionStatistics" "length" "J" (.long (0 : Int64)) := D35 (Or.inr (own_k hw 23 rfl)) (ty := .long) (by decide)
        refine own_st (T' := T35) (g' := (mkF m 121 #[.val (.int p1), .val (.long p2), .second, .val (.int p3), .val (.int p4), .val (.int p5), .val (.int (p5 &&& (3 : Int32))), .val (.int nn), .val (.long qq), .second, .val (.int rr), .val (.long (((nn.toInt64) * qq) + (rr.toInt64))), .second, .unset, .unset, .unset, .unset, .unset, .unset, .unset] [(.ref b35)])) st35 ?_
        refine own_st (T' := T35) (g' := (mkF m 126 #[.val (.int p1), .val (.long p2), .second, .val (.int p3), .val (.int p4), .val (.int p5), .val (.int (p5 &&& (3 : Int32))), .val (.int nn), .val (.long qq), .second, .val (.int rr), .val (.long (((nn.toInt64) * qq) + (rr.toInt64))), .second, .unset, .unset, .unset, .unset, .unset, .unset, .unset] [(.long (((nn.toInt64) * qq) + (rr.toInt64))), (.int nn), (.ref b35), (.ref b35)])) (fun _ kt => XS.dup X35.here hx rfl (hb hby at_121) rfl rfl (XS.iload X35.here hx rfl (hb hby at_122) rfl (XT.lload X35.here hx rfl (hb hby at_124) rfl kt))) ?_
        obtain ⟨_, _, ⟨T39, L39, k39, n39⟩, -, X39, ⟨Lc39, hQ39, l39, y39, z39⟩, st39⟩ := X35.specialBack hx (y := (⟨"com/example/tally_rank/tallyrank/search/CollectionStatistics", "<init>", "(IJ)V"⟩ : MethodName)) rfl hown (mvT hZ (own_k hw 9 rfl)) (mvT hZ (own_k hw 10 rfl)) (mvT hZ (own_k hw 11 rfl)) (by decide) (backOf (W := 1) (own_ci l Z a0 hw [] b35 nn (((nn.toInt64) * qq) + (rr.toInt64)) h35 n0 Z36 A35 ge_b35 F37 F38) hZ (own_k hw 11 rfl) (own_k hw 8 rfl) (by decide) (by decide)) (g := (mkF m 126 #[.val (.int p1), .val (.long p2), .second, .val (.int p3), .val (.int p4), .val (.int p5), .val (.int (p5 &&& (3 : Int32))), .val (.int nn), .val (.long qq), .second, .val (.int rr), .val (.long (((nn.toInt64) * qq) + (rr.toInt64))), .second, .unset, .unset, .unset, .unset, .unset, .unset, .unset] [(.long (((nn.toInt64) * qq) + (rr.toInt64))), (.int nn), (.ref b35), (.ref b35)])) rfl hml.symm (Steps.refl _) (a := b35) (argsL := [(.int nn), (.long (((nn.toInt64) * qq) + (rr.toInt64)))]) (rest := [(.ref b35)]) (lenOf own_pd2 rfl) rfl (by show 2 * 0 + _ ≤ _; exact Nat.le_of_eq rfl) (hb hby at_126) (fun _ _ => ⟨rfl, e35, (by decide : 1 + 0 ≤ 16), (by decide : 2 + 0 ≤ 128)⟩)
        dsimp only [Pt.U, Pt.locs, Pt.cells, Pt.slots] at X39 l39 y39 z39 st39 hQ39
        subst l39 y39 z39
        obtain ⟨rfl, N39, K39_, P40, P41, P42⟩ := hQ39
        have N43 := Fr.app N33 N39
        have Z44 : n0 ≤ T39.heap.size := Nat.le_trans Z36 K39_.1
        refine own_tr (T' := T39) (g' := (mkF m 129 #[.val (.int p1), .val (.long p2), .second, .val (.int p3), .val (.int p4), .val (.int p5), .val (.int (p5 &&& (3 : Int32))), .val (.int nn), .val (.long qq), .second, .val (.int rr), .val (.long (((nn.toInt64) * qq) + (rr.toInt64))), .second, .unset, .unset, .unset, .unset, .unset, .unset, .unset] [(.ref b35)])) st39 ?_
        obtain ⟨cq46, kq46, qa46, qb46, qc46⟩ := isOf hZ rfl P40
        obtain ⟨_, _, ⟨T45, L45, k45, n45⟩, -, X45, ⟨Lc45, hQ45, l45, y45, z45⟩, st45⟩ := X39.virtualBack hx (y := (⟨"com/example/tally_rank/tallyrank/search/CollectionStatistics", "averageLength", "()D"⟩ : MethodName)) (z := (⟨"com/example/tally_rank/tallyrank/search/CollectionStatistics", "averageLength", "()D"⟩ : MethodName)) hown (mvT hZ (own_k hw 24 rfl)) (mvT hZ (own_k hw 25 rfl)) (notFace_of_selects (args := #[]) (mvT hZ (own_k hw 27 rfl))) (mvT hZ (own_k hw 27 rfl)) (mvT hZ (own_k hw 26 rfl)) (by decide) (backOf (W := 0) (own_a1 l Z a0 hw [] b35 nn (((nn.toInt64) * qq) + (rr.toInt64)) T39.heap n0 Z44 P41 P42 (show nn ≠ 0 from (fun g => own_n64 hj33 (by rw [g]; rfl))) n1) hZ (own_k hw 28 rfl) (own_k hw 8 rfl) (by decide) (by decide)) qa46 qc46 (g := (mkF m 129 #[.val (.int p1), .val (.long p2), .second, .val (.int p3), .val (.int p4), .val (.int p5), .val (.int (p5 &&& (3 : Int32))), .val (.int nn), .val (.long qq), .second, .val (.int rr), .val (.long (((nn.toInt64) * qq) + (rr.toInt64))), .second, .unset, .unset, .unset, .unset, .unset, .unset, .unset] [(.ref b35)])) rfl hml.symm (Steps.refl _) (argsL := []) (rest := []) (lenOf own_pd3 rfl) rfl (by show 2 * 0 + _ ≤ _; exact Nat.le_of_eq rfl) (hb hby at_129) (fun _ _ => ⟨rfl, rfl, (by decide : 1 + 0 ≤ 16), (by decide : 2 + 0 ≤ 128)⟩)
        dsimp only [Pt.U, Pt.locs, Pt.cells, Pt.slots] at X45 l45 y45 z45 st45 hQ45
        subst l45 y45 z45
        obtain ⟨rfl, N45, e45⟩ := hQ45
        have N47 := Fr.app N43 N45
        refine own_tr (T' := T45) (g' := (mkF m 132 #[.val (.int p1), .val (.long p2), .second, .val (.int p3), .val (.int p4), .val (.int p5), .val (.int (p5 &&& (3 : Int32))), .val (.int nn), .val (.long qq), .second, .val (.int rr), .val (.long (((nn.toInt64) * qq) + (rr.toInt64))), .second, .unset, .unset, .unset, .unset, .unset, .unset, .unset] [(.double (FP.ddiv (FP.l2d (((nn.toInt64) * qq) + (rr.toInt64))) (FP.i2d nn)))])) st45 ?_
        refine own_st (T' := T45) (g' := (mkF m 148 #[.val (.int p1), .val (.long p2), .second, .val (.int p3), .val (.int p4), .val (.int p5), .val (.int (p5 &&& (3 : Int32))), .val (.int nn), .val (.long qq), .second, .val (.int rr), .val (.long (((nn.toInt64) * qq) + (rr.toInt64))), .second, .val (.double (FP.ddiv (FP.l2d (((nn.toInt64) * qq) + (rr.toInt64))) (FP.i2d nn))), .second, .val (.double (FP.l2d qq)), .second, .val (.double (FP.l2d (qq + (1 : Int64)))), .second, .unset] [(.int rr)])) (fun _ kt => XS.dstore X45.here hx rfl (hb hby at_132) rfl (l' := #[.val (.int p1), .val (.long p2), .second, .val (.int p3), .val (.int p4), .val (.int p5), .val (.int (p5 &&& (3 : Int32))), .val (.int nn), .val (.long qq), .second, .val (.int rr), .val (.long (((nn.toInt64) * qq) + (rr.toInt64))), .second, .val (.double (FP.ddiv (FP.l2d (((nn.toInt64) * qq) + (rr.toInt64))) (FP.i2d nn))), .second, .unset, .unset, .unset, .unset, .unset]) rfl (XT.lload X45.here hx rfl (hb hby at_134) rfl (XS.l2dS X45.here hx rfl (hb hby at_136) rfl rfl (XS.dstore X45.here hx rfl (hb hby at_137) rfl (l' := #[.val (.int p1), .val (.long p2), .second, .val (.int p3), .val (.int p4), .val (.int p5), .val (.int (p5 &&& (3 : Int32))), .val (.int nn), .val (.long qq), .second, .val (.int rr), .val (.long (((nn.toInt64) * qq) + (rr.toInt64))), .second, .val (.double (FP.ddiv (FP.l2d (((nn.toInt64) * qq) + (rr.toInt64))) (FP.i2d nn))), .second, .val (.double (FP.l2d qq)), .second, .unset, .unset, .unset]) rfl (XT.lload X45.here hx rfl (hb hby at_139) rfl (XT.lconst X45.here hx rfl (hb hby at_141) (XT.ladd X45.here hx rfl (hb hby at_142) rfl (XS.l2dS X45.here hx rfl (hb hby at_143) rfl rfl (XS.dstore X45.here hx rfl (hb hby at_144) rfl (l' := #[.val (.int p1), .val (.long p2), .second, .val (.int p3), .val (.int p4), .val (.int p5), .val (.int (p5 &&& (3 : Int32))), .val (.int nn), .val (.long qq), .second, .val (.int rr), .val (.long (((nn.toInt64) * qq) + (rr.toInt64))), .second, .val (.double (FP.ddiv (FP.l2d (((nn.toInt64) * qq) + (rr.toInt64))) (FP.i2d nn))), .second, .val (.double (FP.l2d qq)), .second, .val (.double (FP.l2d (qq + (1 : Int64)))), .second, .unset]) rfl (XS.iload X45.here hx rfl (hb hby at_146) rfl kt)))))))))) ?_
        by_cases hc48 : rr = 0
        · -- pc 148: rr = 0
          refine own_st (T' := T45) (g' := (mkF m 164 #[.val (.int p1), .val (.long p2), .second, .val (.int p3), .val (.int p4), .val (.int p5), .val (.int (p5 &&& (3 : Int32))), .val (.int nn), .val (.long qq), .second, .val (.int rr), .val (.long (((nn.toInt64) * qq) + (rr.toInt64))), .second, .val (.double (FP.ddiv (FP.l2d (((nn.toInt64) * qq) + (rr.toInt64))) (FP.i2d nn))), .second, .val (.double (FP.l2d qq)), .second, .val (.double (FP.l2d (qq + (1 : Int64)))), .second, .unset] [(.int (1 : Int32))])) (fun _ kt => XS.ifNo X45.here hx rfl (hb hby at_148) rfl (XT.i0_ne_f hc48) (XS.dload X45.here hx rfl (hb hby at_151) rfl (XS.dload X45.here hx rfl (hb hby at_153) rfl (XS.dcmpS X45.here hx rfl (hb hby at_155) rfl (n2 hc48) (XS.ifNo X45.here hx rfl (hb hby at_156) rfl (XT.i0_ne_f (by decide)) (XS.iconst X45.here hx rfl (hb hby at_159) (XS.goto X45.here hx rfl (pc0 := 160) (pc' := 164) rfl (hb hby at_160) (by decide) (by decide) kt))))))) ?_
          obtain ⟨fs, hr, hrun, hended, hW, hsame⟩ := X45.leave (v := some (.int (1 : Int32))) (fun h => by rw [Bd.returns] at h; cases h)
          refine own_end (retN X45 hx (t := .boolean) Bd.returns (by simp) (hb hby at_164) hr) ⟨_, hrun, hended, _, _, rfl, ?_, ⟨_, rfl⟩, hW, hsame.mono (by decide) (by decide)⟩
          show own_lawQ Z p1 p2 p3 p4 p5 h0 n0 _ T45.heap _
          rw [e45]
          exact ⟨rfl, N47⟩
        · -- pc 148: not rr = 0
          refine own_st (T' := T45) (g' := (mkF m 188 #[.val (.int p1), .val (.long p2), .second, .val (.int p3), .val (.int p4), .val (.int p5), .val (.int (p5 &&& (3 : Int32))), .val (.int nn), .val (.long qq), .second, .val (.int rr), .val (.long (((nn.toInt64) * qq) + (rr.toInt64))), .second, .val (.double (FP.ddiv (FP.l2d (((nn.toInt64) * qq) + (rr.toInt64))) (FP.i2d nn))), .second, .val (.double (FP.l2d qq)), .second, .val (.double (FP.l2d (qq + (1 : Int64)))), .second, .val (.int (1 : Int32))] [])) (fun _ kt => XS.ifYes X45.here hx rfl (pc0 := 148) (pc' := 165) rfl (hb hby at_148) rfl (XT.i0_ne_t hc48) (by decide) (by decide) (XS.dload X45.here hx rfl (hb hby at_165) rfl (XS.dload X45.here hx rfl (hb hby at_167) rfl (XS.dcmpS X45.here hx rfl (hb hby at_169) rfl (n3 hc48).1 (XS.ifNo X45.here hx rfl (hb hby at_170) rfl (XT.i0_ge_f (by decide)) (XS.dload X45.here hx rfl (hb hby at_173) rfl (XS.dload X45.here hx rfl (hb hby at_175) rfl (XS.dcmpS X45.here hx rfl (hb hby at_177) rfl (n3 hc48).2 (XS.ifNo X45.here hx rfl (hb hby at_178) rfl (XT.i0_ge_f (by decide)) (XS.iconst X45.here hx rfl (hb hby at_181) (XS.goto X45.here hx rfl (pc0 := 182) (pc' := 186) rfl (hb hby at_182) (by decide) (by decide) (XS.istore X45.here hx rfl (hb hby at_186) rfl (l' := #[.val (.int p1), .val (.long p2), .second, .val (.int p3), .val (.int p4), .val (.int p5), .val (.int (p5 &&& (3 : Int32))), .val (.int nn), .val (.long qq), .second, .val (.int rr), .val (.long (((nn.toInt64) * qq) + (rr.toInt64))), .second, .val (.double (FP.ddiv (FP.l2d (((nn.toInt64) * qq) + (rr.toInt64))) (FP.i2d nn))), .second, .val (.double (FP.l2d qq)), .second, .val (.double (FP.l2d (qq + (1 : Int64)))), .second, .val (.int (1 : Int32))]) rfl kt)))))))))))) ?_
          refine own_st (T' := T45) (g' := (mkF m 191 #[.val (.int p1), .val (.long p2), .second, .val (.int p3), .val (.int p4), .val (.int p5), .val (.int (p5 &&& (3 : Int32))), .val (.int nn), .val (.long qq), .second, .val (.int rr), .val (.long (((nn.toInt64) * qq) + (rr.toInt64))), .second, .val (.double (FP.ddiv (FP.l2d (((nn.toInt64) * qq) + (rr.toInt64))) (FP.i2d nn))), .second, .val (.double (FP.l2d qq)), .second, .val (.double (FP.l2d (qq + (1 : Int64)))), .second, .val (.int (1 : Int32))] [(.long (2 : Int64))])) (Stand.ldc2Long X45 hx hown (mvT hZ (own_k hw 30 rfl)) (g := (mkF m 188 #[.val (.int p1), .val (.long p2), .second, .val (.int p3), .val (.int p4), .val (.int p5), .val (.int (p5 &&& (3 : Int32))), .val (.int nn), .val (.long qq), .second, .val (.int rr), .val (.long (((nn.toInt64) * qq) + (rr.toInt64))), .second, .val (.double (FP.ddiv (FP.l2d (((nn.toInt64) * qq) + (rr.toInt64))) (FP.i2d nn))), .second, .val (.double (FP.l2d qq)), .second, .val (.double (FP.l2d (qq + (1 : Int64)))), .second, .val (.int (1 : Int32))] [])) rfl (hb hby at_188)) ?_
          refine own_st (T' := T45) (g' := (mkF m 199 #[.val (.int p1), .val (.long p2), .second, .val (.int p3), .val (.int p4), .val (.int p5), .val (.int (p5 &&& (3 : Int32))), .val (.int nn), .val (.long qq), .second, .val (.int rr), .val (.long (((nn.toInt64) * qq) + (rr.toInt64))), .second, .val (.double (FP.ddiv (FP.l2d (((nn.toInt64) * qq) + (rr.toInt64))) (FP.i2d nn))), .second, .val (.double (FP.l2d qq)), .second, .val (.double (FP.l2d (qq + (1 : Int64)))), .second, .val (.int (1 : Int32))] [(.int (XT.cmpL ((2 : Int64) * (rr.toInt64)) (nn.toInt64)))])) (fun _ kt => XS.iload X45.here hx rfl (hb hby at_191) rfl (XT.i2l X45.here hx rfl (hb hby at_193) rfl (XT.lmul X45.here hx rfl (hb hby at_194) rfl (XS.iload X45.here hx rfl (hb hby at_195) rfl (XT.i2l X45.here hx rfl (hb hby at_197) rfl (XT.lcmp X45.here hx rfl (hb hby at_198) rfl kt)))))) ?_
          by_cases hc49 : ((2 : Int64) * (rr.toInt64)) = (nn.toInt64)
          · -- pc 199: ((2 : Int64) * (rr.toInt64)) = (nn.toInt64)
            refine own_st (T' := T45) (g' := (mkF m 211 #[.val (.int p1), .val (.long p2), .second, .val (.int p3), .val (.int p4), .val (.int p5), .val (.int (p5 &&& (3 : Int32))), .val (.int nn), .val (.long qq), .second, .val (.int rr), .val (.long (((nn.toInt64) * qq) + (rr.toInt64))), .second, .val (.double (FP.ddiv (FP.l2d (((nn.toInt64) * qq) + (rr.toInt64))) (FP.i2d nn))), .second, .val (.double (FP.l2d qq)), .second, .val (.double (FP.l2d (qq + (1 : Int64)))), .second, .val (.int (1 : Int32))] [(.double (FP.l2d qq)), (.double (FP.ddiv (FP.l2d (((nn.toInt64) * qq) + (rr.toInt64))) (FP.i2d nn)))])) (fun _ kt => XS.ifNo X45.here hx rfl (hb hby at_199) rfl (XT.ll_ne_f hc49) (XS.iload X45.here hx rfl (hb hby at_202) rfl (XS.ifNo X45.here hx rfl (hb hby at_204) rfl (XT.i0_eq_f (by decide)) (XS.dload X45.here hx rfl (hb hby at_207) rfl (XS.dload X45.here hx rfl (hb hby at_209) rfl kt))))) ?_
            refine own_st (T' := T45) (g' := (mkF m 214 #[.val (.int p1), .val (.long p2), .second, .val (.int p3), .val (.int p4), .val (.int p5), .val (.int (p5 &&& (3 : Int32))), .val (.int nn), .val (.long qq), .second, .val (.int rr), .val (.long (((nn.toInt64) * qq) + (rr.toInt64))), .second, .val (.double (FP.ddiv (FP.l2d (((nn.toInt64) * qq) + (rr.toInt64))) (FP.i2d nn))), .second, .val (.double (FP.l2d qq)), .second, .val (.double (FP.l2d (qq + (1 : Int64)))), .second, .val (.int (1 : Int32))] [(.double (4602678819172646912 : UInt64)), (.double (FP.l2d qq)), (.double (FP.ddiv (FP.l2d (((nn.toInt64) * qq) + (rr.toInt64))) (FP.i2d nn)))])) (Stand.ldc2DoubleC X45 hx hown (mvT hZ (own_k hw 31 rfl)) (g := (mkF m 211 #[.val (.int p1), .val (.long p2), .second, .val (.int p3), .val (.int p4), .val (.int p5), .val (.int (p5 &&& (3 : Int32))), .val (.int nn), .val (.long qq), .second, .val (.int rr), .val (.long (((nn.toInt64) * qq) + (rr.toInt64))), .second, .val (.double (FP.ddiv (FP.l2d (((nn.toInt64) * qq) + (rr.toInt64))) (FP.i2d nn))), .second, .val (.double (FP.l2d qq)), .second, .val (.double (FP.l2d (qq + (1 : Int64)))), .second, .val (.int (1 : Int32))] [(.double (FP.l2d qq)), (.double (FP.ddiv (FP.l2d (((nn.toInt64) * qq) + (rr.toInt64))) (FP.i2d nn)))])) rfl (hb hby at_211)) ?_
            refine own_st (T' := T45) (g' := (mkF m 224 #[.val (.int p1), .val (.long p2), .second, .val (.int p3), .val (.int p4), .val (.int p5), .val (.int (p5 &&& (3 : Int32))), .val (.int nn), .val (.long qq), .second, .val (.int rr), .val (.long (((nn.toInt64) * qq) + (rr.toInt64))), .second, .val (.double (FP.ddiv (FP.l2d (((nn.toInt64) * qq) + (rr.toInt64))) (FP.i2d nn))), .second, .val (.double (FP.l2d qq)), .second, .val (.double (FP.l2d (qq + (1 : Int64)))), .second, .val (.int (1 : Int32))] [(.int (1 : Int32))])) (fun _ kt => XS.daddS X45.here hx rfl (hb hby at_214) rfl n4 rfl (XS.dcmpS X45.here hx rfl (hb hby at_215) rfl (n5 hc49) (XS.ifNo X45.here hx rfl (hb hby at_216) rfl (XT.i0_ne_f (by decide)) (XS.iconst X45.here hx rfl (hb hby at_219) (XS.goto X45.here hx rfl (pc0 := 220) (pc' := 224) rfl (hb hby at_220) (by decide) (by decide) kt))))) ?_
            obtain ⟨fs, hr, hrun, hended, hW, hsame⟩ := X45.leave (v := some (.int (1 : Int32))) (fun h => by rw [Bd.returns] at h; cases h)
            refine own_end (retN X45 hx (t := .boolean) Bd.returns (by simp) (hb hby at_224) hr) ⟨_, hrun, hended, _, _, rfl, ?_, ⟨_, rfl⟩, hW, hsame.mono (by decide) (by decide)⟩
            show own_lawQ Z p1 p2 p3 p4 p5 h0 n0 _ T45.heap _
            rw [e45]
            exact ⟨rfl, N47⟩
          · -- pc 199: not ((2 : Int64) * (rr.toInt64)) = (nn.toInt64)
            refine own_st (T' := T45) (g' := (mkF m 227 #[.val (.int p1), .val (.long p2), .second, .val (.int p3), .val (.int p4), .val (.int p5), .val (.int (p5 &&& (3 : Int32))), .val (.int nn), .val (.long qq), .second, .val (.int rr), .val (.long (((nn.toInt64) * qq) + (rr.toInt64))), .second, .val (.double (FP.ddiv (FP.l2d (((nn.toInt64) * qq) + (rr.toInt64))) (FP.i2d nn))), .second, .val (.double (FP.l2d qq)), .second, .val (.double (FP.l2d (qq + (1 : Int64)))), .second, .val (.int (1 : Int32))] [(.int (1 : Int32))])) (fun _ kt => XS.ifYes X45.here hx rfl (pc0 := 199) (pc' := 225) rfl (hb hby at_199) rfl (XT.ll_ne_t hc49) (by decide) (by decide) (XS.iload X45.here hx rfl (hb hby at_225) rfl kt)) ?_
            obtain ⟨fs, hr, hrun, hended, hW, hsame⟩ := X45.leave (v := some (.int (1 : Int32))) (fun h => by rw [Bd.returns] at h; cases h)
            refine own_end (retN X45 hx (t := .boolean) Bd.returns (by simp) (hb hby at_227) hr) ⟨_, hrun, hended, _, _, rfl, ?_, ⟨_, rfl⟩, hW, hsame.mono (by decide) (by decide)⟩
            show own_lawQ Z p1 p2 p3 p4 p5 h0 n0 _ T45.heap _
            rw [e45]
            exact ⟨rfl, N47⟩
      ·
        refine own_st (T' := T33) (g' := (mkF m 80 #[.val (.int p1), .val (.long p2), .second, .val (.int p3), .val (.int p4), .val (.int p5), .val (.int (p5 &&& (3 : Int32))), .val (.int nn), .val (.long qq), .second, .unset, .unset, .unset, .unset, .unset, .unset, .unset, .unset, .unset, .unset] [(.int (p5 &&& (4 : Int32)))])) (fun _ kt => XS.iload X33.here hx rfl (hb hby at_76) rfl (XS.iconst X33.here hx rfl (hb hby at_78) (XS.iand X33.here hx rfl (hb hby at_79) rfl kt))) ?_
        by_cases hc50 : (p5 &&& (4 : Int32)) = 0
        · -- pc 80: (p5 &&& (4 : Int32)) = 0
          refine own_st (T' := T33) (g' := (mkF m 95 #[.val (.int p1), .val (.long p2), .second, .val (.int p3), .val (.int p4), .val (.int p5), .val (.int (p5 &&& (3 : Int32))), .val (.int nn), .val (.long qq), .second, .unset, .unset, .unset, .unset, .unset, .unset, .unset, .unset, .unset, .unset] [(.long (p4.toInt64))])) (fun _ kt => XS.ifYes X33.here hx rfl (pc0 := 80) (pc' := 92) rfl (hb hby at_80) rfl (XT.i0_eq_t hc50) (by decide) (by decide) (XS.iload X33.here hx rfl (hb hby at_92) rfl (XT.i2l X33.here hx rfl (hb hby at_94) rfl kt))) ?_
          refine own_st (T' := T33) (g' := (mkF m 98 #[.val (.int p1), .val (.long p2), .second, .val (.int p3), .val (.int p4), .val (.int p5), .val (.int (p5 &&& (3 : Int32))), .val (.int nn), .val (.long qq), .second, .unset, .unset, .unset, .unset, .unset, .unset, .unset, .unset, .unset, .unset] [(.long (2147483647 : Int64)), (.long (p4.toInt64))])) (Stand.ldc2Long X33 hx hown (mvT hZ (own_k hw 5 rfl)) (g := (mkF m 95 #[.val (.int p1), .val (.long p2), .second, .val (.int p3), .val (.int p4), .val (.int p5), .val (.int (p5 &&& (3 : Int32))), .val (.int nn), .val (.long qq), .second, .unset, .unset, .unset, .unset, .unset, .unset, .unset, .unset, .unset, .unset] [(.long (p4.toInt64))])) rfl (hb hby at_95)) ?_
          refine own_st (T' := T33) (g' := (mkF m 106 #[.val (.int p1), .val (.long p2), .second, .val (.int p3), .val (.int p4), .val (.int p5), .val (.int (p5 &&& (3 : Int32))), .val (.int nn), .val (.long qq), .second, .val (.int ((((p4.toInt64) &&& (2147483647 : Int64)) - (((p4.toInt64) &&& (2147483647 : Int64)) / (nn.toInt64)) * (nn.toInt64)).toInt32)), .unset, .unset, .unset, .unset, .unset, .unset, .unset, .unset, .unset] [])) (fun _ kt => XT.land X33.here hx rfl (hb hby at_98) rfl (XS.iload X33.here hx rfl (hb hby at_99) rfl (XT.i2l X33.here hx rfl (hb hby at_101) rfl (XT.lrem X33.here hx rfl (hb hby at_102) rfl (own_n64 hj33) (XT.l2i X33.here hx rfl (hb hby at_103) rfl (XS.istore X33.here hx rfl (hb hby at_104) rfl (l' := #[.val (.int p1), .val (.long p2), .second, .val (.int p3), .val (.int p4), .val (.int p5), .val (.int (p5 &&& (3 : Int32))), .val (.int nn), .val (.long qq), .second, .val (.int ((((p4.toInt64) &&& (2147483647 : Int64)) - (((p4.toInt64) &&& (2147483647 : Int64)) / (nn.toInt64)) * (nn.toInt64)).toInt32)), .unset, .unset, .unset, .unset, .unset, .unset, .unset, .unset, .unset]) rfl kt)))))) ?_
          exact J34 ((((p4.toInt64) &&& (2147483647 : Int64)) - (((p4.toInt64) &&& (2147483647 : Int64)) / (nn.toInt64)) * (nn.toInt64)).toInt32) (own_rk2 hj33 _)
        · -- pc 80: not (p5 &&& (4 : Int32)) = 0
          refine own_st (T' := T33) (g' := (mkF m 106 #[.val (.int p1), .val (.long p2), .second, .val (.int p3), .val (.int p4), .val (.int p5), .val (.int (p5 &&& (3 : Int32))), .val (.int nn), .val (.long qq), .second, .val (.int (nn / (2 : Int32))), .unset, .unset, .unset, .unset, .unset, .unset, .unset, .unset, .unset] [])) (fun _ kt => XS.ifNo X33.here hx rfl (hb hby at_80) rfl (XT.i0_eq_f hc50) (XS.iload X33.here hx rfl (hb hby at_83) rfl (XS.iconst X33.here hx rfl (hb hby at_85) (XS.idiv X33.here hx rfl (hb hby at_86) rfl (by decide) (XS.istore X33.here hx rfl (hb hby at_87) rfl (l' := #[.val (.int p1), .val (.long p2), .second, .val (.int p3), .val (.int p4), .val (.int p5), .val (.int (p5 &&& (3 : Int32))), .val (.int nn), .val (.long qq), .second, .val (.int (nn / (2 : Int32))), .unset, .unset, .unset, .unset, .unset, .unset, .unset, .unset, .unset]) rfl (XS.goto X33.here hx rfl (pc0 := 89) (pc' := 106) rfl (hb hby at_89) (by decide) (by decide) kt)))))) ?_
          exact J34 (nn / (2 : Int32)) (own_rk1 hj33)
    ·
      refine own_st (T' := s₁) (g' := (mkF m 41 #[.val (.int p1), .val (.long p2), .second, .val (.int p3), .val (.int p4), .val (.int p5), .val (.int (p5 &&& (3 : Int32))), .unset, .unset, .unset, .unset, .unset, .unset, .unset, .unset, .unset, .unset, .unset, .unset, .unset] [(.int (1 : Int32)), (.int (p5 &&& (3 : Int32)))])) (fun _ kt => XS.iload X0.here hx rfl (hb hby at_38) rfl (XS.iconst X0.here hx rfl (hb hby at_40) kt)) ?_
      by_cases hc51 : (p5 &&& (3 : Int32)) = (1 : Int32)
      · -- pc 41: (p5 &&& (3 : Int32)) = (1 : Int32)
        refine own_st (T' := s₁) (g' := (mkF m 45 #[.val (.int p1), .val (.long p2), .second, .val (.int p3), .val (.int p4), .val (.int p5), .val (.int (p5 &&& (3 : Int32))), .unset, .unset, .unset, .unset, .unset, .unset, .unset, .unset, .unset, .unset, .unset, .unset, .unset] [(.int p1)])) (fun _ kt => XS.icmpNo X0.here hx rfl (hb hby at_41) rfl (XT.ii_ne_f hc51) (XS.iloadN X0.here hx rfl (hb hby at_44) rfl kt)) ?_
        refine own_st (T' := s₁) (g' := (mkF m 47 #[.val (.int p1), .val (.long p2), .second, .val (.int p3), .val (.int p4), .val (.int p5), .val (.int (p5 &&& (3 : Int32))), .unset, .unset, .unset, .unset, .unset, .unset, .unset, .unset, .unset, .unset, .unset, .unset, .unset] [(.int (1048575 : Int32)), (.int p1)])) (Stand.ldcInt X0 hx hown (mvT hZ (own_k hw 29 rfl)) (g := (mkF m 45 #[.val (.int p1), .val (.long p2), .second, .val (.int p3), .val (.int p4), .val (.int p5), .val (.int (p5 &&& (3 : Int32))), .unset, .unset, .unset, .unset, .unset, .unset, .unset, .unset, .unset, .unset, .unset, .unset, .unset] [(.int p1)])) rfl (hb hby at_45)) ?_
        refine own_st (T' := s₁) (g' := (mkF m 76 #[.val (.int p1), .val (.long p2), .second, .val (.int p3), .val (.int p4), .val (.int p5), .val (.int (p5 &&& (3 : Int32))), .val (.int ((p1 &&& (1048575 : Int32)) + (1 : Int32))), .val (.long (p3.toInt64)), .second, .unset, .unset, .unset, .unset, .unset, .unset, .unset, .unset, .unset, .unset] [])) (fun _ kt => XS.iand X0.here hx rfl (hb hby at_47) rfl (XS.iconst X0.here hx rfl (hb hby at_48) (XS.iadd X0.here hx rfl (hb hby at_49) rfl (XS.istore X0.here hx rfl (hb hby at_50) rfl (l' := #[.val (.int p1), .val (.long p2), .second, .val (.int p3), .val (.int p4), .val (.int p5), .val (.int (p5 &&& (3 : Int32))), .val (.int ((p1 &&& (1048575 : Int32)) + (1 : Int32))), .unset, .unset, .unset, .unset, .unset, .unset, .unset, .unset, .unset, .unset, .unset, .unset]) rfl (XS.iloadN X0.here hx rfl (hb hby at_52) rfl (XT.i2l X0.here hx rfl (hb hby at_53) rfl (XT.lstore X0.here hx rfl (hb hby at_54) rfl (l' := #[.val (.int p1), .val (.long p2), .second, .val (.int p3), .val (.int p4), .val (.int p5), .val (.int (p5 &&& (3 : Int32))), .val (.int ((p1 &&& (1048575 : Int32)) + (1 : Int32))), .val (.long (p3.toInt64)), .second, .unset, .unset, .unset, .unset, .unset, .unset, .unset, .unset, .unset, .unset]) rfl (XS.goto X0.here hx rfl (pc0 := 56) (pc' := 76) rfl (hb hby at_56) (by decide) (by decide) kt)))))))) ?_
        exact J33 _ _ _ ⟨((p1 &&& (1048575 : Int32)) + (1 : Int32)), (p3.toInt64)⟩ ⟨N0, Z0, (own_ok1 _ _)⟩ (X0.mono (by decide) (by decide)) e0
      · -- pc 41: not (p5 &&& (3 : Int32)) = (1 : Int32)
        refine own_st (T' := s₁) (g' := (mkF m 61 #[.val (.int p1), .val (.long p2), .second, .val (.int p3), .val (.int p4), .val (.int p5), .val (.int (p5 &&& (3 : Int32))), .unset, .unset, .unset, .unset, .unset, .unset, .unset, .unset, .unset, .unset, .unset, .unset, .unset] [(.int p1), (.int (1 : Int32))])) (fun _ kt => XS.icmpYes X0.here hx rfl (pc0 := 41) (pc' := 59) rfl (hb hby at_41) rfl (XT.ii_ne_t hc51) (by decide) (by decide) (XS.iconst X0.here hx rfl (hb hby at_59) (XS.iloadN X0.here hx rfl (hb hby at_60) rfl kt))) ?_
        refine own_st (T' := s₁) (g' := (mkF m 63 #[.val (.int p1), .val (.long p2), .second, .val (.int p3), .val (.int p4), .val (.int p5), .val (.int (p5 &&& (3 : Int32))), .unset, .unset, .unset, .unset, .unset, .unset, .unset, .unset, .unset, .unset, .unset, .unset, .unset] [(.int (2147483647 : Int32)), (.int p1), (.int (1 : Int32))])) (Stand.ldcInt X0 hx hown (mvT hZ (own_k hw 0 rfl)) (g := (mkF m 61 #[.val (.int p1), .val (.long p2), .second, .val (.int p3), .val (.int p4), .val (.int p5), .val (.int (p5 &&& (3 : Int32))), .unset, .unset, .unset, .unset, .unset, .unset, .unset, .unset, .unset, .unset, .unset, .unset, .unset] [(.int p1), (.int (1 : Int32))])) rfl (hb hby at_61)) ?_
        refine own_st (T' := s₁) (g' := (mkF m 64 #[.val (.int p1), .val (.long p2), .second, .val (.int p3), .val (.int p4), .val (.int p5), .val (.int (p5 &&& (3 : Int32))), .unset, .unset, .unset, .unset, .unset, .unset, .unset, .unset, .unset, .unset, .unset, .unset, .unset] [(.int (p1 &&& (2147483647 : Int32))), (.int (1 : Int32))])) (fun _ kt => XS.iand X0.here hx rfl (hb hby at_63) rfl kt) ?_
        obtain ⟨_, _, ⟨T52, L52, k52, n52⟩, -, X52, ⟨Lc52, hQ52, l52, y52, z52⟩, st52⟩ := Jvm.LawKit.callS X0 hx (y := (⟨"java/lang/Math", "max", "(II)I"⟩ : MethodName)) hown (mvT hZ (own_k hw 1 rfl)) (mvT hZ (own_k hw 2 rfl)) (mvT hZ (own_k hw 3 rfl)) (mvT hZ (own_k hw 4 rfl)) (by decide) (backOf (W := 0) (own_mx l Z a0 hw [] (1 : Int32) (p1 &&& (2147483647 : Int32)) h0 n0 Z0 ) hZ (own_k hw 4 rfl) (own_k hw 3 rfl) (by decide) (by decide)) (g := (mkF m 64 #[.val (.int p1), .val (.long p2), .second, .val (.int p3), .val (.int p4), .val (.int p5), .val (.int (p5 &&& (3 : Int32))), .unset, .unset, .unset, .unset, .unset, .unset, .unset, .unset, .unset, .unset, .unset, .unset, .unset] [(.int (p1 &&& (2147483647 : Int32))), (.int (1 : Int32))])) rfl hml.symm  (argsL := [(.int (1 : Int32)), (.int (p1 &&& (2147483647 : Int32)))]) (rest := []) (lenOf own_pd4 rfl) rfl (by show 2 * 0 + _ ≤ _; exact Nat.le_of_eq rfl) (hb hby at_64) (fun _ _ => ⟨rfl, e0, (by decide : 0 + 0 ≤ 16), (by decide : 0 + 0 ≤ 128)⟩)
        dsimp only [Pt.U, Pt.locs, Pt.cells, Pt.slots] at X52 l52 y52 z52 st52 hQ52
        subst l52 y52 z52
        obtain ⟨rfl, N52, e52⟩ := hQ52
        have N53 := Fr.app N0 N52
        refine own_st (T' := T52) (g' := (mkF m 67 #[.val (.int p1), .val (.long p2), .second, .val (.int p3), .val (.int p4), .val (.int p5), .val (.int (p5 &&& (3 : Int32))), .unset, .unset, .unset, .unset, .unset, .unset, .unset, .unset, .unset, .unset, .unset, .unset, .unset] [(.int (own_max (1 : Int32) (p1 &&& (2147483647 : Int32))))])) st52 ?_
        refine own_st (T' := T52) (g' := (mkF m 76 #[.val (.int p1), .val (.long p2), .second, .val (.int p3), .val (.int p4), .val (.int p5), .val (.int (p5 &&& (3 : Int32))), .val (.int (own_max (1 : Int32) (p1 &&& (2147483647 : Int32)))), .val (.long ((p3 >>> ((10 : Int32) &&& 31)).toInt64)), .second, .unset, .unset, .unset, .unset, .unset, .unset, .unset, .unset, .unset, .unset] [])) (fun _ kt => XS.istore X52.here hx rfl (hb hby at_67) rfl (l' := #[.val (.int p1), .val (.long p2), .second, .val (.int p3), .val (.int p4), .val (.int p5), .val (.int (p5 &&& (3 : Int32))), .val (.int (own_max (1 : Int32) (p1 &&& (2147483647 : Int32)))), .unset, .unset, .unset, .unset, .unset, .unset, .unset, .unset, .unset, .unset, .unset, .unset]) rfl (XS.iloadN X52.here hx rfl (hb hby at_69) rfl (XS.bipush X52.here hx rfl (hb hby at_70) (XT.ishr X52.here hx rfl (hb hby at_72) rfl (XT.i2l X52.here hx rfl (hb hby at_73) rfl (XT.lstore X52.here hx rfl (hb hby at_74) rfl (l' := #[.val (.int p1), .val (.long p2), .second, .val (.int p3), .val (.int p4), .val (.int p5), .val (.int (p5 &&& (3 : Int32))), .val (.int (own_max (1 : Int32) (p1 &&& (2147483647 : Int32)))), .val (.long ((p3 >>> ((10 : Int32) &&& 31)).toInt64)), .second, .unset, .unset, .unset, .unset, .unset, .unset, .unset, .unset, .unset, .unset]) rfl kt)))))) ?_
        exact J33 _ _ _ ⟨(own_max (1 : Int32) (p1 &&& (2147483647 : Int32))), ((p3 >>> ((10 : Int32) &&& 31)).toInt64)⟩ ⟨N53, Z0, (own_ok2 _ _)⟩ (X52.mono (by decide) (by decide)) e52
set_option maxRecDepth 65536 in
set_option maxHeartbeats 40000000 in
theorem comes_1 {Post : Tables → Env → Array Value → State → Outcome → State → Prop} (hpost : ∀ tb e args s v u, (limb_1_1.after args s (.returned v) u = true ∧ limb_1_2.after args s (.returned v) u = true ∧ True) → FrameEnd s (.returned v) u (Jvm.fieldLocs frame_1_writes args s ++ Jvm.arrayLocs frame_1_arrays args s ++ Jvm.staticLocs frame_1_statics s) 16 128 → Post tb e args s (.returned v) u) :
    ArmFor flags0 classFile x code maxLocals ret World_1 tables_1 room_1 Calls_1 rest_1 Pre_1 Post := by
  intro l hfl _ _ p e ha hc hk s m args below hf hA hF happ hP
  obtain ⟨hcalls, hrest, hpre⟩ := hP
  obtain ⟨-, -, -, hnamed, -, -, -, hat⟩ := (Spec.applies_iff hf).mp happ
  obtain ⟨hg, hn⟩ := and_e (Cond.before_iff.mp (show (Jvm.Cond.and given_1 narrow_1).before args s = true from hpre))
  obtain ⟨g0, hg⟩ := and_e hg
  obtain ⟨g1, hg⟩ := and_e hg
  obtain ⟨g2, hg⟩ := and_e hg
  obtain ⟨g3, hg⟩ := and_e hg
  obtain ⟨g4, hg⟩ := and_e hg
  obtain ⟨w0, w1, w2, w3, w4, rfl⟩ : ∃ w0 w1 w2 w3 w4 : Value, args = #[w0, w1, w2, w3, w4] := by
    have hs : args.size = 5 := by simpa [Cond.value, given_1] using g0
    obtain ⟨L⟩ := args
    match L, hs with
    | [w0, w1, w2, w3, w4], _ => exact ⟨w0, w1, w2, w3, w4, rfl⟩
  have hw := fun d (hd : d ∈ tables_1) => atoms_spec (ws := Jvm.Cond.code x code maxLocals ret :: tables_1) hat d (List.mem_cons_of_mem _ hd)
  have hfit : Fit s := fun {y c} hc i hi => by
    obtain ⟨ha, rfl⟩ := Array.getElem?_eq_some_iff.mp hc
    have q := List.all_eq_true.mp ((Array.all_eq_true_iff_forall_mem.mp hF) _ (Array.getElem_mem ha)) i (List.mem_range.mpr hi)
    simpa [Array.getElem?_eq_getElem hi] using q
  obtain ⟨i0, e0⟩ := is_v g1
  obtain rfl : w0 = (.int i0) := Option.some.inj e0
  obtain ⟨i1, e1⟩ := isL_v g2
  obtain rfl : w1 = (.long i1) := Option.some.inj e1
  obtain ⟨i2, e2⟩ := is_v g3
  obtain rfl : w2 = (.int i2) := Option.some.inj e2
  obtain ⟨i3, e3⟩ := is_v g4
  obtain rfl : w3 = (.int i3) := Option.some.inj e3
  obtain ⟨i4, e4⟩ := is_v hg
  obtain rfl : w4 = (.int i4) := Option.some.inj e4
  obtain ⟨n, o, h1, h2, h3, _, L, rfl, ⟨rfl, N⟩, hq⟩ := own_law l s _ hw tables_1 i0 i1 i2 i3 i4 s.heap s.heap.size (Nat.le_refl _)  p e ha hc hk s m _ below hf ((Spec.applies_iff_loose hf).mp happ).1 ⟨rfl, State.Warmed39.refl s, rfl⟩ trivial
  refine ⟨n, _, h1, h2, h3, hpost _ _ _ _ _ _ ⟨Cond.after_iff.mpr rfl, Cond.after_iff.mpr (eq_i res_at (Term.int_eval (1)) rfl), trivial⟩ ⟨hq.1, hq.2.1, (hq.2.2.sift fun y hy => Or.inr (N y hy)).mono (by decide) (by decide)⟩⟩
theorem main_1_1 : Claimed_1_1 := comes_1 fun _ _ _ _ _ _ h hF => ⟨h.1, hF⟩
theorem main_1_2 : Claimed_1_2 := comes_1 fun _ _ _ _ _ _ h hF => ⟨h.2.1, hF⟩
end Jvm.Pilot.@@N@@
namespace Jvm.Pilot.@@N@@
open Jvm Jvm.ClassFile Sem Op Lib Jvm.Free Jvm.Stand Jvm.Pilot.@@N@@.Jvm.D
/-! MADE BY PROGRAM (witnessworld.py) out of the Statement's table words and the real class files: 11 classes; the members and pool entries that the words name. The judged class is class 1, her method 1. -/
namespace start1
open Jvm.ClassFile
def u (s : String) : CpInfo := .utf8 (stringToUtf16 s)
/-- a pool by its gaps: so many unusable entries, then the entry; so many at the end -/
def gap : Nat → List CpInfo → List CpInfo
  | 0, r => r
  | n + 1, r => .unusable :: gap n r
def poolList (es : List (Nat × CpInfo)) (last : Nat) : List CpInfo := es.foldr (fun e r => gap e.1 (e.2 :: r)) (gap last [])
def pool (es : List (Nat × CpInfo)) (last : Nat) : Array CpInfo := ⟨poolList es last⟩
def fileOf (pool : Array CpInfo) (this : Nat) (attrs : Array Attribute := #[]) (ms : Array MethodInfo := #[]) (fl : Nat := 33) (sup : Nat := 0) (ifs : Array Nat := #[]) (fds : Array FieldInfo := #[]) : ClassFile where
  minorVersion := 0
  majorVersion := 65
  constantPool := pool
  accessFlags := fl
  thisClass := this
  superClass := sup
  interfaces := ifs
  fields := fds
  methods := ms
  attributes := attrs
def plain (name : String) (sup : Option ClassId) : Class where
  name := name
  kind := .ordinary
  loader := none
  accessFlags := 33
  super := sup
  interfaces := #[]
  cf := none
  fields := #[]
  methods := #[]
  instanceTypes := #[]
  staticTypes := #[]
  resolved := #[]
  callSites := []
  init := .initialized
  statics := none
  mirror := none

def pool0 : Array CpInfo := pool [(5, u "<init>"), (0, u "()V"), (1, .class_ 10), (1, u "java/lang/Object")] 113

def k0c0 : Code := { maxStack := 0, maxLocals := 1, code := object_method_1_code, exceptionTable := #[], attributes := #[] }
def k0m0 : Method := { name := "<init>", desc := "()V", sig := { parameters := [], returnType := none }, accessFlags := 1, code := some k0c0 }
/-- java/lang/Object -/
def k0 : Class := { plain "java/lang/Object" none with
  accessFlags := 33
  interfaces := #[]
  cf := some (fileOf pool0 8 #[] #[{ accessFlags := 1, nameIndex := 5, descriptorIndex := 6, attributes := #[] }] 33 0 #[] #[])
  fields := #[]
  methods := #[k0m0]
  instanceTypes := #[]
  staticTypes := #[]
  resolved := Array.replicate 124 none
  statics := none }

def pool1 : Array CpInfo := pool [(2, .class_ 4), (1, u "java/lang/Object"), (0, u "<init>"), (0, u "()V"), (0, .class_ 8), (0, u "com/example/tally_rank/tallyrank/search/CollectionStatistics"), (0, .methodref 7 10), (0, .nameAndType 5 11), (0, u "(IJ)V"), (0, .methodref 7 13), (0, .nameAndType 14 15), (0, u "averageLength"), (0, u "()D"), (0, .integer 1048575), (0, .integer 2147483647), (0, .methodref 19 20), (0, .class_ 21), (0, .nameAndType 22 23), (0, u "java/lang/Math"), (0, u "max"), (0, u "(II)I"), (0, .long 2147483647), (1, .long 2), (1, .double 4602678819172646912), (1, .class_ 31), (0, u "com/example/tally_rank/tallyrank/search/CollectionStatisticsAverageLengthPinLaw"), (2, u "law"), (0, u "(IJIII)Z")] 3

def k1m0 : Method := { name := "<init>", desc := "()V", sig := { parameters := [], returnType := none }, accessFlags := 1, code := none }
def k1c1 : Code := { maxStack := 6, maxLocals := 20, code := code, exceptionTable := #[], attributes := #[] }
def k1m1 : Method := { name := "law", desc := "(IJIII)Z", sig := { parameters := [.int, .long, .int, .int, .int], returnType := some .boolean }, accessFlags := 9, code := some k1c1 }
/-- com/example/tally_rank/tallyrank/search/CollectionStatisticsAverageLengthPinLaw -/
def k1 : Class := { plain "com/example/tally_rank/tallyrank/search/CollectionStatisticsAverageLengthPinLaw" (some 0) with
  accessFlags := 49
  interfaces := #[]
  cf := some (fileOf pool1 30 #[] #[{ accessFlags := 1, nameIndex := 5, descriptorIndex := 6, attributes := #[] }, { accessFlags := 9, nameIndex := 34, descriptorIndex := 35, attributes := #[] }] 49 2 #[] #[])
  fields := #[]
  methods := #[k1m0, k1m1]
  instanceTypes := #[]
  staticTypes := #[]
  resolved := Array.replicate 39 none
  statics := none }

def pool2 : Array CpInfo := pool [(1, .class_ 2), (0, u "java/lang/Math"), (1, .class_ 6), (1, u "java/lang/Object"), (0, u "<init>"), (0, u "()V"), (89, .class_ 100), (1, u "java/lang/Math$RandomNumberGeneratorHolder"), (71, u "negativeZeroFloatBits"), (0, u "J"), (2, u "negativeZeroDoubleBits"), (21, u "max"), (46, u "$assertionsDisabled"), (0, u "Z"), (88, u "(II)I"), (2, u "twoToTheDoubleScaleDown"), (0, u "D"), (4, u "twoToTheDoubleScaleUp"), (9, u "E"), (3, u "PI"), (2, u "TAU"), (2, u "DEGREES_TO_RADIANS"), (0, u "RADIANS_TO_DEGREES")] 94

def k2m0 : Method := { name := "<init>", desc := "()V", sig := { parameters := [], returnType := none }, accessFlags := 2, code := none }
def k2c1 : Code := { maxStack := 2, maxLocals := 2, code := jdk_29_method_65_code, exceptionTable := #[], attributes := #[] }
def k2m1 : Method := { name := "max", desc := "(II)I", sig := { parameters := [.int, .int], returnType := some .int }, accessFlags := 9, code := some k2c1 }
/-- java/lang/Math -/
def k2 : Class := { plain "java/lang/Math" (some 0) with
  accessFlags := 49
  interfaces := #[]
  cf := some (fileOf pool2 1 #[.nestMembers #[98]] #[{ accessFlags := 2, nameIndex := 7, descriptorIndex := 8, attributes := #[] }, { accessFlags := 9, nameIndex := 198, descriptorIndex := 335, attributes := #[] }] 49 4 #[] #[{ accessFlags := 25, nameIndex := 354, descriptorIndex := 339, attributes := #[] }, { accessFlags := 25, nameIndex := 358, descriptorIndex := 339, attributes := #[] }, { accessFlags := 25, nameIndex := 361, descriptorIndex := 339, attributes := #[] }, { accessFlags := 26, nameIndex := 364, descriptorIndex := 339, attributes := #[] }, { accessFlags := 26, nameIndex := 365, descriptorIndex := 339, attributes := #[] }, { accessFlags := 26, nameIndex := 172, descriptorIndex := 173, attributes := #[] }, { accessFlags := 26, nameIndex := 176, descriptorIndex := 173, attributes := #[] }, { accessFlags := 8, nameIndex := 344, descriptorIndex := 339, attributes := #[] }, { accessFlags := 8, nameIndex := 338, descriptorIndex := 339, attributes := #[] }, { accessFlags := 4120, nameIndex := 245, descriptorIndex := 246, attributes := #[] }])
  fields := #[{ name := "E", type := .double, accessFlags := 25, slot := 0, constantValue := 0 }, { name := "PI", type := .double, accessFlags := 25, slot := 1, constantValue := 0 }, { name := "TAU", type := .double, accessFlags := 25, slot := 2, constantValue := 0 }, { name := "DEGREES_TO_RADIANS", type := .double, accessFlags := 26, slot := 3, constantValue := 0 }, { name := "RADIANS_TO_DEGREES", type := .double, accessFlags := 26, slot := 4, constantValue := 0 }, { name := "negativeZeroFloatBits", type := .long, accessFlags := 26, slot := 5, constantValue := 0 }, { name := "negativeZeroDoubleBits", type := .long, accessFlags := 26, slot := 6, constantValue := 0 }, { name := "twoToTheDoubleScaleUp", type := .double, accessFlags := 8, slot := 7, constantValue := 0 }, { name := "twoToTheDoubleScaleDown", type := .double, accessFlags := 8, slot := 8, constantValue := 0 }, { name := "$assertionsDisabled", type := .boolean, accessFlags := 4120, slot := 9, constantValue := 0 }]
  methods := #[k2m0, k2m1]
  instanceTypes := #[]
  staticTypes := #[.double, .double, .double, .double, .double, .long, .long, .double, .double, .boolean]
  resolved := Array.replicate 460 none
  statics := none }

def pool3 : Array CpInfo := pool [(1, .methodref 2 3), (0, .class_ 4), (0, .nameAndType 5 6), (0, u "java/lang/Object"), (0, u "<init>"), (0, u "()V"), (0, .class_ 8), (0, u "java/lang/Record")] 13

def k3c0 : Code := { maxStack := 1, maxLocals := 1, code := jdk_30_method_1_code, exceptionTable := #[], attributes := #[] }
def k3m0 : Method := { name := "<init>", desc := "()V", sig := { parameters := [], returnType := none }, accessFlags := 4, code := some k3c0 }
/-- java/lang/Record -/
def k3 : Class := { plain "java/lang/Record" (some 0) with
  accessFlags := 1057
  interfaces := #[]
  cf := some (fileOf pool3 7 #[] #[{ accessFlags := 4, nameIndex := 5, descriptorIndex := 6, attributes := #[] }] 1057 2 #[] #[])
  fields := #[]
  methods := #[k3m0]
  instanceTypes := #[]
  staticTypes := #[]
  resolved := Array.replicate 22 none
  statics := none }

def pool4 : Array CpInfo := pool [(1, .methodref 2 3), (0, .class_ 4), (0, .nameAndType 5 6), (0, u "java/lang/Record"), (0, u "<init>"), (0, u "()V"), (0, .fieldref 8 9), (0, .class_ 10), (0, .nameAndType 11 12), (0, u "com/example/tally_rank/tallyrank/search/CollectionStatistics"), (0, u "documentCount"), (0, u "I"), (0, .fieldref 8 14), (0, .nameAndType 15 16), (0, u "length"), (0, u "J"), (11, u "(IJ)V"), (17, u "averageLength"), (0, u "()D")] 24

def k4c0 : Code := { maxStack := 3, maxLocals := 4, code := prog_54_method_1_code, exceptionTable := #[], attributes := #[] }
def k4m0 : Method := { name := "<init>", desc := "(IJ)V", sig := { parameters := [.int, .long], returnType := none }, accessFlags := 1, code := some k4c0 }
def k4c1 : Code := { maxStack := 4, maxLocals := 1, code := prog_54_method_3_code, exceptionTable := #[], attributes := #[] }
def k4m1 : Method := { name := "averageLength", desc := "()D", sig := { parameters := [], returnType := some .double }, accessFlags := 1, code := some k4c1 }
/-- com/example/tally_rank/tallyrank/search/CollectionStatistics -/
def k4 : Class := { plain "com/example/tally_rank/tallyrank/search/CollectionStatistics" (some 3) with
  accessFlags := 49
  interfaces := #[]
  cf := some (fileOf pool4 8 #[] #[{ accessFlags := 1, nameIndex := 5, descriptorIndex := 28, attributes := #[] }, { accessFlags := 1, nameIndex := 46, descriptorIndex := 47, attributes := #[] }] 49 2 #[] #[{ accessFlags := 18, nameIndex := 11, descriptorIndex := 12, attributes := #[] }, { accessFlags := 18, nameIndex := 15, descriptorIndex := 16, attributes := #[] }])
  fields := #[{ name := "documentCount", type := .int, accessFlags := 18, slot := 0, constantValue := 0 }, { name := "length", type := .long, accessFlags := 18, slot := 1, constantValue := 0 }]
  methods := #[k4m0, k4m1]
  instanceTypes := #[.int, .long]
  staticTypes := #[]
  resolved := Array.replicate 72 none
  statics := none }

def pool5 : Array CpInfo := pool [(1, u "java/lang/Cloneable"), (0, .class_ 1), (0, u "java/lang/Object"), (0, .class_ 3)] 3

/-- java/lang/Cloneable -/
def k5 : Class := { plain "java/lang/Cloneable" (some 0) with
  accessFlags := 1537
  interfaces := #[]
  cf := some (fileOf pool5 2 #[] #[] 1537 4 #[] #[])
  fields := #[]
  methods := #[]
  instanceTypes := #[]
  staticTypes := #[]
  resolved := Array.replicate 8 none
  statics := none }

def pool6 : Array CpInfo := pool [(1, u "java/io/Serializable"), (0, .class_ 1), (0, u "java/lang/Object"), (0, .class_ 3)] 3

/-- java/io/Serializable -/
def k6 : Class := { plain "java/io/Serializable" (some 0) with
  accessFlags := 1537
  interfaces := #[]
  cf := some (fileOf pool6 2 #[] #[] 1537 4 #[] #[])
  fields := #[]
  methods := #[]
  instanceTypes := #[]
  staticTypes := #[]
  resolved := Array.replicate 8 none
  statics := none }

/-- the primitive byte -/
def k7 : Class := { plain "byte" none with kind := .primitive 'B', accessFlags := 0x411 }
/-- [B -/
def k8 : Class := { plain "[B" (some 0) with kind := .array 7 .byte, interfaces := #[5, 6], accessFlags := 1041 }

/-- the primitive int -/
def k9 : Class := { plain "int" none with kind := .primitive 'I', accessFlags := 0x411 }
/-- [I -/
def k10 : Class := { plain "[I" (some 0) with kind := .array 9 .int, interfaces := #[5, 6], accessFlags := 1041 }

def heap : Heap := #[]
def classes : Array Class := #[k0, k1, k2, k3, k4, k5, k6, k7, k8, k9, k10]
def interned : List (Array UInt16 × Addr) := []
def slotsUsed : Nat := 0
def theMethod : MethodId := ⟨1, 1⟩
def args0 : Array Value := #[.int 5, .long 5, .int 5, .int 5, .int 5]
def aboutOver (below : List Frame) : State where
  vm := { classes := classes, interned := interned.toArray }
  heap := heap
  slotsUsed := slotsUsed
  threads := #[{ frames := .invoking theMethod args0 :: below }]
def below0 : List Frame := [.native { method := ⟨0, 0⟩, args := #[] }]
def about1 : State := aboutOver below0
def p0 : Program := .bare "" "" ""
def e0 : Env := launch0.env 0 0 0
theorem w_frames : about1.frames = Frame.invoking theMethod args0 :: below0 := rfl
set_option maxRecDepth 65536 in
theorem w_args : argsFit about1.vm theMethod args0 = true := by decide +kernel
set_option maxRecDepth 65536 in
theorem w_heap : heapFits about1 = true := by decide +kernel
set_option maxRecDepth 65536 in
theorem w_runnable : about1.curStatus? = some .runnable := by decide +kernel
set_option maxRecDepth 65536 in
theorem w_alone : about1.alone = true := by decide +kernel
set_option maxRecDepth 65536 in
theorem w_named : about1.methodNamed? x = some theMethod := by decide +kernel
set_option maxRecDepth 65536 in
theorem w_hears : about1.hears theMethod below0 = true := by decide +kernel
set_option maxRecDepth 65536 in
theorem w_ripe : about1.ripe theMethod args0 below0 = true := by decide +kernel
theorem w_running : about1.status = .running := rfl
set_option maxRecDepth 65536 in
theorem w_room : about1.hasRoom e0.platform room_1 = true :=
  launch0.hasRoom_least _ room_1 (by decide +kernel) (by decide +kernel) (by decide +kernel) (by decide +kernel) (by decide +kernel) (by decide +kernel)
theorem allAtoms_all (ts : List Jvm.Cond) (a : Array Jvm.Value) (st : Jvm.State) : (allAtoms ts).before a st = ts.all (fun c => c.before a st) := by
  induction ts with
  | nil => rfl
  | cons c t ih =>
    show (Jvm.Cond.and c (allAtoms t)).before a st = _
    rw [Jvm.Cond.before_and, ih, List.all_cons]
def words1 : List Jvm.Cond := Jvm.Cond.code x code maxLocals ret :: tables_1
/-- a 'code' word, met by the world's own term for the bytes: nothing is compared byte by byte -/
theorem code_word {y : MethodName} {bytes : ByteArray} {mx : Nat} {rt : Option FieldType} {a : Array Value} {s : State} {m : MethodId} {meth : Method} {c : Code} (h1 : s.methodNamed? y = some m) (h2 : s.vm.method? m = some meth) (h3 : meth.code = some c) (h4 : c.code = bytes)
    (h5 : (c.maxLocals == mx && c.exceptionTable.isEmpty && decide (c.maxStack ≤ mostOperands) && decide (meth.sig.returnType = rt) && !meth.locks && decide (parseMethodDescriptor y.desc = some meth.sig)) = true) : (Jvm.Cond.code y bytes mx rt).before a s = true := by
  simp only [Bool.and_eq_true, beq_iff_eq, Bool.not_eq_true', decide_eq_true_eq] at h5
  obtain ⟨⟨⟨⟨⟨g1, g2⟩, g3⟩, g4⟩, g5⟩, g6⟩ := h5
  simp [Cond.before, Cond.holds, Cond.value, h1, h2, h3, h4, g1, g2, g3, g4, g5, g6]
def isCode : Jvm.Cond → Bool
  | .code _ _ _ _ => true
  | _ => false
theorem all_split {L : List Jvm.Cond} {P : Jvm.Cond → Bool} (h1 : L.all (fun c => isCode c || P c) = true) (h2 : ∀ c ∈ L.filter isCode, P c = true) : L.all P = true := by
  refine List.all_eq_true.mpr fun c hc => ?_
  have h := List.all_eq_true.mp h1 c hc
  rcases Bool.eq_false_or_eq_true (isCode c) with hi | hi
  · exact h2 c (List.mem_filter.mpr ⟨hc, hi⟩)
  · simpa [hi] using h
set_option maxRecDepth 65536 in
theorem w_c0 : (Jvm.Cond.code x code maxLocals ret).before args0 about1 = true := code_word (m := ⟨1, 1⟩) (meth := k1m1) (c := k1c1) (by decide +kernel) rfl rfl rfl (by decide +kernel)
set_option maxRecDepth 65536 in
theorem w_c1 : (Jvm.Cond.code ({ cls := "java/lang/Math", name := "max", desc := "(II)I" } : Jvm.MethodName) jdk_29_method_65_code (2 : Nat) (Option.some Jvm.ClassFile.FieldType.int)).before args0 about1 = true := code_word (m := ⟨2, 1⟩) (meth := k2m1) (c := k2c1) (by decide +kernel) rfl rfl rfl (by decide +kernel)
set_option maxRecDepth 65536 in
theorem w_c2 : (Jvm.Cond.code ({ cls := "com/example/tally_rank/tallyrank/search/CollectionStatistics", name := "<init>", desc := "(IJ)V" } : Jvm.MethodName) prog_54_method_1_code (4 : Nat) (Option.none : Option Jvm.ClassFile.FieldType)).before args0 about1 = true := code_word (m := ⟨4, 0⟩) (meth := k4m0) (c := k4c0) (by decide +kernel) rfl rfl rfl (by decide +kernel)
set_option maxRecDepth 65536 in
theorem w_c3 : (Jvm.Cond.code ({ cls := "java/lang/Record", name := "<init>", desc := "()V" } : Jvm.MethodName) jdk_30_method_1_code (1 : Nat) (Option.none : Option Jvm.ClassFile.FieldType)).before args0 about1 = true := code_word (m := ⟨3, 0⟩) (meth := k3m0) (c := k3c0) (by decide +kernel) rfl rfl rfl (by decide +kernel)
set_option maxRecDepth 65536 in
theorem w_c4 : (Jvm.Cond.code ({ cls := "java/lang/Object", name := "<init>", desc := "()V" } : Jvm.MethodName) object_method_1_code (1 : Nat) (Option.none : Option Jvm.ClassFile.FieldType)).before args0 about1 = true := code_word (m := ⟨0, 0⟩) (meth := k0m0) (c := k0c0) (by decide +kernel) rfl rfl rfl (by decide +kernel)
set_option maxRecDepth 65536 in
theorem w_c5 : (Jvm.Cond.code ({ cls := "com/example/tally_rank/tallyrank/search/CollectionStatistics", name := "averageLength", desc := "()D" } : Jvm.MethodName) prog_54_method_3_code (1 : Nat) (Option.some Jvm.ClassFile.FieldType.double)).before args0 about1 = true := code_word (m := ⟨4, 1⟩) (meth := k4m1) (c := k4c1) (by decide +kernel) rfl rfl rfl (by decide +kernel)
def codes1 : List Jvm.Cond := [Jvm.Cond.code x code maxLocals ret, Jvm.Cond.code ({ cls := "java/lang/Math", name := "max", desc := "(II)I" } : Jvm.MethodName) jdk_29_method_65_code (2 : Nat) (Option.some Jvm.ClassFile.FieldType.int), Jvm.Cond.code ({ cls := "com/example/tally_rank/tallyrank/search/CollectionStatistics", name := "<init>", desc := "(IJ)V" } : Jvm.MethodName) prog_54_method_1_code (4 : Nat) (Option.none : Option Jvm.ClassFile.FieldType), Jvm.Cond.code ({ cls := "java/lang/Record", name := "<init>", desc := "()V" } : Jvm.MethodName) jdk_30_method_1_code (1 : Nat) (Option.none : Option Jvm.ClassFile.FieldType), Jvm.Cond.code ({ cls := "java/lang/Object", name := "<init>", desc := "()V" } : Jvm.MethodName) object_method_1_code (1 : Nat) (Option.none : Option Jvm.ClassFile.FieldType), Jvm.Cond.code ({ cls := "com/example/tally_rank/tallyrank/search/CollectionStatistics", name := "averageLength", desc := "()D" } : Jvm.MethodName) prog_54_method_3_code (1 : Nat) (Option.some Jvm.ClassFile.FieldType.double)]
set_option maxRecDepth 65536 in
theorem codes_eq : words1.filter isCode = codes1 := rfl
theorem w_codes : ∀ c ∈ words1.filter isCode, c.before args0 about1 = true := by
  rw [codes_eq]
  intro c hc
  simp only [codes1, List.mem_cons, List.not_mem_nil, or_false] at hc
  rcases hc with rfl | rfl | rfl | rfl | rfl | rfl
  · exact w_c0
  · exact w_c1
  · exact w_c2
  · exact w_c3
  · exact w_c4
  · exact w_c5
set_option maxRecDepth 65536 in
theorem w_t1 : (words1.take 24).all (fun c => isCode c || c.before args0 about1) = true := by decide +kernel
set_option maxRecDepth 65536 in
theorem w_t2 : (words1.drop 24).all (fun c => isCode c || c.before args0 about1) = true := by decide +kernel
theorem w_tables : (allAtoms (Jvm.Cond.code x code maxLocals ret :: tables_1)).before args0 about1 = true := by
  rw [allAtoms_all]
  show words1.all (fun c => c.before args0 about1) = true
  refine all_split ?_ w_codes
  rw [← List.take_append_drop 24 words1, List.all_append, w_t1, w_t2]
  rfl
set_option maxRecDepth 65536 in
theorem w_case : (Jvm.Cond.and given_1 narrow_1).before args0 about1 = true := by decide +kernel
theorem w_applies : (headSpec (Jvm.Cond.code x code maxLocals ret :: tables_1) room_1).applies x e0.platform about1 = true :=
  (Spec.applies_iff w_frames).mpr ⟨w_running, w_runnable, w_alone, w_named, w_hears, w_ripe, w_room, w_tables⟩
theorem atStart : AtStart classFile x code maxLocals ret World_1 tables_1 room_1 Calls_1 rest_1 Pre_1 launch0 p0 e0 about1 theMethod args0 below0 :=
  ⟨lists_1, trivial, launch0.admits_env _ _ _, launch0.least_env, fairChoices_fair.cas, fairChoices_fair.clock, w_frames, w_args, w_heap, w_applies, trivial, trivial, w_case⟩
end start1
theorem witness_1 : WitnessClaimed_1 := ⟨start1.p0, start1.e0, start1.about1, start1.theMethod, start1.args0, start1.below0, start1.atStart⟩
end Jvm.Pilot.@@N@@
