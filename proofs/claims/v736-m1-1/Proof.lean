import JvmDerived
import JvmDerived.Pilot.@@N@@Statement
import JvmDerived.Pilot.@@N@@Code
set_option linter.unusedVariables false
set_option linter.unusedSimpArgs false
@@BLOCK:Masks.lean.txt@@
namespace Jvm.Pilot.@@N@@
open Jvm Jvm.ClassFile Sem Op Lib Jvm.Free Jvm.Stand Jvm.LawKit Jvm.RoadKit Bundle Jvm.Pilot.@@N@@.Jvm.D
theorem own_k {Z : State} {a0 : Array Value} (hw : ∀ d ∈ tables_1, d.before a0 Z = true) {d : Jvm.Cond} (i : Nat) (h : tables_1[i]? = some d) : d.before a0 Z = true := hw d (List.mem_of_getElem? h)
theorem own_nn32 {n : Nat} (h : n < 2147483648) : ¬ Int32.ofNat n < 0 := by
  rw [Int32.lt_iff_toInt_lt, Int32.toInt_ofNat_of_lt (by omega), show (0 : Int32).toInt = 0 from rfl]
  omega
/-- from here the run ends as F says -/
def own_G (p : Program) (e : Env) (below : List Frame) (T : State) (g : JFrame) (F : State → Prop) : Prop := ∃ s₂, Steps p.tables e below (T.setTop g) s₂ ∧ F s₂
theorem own_st {p : Program} {e : Env} {below : List Frame} {T T' : State} {g g' : JFrame} {F : State → Prop} (h : ∀ target, Steps p.tables e below (T'.setTop g') target → Steps p.tables e below (T.setTop g) target) (k : own_G p e below T' g' F) : own_G p e below T g F := by
  obtain ⟨s2, a, b⟩ := k
  exact ⟨s2, h _ a, b⟩
theorem own_tr {p : Program} {e : Env} {below : List Frame} {T T' : State} {g g' : JFrame} {F : State → Prop} (h : Steps p.tables e below (T.setTop g) (T'.setTop g')) (k : own_G p e below T' g' F) : own_G p e below T g F := by
  obtain ⟨s2, a, b⟩ := k
  exact ⟨s2, h.trans a, b⟩
theorem own_end {p : Program} {e : Env} {below : List Frame} {T s2 : State} {g : JFrame} {F : State → Prop} (h : Steps p.tables e below (T.setTop g) s2) (k : F s2) : own_G p e below T g F := ⟨s2, h, k⟩
theorem own_join {α : Type} {p : Program} {e : Env} {below : List Frame} {T : State} {g : JFrame} {gj : α → JFrame} {P : α → Prop} {F : State → Prop} (k : ∀ q, P q → own_G p e below T (gj q) F) (h : (∀ q, P q → own_G p e below T (gj q) F) → own_G p e below T g F) : own_G p e below T g F := h k
abbrev own_E (s : State) (below : List Frame) (R : Room) (Q : Option Value → Heap → List Loc → Prop) : State → Prop := fun s₂ => ∃ o, s₂.status = .running ∧ Ended s₂ below o ∧ ∃ v L, o = .returned v ∧ Q v s₂.heap L ∧ FrameEnd s o s₂ L R.cells R.slots
abbrev own_EndW (s : State) (below : List Frame) (R : Room) (Q : Option Value → Heap → List Loc → Prop) : State → Prop := fun s₂ => ∃ o, s₂.status = .running ∧ Ended s₂ below o ∧ ∃ v L, o = .returned v ∧ Q v s₂.heap L ∧ ReturnedEndW s o s₂ L R.cells R.slots
abbrev own_EndH (Z : State) (EL : List (String × Nat)) (s : State) (below : List Frame) (R : Room) (Q : Option Value → Heap → List Loc → Prop) : State → Prop := fun s₂ => ∃ o, s₂.status = .running ∧ Ended s₂ below o ∧ ∃ v L, o = .returned v ∧ Q v s₂.heap L ∧ CHr Z EL s.vm s.heap s₂.vm s₂.heap ∧ ReturnedEndW s o s₂ L R.cells R.slots
abbrev own_M (l : Launch) (y : MethodName) (bs : ByteArray) (ml : Nat) (rt : Option FieldType) (ws : List Jvm.Cond) (R : Room) (as' : Array Value) (Z : State) (h0 : Heap) (Q : Option Value → Heap → List Loc → Prop) : Prop :=
  MetFree l y (head1 (Jvm.Cond.code y bs ml rt :: ws) R) (fun av U => av = as' ∧ Z.Warmed39 U.vm ∧ U.heap = h0) (fun _ _ _ _ _ => True) (fun _ U o U' => ∃ v L, o = .returned v ∧ Q v U'.heap L ∧ FrameEnd U o U' L R.cells R.slots)
abbrev own_MW (l : Launch) (y : MethodName) (bs : ByteArray) (ml : Nat) (rt : Option FieldType) (ws : List Jvm.Cond) (R : Room) (as' : Array Value) (Z : State) (h0 : Heap) (Q : Option Value → Heap → List Loc → Prop) : Prop :=
  MetFree l y (head1 (Jvm.Cond.code y bs ml rt :: ws) R) (fun av U => av = as' ∧ Z.Warmed39 U.vm ∧ U.heap = h0) (fun _ _ _ _ _ => True) (fun _ U o U' => ∃ v L, o = .returned v ∧ Q v U'.heap L ∧ ReturnedEndW U o U' L R.cells R.slots)
abbrev own_MH (EL : List (String × Nat)) (l : Launch) (y : MethodName) (bs : ByteArray) (ml : Nat) (rt : Option FieldType) (ws : List Jvm.Cond) (R : Room) (as' : Array Value) (Z : State) (h0 : Heap) (Q : Option Value → Heap → List Loc → Prop) : Prop :=
  MetFree l y (head1 (Jvm.Cond.code y bs ml rt :: ws) R) (fun av U => av = as' ∧ Z.Warmed39 U.vm ∧ U.heap = h0 ∧ CHv Z EL U.vm h0) (fun _ _ _ _ _ => True) (fun _ U o U' => ∃ v L, o = .returned v ∧ Q v U'.heap L ∧ CHr Z EL U.vm U.heap U'.vm U'.heap ∧ ReturnedEndW U o U' L R.cells R.slots)
theorem own_go {l : Launch} {y : MethodName} {bs : ByteArray} {ml : Nat} {rt : Option FieldType} {ws : List Jvm.Cond} {R : Room} {as' : Array Value} {Z : State} {h0 : Heap} {Q : Option Value → Heap → List Loc → Prop} (hpn : plainFor y = true) {ff : MethodId → JFrame} (hff : ∀ m, entryFrame m as' ml = ff m)
    (body : ∀ p e s m below meth c s₁, BodyLoose p l y (head1 (Jvm.Cond.code y bs ml rt :: ws) R) bs ml rt e s m as' below meth c s₁ → p.tables.exec = Jvm.exec → c.code = bs → c.maxLocals = ml → Z.Warmed39 s.vm → s.heap = h0 → s.vm.findClass y.cls = some m.cls → meth.name = y.name → Stand p l e R s m as' below meth c s₁ [] 0 0 → s₁.heap = h0 → own_G p e below s₁ (ff m) (own_E s below R Q)) : own_M l y bs ml rt ws R as' Z h0 Q := by
  refine MetFree.of_bodySF hpn hisR ?_
  intro p e s m args below meth c s₁ Bd hml0 hP hK
  obtain ⟨rfl, hZ, hh⟩ := hP
  obtain ⟨s2, g1, o, g2⟩ := body p e s m below meth c s₁ Bd Bd.exec Bd.bytes hml0 hZ hh (findClass_of_methodNamed Bd.named) (name_of_methodNamed Bd.named Bd.method).1 (Stand.of_body Bd) (by rw [← hh, Bd.state]; rfl)
  exact ⟨s2, o, castTop (hff m) g1, g2⟩
theorem own_goW {l : Launch} {y : MethodName} {bs : ByteArray} {ml : Nat} {rt : Option FieldType} {ws : List Jvm.Cond} {R : Room} {as' : Array Value} {Z : State} {h0 : Heap} {Q : Option Value → Heap → List Loc → Prop} (hpn : plainFor y = true) {ff : MethodId → JFrame} (hff : ∀ m, entryFrame m as' ml = ff m)
    (body : ∀ p e s m below meth c s₁, BodyLoose p l y (head1 (Jvm.Cond.code y bs ml rt :: ws) R) bs ml rt e s m as' below meth c s₁ → p.tables.exec = Jvm.exec → c.code = bs → c.maxLocals = ml → Z.Warmed39 s.vm → s.heap = h0 → s.vm.findClass y.cls = some m.cls → meth.name = y.name → Stand p l e R (s.setVm s.vm) m as' below meth c s₁ [] 0 0 → s₁.heap = h0 → s.Since s.vm h0.size → own_G p e below s₁ (ff m) (own_EndW s below R Q)) : own_MW l y bs ml rt ws R as' Z h0 Q := by
  refine MetFree.of_bodySF hpn hisR ?_
  intro p e s m args below meth c s₁ Bd hml0 hP hK
  obtain ⟨rfl, hZ, hh⟩ := hP
  obtain ⟨s2, g1, o, g2⟩ := body p e s m below meth c s₁ Bd Bd.exec Bd.bytes hml0 hZ hh (findClass_of_methodNamed Bd.named) (name_of_methodNamed Bd.named Bd.method).1 (Stand.of_body Bd) (by rw [← hh, Bd.state]; rfl) ((State.WarmedH.refl s).since _)
  exact ⟨s2, o, castTop (hff m) g1, g2⟩
theorem own_goH {EL : List (String × Nat)} {l : Launch} {y : MethodName} {bs : ByteArray} {ml : Nat} {rt : Option FieldType} {ws : List Jvm.Cond} {R : Room} {as' : Array Value} {Z : State} {h0 : Heap} {Q : Option Value → Heap → List Loc → Prop} (hpn : plainFor y = true) {ff : MethodId → JFrame} (hff : ∀ m, entryFrame m as' ml = ff m)
    (body : ∀ p e s m below meth c s₁, BodyLoose p l y (head1 (Jvm.Cond.code y bs ml rt :: ws) R) bs ml rt e s m as' below meth c s₁ → p.tables.exec = Jvm.exec → c.code = bs → c.maxLocals = ml → Z.Warmed39 s.vm → s.heap = h0 → s.vm.findClass y.cls = some m.cls → meth.name = y.name → Stand p l e R (s.setVm s.vm) m as' below meth c s₁ [] 0 0 → s₁.heap = h0 → s.Since s.vm h0.size → CHr Z EL s.vm h0 s.vm h0 → own_G p e below s₁ (ff m) (own_EndH Z EL s below R Q)) : own_MH EL l y bs ml rt ws R as' Z h0 Q := by
  refine MetFree.of_bodySF hpn hisR ?_
  intro p e s m args below meth c s₁ Bd hml0 hP hK
  obtain ⟨rfl, hZ, hh, hCH⟩ := hP
  obtain ⟨s2, g1, o, g2⟩ := body p e s m below meth c s₁ Bd Bd.exec Bd.bytes hml0 hZ hh (findClass_of_methodNamed Bd.named) (name_of_methodNamed Bd.named Bd.method).1 (Stand.of_body Bd) (by rw [← hh, Bd.state]; rfl) ((State.WarmedH.refl s).since _) (CHr.refl hCH)
  exact ⟨s2, o, castTop (hff m) g1, g2⟩
theorem own_pop2 {tb : Tables} [Ours tb] {e : Env} {below : List Frame} {T target : State} {m : MethodId} {c : Code} {g : JFrame} (h : At T m c below) (hx : tb.exec = Jvm.exec) (hg : g.method = m) {x : Value} {rest : List Value} (hd : decode c.code g.pc = .ok (.pop2, 1)) (hs : g.stack = x :: rest) (hc : x.category = 2)
    (hr : Steps tb e below (T.setTop { g with pc := g.pc + 1, stack := rest }) target) : Steps tb e below (T.setTop g) target := by
  subst hg
  jvm_step h [h.top, hx, hd, hs, hc]
  exact hr
section Own
variable {p : Program} {l : Launch} {e : Env} {R : Room} {s : State} {m : MethodId} {args : Array Value} {below : List Frame} {meth : Method} {c : Code} {T : State} {locs : List Loc} {cells slots : Nat} {Z : State} {h h' : Heap} {a : Addr} {k : ClassId} {ty : FieldType} {z j : Int32} {vs : List Value} {d v : Value} {g : JFrame} {rest : List Value}
theorem own_joinT {α : Type} {gj : α → JFrame} {P : α → Prop} {F : State → Prop} (X : Stand p l e R s m args below meth c T locs cells slots) (eT : T.heap = h)
    (k : ∀ T' q, P q → Stand p l e R s m args below meth c T' locs cells slots → T'.heap = h → own_G p e below T' (gj q) F) (r : (∀ T' q, P q → Stand p l e R s m args below meth c T' locs cells slots → T'.heap = h → own_G p e below T' (gj q) F) → own_G p e below T g F) : own_G p e below T g F := r k
theorem own_loop {α : Type} {gj : α → JFrame} {P : Nat → α → Prop} {F : State → Prop} (X : Stand p l e R s m args below meth c T locs cells slots) (eT : T.heap = h)
    (k : ∀ n, (∀ i, i < n → ∀ T' q, P i q → Stand p l e R s m args below meth c T' locs cells slots → T'.heap = h → own_G p e below T' (gj q) F) → ∀ T' q, P n q → Stand p l e R s m args below meth c T' locs cells slots → T'.heap = h → own_G p e below T' (gj q) F)
    (r : (∀ n T' q, P n q → Stand p l e R s m args below meth c T' locs cells slots → T'.heap = h → own_G p e below T' (gj q) F) → own_G p e below T g F) : own_G p e below T g F :=
  r fun n => Nat.strongRecOn n fun n ih => k n ih
theorem own_joinH {α : Type} {gj : α → JFrame} {P : List Loc → Heap → α → Prop} {F : State → Prop} {cells' slots' : Nat} (X : Stand p l e R s m args below meth c T locs cells slots)
    (k : ∀ T' L h' q, P L h' q → Stand p l e R s m args below meth c T' L cells' slots' → T'.heap = h' → own_G p e below T' (gj q) F) (r : (∀ T' L h' q, P L h' q → Stand p l e R s m args below meth c T' L cells' slots' → T'.heap = h' → own_G p e below T' (gj q) F) → own_G p e below T g F) : own_G p e below T g F := r k
theorem own_joinHV {α : Type} {gj : α → JFrame} {P : Vm → Nat → List Loc → Heap → α → Prop} {F : State → Prop} {cells' slots' : Nat} {vm0 : Vm} (X : Stand p l e R (s.setVm vm0) m args below meth c T locs cells slots)
    (k : ∀ vm1 k1 T' L h' q, P vm1 k1 L h' q → Stand p l e R (s.setVm vm1) m args below meth c T' L cells' slots' → T'.heap = h' → own_G p e below T' (gj q) F) (r : (∀ vm1 k1 T' L h' q, P vm1 k1 L h' q → Stand p l e R (s.setVm vm1) m args below meth c T' L cells' slots' → T'.heap = h' → own_G p e below T' (gj q) F) → own_G p e below T g F) : own_G p e below T g F := r k
theorem own_alen (X : Stand p l e R s m args below meth c T locs cells slots) (hx : p.tables.exec = Jvm.exec) (hZ : Z.Warmed39 s.vm) (eT : T.heap = h) (F : Arv Z h a k ty z vs d) (hg : g.method = m) (hs : g.stack = .ref a :: rest) (hd : decode c.code g.pc = .ok (.arraylength, 1)) :
    ∀ target, Steps p.tables e below (T.setTop { g with pc := g.pc + 1, stack := .int z :: rest }) target → Steps p.tables e below (T.setTop g) target := by
  obtain ⟨cl, A, -, S, M, -⟩ := F
  intro target hr
  refine X.arraylength hx (cell := cl) (by rw [eT]; exact A.1) (State.isArrayOf_alike hZ.alike A.2.1) hg hs hd target ?_
  rw [len_of S M]; exact hr
theorem own_ial (X : Stand p l e R s m args below meth c T locs cells slots) (hx : p.tables.exec = Jvm.exec) (hZ : Z.Warmed39 s.vm) (eT : T.heap = h) (F : Arv Z h a k .int z vs d) (hj : ¬ j < 0 ∧ j < z) (hv : vs.getD j.toNatClampNeg d = v) (hg : g.method = m) (hs : g.stack = .int j :: .ref a :: rest) (hd : decode c.code g.pc = .ok (.iaload, 1)) :
    ∀ target, Steps p.tables e below (T.setTop { g with pc := g.pc + 1, stack := v :: rest }) target → Steps p.tables e below (T.setTop g) target := by
  obtain ⟨cl, A, -, S, M, H, -⟩ := F
  intro target hr
  exact X.iaload hx (by rw [eT]; exact A.1) (State.isArrayOf_alike hZ.alike A.2.1) A.2.2 (inb_of S hj) (H.at (inb_of S hj) hv) hg hs hd target hr
theorem own_cal (X : Stand p l e R s m args below meth c T locs cells slots) (hx : p.tables.exec = Jvm.exec) (hZ : Z.Warmed39 s.vm) (eT : T.heap = h) (F : Arv Z h a k .char z vs d) (hj : ¬ j < 0 ∧ j < z) (hv : vs.getD j.toNatClampNeg d = v) (hg : g.method = m) (hs : g.stack = .int j :: .ref a :: rest) (hd : decode c.code g.pc = .ok (.caload, 1)) :
    ∀ target, Steps p.tables e below (T.setTop { g with pc := g.pc + 1, stack := v :: rest }) target → Steps p.tables e below (T.setTop g) target := by
  obtain ⟨cl, A, -, S, M, H, -⟩ := F
  intro target hr
  exact X.caload hx (by rw [eT]; exact A.1) (State.isArrayOf_alike hZ.alike A.2.1) A.2.2 (inb_of S hj) (H.at (inb_of S hj) hv) hg hs hd target hr
theorem own_bal (X : Stand p l e R s m args below meth c T locs cells slots) (hx : p.tables.exec = Jvm.exec) (hZ : Z.Warmed39 s.vm) (eT : T.heap = h) (F : Arv Z h a k .byte z vs d) (hj : ¬ j < 0 ∧ j < z) (hv : vs.getD j.toNatClampNeg d = v) (hg : g.method = m) (hs : g.stack = .int j :: .ref a :: rest) (hd : decode c.code g.pc = .ok (.baload, 1)) :
    ∀ target, Steps p.tables e below (T.setTop { g with pc := g.pc + 1, stack := v :: rest }) target → Steps p.tables e below (T.setTop g) target := by
  obtain ⟨cl, A, -, S, M, H, -⟩ := F
  intro target hr
  exact X.baloadBytes hx (by rw [eT]; exact A.1) (State.isArrayOf_alike hZ.alike A.2.1) A.2.2 (inb_of S hj) (H.at (inb_of S hj) hv) hg hs hd target hr
theorem own_lal (X : Stand p l e R s m args below meth c T locs cells slots) (hx : p.tables.exec = Jvm.exec) (hZ : Z.Warmed39 s.vm) (eT : T.heap = h) (F : Arv Z h a k .long z vs d) (hj : ¬ j < 0 ∧ j < z) (hv : vs.getD j.toNatClampNeg d = v) (hg : g.method = m) (hs : g.stack = .int j :: .ref a :: rest) (hd : decode c.code g.pc = .ok (.laload, 1)) :
    ∀ target, Steps p.tables e below (T.setTop { g with pc := g.pc + 1, stack := v :: rest }) target → Steps p.tables e below (T.setTop g) target := by
  obtain ⟨cl, A, -, S, M, H, -⟩ := F
  intro target hr
  exact X.laload hx (by rw [eT]; exact A.1) (State.isArrayOf_alike hZ.alike A.2.1) A.2.2 (inb_of S hj) (H.at (inb_of S hj) hv) hg hs hd target hr
theorem own_dal (X : Stand p l e R s m args below meth c T locs cells slots) (hx : p.tables.exec = Jvm.exec) (hZ : Z.Warmed39 s.vm) (eT : T.heap = h) (F : Arv Z h a k .double z vs d) (hj : ¬ j < 0 ∧ j < z) (hv : vs.getD j.toNatClampNeg d = v) (hg : g.method = m) (hs : g.stack = .int j :: .ref a :: rest) (hd : decode c.code g.pc = .ok (.daload, 1)) :
    ∀ target, Steps p.tables e below (T.setTop { g with pc := g.pc + 1, stack := v :: rest }) target → Steps p.tables e below (T.setTop g) target := by
  obtain ⟨cl, A, -, S, M, H, -⟩ := F
  intro target hr
  exact X.daload hx (by rw [eT]; exact A.1) (State.isArrayOf_alike hZ.alike A.2.1) A.2.2 (inb_of S hj) (H.at (inb_of S hj) hv) hg hs hd target hr
theorem own_aal (X : Stand p l e R s m args below meth c T locs cells slots) (hx : p.tables.exec = Jvm.exec) (hZ : Z.Warmed39 s.vm) (eT : T.heap = h) (F : Arv Z h a k ty z vs d) (hty : ty.isReference = true) (hj : ¬ j < 0 ∧ j < z) (hv : vs.getD j.toNatClampNeg d = v) (hg : g.method = m) (hs : g.stack = .int j :: .ref a :: rest) (hd : decode c.code g.pc = .ok (.aaload, 1)) :
    ∀ target, Steps p.tables e below (T.setTop { g with pc := g.pc + 1, stack := v :: rest }) target → Steps p.tables e below (T.setTop g) target := by
  obtain ⟨cl, A, -, S, M, H, -⟩ := F
  intro target hr
  exact X.aaload hx (by rw [eT]; exact A.1) (State.isArrayOf_alike hZ.alike A.2.1) hty A.2.2 (inb_of S hj) (H.at (inb_of S hj) hv) hg hs hd target hr
theorem own_ist (X : Stand p l e R s m args below meth c T locs cells slots) (hx : p.tables.exec = Jvm.exec) (hZ : Z.Warmed39 s.vm) (eT : T.heap = h) (F : Arv Z h a k .int z vs d) (hj : ¬ j < 0 ∧ j < z) {i : Nat} (hi : j.toNatClampNeg = i) (hl : i < vs.length) {x : Int32} (hg : g.method = m) (hs : g.stack = .int x :: .int j :: .ref a :: rest) (hd : decode c.code g.pc = .ok (.iastore, 1)) :
    ∃ T' h', Stand p l e R s m args below meth c T' (locs ++ [⟨a, j.toNatClampNeg⟩]) cells slots ∧ T'.heap = h' ∧ Wr h h' a j.toNatClampNeg (.int x) ∧ Arv Z h' a k .int z (vs.set i (.int x)) d ∧ ∀ target, Steps p.tables e below (T'.setTop { g with pc := g.pc + 1, stack := rest }) target → Steps p.tables e below (T.setTop g) target := by
  obtain ⟨cl, A, q, S, M, H, G⟩ := F
  obtain ⟨T', h', X', e', W, st⟩ := stI X hx hZ eT A (inb_of S hj) hg hs hd
  exact ⟨T', h', X', e', W, Arv.set A q S M H G rfl W i hi hl, st⟩
theorem own_lst (X : Stand p l e R s m args below meth c T locs cells slots) (hx : p.tables.exec = Jvm.exec) (hZ : Z.Warmed39 s.vm) (eT : T.heap = h) (F : Arv Z h a k .long z vs d) (hj : ¬ j < 0 ∧ j < z) {i : Nat} (hi : j.toNatClampNeg = i) (hl : i < vs.length) {x : Int64} (hg : g.method = m) (hs : g.stack = .long x :: .int j :: .ref a :: rest) (hd : decode c.code g.pc = .ok (.lastore, 1)) :
    ∃ T' h', Stand p l e R s m args below meth c T' (locs ++ [⟨a, j.toNatClampNeg⟩]) cells slots ∧ T'.heap = h' ∧ Wr h h' a j.toNatClampNeg (.long x) ∧ Arv Z h' a k .long z (vs.set i (.long x)) d ∧ ∀ target, Steps p.tables e below (T'.setTop { g with pc := g.pc + 1, stack := rest }) target → Steps p.tables e below (T.setTop g) target := by
  obtain ⟨cl, A, q, S, M, H, G⟩ := F
  obtain ⟨T', h', X', e', W, st⟩ := stJ X hx hZ eT A (inb_of S hj) hg hs hd
  exact ⟨T', h', X', e', W, Arv.set A q S M H G rfl W i hi hl, st⟩
theorem own_dst (X : Stand p l e R s m args below meth c T locs cells slots) (hx : p.tables.exec = Jvm.exec) (hZ : Z.Warmed39 s.vm) (eT : T.heap = h) (F : Arv Z h a k .double z vs d) (hj : ¬ j < 0 ∧ j < z) {i : Nat} (hi : j.toNatClampNeg = i) (hl : i < vs.length) {x : UInt64} (hg : g.method = m) (hs : g.stack = .double x :: .int j :: .ref a :: rest) (hd : decode c.code g.pc = .ok (.dastore, 1)) :
    ∃ T' h', Stand p l e R s m args below meth c T' (locs ++ [⟨a, j.toNatClampNeg⟩]) cells slots ∧ T'.heap = h' ∧ Wr h h' a j.toNatClampNeg (.double x) ∧ Arv Z h' a k .double z (vs.set i (.double x)) d ∧ ∀ target, Steps p.tables e below (T'.setTop { g with pc := g.pc + 1, stack := rest }) target → Steps p.tables e below (T.setTop g) target := by
  obtain ⟨cl, A, q, S, M, H, G⟩ := F
  obtain ⟨T', h', X', e', W, st⟩ := stD X hx hZ eT A (inb_of S hj) hg hs hd
  exact ⟨T', h', X', e', W, Arv.set A q S M H G rfl W i hi hl, st⟩
theorem own_cst (X : Stand p l e R s m args below meth c T locs cells slots) (hx : p.tables.exec = Jvm.exec) (hZ : Z.Warmed39 s.vm) (eT : T.heap = h) (F : Arv Z h a k .char z vs d) (hj : ¬ j < 0 ∧ j < z) {i : Nat} (hi : j.toNatClampNeg = i) (hl : i < vs.length) {x y : Int32} (hn : nar .char x = y) (hg : g.method = m) (hs : g.stack = .int x :: .int j :: .ref a :: rest) (hd : decode c.code g.pc = .ok (.castore, 1)) :
    ∃ T' h', Stand p l e R s m args below meth c T' (locs ++ [⟨a, j.toNatClampNeg⟩]) cells slots ∧ T'.heap = h' ∧ Wr h h' a j.toNatClampNeg (.int y) ∧ Arv Z h' a k .char z (vs.set i (.int y)) d ∧ ∀ target, Steps p.tables e below (T'.setTop { g with pc := g.pc + 1, stack := rest }) target → Steps p.tables e below (T.setTop g) target := by
  obtain ⟨cl, A, q, S, M, H, G⟩ := F
  obtain ⟨T', h', X', e', W, st⟩ := stC X hx hZ eT A (inb_of S hj) hg hs hd
  rw [hn] at W
  exact ⟨T', h', X', e', W, Arv.set A q S M H G (by rw [← hn]; exact fits_nar_char x) W i hi hl, st⟩
theorem own_bst (X : Stand p l e R s m args below meth c T locs cells slots) (hx : p.tables.exec = Jvm.exec) (hZ : Z.Warmed39 s.vm) (eT : T.heap = h) (F : Arv Z h a k .byte z vs d) (hj : ¬ j < 0 ∧ j < z) {i : Nat} (hi : j.toNatClampNeg = i) (hl : i < vs.length) {x y : Int32} (hn : nar .byte x = y) (hg : g.method = m) (hs : g.stack = .int x :: .int j :: .ref a :: rest) (hd : decode c.code g.pc = .ok (.bastore, 1)) :
    ∃ T' h', Stand p l e R s m args below meth c T' (locs ++ [⟨a, j.toNatClampNeg⟩]) cells slots ∧ T'.heap = h' ∧ Wr h h' a j.toNatClampNeg (.int y) ∧ Arv Z h' a k .byte z (vs.set i (.int y)) d ∧ ∀ target, Steps p.tables e below (T'.setTop { g with pc := g.pc + 1, stack := rest }) target → Steps p.tables e below (T.setTop g) target := by
  obtain ⟨cl, A, q, S, M, H, G⟩ := F
  obtain ⟨T', h', X', e', W, st⟩ := stB X hx hZ eT A (inb_of S hj) hg hs hd
  rw [hn] at W
  exact ⟨T', h', X', e', W, Arv.set A q S M H G (by rw [← hn]; exact fits_nar_byte x) W i hi hl, st⟩
theorem own_ast (X : Stand p l e R s m args below meth c T locs cells slots) (hx : p.tables.exec = Jvm.exec) (hZ : Z.Warmed39 s.vm) (eT : T.heap = h) (F : Arv Z h a k ty z vs d) (hty : ty.isReference = true) (hj : ¬ j < 0 ∧ j < z) {i : Nat} (hi : j.toNatClampNeg = i) (hl : i < vs.length) (hv : fits ty v = true) (Q : Sto Z h a v) (hg : g.method = m) (hs : g.stack = v :: .int j :: .ref a :: rest) (hd : decode c.code g.pc = .ok (.aastore, 1)) :
    ∃ T' h', Stand p l e R s m args below meth c T' (locs ++ [⟨a, j.toNatClampNeg⟩]) cells slots ∧ T'.heap = h' ∧ Wr h h' a j.toNatClampNeg v ∧ Arv Z h' a k ty z (vs.set i v) d ∧ ∀ target, Steps p.tables e below (T'.setTop { g with pc := g.pc + 1, stack := rest }) target → Steps p.tables e below (T.setTop g) target := by
  obtain ⟨cl, A, q, S, M, H, G⟩ := F
  obtain ⟨T', h', X', e', W, st⟩ := stR X hx hZ eT A (inb_of S hj) hty Q hg hs hd
  exact ⟨T', h', X', e', W, Arv.set A q S M H G hv W i hi hl, st⟩
theorem own_retJ (X : Stand p l e R s m args below meth c T locs cells slots) (hx : p.tables.exec = Jvm.exec) {pc : Nat} {Ls : Array Slot} {w : Int64} (hret : meth.sig.returnType = some .long) (hd : decode c.code pc = .ok (.lreturn, 1)) {fs : List Frame}
    (hl : ∀ (f : JFrame) (acts : List Action), f.method = m → f.locked = none → f.entered = [] → (doReturn e (T.setTop f) acts (some (.long w))).1 = T.setFrames fs) : Steps p.tables e below (T.setTop (mkF m pc Ls (.long w :: rest))) (T.setFrames fs) :=
  retOut X hx hret rfl (Or.inr (Or.inl ⟨rfl, rfl, w, rfl⟩)) hd hl
theorem own_retD (X : Stand p l e R s m args below meth c T locs cells slots) (hx : p.tables.exec = Jvm.exec) {pc : Nat} {Ls : Array Slot} {w : UInt64} (hret : meth.sig.returnType = some .double) (hd : decode c.code pc = .ok (.dreturn, 1)) {fs : List Frame}
    (hl : ∀ (f : JFrame) (acts : List Action), f.method = m → f.locked = none → f.entered = [] → (doReturn e (T.setTop f) acts (some (.double w))).1 = T.setFrames fs) : Steps p.tables e below (T.setTop (mkF m pc Ls (.double w :: rest))) (T.setFrames fs) :=
  retOut X hx hret rfl (Or.inr (Or.inr (Or.inl ⟨rfl, rfl, w, rfl⟩))) hd hl
theorem own_retI (X : Stand p l e R s m args below meth c T locs cells slots) (hx : p.tables.exec = Jvm.exec) {pc : Nat} {Ls : Array Slot} {w : Int32} (hret : meth.sig.returnType = some .int) (hd : decode c.code pc = .ok (.ireturn, 1)) {fs : List Frame}
    (hl : ∀ (f : JFrame) (acts : List Action), f.method = m → f.locked = none → f.entered = [] → (doReturn e (T.setTop f) acts (some (.int w))).1 = T.setFrames fs) : Steps p.tables e below (T.setTop (mkF m pc Ls (.int w :: rest))) (T.setFrames fs) :=
  retOut X hx hret rfl (Or.inl ⟨rfl, Or.inl rfl, w, rfl⟩) hd hl
theorem own_retA (X : Stand p l e R s m args below meth c T locs cells slots) (hx : p.tables.exec = Jvm.exec) {pc : Nat} {Ls : Array Slot} {w : Value} {t : FieldType} (hret : meth.sig.returnType = some t) (ht : t.isReference = true) (hn : narrow t w = w) (hw : w.isRef = true) (hd : decode c.code pc = .ok (.areturn, 1)) {fs : List Frame}
    (hl : ∀ (f : JFrame) (acts : List Action), f.method = m → f.locked = none → f.entered = [] → (doReturn e (T.setTop f) acts (some w)).1 = T.setFrames fs) : Steps p.tables e below (T.setTop (mkF m pc Ls (w :: rest))) (T.setFrames fs) :=
  retOut X hx hret hn (Or.inr (Or.inr (Or.inr (Or.inr ⟨rfl, ht, hw⟩)))) hd hl
end Own
open Jvm.FP.Core in
theorem own_divz {a b : UInt64} {s : Bool} {c d : Nat} {q r : Int} (ha : val64 a = .fin s c q) (hb : val64 b = .fin false d r) (hd : d ≠ 0) :
    val64 (ddiv a b) ≠ .nan ∧ sgn (val64 (ddiv a b)) = s ∧
    (∀ v, val64 v ≠ .nan → zmag b64 (val64 a) * one64 ≤ zmag b64 (val64 v) * zmag b64 (val64 b) → zmag b64 (val64 (ddiv a b)) ≤ zmag b64 (val64 v)) ∧
    (∀ v, val64 v ≠ .nan → zmag b64 (val64 v) * zmag b64 (val64 b) ≤ zmag b64 (val64 a) * one64 → zmag b64 (val64 v) ≤ zmag b64 (val64 (ddiv a b))) := by
  have fa := val64_fits a
  have fb := val64_fits b
  have e : val64 (ddiv a b) = roundRatio b64 s c d (q - r) := by
    rw [val64_ddiv, ha, hb]
    show (if d = 0 then _ else roundRatio b64 (s != false) c d (q - r)) = _
    rw [if_neg hd]; cases s <;> rfl
  rw [ha] at fa; rw [hb] at fb
  have q1 := fa.2.1; have r1 := fb.2.1
  have qm : b64.qmin = -1074 := qmin_b64
  have u1 : inUnits c (q - r) (2 * b64.qmin - r) = zmag b64 (val64 a) * one64 := by
    rw [ha]; show c * 2 ^ (q - r - (2 * b64.qmin - r)).toNat = c * 2 ^ (q - b64.qmin).toNat * one64
    rw [one64, Nat.mul_assoc, ← Nat.pow_add]
    congr 2; omega
  have u2 : ∀ V : Datum, zmag b64 V * 2 ^ (b64.qmin - (2 * b64.qmin - r)).toNat * d = zmag b64 V * zmag b64 (val64 b) := by
    intro V
    rw [hb]; show _ = zmag b64 V * (d * 2 ^ (r - b64.qmin).toNat)
    rw [Nat.mul_assoc, Nat.mul_comm d, show (b64.qmin - (2 * b64.qmin - r)).toNat = (r - b64.qmin).toNat by omega]
  rw [e]
  refine ⟨roundRatio_ne_nan _ _ _ _ _, sgn_roundRatio _ _ _ _ _, fun v hv h => ?_, fun v hv h => ?_⟩
  · refine zmag_roundRatio_le good_b64 (e0 := 2 * b64.qmin - r) (by omega) (val64_fits v) hv (by omega) (by omega) ?_
    rw [u1, u2]; exact h
  · refine zmag_roundRatio_ge good_b64 (e0 := 2 * b64.qmin - r) (by omega) (val64_fits v) (by omega) (by omega) ?_
    rw [u1, u2]; exact h
open Jvm.FP.Core in
theorem own_cmpz {a b : UInt64} (ha : val64 a ≠ .nan) (hb : val64 b ≠ .nan) : FP.dcmp a b = some (compare (zval b64 (val64 a)) (zval b64 (val64 b))) :=
  order_zval good_b64 (val64_fits a) (val64_fits b) ha hb
open Jvm.FP.Core in
/-- the double n / 2^K -/
def own_dy (n : Int) (K : Nat) : UInt64 := of64 (round b64 (.fin (decide (n < 0)) n.natAbs (-(K : Int))))
open Jvm.FP.Core in
theorem own_dyz {n : Int} {K : Nat} (hn : n.natAbs < 2 ^ 53) (hK : K ≤ 1000) : val64 (own_dy n K) ≠ .nan ∧ zval b64 (val64 (own_dy n K)) = n * ((2 ^ (1074 - K) : Nat) : Int) ∧ DFin (own_dy n K) := by
  have e : val64 (own_dy n K) = round b64 (.fin (decide (n < 0)) n.natAbs (-(K : Int))) := val64_of64 (round_fits good_b64 _)
  have qm : b64.qmin = -1074 := qmin_b64
  have qx : b64.qmax = 971 := by decide
  obtain ⟨c', q', h1, h2⟩ := round_exact good_b64 (decide (n < 0)) (c := n.natAbs) (q := -(K : Int)) hn (by omega) (by omega)
  have e2 := e.trans h1
  refine ⟨(fun q => by rw [e2] at q; cases q), ?_, ⟨_, _, _, e2⟩⟩
  rw [e2]
  show signed (decide (n < 0)) (inUnits c' q' b64.qmin) = _
  rw [h2]; show signed _ (n.natAbs * 2 ^ (-(K : Int) - b64.qmin).toNat) = _
  rw [signed_mul, show (-(K : Int) - b64.qmin).toNat = 1074 - K by omega]
  congr 1
  unfold signed
  by_cases h : n < 0
  · rw [decide_eq_true h, if_pos rfl]; omega
  · rw [decide_eq_false h, if_neg (by decide)]; omega
open Jvm.FP.Core in
/-- x is the double n / 2^K -/
def own_D (n : Int) (K : Nat) (x : UInt64) : Prop := DFin x ∧ zval b64 (val64 x) = n * ((2 ^ (1074 - K) : Nat) : Int)
open Jvm.Free.Fl in
theorem own_Dn {n : Int} {K : Nat} {x : UInt64} (h : own_D n K x) : NoNaN64 x := val64_no.mpr h.1.ne_nan
open Jvm.FP.Core in
theorem own_finof {x y : UInt64} (hx : val64 x ≠ .nan) (hy : DFin y) (h : zval b64 (val64 x) = zval b64 (val64 y)) : DFin x := by
  obtain ⟨t, d, r, hy⟩ := hy
  have fy := val64_fits y
  cases e : val64 x with
  | nan => exact absurd e hx
  | fin s c q => exact ⟨s, c, q, e⟩
  | inf s =>
    rw [hy] at fy
    have := zmag_lt_top good_b64 fy
    have h2 := congrArg Int.natAbs h
    rw [e, hy] at h2
    unfold zval at h2
    rw [natAbs_signed, natAbs_signed] at h2
    exact absurd (Nat.lt_of_le_of_lt (Nat.le_of_eq h2) this) (Nat.lt_irrefl _)
open Jvm.FP.Core in
theorem own_Drnd {x : UInt64} {n : Int} {K : Nat} {s : Bool} {c : Nat} {q e0 : Int} (hx : val64 x = round b64 (.fin s c q)) (hn : n.natAbs < 2 ^ 53) (hK : K ≤ 1000) (h0 : e0 ≤ b64.qmin) (h0e : e0 ≤ q)
    (h : signed s (inUnits c q e0) = n * ((2 ^ (1074 - K) : Nat) : Int) * ((2 ^ (b64.qmin - e0).toNat : Nat) : Int)) : own_D n K x := by
  obtain ⟨v1, v2, v3⟩ := own_dyz hn hK
  have z : zval b64 (val64 x) = zval b64 (val64 (own_dy n K)) := by
    rw [hx]
    refine Int.le_antisymm (zval_round_le good_b64 (val64_fits _) v1 h0 h0e ?_) (zval_round_ge good_b64 (val64_fits _) v1 h0 h0e ?_)
    · rw [h, v2]; exact Int.le_refl _
    · rw [h, v2]; exact Int.le_refl _
  refine ⟨own_finof ?_ v3 z, z.trans v2⟩
  rw [hx]; exact roundRatio_ne_nan _ _ _ _ _
open Jvm.FP.Core in
theorem own_Dl {v : Int64} (h : v.toInt.natAbs ≤ 2 ^ 53) : own_D v.toInt 0 (FP.l2d v) := ⟨l2d_fin v, DInt_zval (l2d_int h)⟩
open Jvm.FP.Core in
theorem own_Di (v : Int32) : own_D v.toInt 0 (FP.i2d v) := ⟨i2d_fin v, DInt_zval (i2d_int v)⟩
open Jvm.FP.Core in
theorem own_Dsub {a b : Int} {K : Nat} {x y : UInt64} (X : own_D a K x) (Y : own_D b K y) (hn : (a - b).natAbs < 2 ^ 53) (hK : K ≤ 1000) : own_D (a - b) K (FP.dsub x y) := by
  obtain ⟨⟨s, c, q, hx⟩, zx⟩ := X
  obtain ⟨⟨t, d, r, hy⟩, zy⟩ := Y
  have fx : Jvm.FP.Core.fits b64 (.fin s c q) := hx ▸ val64_fits x
  have fy : Jvm.FP.Core.fits b64 (.fin (!t) d r) := negate_fits (d := .fin t d r) (hy ▸ val64_fits y)
  obtain ⟨sg, n, e, h1, h2, h3⟩ := sum_units fx fy
  refine own_Drnd (e0 := b64.qmin) (s := sg) (c := n) (q := e) ?_ hn hK (Int.le_refl _) h2 ?_
  · show val64 (dsub x y) = _
    rw [val64_dsub, hx, hy]; exact congrArg _ h1
  · rw [h3, ← hx, show Datum.fin (!t) d r = negate (val64 y) by rw [hy]; rfl, zval_negate, zx, zy, Int.sub_self, show ((2 ^ (0 : Int).toNat : Nat) : Int) = 1 from rfl, Int.mul_one, Int.sub_mul]
    rfl
open Jvm.FP.Core in
theorem own_sgm (s t : Bool) (x y : Nat) : signed (s != t) (x * y) = signed s x * signed t y := by
  cases s <;> cases t <;> simp [signed, Int.mul_neg, Int.neg_mul]
open Jvm.FP.Core in
theorem own_Dmul {a b : Int} {K L : Nat} {x y : UInt64} (X : own_D a K x) (Y : own_D b L y) (hn : (a * b).natAbs < 2 ^ 53) (hK : K + L ≤ 1000) : own_D (a * b) (K + L) (FP.dmul x y) := by
  obtain ⟨⟨s, c, q, hx⟩, zx⟩ := X
  obtain ⟨⟨t, d, r, hy⟩, zy⟩ := Y
  have fx : Jvm.FP.Core.fits b64 (.fin s c q) := hx ▸ val64_fits x
  have fy : Jvm.FP.Core.fits b64 (.fin t d r) := hy ▸ val64_fits y
  obtain ⟨h1, h2, h3⟩ := product_units fx fy
  have qm : b64.qmin = -1074 := qmin_b64
  refine own_Drnd (e0 := 2 * b64.qmin) (s := s != t) (c := c * d) (q := q + r) ?_ hn hK (by omega) h2 ?_
  · show val64 (dmul x y) = _
    rw [val64_dmul, hx, hy]; exact congrArg _ h1
  · rw [h3, own_sgm]
    show zval b64 (.fin s c q) * zval b64 (.fin t d r) = _
    rw [← hx, ← hy, zx, zy, show (b64.qmin - 2 * b64.qmin).toNat = 1074 by omega, Int.mul_assoc (a * b), ← Int.natCast_mul, ← Nat.pow_add,
      show 1074 - (K + L) + 1074 = (1074 - K) + (1074 - L) by omega, Nat.pow_add, Int.natCast_mul]
    ac_rfl
open Jvm.FP.Core in
theorem own_divS {x y : UInt64} {s : Bool} {c : Nat} {q : Int} (hx : val64 x = .fin s c q) (hy : DFin y) (yp : 0 < zval b64 (val64 y)) :
    val64 (ddiv x y) ≠ .nan ∧
    (∀ v, val64 v ≠ .nan → zval b64 (val64 x) * (one64 : Int) ≤ zval b64 (val64 v) * zval b64 (val64 y) → zval b64 (val64 (ddiv x y)) ≤ zval b64 (val64 v)) ∧
    (∀ v, val64 v ≠ .nan → zval b64 (val64 v) * zval b64 (val64 y) ≤ zval b64 (val64 x) * (one64 : Int) → zval b64 (val64 v) ≤ zval b64 (val64 (ddiv x y))) := by
  obtain ⟨t, d, r, hy⟩ := hy
  have ht : t = false := by
    cases t with
    | false => rfl
    | true => rw [hy] at yp; unfold zval signed at yp; rw [if_pos (show sgn (Datum.fin true d r) = true from rfl)] at yp; omega
  subst ht
  have hd : d ≠ 0 := by
    intro q0; rw [hy, q0] at yp
    have : zval b64 (.fin false 0 r) = 0 := by show signed false (0 * _) = 0; rw [Nat.zero_mul]; rfl
    omega
  obtain ⟨w1, w2, w3, w4⟩ := own_divz hx hy hd
  have zyn : zval b64 (val64 y) = (zmag b64 (val64 y) : Int) := by rw [hy]; rfl
  have zxs : zval b64 (val64 x) = signed s (zmag b64 (val64 x)) := by rw [hx]; rfl
  have zds : zval b64 (val64 (ddiv x y)) = signed s (zmag b64 (val64 (ddiv x y))) := by unfold zval; rw [w2]
  refine ⟨w1, fun v hv h => ?_, fun v hv h => ?_⟩
  · have a3 := w3 v hv
    have a4 := w4 v hv
    have hz : zmag b64 (val64 v) * zmag b64 (val64 y) = 0 → zmag b64 (val64 v) = 0 := by
      intro g; rcases Nat.mul_eq_zero.mp g with g | g <;> omega
    rw [zds]
    rw [zxs, zyn] at h
    unfold zval at h ⊢
    rw [← signed_mul, ← signed_mul] at h
    generalize zmag b64 (val64 v) * zmag b64 (val64 y) = P at *
    generalize zmag b64 (val64 x) * one64 = Q at *
    generalize sgn (val64 v) = t at *
    cases s <;> cases t <;> simp only [signed, if_true, Bool.false_eq_true, if_false] at h ⊢ <;> omega
  · have a3 := w3 v hv
    have a4 := w4 v hv
    have hz : zmag b64 (val64 v) * zmag b64 (val64 y) = 0 → zmag b64 (val64 v) = 0 := by
      intro g; rcases Nat.mul_eq_zero.mp g with g | g <;> omega
    rw [zds]
    rw [zxs, zyn] at h
    unfold zval at h ⊢
    rw [← signed_mul, ← signed_mul] at h
    generalize zmag b64 (val64 v) * zmag b64 (val64 y) = P at *
    generalize zmag b64 (val64 x) * one64 = Q at *
    generalize sgn (val64 v) = t at *
    cases s <;> cases t <;> simp only [signed, if_true, Bool.false_eq_true, if_false] at h ⊢ <;> omega
open Jvm.FP.Core in
theorem own_Ddiv {a b n : Int} {K L M : Nat} {x y : UInt64} (X : own_D a K x) (Y : own_D b L y) (hb : 0 < b) (hn : n.natAbs < 2 ^ 53) (hM : M ≤ 1000)
    (h : a * ((2 ^ (1074 - K) : Nat) : Int) * ((2 ^ 1074 : Nat) : Int) = n * ((2 ^ (1074 - M) : Nat) : Int) * (b * ((2 ^ (1074 - L) : Nat) : Int))) : own_D n M (FP.ddiv x y) := by
  obtain ⟨⟨s, c, q, hx⟩, zx⟩ := X
  obtain ⟨Y, zy⟩ := Y
  obtain ⟨v1, v2, v3⟩ := own_dyz hn hM
  have yp : 0 < b * ((2 ^ (1074 - L) : Nat) : Int) := Int.mul_pos hb (by have := Nat.two_pow_pos (1074 - L); omega)
  rw [← zx, ← zy, ← v2] at h
  rw [← zy] at yp
  obtain ⟨w1, w2, w3⟩ := own_divS hx Y yp
  have z2 : zval b64 (val64 (ddiv x y)) = zval b64 (val64 (own_dy n M)) := Int.le_antisymm (w2 _ v1 (Int.le_of_eq h)) (w3 _ v1 (Int.le_of_eq h.symm))
  exact ⟨own_finof w1 v3 z2, z2.trans v2⟩
open Jvm.FP.Core in
theorem own_Dadd {a b : Int} {K : Nat} {x y : UInt64} (X : own_D a K x) (Y : own_D b K y) (hn : (a + b).natAbs < 2 ^ 53) (hK : K ≤ 1000) : own_D (a + b) K (FP.dadd x y) := by
  obtain ⟨⟨s, c, q, hx⟩, zx⟩ := X
  obtain ⟨⟨t, d, r, hy⟩, zy⟩ := Y
  have fx : Jvm.FP.Core.fits b64 (.fin s c q) := hx ▸ val64_fits x
  have fy : Jvm.FP.Core.fits b64 (.fin t d r) := hy ▸ val64_fits y
  obtain ⟨sg, n, e, h1, h2, h3⟩ := sum_units fx fy
  refine own_Drnd (e0 := b64.qmin) (s := sg) (c := n) (q := e) ?_ hn hK (Int.le_refl _) h2 ?_
  · show val64 (dadd x y) = _
    rw [val64_dadd, hx, hy]; exact congrArg _ h1
  · rw [h3, ← hx, ← hy, zx, zy, Int.sub_self, show ((2 ^ (0 : Int).toNat : Nat) : Int) = 1 from rfl, Int.mul_one, Int.add_mul]
theorem own_Dup {a : Int} {K : Nat} (J : Nat) {x : UInt64} (X : own_D a K x) (h : K + J ≤ 1074) : own_D (a * ((2 ^ J : Nat) : Int)) (K + J) x := by
  refine ⟨X.1, X.2.trans ?_⟩
  rw [Int.mul_assoc, ← Int.natCast_mul, ← Nat.pow_add, show J + (1074 - (K + J)) = 1074 - K by omega]
open Jvm.FP.Core in
theorem own_Dlt {x y : UInt64} (hx : val64 x ≠ .nan) (hy : val64 y ≠ .nan) (h : zval b64 (val64 x) < zval b64 (val64 y)) (o : CmpOp) : cmpValue (FP.dcmp x y) o = -1 := by
  rw [own_cmpz hx hy, Int.compare_eq_lt.mpr h]
  cases o <;> rfl
theorem own_Deq {n : Int} {K : Nat} {x y : UInt64} (X : own_D n K x) (Y : own_D n K y) (o : CmpOp) : cmpValue (FP.dcmp x y) o = 0 := by
  rw [own_cmpz X.1.ne_nan Y.1.ne_nan, X.2, Y.2, Int.compare_eq_eq.mpr rfl]
  cases o <;> rfl

theorem d2_0 : decode jdk_30_method_1_code 0 = .ok (.aload_n 0, 1) := by decide +kernel
theorem d2_1 : decode jdk_30_method_1_code 1 = .ok (.invokespecial 1, 3) := by decide +kernel
theorem d2_4 : decode jdk_30_method_1_code 4 = .ok (.return_, 1) := by decide +kernel
set_option maxHeartbeats 4000000 in
theorem own_ef1 (m : MethodId) (x0 : Addr) : entryFrame m #[(.ref x0)] 1 = mkF m 0 #[.val (.ref x0)] [] := by first | (simp [entryFrame, mkF, argsToLocals, Value.category]; done) | rfl
def own_r1Q (Z : State) (a : Addr) (h0 : Heap) (n0 : Nat) (v : Option Value) (h : Heap) (L : List Loc) : Prop := v = none ∧ Fr n0 L ∧ h = h0
theorem own_pn1 : plainName "java/lang/Record" = true := by first | (simp [plainName, overriddenIn]; done) | decide +kernel
abbrev own_r1R : Room := { frames := 1, cells := 0, slots := 0, locals := 12 }
set_option maxRecDepth 65536 in
set_option maxHeartbeats 40000000 in
theorem own_r1 (l : Launch) (Z : State) (a0 : Array Value) (hw : ∀ d ∈ tables_1, d.before a0 Z = true) (ws : List Jvm.Cond) (a : Addr) (h0 : Heap) (n0 : Nat) (Z0 : n0 ≤ h0.size)  :
    own_M l (⟨"java/lang/Record", "<init>", "()V"⟩ : MethodName) jdk_30_method_1_code 1 none ws own_r1R #[(.ref a)] Z h0 (own_r1Q Z a h0 n0) := by
  refine own_go (plainFor_of_name own_pn1) (fun m => own_ef1 m a ) ?_
  intro p e s m below meth c s₁ Bd hx hby hml hZ hh hown hnm X0 e0
  have N0 := Fr.nil n0
  refine own_st (T' := s₁) (g' := (mkF m 1 #[.val (.ref a)] [(.ref a)])) (fun _ kt => XS.aloadN X0.here hx rfl (hb hby d2_0) rfl rfl kt) ?_
  obtain ⟨T1, X1, e1, st1⟩ := initO X0 hx hZ hown (own_k hw 12 rfl) (own_k hw 13 rfl) (own_k hw 14 rfl) e0 (g := (mkF m 1 #[.val (.ref a)] [(.ref a)])) rfl hml.symm rfl (hb hby d2_1) (by decide) (W := 0) (by show 2 * 0 + _ ≤ _; exact Nat.le_of_eq rfl) (by decide)
  refine own_st (T' := T1) (g' := (mkF m 4 #[.val (.ref a)] [])) st1 ?_
  obtain ⟨fs, hr, hrun, hended, hW, hsame⟩ := X1.leave (v := none) (fun _ => rfl)
  refine own_end (X1.returnOut hx Bd.returns (hb hby d2_4) hr) ⟨_, hrun, hended, _, _, rfl, ?_, ⟨_, rfl⟩, hW, hsame.mono (by decide) (by decide)⟩
  show own_r1Q Z a h0 n0 _ T1.heap _
  rw [e1]
  exact ⟨rfl, N0, rfl⟩
theorem d1_0 : decode prog_4_method_1_code 0 = .ok (.aload_n 0, 1) := by decide +kernel
theorem d1_1 : decode prog_4_method_1_code 1 = .ok (.invokespecial 1, 3) := by decide +kernel
theorem own_pd1 : parseMethodDescriptor "()V" = some ⟨[], none⟩ := by decide +kernel
theorem d1_4 : decode prog_4_method_1_code 4 = .ok (.aload_n 0, 1) := by decide +kernel
theorem d1_5 : decode prog_4_method_1_code 5 = .ok (.iload_n 1, 1) := by decide +kernel
theorem d1_6 : decode prog_4_method_1_code 6 = .ok (.putfield 7, 3) := by decide +kernel
theorem d1_9 : decode prog_4_method_1_code 9 = .ok (.aload_n 0, 1) := by decide +kernel
theorem d1_10 : decode prog_4_method_1_code 10 = .ok (.dload_n 2, 1) := by decide +kernel
theorem d1_11 : decode prog_4_method_1_code 11 = .ok (.putfield 13, 3) := by decide +kernel
theorem d1_14 : decode prog_4_method_1_code 14 = .ok (.aload_n 0, 1) := by decide +kernel
theorem d1_15 : decode prog_4_method_1_code 15 = .ok (.dload 4, 2) := by decide +kernel
theorem d1_17 : decode prog_4_method_1_code 17 = .ok (.putfield 17, 3) := by decide +kernel
theorem d1_20 : decode prog_4_method_1_code 20 = .ok (.aload_n 0, 1) := by decide +kernel
theorem d1_21 : decode prog_4_method_1_code 21 = .ok (.aload 6, 2) := by decide +kernel
theorem d1_23 : decode prog_4_method_1_code 23 = .ok (.putfield 20, 3) := by decide +kernel
theorem d1_26 : decode prog_4_method_1_code 26 = .ok (.aload_n 0, 1) := by decide +kernel
theorem d1_27 : decode prog_4_method_1_code 27 = .ok (.iload 7, 2) := by decide +kernel
theorem d1_29 : decode prog_4_method_1_code 29 = .ok (.putfield 24, 3) := by decide +kernel
theorem d1_32 : decode prog_4_method_1_code 32 = .ok (.aload_n 0, 1) := by decide +kernel
theorem d1_33 : decode prog_4_method_1_code 33 = .ok (.iload 8, 2) := by decide +kernel
theorem d1_35 : decode prog_4_method_1_code 35 = .ok (.putfield 27, 3) := by decide +kernel
theorem d1_38 : decode prog_4_method_1_code 38 = .ok (.return_, 1) := by decide +kernel
set_option maxHeartbeats 4000000 in
theorem own_ef2 (m : MethodId) (x0 : Addr) (x1 : Int32) (x2 : UInt64) (x3 : UInt64) (x5 : Int32) (x6 : Int32) : entryFrame m #[(.ref x0), (.int x1), (.double x2), (.double x3), .null, (.int x5), (.int x6)] 9 = mkF m 0 #[.val (.ref x0), .val (.int x1), .val (.double x2), .second, .val (.double x3), .second, .val .null, .val (.int x5), .val (.int x6)] [] := by first | (simp [entryFrame, mkF, argsToLocals, Value.category]; done) | rfl
def own_r2Q (Z : State) (a : Addr) (u1 : Int32) (u2 : UInt64) (u3 : UInt64) (u5 : Int32) (u6 : Int32) (h0 : Heap) (n0 : Nat) (v : Option Value) (h : Heap) (L : List Loc) : Prop := v = none ∧ Fr n0 L ∧ Keep h0 h [a] ∧ (Exa Z h a "com/example/ask4/ask4/eval/Comparison") ∧ (Fld Z h a "com/example/ask4/ask4/eval/Comparison" "mapA" "D" (.double u2)) ∧ (Fld Z h a "com/example/ask4/ask4/eval/Comparison" "mapB" "D" (.double u3))
theorem own_pn2 : plainName "com/example/ask4/ask4/eval/Comparison" = true := by first | (simp [plainName, overriddenIn]; done) | decide +kernel
abbrev own_r2R : Room := { frames := 2, cells := 0, slots := 0, locals := 24 }
set_option maxRecDepth 65536 in
set_option maxHeartbeats 40000000 in
theorem own_r2 (l : Launch) (Z : State) (a0 : Array Value) (hw : ∀ d ∈ tables_1, d.before a0 Z = true) (ws : List Jvm.Cond) (a : Addr) (u1 : Int32) (u2 : UInt64) (u3 : UInt64) (u5 : Int32) (u6 : Int32) (h0 : Heap) (n0 : Nat) (Z0 : n0 ≤ h0.size) (pr1 : Exa Z h0 a "com/example/ask4/ask4/eval/Comparison") (pr2 : n0 ≤ a) (pr3 : Fld Z h0 a "com/example/ask4/ask4/eval/Comparison" "topics" "I" (.int (0 : Int32))) (pr4 : Fld Z h0 a "com/example/ask4/ask4/eval/Comparison" "mapA" "D" (.double (0 : UInt64))) (pr5 : Fld Z h0 a "com/example/ask4/ask4/eval/Comparison" "mapB" "D" (.double (0 : UInt64))) (pr6 : Fld Z h0 a "com/example/ask4/ask4/eval/Comparison" "test" "Lcom/example/ask4/ask4/eval/PairedTTest;" .null) (pr7 : Fld Z h0 a "com/example/ask4/ask4/eval/Comparison" "better" "I" (.int (0 : Int32))) (pr8 : Fld Z h0 a "com/example/ask4/ask4/eval/Comparison" "worse" "I" (.int (0 : Int32))) :
    own_M l (⟨"com/example/ask4/ask4/eval/Comparison", "<init>", "(IDDLcom/example/ask4/ask4/eval/PairedTTest;II)V"⟩ : MethodName) prog_4_method_1_code 9 none ws own_r2R #[(.ref a), (.int u1), (.double u2), (.double u3), .null, (.int u5), (.int u6)] Z h0 (own_r2Q Z a u1 u2 u3 u5 u6 h0 n0) := by
  refine own_go (plainFor_of_name own_pn2) (fun m => own_ef2 m a u1 u2 u3 u5 u6 ) ?_
  intro p e s m below meth c s₁ Bd hx hby hml hZ hh hown hnm X0 e0
  have N0 := Fr.nil n0
  have K0 : Keep h0 h0 [a] := Keep.refl h0 _
  refine own_st (T' := s₁) (g' := (mkF m 1 #[.val (.ref a), .val (.int u1), .val (.double u2), .second, .val (.double u3), .second, .val .null, .val (.int u5), .val (.int u6)] [(.ref a)])) (fun _ kt => XS.aloadN X0.here hx rfl (hb hby d1_0) rfl rfl kt) ?_
  obtain ⟨_, _, ⟨T2, L2, k2, n2⟩, -, X2, ⟨Lc2, hQ2, l2, y2, z2⟩, st2⟩ := X0.specialBack hx (y := (⟨"java/lang/Record", "<init>", "()V"⟩ : MethodName)) rfl hown (mvT hZ (own_k hw 7 rfl)) (mvT hZ (own_k hw 8 rfl)) (mvT hZ (own_k hw 11 rfl)) (by decide) (backOf (W := 0) (own_r1 l Z a0 hw [] a h0 n0 Z0 ) hZ (own_k hw 11 rfl) (own_k hw 10 rfl) (by decide) (by decide)) (g := (mkF m 1 #[.val (.ref a), .val (.int u1), .val (.double u2), .second, .val (.double u3), .second, .val .null, .val (.int u5), .val (.int u6)] [(.ref a)])) rfl hml.symm (Steps.refl _) (a := a) (argsL := []) (rest := []) (lenOf own_pd1 rfl) rfl (by show 2 * 0 + _ ≤ _; exact Nat.le_of_eq rfl) (hb hby d1_1) (fun _ _ => ⟨rfl, e0, (by decide : 0 + 0 ≤ 0), (by decide : 0 + 0 ≤ 0)⟩)
  dsimp only [Pt.U, Pt.locs, Pt.cells, Pt.slots] at X2 l2 y2 z2 st2 hQ2
  subst l2 y2 z2
  obtain ⟨rfl, N2, e2⟩ := hQ2
  have N3 := Fr.app N0 N2
  refine own_tr (T' := T2) (g' := (mkF m 4 #[.val (.ref a), .val (.int u1), .val (.double u2), .second, .val (.double u3), .second, .val .null, .val (.int u5), .val (.int u6)] [])) st2 ?_
  refine own_st (T' := T2) (g' := (mkF m 6 #[.val (.ref a), .val (.int u1), .val (.double u2), .second, .val (.double u3), .second, .val .null, .val (.int u5), .val (.int u6)] [(.int u1), (.ref a)])) (fun _ kt => XS.aloadN X2.here hx rfl (hb hby d1_4) rfl rfl (XS.iloadN X2.here hx rfl (hb hby d1_5) rfl kt)) ?_
  obtain ⟨T4, h4, X4, e4, W4, st4⟩ := putF X2 hx hZ hown (host := "") (Or.inl (own_k hw 15 rfl)) Via.refl e2 pr3 pr1 (Or.inr ⟨(own_k hw 16 rfl), rfl, hnm⟩) (own_k hw 2 rfl) (ty := .int) (by decide) rfl rfl (g := (mkF m 6 #[.val (.ref a), .val (.int u1), .val (.double u2), .second, .val (.double u3), .second, .val .null, .val (.int u5), .val (.int u6)] [(.int u1), (.ref a)])) rfl rfl (hb hby d1_6)
  have N4 := Fr.snoc X4 N3 pr2
  have Z5 : n0 ≤ h4.size := Nat.le_trans Z0 (Nat.le_of_eq (Wr.size W4).symm)
  have K5 : Keep h0 h4 [a] := (Keep.wr K0 W4 (Or.inl (List.mem_of_getElem? (i := 0) rfl)))
  have F6 : Fld Z h4 a "com/example/ask4/ask4/eval/Comparison" "topics" "I" (.int u1) := Fld.same W4 pr3
  refine own_st (T' := T4) (g' := (mkF m 9 #[.val (.ref a), .val (.int u1), .val (.double u2), .second, .val (.double u3), .second, .val .null, .val (.int u5), .val (.int u6)] [])) st4 ?_
  refine own_st (T' := T4) (g' := (mkF m 11 #[.val (.ref a), .val (.int u1), .val (.double u2), .second, .val (.double u3), .second, .val .null, .val (.int u5), .val (.int u6)] [(.double u2), (.ref a)])) (fun _ kt => XS.aloadN X4.here hx rfl (hb hby d1_9) rfl rfl (XS.dloadN X4.here hx rfl (hb hby d1_10) rfl kt)) ?_
  have F7 : Fld Z h4 a "com/example/ask4/ask4/eval/Comparison" "mapA" "D" (.double (0 : UInt64)) := (Fld.other W4 pr4 (Or.inr (slot_ne (Or.inr (own_k hw 18 rfl)) (Or.inr (own_k hw 16 rfl)) (by decide) (t := .double) (t' := .int) (by decide) (by decide))))
  have F8 : Exa Z h4 a "com/example/ask4/ask4/eval/Comparison" := (Exa.wr W4 pr1)
  obtain ⟨T9, h9, X9, e9, W9, st9⟩ := putF X4 hx hZ hown (host := "") (Or.inl (own_k hw 17 rfl)) Via.refl e4 F7 F8 (Or.inr ⟨(own_k hw 18 rfl), rfl, hnm⟩) (own_k hw 2 rfl) (ty := .double) (by decide) rfl rfl (g := (mkF m 11 #[.val (.ref a), .val (.int u1), .val (.double u2), .second, .val (.double u3), .second, .val .null, .val (.int u5), .val (.int u6)] [(.double u2), (.ref a)])) rfl rfl (hb hby d1_11)
  have N9 := Fr.snoc X9 N4 pr2
  have Z10 : n0 ≤ h9.size := Nat.le_trans Z5 (Nat.le_of_eq (Wr.size W9).symm)
  have K10 : Keep h0 h9 [a] := (Keep.wr K5 W9 (Or.inl (List.mem_of_getElem? (i := 0) rfl)))
  have F11 : Fld Z h9 a "com/example/ask4/ask4/eval/Comparison" "mapA" "D" (.double u2) := Fld.same W9 F7
  refine own_st (T' := T9) (g' := (mkF m 14 #[.val (.ref a), .val (.int u1), .val (.double u2), .second, .val (.double u3), .second, .val .null, .val (.int u5), .val (.int u6)] [])) st9 ?_
  refine own_st (T' := T9) (g' := (mkF m 17 #[.val (.ref a), .val (.int u1), .val (.double u2), .second, .val (.double u3), .second, .val .null, .val (.int u5), .val (.int u6)] [(.double u3), (.ref a)])) (fun _ kt => XS.aloadN X9.here hx rfl (hb hby d1_14) rfl rfl (XS.dload X9.here hx rfl (hb hby d1_15) rfl kt)) ?_
  have F12 : Fld Z h9 a "com/example/ask4/ask4/eval/Comparison" "mapB" "D" (.double (0 : UInt64)) := (Fld.other W9 (Fld.other W4 pr5 (Or.inr (slot_ne (Or.inr (own_k hw 20 rfl)) (Or.inr (own_k hw 16 rfl)) (by decide) (t := .double) (t' := .int) (by decide) (by decide)))) (Or.inr (slot_ne (Or.inr (own_k hw 20 rfl)) (Or.inr (own_k hw 18 rfl)) (by decide) (t := .double) (t' := .double) (by decide) (by decide))))
  have F13 : Exa Z h9 a "com/example/ask4/ask4/eval/Comparison" := (Exa.wr W9 F8)
  obtain ⟨T14, h14, X14, e14, W14, st14⟩ := putF X9 hx hZ hown (host := "") (Or.inl (own_k hw 19 rfl)) Via.refl e9 F12 F13 (Or.inr ⟨(own_k hw 20 rfl), rfl, hnm⟩) (own_k hw 2 rfl) (ty := .double) (by decide) rfl rfl (g := (mkF m 17 #[.val (.ref a), .val (.int u1), .val (.double u2), .second, .val (.double u3), .second, .val .null, .val (.int u5), .val (.int u6)] [(.double u3), (.ref a)])) rfl rfl (hb hby d1_17)
  have N14 := Fr.snoc X14 N9 pr2
  have Z15 : n0 ≤ h14.size := Nat.le_trans Z10 (Nat.le_of_eq (Wr.size W14).symm)
  have K15 : Keep h0 h14 [a] := (Keep.wr K10 W14 (Or.inl (List.mem_of_getElem? (i := 0) rfl)))
  have F16 : Fld Z h14 a "com/example/ask4/ask4/eval/Comparison" "mapB" "D" (.double u3) := Fld.same W14 F12
  refine own_st (T' := T14) (g' := (mkF m 20 #[.val (.ref a), .val (.int u1), .val (.double u2), .second, .val (.double u3), .second, .val .null, .val (.int u5), .val (.int u6)] [])) st14 ?_
  refine own_st (T' := T14) (g' := (mkF m 23 #[.val (.ref a), .val (.int u1), .val (.double u2), .second, .val (.double u3), .second, .val .null, .val (.int u5), .val (.int u6)] [.null, (.ref a)])) (fun _ kt => XS.aloadN X14.here hx rfl (hb hby d1_20) rfl rfl (XS.aload X14.here hx rfl (hb hby d1_21) rfl rfl kt)) ?_
  have F17 : Fld Z h14 a "com/example/ask4/ask4/eval/Comparison" "test" "Lcom/example/ask4/ask4/eval/PairedTTest;" .null := (Fld.other W14 (Fld.other W9 (Fld.other W4 pr6 (Or.inr (slot_ne (Or.inr (own_k hw 22 rfl)) (Or.inr (own_k hw 16 rfl)) (by decide) (t := (.object "com/example/ask4/ask4/eval/PairedTTest")) (t' := .int) (by decide) (by decide)))) (Or.inr (slot_ne (Or.inr (own_k hw 22 rfl)) (Or.inr (own_k hw 18 rfl)) (by decide) (t := (.object "com/example/ask4/ask4/eval/PairedTTest")) (t' := .double) (by decide) (by decide)))) (Or.inr (slot_ne (Or.inr (own_k hw 22 rfl)) (Or.inr (own_k hw 20 rfl)) (by decide) (t := (.object "com/example/ask4/ask4/eval/PairedTTest")) (t' := .double) (by decide) (by decide))))
  have F18 : Exa Z h14 a "com/example/ask4/ask4/eval/Comparison" := (Exa.wr W14 F13)
  obtain ⟨T19, h19, X19, e19, W19, st19⟩ := putF X14 hx hZ hown (host := "") (Or.inl (own_k hw 21 rfl)) Via.refl e14 F17 F18 (Or.inr ⟨(own_k hw 22 rfl), rfl, hnm⟩) (own_k hw 2 rfl) (ty := (.object "com/example/ask4/ask4/eval/PairedTTest")) (by decide) rfl rfl (g := (mkF m 23 #[.val (.ref a), .val (.int u1), .val (.double u2), .second, .val (.double u3), .second, .val .null, .val (.int u5), .val (.int u6)] [.null, (.ref a)])) rfl rfl (hb hby d1_23)
  have N19 := Fr.snoc X19 N14 pr2
  have Z20 : n0 ≤ h19.size := Nat.le_trans Z15 (Nat.le_of_eq (Wr.size W19).symm)
  have K20 : Keep h0 h19 [a] := (Keep.wr K15 W19 (Or.inl (List.mem_of_getElem? (i := 0) rfl)))
  have F21 : Fld Z h19 a "com/example/ask4/ask4/eval/Comparison" "test" "Lcom/example/ask4/ask4/eval/PairedTTest;" .null := Fld.same W19 F17
  refine own_st (T' := T19) (g' := (mkF m 26 #[.val (.ref a), .val (.int u1), .val (.double u2), .second, .val (.double u3), .second, .val .null, .val (.int u5), .val (.int u6)] [])) st19 ?_
  refine own_st (T' := T19) (g' := (mkF m 29 #[.val (.ref a), .val (.int u1), .val (.double u2), .second, .val (.double u3), .second, .val .null, .val (.int u5), .val (.int u6)] [(.int u5), (.ref a)])) (fun _ kt => XS.aloadN X19.here hx rfl (hb hby d1_26) rfl rfl (XS.iload X19.here hx rfl (hb hby d1_27) rfl kt)) ?_
  have F22 : Fld Z h19 a "com/example/ask4/ask4/eval/Comparison" "better" "I" (.int (0 : Int32)) := (Fld.other W19 (Fld.other W14 (Fld.other W9 (Fld.other W4 pr7 (Or.inr (slot_ne (Or.inr (own_k hw 24 rfl)) (Or.inr (own_k hw 16 rfl)) (by decide) (t := .int) (t' := .int) (by decide) (by decide)))) (Or.inr (slot_ne (Or.inr (own_k hw 24 rfl)) (Or.inr (own_k hw 18 rfl)) (by decide) (t := .int) (t' := .double) (by decide) (by decide)))) (Or.inr (slot_ne (Or.inr (own_k hw 24 rfl)) (Or.inr (own_k hw 20 rfl)) (by decide) (t := .int) (t' := .double) (by decide) (by decide)))) (Or.inr (slot_ne (Or.inr (own_k hw 24 rfl)) (Or.inr (own_k hw 22 rfl)) (by decide) (t := .int) (t' := (.object "com/example/ask4/ask4/eval/PairedTTest")) (by decide) (by decide))))
  have F23 : Exa Z h19 a "com/example/ask4/ask4/eval/Comparison" := (Exa.wr W19 F18)
  obtain ⟨T24, h24, X24, e24, W24, st24⟩ := putF X19 hx hZ hown (host := "") (Or.inl (own_k hw 23 rfl)) Via.refl e19 F22 F23 (Or.inr ⟨(own_k hw 24 rfl), rfl, hnm⟩) (own_k hw 2 rfl) (ty := .int) (by decide) rfl rfl (g := (mkF m 29 #[.val (.ref a), .val (.int u1), .val (.double u2), .second, .val (.double u3), .second, .val .null, .val (.int u5), .val (.int u6)] [(.int u5), (.ref a)])) rfl rfl (hb hby d1_29)
  have N24 := Fr.snoc X24 N19 pr2
  have Z25 : n0 ≤ h24.size := Nat.le_trans Z20 (Nat.le_of_eq (Wr.size W24).symm)
  have K25 : Keep h0 h24 [a] := (Keep.wr K20 W24 (Or.inl (List.mem_of_getElem? (i := 0) rfl)))
  have F26 : Fld Z h24 a "com/example/ask4/ask4/eval/Comparison" "better" "I" (.int u5) := Fld.same W24 F22
  refine own_st (T' := T24) (g' := (mkF m 32 #[.val (.ref a), .val (.int u1), .val (.double u2), .second, .val (.double u3), .second, .val .null, .val (.int u5), .val (.int u6)] [])) st24 ?_
  refine own_st (T' := T24) (g' := (mkF m 35 #[.val (.ref a), .val (.int u1), .val (.double u2), .second, .val (.double u3), .second, .val .null, .val (.int u5), .val (.int u6)] [(.int u6), (.ref a)])) (fun _ kt => XS.aloadN X24.here hx rfl (hb hby d1_32) rfl rfl (XS.iload X24.here hx rfl (hb hby d1_33) rfl kt)) ?_
  have F27 : Fld Z h24 a "com/example/ask4/ask4/eval/Comparison" "worse" "I" (.int (0 : Int32)) := (Fld.other W24 (Fld.other W19 (Fld.other W14 (Fld.other W9 (Fld.other W4 pr8 (Or.inr (slot_ne (Or.inr (own_k hw 26 rfl)) (Or.inr (own_k hw 16 rfl)) (by decide) (t := .int) (t' := .int) (by decide) (by decide)))) (Or.inr (slot_ne (Or.inr (own_k hw 26 rfl)) (Or.inr (own_k hw 18 rfl)) (by decide) (t := .int) (t' := .double) (by decide) (by decide)))) (Or.inr (slot_ne (Or.inr (own_k hw 26 rfl)) (Or.inr (own_k hw 20 rfl)) (by decide) (t := .int) (t' := .double) (by decide) (by decide)))) (Or.inr (slot_ne (Or.inr (own_k hw 26 rfl)) (Or.inr (own_k hw 22 rfl)) (by decide) (t := .int) (t' := (.object "com/example/ask4/ask4/eval/PairedTTest")) (by decide) (by decide)))) (Or.inr (slot_ne (Or.inr (own_k hw 26 rfl)) (Or.inr (own_k hw 24 rfl)) (by decide) (t := .int) (t' := .int) (by decide) (by decide))))
  have F28 : Exa Z h24 a "com/example/ask4/ask4/eval/Comparison" := (Exa.wr W24 F23)
  obtain ⟨T29, h29, X29, e29, W29, st29⟩ := putF X24 hx hZ hown (host := "") (Or.inl (own_k hw 25 rfl)) Via.refl e24 F27 F28 (Or.inr ⟨(own_k hw 26 rfl), rfl, hnm⟩) (own_k hw 2 rfl) (ty := .int) (by decide) rfl rfl (g := (mkF m 35 #[.val (.ref a), .val (.int u1), .val (.double u2), .second, .val (.double u3), .second, .val .null, .val (.int u5), .val (.int u6)] [(.int u6), (.ref a)])) rfl rfl (hb hby d1_35)
  have N29 := Fr.snoc X29 N24 pr2
  have Z30 : n0 ≤ h29.size := Nat.le_trans Z25 (Nat.le_of_eq (Wr.size W29).symm)
  have K30 : Keep h0 h29 [a] := (Keep.wr K25 W29 (Or.inl (List.mem_of_getElem? (i := 0) rfl)))
  have F31 : Fld Z h29 a "com/example/ask4/ask4/eval/Comparison" "worse" "I" (.int u6) := Fld.same W29 F27
  refine own_st (T' := T29) (g' := (mkF m 38 #[.val (.ref a), .val (.int u1), .val (.double u2), .second, .val (.double u3), .second, .val .null, .val (.int u5), .val (.int u6)] [])) st29 ?_
  obtain ⟨fs, hr, hrun, hended, hW, hsame⟩ := X29.leave (v := none) (fun _ => rfl)
  refine own_end (X29.returnOut hx Bd.returns (hb hby d1_38) hr) ⟨_, hrun, hended, _, _, rfl, ?_, ⟨_, rfl⟩, hW, hsame.mono (by decide) (by decide)⟩
  have F32 : Exa Z h29 a "com/example/ask4/ask4/eval/Comparison" := (Exa.wr W29 F28)
  have F33 : Fld Z h29 a "com/example/ask4/ask4/eval/Comparison" "mapA" "D" (.double u2) := (Fld.other W29 (Fld.other W24 (Fld.other W19 (Fld.other W14 F11 (Or.inr (slot_ne (Or.inr (own_k hw 18 rfl)) (Or.inr (own_k hw 20 rfl)) (by decide) (t := .double) (t' := .double) (by decide) (by decide)))) (Or.inr (slot_ne (Or.inr (own_k hw 18 rfl)) (Or.inr (own_k hw 22 rfl)) (by decide) (t := .double) (t' := (.object "com/example/ask4/ask4/eval/PairedTTest")) (by decide) (by decide)))) (Or.inr (slot_ne (Or.inr (own_k hw 18 rfl)) (Or.inr (own_k hw 24 rfl)) (by decide) (t := .double) (t' := .int) (by decide) (by decide)))) (Or.inr (slot_ne (Or.inr (own_k hw 18 rfl)) (Or.inr (own_k hw 26 rfl)) (by decide) (t := .double) (t' := .int) (by decide) (by decide))))
  have F34 : Fld Z h29 a "com/example/ask4/ask4/eval/Comparison" "mapB" "D" (.double u3) := (Fld.other W29 (Fld.other W24 (Fld.other W19 F16 (Or.inr (slot_ne (Or.inr (own_k hw 20 rfl)) (Or.inr (own_k hw 22 rfl)) (by decide) (t := .double) (t' := (.object "com/example/ask4/ask4/eval/PairedTTest")) (by decide) (by decide)))) (Or.inr (slot_ne (Or.inr (own_k hw 20 rfl)) (Or.inr (own_k hw 24 rfl)) (by decide) (t := .double) (t' := .int) (by decide) (by decide)))) (Or.inr (slot_ne (Or.inr (own_k hw 20 rfl)) (Or.inr (own_k hw 26 rfl)) (by decide) (t := .double) (t' := .int) (by decide) (by decide))))
  show own_r2Q Z a u1 u2 u3 u5 u6 h0 n0 _ T29.heap _
  rw [e29]
  exact ⟨rfl, N29, K30, F32, F33, F34⟩
theorem d4_0 : decode prog_4_method_4_code 0 = .ok (.ldc2_w 113, 3) := by decide +kernel
theorem d4_3 : decode prog_4_method_4_code 3 = .ok (.aload_n 0, 1) := by decide +kernel
theorem d4_4 : decode prog_4_method_4_code 4 = .ok (.getfield 17, 3) := by decide +kernel
theorem d4_7 : decode prog_4_method_4_code 7 = .ok (.aload_n 0, 1) := by decide +kernel
theorem d4_8 : decode prog_4_method_4_code 8 = .ok (.getfield 13, 3) := by decide +kernel
theorem d4_11 : decode prog_4_method_4_code 11 = .ok (.dsub, 1) := by decide +kernel
theorem d4_12 : decode prog_4_method_4_code 12 = .ok (.dmul, 1) := by decide +kernel
theorem d4_13 : decode prog_4_method_4_code 13 = .ok (.aload_n 0, 1) := by decide +kernel
theorem d4_14 : decode prog_4_method_4_code 14 = .ok (.getfield 13, 3) := by decide +kernel
theorem d4_17 : decode prog_4_method_4_code 17 = .ok (.ddiv, 1) := by decide +kernel
theorem d4_18 : decode prog_4_method_4_code 18 = .ok (.dreturn, 1) := by decide +kernel
def own_cpQ (Z : State) (a : Addr) (u2 : UInt64) (u3 : UInt64) (h0 : Heap) (n0 : Nat) (v : Option Value) (h : Heap) (L : List Loc) : Prop := v = some (.double (FP.ddiv (FP.dmul (4636737291354636288 : UInt64) (FP.dsub u3 u2)) u2)) ∧ Fr n0 L ∧ h = h0
abbrev own_cpR : Room := { frames := 0, cells := 0, slots := 0, locals := 0 }
set_option maxRecDepth 65536 in
set_option maxHeartbeats 40000000 in
theorem own_cp (l : Launch) (Z : State) (a0 : Array Value) (hw : ∀ d ∈ tables_1, d.before a0 Z = true) (ws : List Jvm.Cond) (a : Addr) (u2 : UInt64) (u3 : UInt64) (h0 : Heap) (n0 : Nat) (Z0 : n0 ≤ h0.size) (pr1 : Fld Z h0 a "com/example/ask4/ask4/eval/Comparison" "mapA" "D" (.double u2)) (pr2 : Fld Z h0 a "com/example/ask4/ask4/eval/Comparison" "mapB" "D" (.double u3)) (pr3 : Fl.NoNaN64 (FP.dsub u3 u2)) (pr4 : Fl.NoNaN64 (FP.dmul (4636737291354636288 : UInt64) (FP.dsub u3 u2))) (pr5 : Fl.NoNaN64 (FP.ddiv (FP.dmul (4636737291354636288 : UInt64) (FP.dsub u3 u2)) u2)) :
    own_M l (⟨"com/example/ask4/ask4/eval/Comparison", "changePercent", "()D"⟩ : MethodName) prog_4_method_4_code 1 (some .double) ws own_cpR #[(.ref a)] Z h0 (own_cpQ Z a u2 u3 h0 n0) := by
  refine own_go (plainFor_of_name own_pn2) (fun m => own_ef1 m a ) ?_
  intro p e s m below meth c s₁ Bd hx hby hml hZ hh hown hnm X0 e0
  have N0 := Fr.nil n0
  refine own_st (T' := s₁) (g' := (mkF m 3 #[.val (.ref a)] [(.double (4636737291354636288 : UInt64))])) (Stand.ldc2DoubleC X0 hx hown (mvT hZ (own_k hw 32 rfl)) (g := (mkF m 0 #[.val (.ref a)] [])) rfl (hb hby d4_0)) ?_
  refine own_st (T' := s₁) (g' := (mkF m 4 #[.val (.ref a)] [(.ref a), (.double (4636737291354636288 : UInt64))])) (fun _ kt => XS.aloadN X0.here hx rfl (hb hby d4_3) rfl rfl kt) ?_
  obtain ⟨T35, X35, e35, st35⟩ := getF X0 hx hZ hown (host := "") (Or.inl (own_k hw 19 rfl)) Via.refl e0 pr2 (g := (mkF m 4 #[.val (.ref a)] [(.ref a), (.double (4636737291354636288 : UInt64))])) rfl rfl (hb hby d4_4)
  refine own_st (T' := T35) (g' := (mkF m 7 #[.val (.ref a)] [(.double u3), (.double (4636737291354636288 : UInt64))])) st35 ?_
  refine own_st (T' := T35) (g' := (mkF m 8 #[.val (.ref a)] [(.ref a), (.double u3), (.double (4636737291354636288 : UInt64))])) (fun _ kt => XS.aloadN X35.here hx rfl (hb hby d4_7) rfl rfl kt) ?_
  obtain ⟨T36, X36, e36, st36⟩ := getF X35 hx hZ hown (host := "") (Or.inl (own_k hw 17 rfl)) Via.refl e35 pr1 (g := (mkF m 8 #[.val (.ref a)] [(.ref a), (.double u3), (.double (4636737291354636288 : UInt64))])) rfl rfl (hb hby d4_8)
  refine own_st (T' := T36) (g' := (mkF m 11 #[.val (.ref a)] [(.double u2), (.double u3), (.double (4636737291354636288 : UInt64))])) st36 ?_
  refine own_st (T' := T36) (g' := (mkF m 14 #[.val (.ref a)] [(.ref a), (.double (FP.dmul (4636737291354636288 : UInt64) (FP.dsub u3 u2)))])) (fun _ kt => XS.dsubS X36.here hx rfl (hb hby d4_11) rfl pr3 rfl (XS.dmulS X36.here hx rfl (hb hby d4_12) rfl pr4 rfl (XS.aloadN X36.here hx rfl (hb hby d4_13) rfl rfl kt))) ?_
  obtain ⟨T37, X37, e37, st37⟩ := getF X36 hx hZ hown (host := "") (Or.inl (own_k hw 17 rfl)) Via.refl e36 pr1 (g := (mkF m 14 #[.val (.ref a)] [(.ref a), (.double (FP.dmul (4636737291354636288 : UInt64) (FP.dsub u3 u2)))])) rfl rfl (hb hby d4_14)
  refine own_st (T' := T37) (g' := (mkF m 17 #[.val (.ref a)] [(.double u2), (.double (FP.dmul (4636737291354636288 : UInt64) (FP.dsub u3 u2)))])) st37 ?_
  refine own_st (T' := T37) (g' := (mkF m 18 #[.val (.ref a)] [(.double (FP.ddiv (FP.dmul (4636737291354636288 : UInt64) (FP.dsub u3 u2)) u2))])) (fun _ kt => XS.ddivS X37.here hx rfl (hb hby d4_17) rfl pr5 rfl kt) ?_
  obtain ⟨fs, hr, hrun, hended, hW, hsame⟩ := X37.leave (v := some (.double (FP.ddiv (FP.dmul (4636737291354636288 : UInt64) (FP.dsub u3 u2)) u2))) (fun h => by rw [Bd.returns] at h; cases h)
  refine own_end (own_retD X37 hx Bd.returns (hb hby d4_18) hr) ⟨_, hrun, hended, _, _, rfl, ?_, ⟨_, rfl⟩, hW, hsame.mono (by decide) (by decide)⟩
  show own_cpQ Z a u2 u3 h0 n0 _ T37.heap _
  rw [e37]
  exact ⟨rfl, N0, rfl⟩
theorem own_m (p : Int32) : 1 ≤ ((p &&& (1023 : Int32)) + (1 : Int32)).toInt64.toInt ∧ ((p &&& (1023 : Int32)) + (1 : Int32)).toInt64.toInt ≤ 1024 := by
  have q := Jvm.Kit.i32_and_bounds p (show (0 : Int32) ≤ 1023 by decide)
  rw [Int32.toInt_toInt64, Int32.toInt_add]
  have : (1023 : Int32).toInt = 1023 := rfl
  have : (1 : Int32).toInt = 1 := rfl
  simp only [Int32.le_iff_toInt_le, show (0 : Int32).toInt = 0 from rfl, Int.bmod_def] at *
  omega
theorem own_k16 (p : Int32) : ∃ j : Nat, j ≤ 15 ∧ ((1 : Int64) <<< ((p &&& (15 : Int32)).toInt64 &&& 63)).toInt = ((2 ^ j : Nat) : Int) := by
  have q := Jvm.Kit.i32_and_bounds p (show (0 : Int32) ≤ 15 by decide)
  generalize p &&& (15 : Int32) = z at *
  simp only [Int32.le_iff_toInt_le, show (0 : Int32).toInt = 0 from rfl, show (15 : Int32).toInt = 15 from rfl] at q
  have hz : z = Int32.ofNat z.toInt.toNat := by
    rw [← Int32.toInt_inj, Int32.toInt_ofNat_of_lt (by omega)]; omega
  have hl : z.toInt.toNat ≤ 15 := by omega
  refine ⟨z.toInt.toNat, hl, ?_⟩
  rw [hz]
  generalize hn : z.toInt.toNat = n at *
  rw [Int32.toInt_ofNat_of_lt (by omega), Int.toNat_natCast]
  clear hz hn q
  have : ∀ n : Fin 16, ((1 : Int64) <<< ((Int32.ofNat n.val).toInt64 &&& 63)).toInt = ((2 ^ n.val : Nat) : Int) := by decide +kernel
  exact this ⟨n, by omega⟩
theorem own_D100 : own_D 100 0 (4636737291354636288 : UInt64) := ⟨⟨false, _, _, rfl⟩, by decide +kernel⟩
theorem own_Dw (p : Int32) : ∃ j : Nat, j ≤ 15 ∧ own_D ((2 ^ j : Nat) : Int) 0 (FP.l2d ((1 : Int64) <<< ((p &&& (15 : Int32)).toInt64 &&& 63))) := by
  obtain ⟨j, h1, h2⟩ := own_k16 p
  refine ⟨j, h1, ?_⟩
  rw [← h2]
  refine own_Dl ?_
  rw [h2, Int.natAbs_natCast]
  exact Nat.pow_le_pow_right (by decide) (by omega)
theorem own_Dq {v : Int64} {j : Nat} {w : UInt64} (h : v.toInt.natAbs < 2 ^ 53) (hj : j ≤ 15) (W : own_D ((2 ^ j : Nat) : Int) 0 w) : own_D v.toInt j (FP.ddiv (FP.l2d v) w) := by
  refine own_Ddiv (own_Dl (Nat.le_of_lt h)) W (by have := Nat.two_pow_pos j; omega) h (by omega) ?_
  rw [Int.mul_assoc, Int.mul_assoc v.toInt, ← Int.mul_assoc (((2 ^ (1074 - j) : Nat)) : Int), ← Int.natCast_mul (2 ^ (1074 - j)), ← Nat.pow_add, show 1074 - j + j = 1074 - 0 by omega]
theorem own_v1 {v : Int64} (h : 1 ≤ v.toInt ∧ v.toInt ≤ 1024) : ((100 : Int64) * v).toInt = 100 * v.toInt := by
  rw [Int64.toInt_mul, show (100 : Int64).toInt = 100 from rfl]
  exact Int.bmod_eq_of_le (by omega) (by omega)
theorem own_v2 {v : Int64} (p : Int32) (h : 1 ≤ v.toInt ∧ v.toInt ≤ 1024) : ((100 : Int64) * v + v * p.toInt64).toInt = 100 * v.toInt + v.toInt * p.toInt ∧ -2199023255552 ≤ v.toInt * p.toInt ∧ v.toInt * p.toInt ≤ 2199023255552 := by
  have a1 := p.toInt_lt; have a2 := p.le_toInt
  have b1 : v.toInt * p.toInt ≤ v.toInt * 2147483648 := Int.mul_le_mul_of_nonneg_left (by omega) (by omega)
  have b2 : v.toInt * (-2147483648) ≤ v.toInt * p.toInt := Int.mul_le_mul_of_nonneg_left (by omega) (by omega)
  have b3 : -2199023255552 ≤ v.toInt * p.toInt ∧ v.toInt * p.toInt ≤ 2199023255552 := by omega
  refine ⟨?_, b3⟩
  have c1 : (v * p.toInt64).toInt = v.toInt * p.toInt := by
    rw [Int64.toInt_mul, Int32.toInt_toInt64]
    generalize v.toInt * p.toInt = z at *
    exact Int.bmod_eq_of_le (by omega) (by omega)
  rw [Int64.toInt_add, own_v1 h, c1]
  generalize v.toInt * p.toInt = z at *
  exact Int.bmod_eq_of_le (by omega) (by omega)
/-- the whole of the pinned case -/
theorem own_pin {v : Int64} (p : Int32) {w : UInt64} {j : Nat} (h : 1 ≤ v.toInt ∧ v.toInt ≤ 1024) (hj : j ≤ 15) (W : own_D ((2 ^ j : Nat) : Int) 0 w) {A B : UInt64} (hA : A = FP.ddiv (FP.l2d ((100 : Int64) * v)) w) (hB : B = FP.ddiv (FP.l2d ((100 : Int64) * v + v * p.toInt64)) w) :
    Fl.NoNaN64 A ∧ Fl.NoNaN64 B ∧ Fl.NoNaN64 (FP.dsub B A) ∧ Fl.NoNaN64 (FP.dmul 4636737291354636288 (FP.dsub B A)) ∧ Fl.NoNaN64 (FP.ddiv (FP.dmul 4636737291354636288 (FP.dsub B A)) A) ∧ cmpValue (FP.dcmp (FP.ddiv (FP.dmul 4636737291354636288 (FP.dsub B A)) A) (FP.i2d p)) .l = 0 := by
  obtain ⟨q1, q2, q3⟩ := own_v2 p h
  have r1 := own_v1 h
  have DA : own_D (100 * v.toInt) j A := by
    rw [← r1, hA]; exact own_Dq (by rw [r1]; omega) hj W
  have DB : own_D (100 * v.toInt + v.toInt * p.toInt) j B := by
    rw [← q1, hB]; exact own_Dq (by rw [q1]; generalize v.toInt * p.toInt = z at *; omega) hj W
  have DS := own_Dsub DB DA (by generalize v.toInt * p.toInt = z at *; omega) (by omega)
  rw [show 100 * v.toInt + v.toInt * p.toInt - 100 * v.toInt = v.toInt * p.toInt by omega] at DS
  have DM := own_Dmul own_D100 DS (by generalize v.toInt * p.toInt = z at *; omega) (by omega)
  have a1 := p.toInt_lt; have a2 := p.le_toInt
  have DD : own_D p.toInt 0 (FP.ddiv (FP.dmul 4636737291354636288 (FP.dsub B A)) A) := by
    refine own_Ddiv DM DA (by omega) (by omega) (by omega) ?_
    rw [Nat.zero_add]; show _ = p.toInt * ((2 ^ 1074 : Nat) : Int) * _
    generalize ((2 ^ 1074 : Nat) : Int) = O
    ac_rfl
  exact ⟨own_Dn DA, own_Dn DB, own_Dn DS, own_Dn DM, own_Dn DD, own_Deq DD (own_Di p) _⟩
theorem own_D0 (j : Nat) : own_D 0 j (0 : UInt64) := ⟨⟨false, _, _, rfl⟩, by rw [Int.zero_mul]; decide +kernel⟩
open Jvm.FP.Core in
theorem own_dz {n : Int} {K : Nat} {x : UInt64} (X : own_D n K x) (hn : 0 < n) : FP.ddiv x 0 = 9218868437227405312 := by
  obtain ⟨⟨s, c, q, hx⟩, zx⟩ := X
  have yp : 0 < n * ((2 ^ (1074 - K) : Nat) : Int) := Int.mul_pos hn (by have := Nat.two_pow_pos (1074 - K); omega)
  rw [← zx, hx] at yp
  have hs : s = false := by
    cases s with
    | false => rfl
    | true => unfold zval signed at yp; rw [if_pos (show sgn (Datum.fin true c q) = true from rfl)] at yp; omega
  subst hs
  have hc : c ≠ 0 := by
    intro q0; rw [q0] at yp
    have : zval b64 (.fin false 0 q) = 0 := by show signed false (0 * _) = 0; rw [Nat.zero_mul]; rfl
    omega
  have e : val64 (ddiv x 0) = .inf false := by
    rw [val64_ddiv, hx, show val64 0 = .fin false 0 b64.qmin from val64_dconst0]
    show (if (0 : Nat) = 0 then (if c = 0 then Datum.nan else .inf (false != false)) else roundRatio b64 (false != false) c 0 (q - b64.qmin)) = _
    rw [if_pos rfl, if_neg hc]; rfl
  have e2 : val64 9218868437227405312 = .inf false := by decide +kernel
  exact val64_inj (by rw [e]; intro h; cases h) (e.trans e2.symm)
theorem own_zero {v : Int64} {w : UInt64} {j : Nat} (h : 1 ≤ v.toInt ∧ v.toInt ≤ 1024) (hj : j ≤ 15) (W : own_D ((2 ^ j : Nat) : Int) 0 w) {B : UInt64} (hB : B = FP.ddiv (FP.l2d v) w) :
    Fl.NoNaN64 B ∧ Fl.NoNaN64 (FP.dsub B 0) ∧ Fl.NoNaN64 (FP.dmul 4636737291354636288 (FP.dsub B 0)) ∧ FP.ddiv (FP.dmul 4636737291354636288 (FP.dsub B 0)) 0 = 9218868437227405312 := by
  have DB : own_D v.toInt j B := by rw [hB]; exact own_Dq (by omega) hj W
  have DS := own_Dsub DB (own_D0 j) (by omega) (by omega)
  have DM := own_Dmul own_D100 DS (by omega) (by omega)
  exact ⟨own_Dn DB, own_Dn DS, own_Dn DM, own_dz DM (by omega)⟩
theorem own_pd2 : parseMethodDescriptor "(IDDLcom/example/ask4/ask4/eval/PairedTTest;II)V" = some ⟨[.int, .double, .double, (.object "com/example/ask4/ask4/eval/PairedTTest"), .int, .int], none⟩ := by decide +kernel
theorem own_pd3 : parseMethodDescriptor "()D" = some ⟨[], some .double⟩ := by decide +kernel
set_option maxHeartbeats 4000000 in
theorem own_ef3 (m : MethodId) (x0 : Int32) (x1 : Int32) (x2 : Int32) (x3 : Int32) : entryFrame m #[(.int x0), (.int x1), (.int x2), (.int x3)] 14 = mkF m 0 #[.val (.int x0), .val (.int x1), .val (.int x2), .val (.int x3), .unset, .unset, .unset, .unset, .unset, .unset, .unset, .unset, .unset, .unset] [] := by first | (simp [entryFrame, mkF, argsToLocals, Value.category]; done) | rfl
def own_lawQ (Z : State) (p1 : Int32) (p2 : Int32) (p3 : Int32) (p4 : Int32) (h0 : Heap) (n0 : Nat) (v : Option Value) (h : Heap) (L : List Loc) : Prop := v = some (.int (1 : Int32)) ∧ Fr n0 L
theorem own_pn3 : plainName "com/example/ask4/ask4/eval/ComparisonChangePercentPinLaw" = true := by first | (simp [plainName, overriddenIn]; done) | decide +kernel
set_option maxRecDepth 65536 in
set_option maxHeartbeats 40000000 in
theorem own_law (l : Launch) (Z : State) (a0 : Array Value) (hw : ∀ d ∈ tables_1, d.before a0 Z = true) (ws : List Jvm.Cond) (p1 : Int32) (p2 : Int32) (p3 : Int32) (p4 : Int32) (h0 : Heap) (n0 : Nat) (Z0 : n0 ≤ h0.size)  :
    own_M l x code maxLocals ret ws room_1 #[(.int p1), (.int p2), (.int p3), (.int p4)] Z h0 (own_lawQ Z p1 p2 p3 p4 h0 n0) := by
  refine own_go (plainFor_of_name own_pn3) (fun m => own_ef3 m p1 p2 p3 p4 ) ?_
  intro p e s m below meth c s₁ Bd hx hby hml hZ hh hown hnm X0 e0
  have N0 := Fr.nil n0
  obtain ⟨jj, hj, hW⟩ := own_Dw p3
  have hm := own_m p1
  obtain ⟨n1, n2, n3, n4, n5, n6⟩ := own_pin p2 hm hj hW rfl rfl
  obtain ⟨z1, z2, z3, z4⟩ := own_zero hm hj hW rfl
  refine own_st (T' := s₁) (g' := (mkF m 17 #[.val (.int p1), .val (.int p2), .val (.int p3), .val (.int p4), .val (.long (((p1 &&& (1023 : Int32)) + (1 : Int32)).toInt64)), .second, .val (.int (p3 &&& (15 : Int32))), .unset, .unset, .unset, .unset, .unset, .unset, .unset] [(.long (1 : Int64))])) (fun _ kt => XS.iloadN X0.here hx rfl (hb hby at_0) rfl (XS.sipush X0.here hx rfl (hb hby at_1) (XS.iand X0.here hx rfl (hb hby at_4) rfl (XS.iconst X0.here hx rfl (hb hby at_5) (XS.iadd X0.here hx rfl (hb hby at_6) rfl (XT.i2l X0.here hx rfl (hb hby at_7) rfl (XT.lstore X0.here hx rfl (hb hby at_8) rfl (l' := #[.val (.int p1), .val (.int p2), .val (.int p3), .val (.int p4), .val (.long (((p1 &&& (1023 : Int32)) + (1 : Int32)).toInt64)), .second, .unset, .unset, .unset, .unset, .unset, .unset, .unset, .unset]) rfl (XS.iloadN X0.here hx rfl (hb hby at_10) rfl (XS.bipush X0.here hx rfl (hb hby at_11) (XS.iand X0.here hx rfl (hb hby at_13) rfl (XS.istore X0.here hx rfl (hb hby at_14) rfl (l' := #[.val (.int p1), .val (.int p2), .val (.int p3), .val (.int p4), .val (.long (((p1 &&& (1023 : Int32)) + (1 : Int32)).toInt64)), .second, .val (.int (p3 &&& (15 : Int32))), .unset, .unset, .unset, .unset, .unset, .unset, .unset]) rfl (XT.lconst X0.here hx rfl (hb hby at_16) kt)))))))))))) ?_
  refine own_st (T' := s₁) (g' := (mkF m 26 #[.val (.int p1), .val (.int p2), .val (.int p3), .val (.int p4), .val (.long (((p1 &&& (1023 : Int32)) + (1 : Int32)).toInt64)), .second, .val (.int (p3 &&& (15 : Int32))), .val (.double (FP.l2d ((1 : Int64) <<< ((p3 &&& (15 : Int32)).toInt64 &&& 63)))), .second, .unset, .unset, .unset, .unset, .unset] [(.int (p4 &&& (3 : Int32)))])) (fun _ kt => XS.iload X0.here hx rfl (hb hby at_17) rfl (XT.lshl X0.here hx rfl (hb hby at_19) rfl (XS.l2dS X0.here hx rfl (hb hby at_20) rfl rfl (XS.dstore X0.here hx rfl (hb hby at_21) rfl (l' := #[.val (.int p1), .val (.int p2), .val (.int p3), .val (.int p4), .val (.long (((p1 &&& (1023 : Int32)) + (1 : Int32)).toInt64)), .second, .val (.int (p3 &&& (15 : Int32))), .val (.double (FP.l2d ((1 : Int64) <<< ((p3 &&& (15 : Int32)).toInt64 &&& 63)))), .second, .unset, .unset, .unset, .unset, .unset]) rfl (XS.iloadN X0.here hx rfl (hb hby at_23) rfl (XS.iconst X0.here hx rfl (hb hby at_24) (XS.iand X0.here hx rfl (hb hby at_25) rfl kt))))))) ?_
  by_cases hc38 : (p4 &&& (3 : Int32)) = 0
  · -- pc 26: (p4 &&& (3 : Int32)) = 0
    refine own_st (T' := s₁) (g' := (mkF m 29 #[.val (.int p1), .val (.int p2), .val (.int p3), .val (.int p4), .val (.long (((p1 &&& (1023 : Int32)) + (1 : Int32)).toInt64)), .second, .val (.int (p3 &&& (15 : Int32))), .val (.double (FP.l2d ((1 : Int64) <<< ((p3 &&& (15 : Int32)).toInt64 &&& 63)))), .second, .unset, .unset, .unset, .unset, .unset] [])) (fun _ kt => XS.ifNo X0.here hx rfl (hb hby at_26) rfl (XT.i0_ne_f hc38) kt) ?_
    obtain ⟨T39, h39, X39, e39, E39, A39, D39, -, st39⟩ := newO X0 hx hZ hown (own_k hw 1 rfl) (own_k hw 2 rfl) (own_k hw 3 rfl) e0 (g := (mkF m 29 #[.val (.int p1), .val (.int p2), .val (.int p3), .val (.int p4), .val (.long (((p1 &&& (1023 : Int32)) + (1 : Int32)).toInt64)), .second, .val (.int (p3 &&& (15 : Int32))), .val (.double (FP.l2d ((1 : Int64) <<< ((p3 &&& (15 : Int32)).toInt64 &&& 63)))), .second, .unset, .unset, .unset, .unset, .unset] [])) rfl (hb hby at_29) (by decide) (by decide)
    obtain ⟨b39, g39⟩ : ∃ z, z = h0.size := ⟨_, rfl⟩
    rw [← g39] at A39 D39 st39
    have Z40 : n0 ≤ h39.size := Nat.le_trans Z0 E39.1
    have ge_b39 : n0 ≤ b39 := Nat.le_trans Z0 (Nat.le_of_eq g39.symm)
    have F41 : Fld Z h39 b39 "com/example/ask4/ask4/eval/Comparison" "topics" "I" (.int (0 : Int32)) := D39 (Or.inr (own_k hw 16 rfl)) (ty := .int) (by decide)
    have F42 : Fld Z h39 b39 "com/example/ask4/ask4/eval/Comparison" "mapA" "D" (.double (0 : UInt64)) := D39 (Or.inr (own_k hw 18 rfl)) (ty := .double) (by decide)
    have F43 : Fld Z h39 b39 "com/example/ask4/ask4/eval/Comparison" "mapB" "D" (.double (0 : UInt64)) := D39 (Or.inr (own_k hw 20 rfl)) (ty := .double) (by decide)
    have F44 : Fld Z h39 b39 "com/example/ask4/ask4/eval/Comparison" "test" "Lcom/example/ask4/ask4/eval/PairedTTest;" .null := D39 (Or.inr (own_k hw 22 rfl)) (ty := (.object "com/example/ask4/ask4/eval/PairedTTest")) (by decide)
    have F45 : Fld Z h39 b39 "com/example/ask4/ask4/eval/Comparison" "better" "I" (.int (0 : Int32)) := D39 (Or.inr (own_k hw 24 rfl)) (ty := .int) (by decide)
    have F46 : Fld Z h39 b39 "com/example/ask4/ask4/eval/Comparison" "worse" "I" (.int (0 : Int32)) := D39 (Or.inr (own_k hw 26 rfl)) (ty := .int) (by decide)
    refine own_st (T' := T39) (g' := (mkF m 32 #[.val (.int p1), .val (.int p2), .val (.int p3), .val (.int p4), .val (.long (((p1 &&& (1023 : Int32)) + (1 : Int32)).toInt64)), .second, .val (.int (p3 &&& (15 : Int32))), .val (.double (FP.l2d ((1 : Int64) <<< ((p3 &&& (15 : Int32)).toInt64 &&& 63)))), .second, .unset, .unset, .unset, .unset, .unset] [(.ref b39)])) st39 ?_
    refine own_st (T' := T39) (g' := (mkF m 44 #[.val (.int p1), .val (.int p2), .val (.int p3), .val (.int p4), .val (.long (((p1 &&& (1023 : Int32)) + (1 : Int32)).toInt64)), .second, .val (.int (p3 &&& (15 : Int32))), .val (.double (FP.l2d ((1 : Int64) <<< ((p3 &&& (15 : Int32)).toInt64 &&& 63)))), .second, .unset, .unset, .unset, .unset, .unset] [(.int (0 : Int32)), (.int (0 : Int32)), .null, (.double (FP.ddiv (FP.l2d (((p1 &&& (1023 : Int32)) + (1 : Int32)).toInt64)) (FP.l2d ((1 : Int64) <<< ((p3 &&& (15 : Int32)).toInt64 &&& 63))))), (.double (0 : UInt64)), (.int (1 : Int32)), (.ref b39), (.ref b39)])) (fun _ kt => XS.dup X39.here hx rfl (hb hby at_32) rfl rfl (XS.iconst X39.here hx rfl (hb hby at_33) (XS.dconst0 X39.here hx rfl (hb hby at_34) rfl (XT.lload X39.here hx rfl (hb hby at_35) rfl (XS.l2dS X39.here hx rfl (hb hby at_37) rfl rfl (XS.dload X39.here hx rfl (hb hby at_38) rfl (XS.ddivS X39.here hx rfl (hb hby at_40) rfl z1 rfl (XS.aconstNull X39.here hx rfl (hb hby at_41) (XS.iconst X39.here hx rfl (hb hby at_42) (XS.iconst X39.here hx rfl (hb hby at_43) kt)))))))))) ?_
    obtain ⟨_, _, ⟨T47, L47, k47, n47⟩, -, X47, ⟨Lc47, hQ47, l47, y47, z47⟩, st47⟩ := X39.specialBack hx (y := (⟨"com/example/ask4/ask4/eval/Comparison", "<init>", "(IDDLcom/example/ask4/ask4/eval/PairedTTest;II)V"⟩ : MethodName)) rfl hown (mvT hZ (own_k hw 4 rfl)) (mvT hZ (own_k hw 5 rfl)) (mvT hZ (own_k hw 6 rfl)) (by decide) (backOf (W := 1) (own_r2 l Z a0 hw [] b39 (1 : Int32) (0 : UInt64) (FP.ddiv (FP.l2d (((p1 &&& (1023 : Int32)) + (1 : Int32)).toInt64)) (FP.l2d ((1 : Int64) <<< ((p3 &&& (15 : Int32)).toInt64 &&& 63)))) (0 : Int32) (0 : Int32) h39 n0 Z40 A39 ge_b39 F41 F42 F43 F44 F45 F46) hZ (own_k hw 6 rfl) (own_k hw 3 rfl) (by decide) (by decide)) (g := (mkF m 44 #[.val (.int p1), .val (.int p2), .val (.int p3), .val (.int p4), .val (.long (((p1 &&& (1023 : Int32)) + (1 : Int32)).toInt64)), .second, .val (.int (p3 &&& (15 : Int32))), .val (.double (FP.l2d ((1 : Int64) <<< ((p3 &&& (15 : Int32)).toInt64 &&& 63)))), .second, .unset, .unset, .unset, .unset, .unset] [(.int (0 : Int32)), (.int (0 : Int32)), .null, (.double (FP.ddiv (FP.l2d (((p1 &&& (1023 : Int32)) + (1 : Int32)).toInt64)) (FP.l2d ((1 : Int64) <<< ((p3 &&& (15 : Int32)).toInt64 &&& 63))))), (.double (0 : UInt64)), (.int (1 : Int32)), (.ref b39), (.ref b39)])) rfl hml.symm (Steps.refl _) (a := b39) (argsL := [(.int (1 : Int32)), (.double (0 : UInt64)), (.double (FP.ddiv (FP.l2d (((p1 &&& (1023 : Int32)) + (1 : Int32)).toInt64)) (FP.l2d ((1 : Int64) <<< ((p3 &&& (15 : Int32)).toInt64 &&& 63))))), .null, (.int (0 : Int32)), (.int (0 : Int32))]) (rest := [(.ref b39)]) (lenOf own_pd2 rfl) rfl (by show 2 * 0 + _ ≤ _; exact Nat.le_of_eq rfl) (hb hby at_44) (fun _ _ => ⟨rfl, e39, (by decide : 1 + 0 ≤ 16), (by decide : 6 + 0 ≤ 128)⟩)
    dsimp only [Pt.U, Pt.locs, Pt.cells, Pt.slots] at X47 l47 y47 z47 st47 hQ47
    subst l47 y47 z47
    obtain ⟨rfl, N47, K47_, P48, P49, P50⟩ := hQ47
    have N51 := Fr.app N0 N47
    have Z52 : n0 ≤ T47.heap.size := Nat.le_trans Z40 K47_.1
    refine own_tr (T' := T47) (g' := (mkF m 47 #[.val (.int p1), .val (.int p2), .val (.int p3), .val (.int p4), .val (.long (((p1 &&& (1023 : Int32)) + (1 : Int32)).toInt64)), .second, .val (.int (p3 &&& (15 : Int32))), .val (.double (FP.l2d ((1 : Int64) <<< ((p3 &&& (15 : Int32)).toInt64 &&& 63)))), .second, .unset, .unset, .unset, .unset, .unset] [(.ref b39)])) st47 ?_
    refine own_st (T' := T47) (g' := (mkF m 51 #[.val (.int p1), .val (.int p2), .val (.int p3), .val (.int p4), .val (.long (((p1 &&& (1023 : Int32)) + (1 : Int32)).toInt64)), .second, .val (.int (p3 &&& (15 : Int32))), .val (.double (FP.l2d ((1 : Int64) <<< ((p3 &&& (15 : Int32)).toInt64 &&& 63)))), .second, .val (.ref b39), .unset, .unset, .unset, .unset] [(.ref b39)])) (fun _ kt => XS.astore X47.here hx rfl (hb hby at_47) rfl rfl (l' := #[.val (.int p1), .val (.int p2), .val (.int p3), .val (.int p4), .val (.long (((p1 &&& (1023 : Int32)) + (1 : Int32)).toInt64)), .second, .val (.int (p3 &&& (15 : Int32))), .val (.double (FP.l2d ((1 : Int64) <<< ((p3 &&& (15 : Int32)).toInt64 &&& 63)))), .second, .val (.ref b39), .unset, .unset, .unset, .unset]) rfl (XS.aload X47.here hx rfl (hb hby at_49) rfl rfl kt)) ?_
    obtain ⟨cq54, kq54, qa54, qb54, qc54⟩ := isOf hZ rfl P48
    obtain ⟨_, _, ⟨T53, L53, k53, n53⟩, -, X53, ⟨Lc53, hQ53, l53, y53, z53⟩, st53⟩ := X47.virtualBack hx (y := (⟨"com/example/ask4/ask4/eval/Comparison", "changePercent", "()D"⟩ : MethodName)) (z := (⟨"com/example/ask4/ask4/eval/Comparison", "changePercent", "()D"⟩ : MethodName)) hown (mvT hZ (own_k hw 27 rfl)) (mvT hZ (own_k hw 28 rfl)) (notFace_of_selects (args := #[]) (mvT hZ (own_k hw 30 rfl))) (mvT hZ (own_k hw 30 rfl)) (mvT hZ (own_k hw 29 rfl)) (by decide) (backOf (W := 0) (own_cp l Z a0 hw [] b39 (0 : UInt64) (FP.ddiv (FP.l2d (((p1 &&& (1023 : Int32)) + (1 : Int32)).toInt64)) (FP.l2d ((1 : Int64) <<< ((p3 &&& (15 : Int32)).toInt64 &&& 63)))) T47.heap n0 Z52 P49 P50 z2 z3 (show Fl.NoNaN64 (FP.ddiv (FP.dmul (4636737291354636288 : UInt64) (FP.dsub (FP.ddiv (FP.l2d (((p1 &&& (1023 : Int32)) + (1 : Int32)).toInt64)) (FP.l2d ((1 : Int64) <<< ((p3 &&& (15 : Int32)).toInt64 &&& 63)))) (0 : UInt64))) (0 : UInt64)) from (by rw [z4]; unfold Fl.NoNaN64 <;> decide))) hZ (own_k hw 31 rfl) (own_k hw 3 rfl) (by decide) (by decide)) qa54 qc54 (g := (mkF m 51 #[.val (.int p1), .val (.int p2), .val (.int p3), .val (.int p4), .val (.long (((p1 &&& (1023 : Int32)) + (1 : Int32)).toInt64)), .second, .val (.int (p3 &&& (15 : Int32))), .val (.double (FP.l2d ((1 : Int64) <<< ((p3 &&& (15 : Int32)).toInt64 &&& 63)))), .second, .val (.ref b39), .unset, .unset, .unset, .unset] [(.ref b39)])) rfl hml.symm (Steps.refl _) (argsL := []) (rest := []) (lenOf own_pd3 rfl) rfl (by show 2 * 0 + _ ≤ _; exact Nat.le_of_eq rfl) (hb hby at_51) (fun _ _ => ⟨rfl, rfl, (by decide : 1 + 0 ≤ 16), (by decide : 6 + 0 ≤ 128)⟩)
    dsimp only [Pt.U, Pt.locs, Pt.cells, Pt.slots] at X53 l53 y53 z53 st53 hQ53
    subst l53 y53 z53
    obtain ⟨rfl, N53, e53⟩ := hQ53
    have N55 := Fr.app N51 N53
    refine own_tr (T' := T53) (g' := (mkF m 54 #[.val (.int p1), .val (.int p2), .val (.int p3), .val (.int p4), .val (.long (((p1 &&& (1023 : Int32)) + (1 : Int32)).toInt64)), .second, .val (.int (p3 &&& (15 : Int32))), .val (.double (FP.l2d ((1 : Int64) <<< ((p3 &&& (15 : Int32)).toInt64 &&& 63)))), .second, .val (.ref b39), .unset, .unset, .unset, .unset] [(.double (FP.ddiv (FP.dmul (4636737291354636288 : UInt64) (FP.dsub (FP.ddiv (FP.l2d (((p1 &&& (1023 : Int32)) + (1 : Int32)).toInt64)) (FP.l2d ((1 : Int64) <<< ((p3 &&& (15 : Int32)).toInt64 &&& 63)))) (0 : UInt64))) (0 : UInt64)))])) st53 ?_
    refine own_st (T' := T53) (g' := (mkF m 58 #[.val (.int p1), .val (.int p2), .val (.int p3), .val (.int p4), .val (.long (((p1 &&& (1023 : Int32)) + (1 : Int32)).toInt64)), .second, .val (.int (p3 &&& (15 : Int32))), .val (.double (FP.l2d ((1 : Int64) <<< ((p3 &&& (15 : Int32)).toInt64 &&& 63)))), .second, .val (.ref b39), .val (.double (FP.ddiv (FP.dmul (4636737291354636288 : UInt64) (FP.dsub (FP.ddiv (FP.l2d (((p1 &&& (1023 : Int32)) + (1 : Int32)).toInt64)) (FP.l2d ((1 : Int64) <<< ((p3 &&& (15 : Int32)).toInt64 &&& 63)))) (0 : UInt64))) (0 : UInt64))), .second, .unset, .unset] [(.double (FP.ddiv (FP.dmul (4636737291354636288 : UInt64) (FP.dsub (FP.ddiv (FP.l2d (((p1 &&& (1023 : Int32)) + (1 : Int32)).toInt64)) (FP.l2d ((1 : Int64) <<< ((p3 &&& (15 : Int32)).toInt64 &&& 63)))) (0 : UInt64))) (0 : UInt64)))])) (fun _ kt => XS.dstore X53.here hx rfl (hb hby at_54) rfl (l' := #[.val (.int p1), .val (.int p2), .val (.int p3), .val (.int p4), .val (.long (((p1 &&& (1023 : Int32)) + (1 : Int32)).toInt64)), .second, .val (.int (p3 &&& (15 : Int32))), .val (.double (FP.l2d ((1 : Int64) <<< ((p3 &&& (15 : Int32)).toInt64 &&& 63)))), .second, .val (.ref b39), .val (.double (FP.ddiv (FP.dmul (4636737291354636288 : UInt64) (FP.dsub (FP.ddiv (FP.l2d (((p1 &&& (1023 : Int32)) + (1 : Int32)).toInt64)) (FP.l2d ((1 : Int64) <<< ((p3 &&& (15 : Int32)).toInt64 &&& 63)))) (0 : UInt64))) (0 : UInt64))), .second, .unset, .unset]) rfl (XS.dload X53.here hx rfl (hb hby at_56) rfl kt)) ?_
    refine own_st (T' := T53) (g' := (mkF m 61 #[.val (.int p1), .val (.int p2), .val (.int p3), .val (.int p4), .val (.long (((p1 &&& (1023 : Int32)) + (1 : Int32)).toInt64)), .second, .val (.int (p3 &&& (15 : Int32))), .val (.double (FP.l2d ((1 : Int64) <<< ((p3 &&& (15 : Int32)).toInt64 &&& 63)))), .second, .val (.ref b39), .val (.double (FP.ddiv (FP.dmul (4636737291354636288 : UInt64) (FP.dsub (FP.ddiv (FP.l2d (((p1 &&& (1023 : Int32)) + (1 : Int32)).toInt64)) (FP.l2d ((1 : Int64) <<< ((p3 &&& (15 : Int32)).toInt64 &&& 63)))) (0 : UInt64))) (0 : UInt64))), .second, .unset, .unset] [(.double (9214871658872686752 : UInt64)), (.double (FP.ddiv (FP.dmul (4636737291354636288 : UInt64) (FP.dsub (FP.ddiv (FP.l2d (((p1 &&& (1023 : Int32)) + (1 : Int32)).toInt64)) (FP.l2d ((1 : Int64) <<< ((p3 &&& (15 : Int32)).toInt64 &&& 63)))) (0 : UInt64))) (0 : UInt64)))])) (Stand.ldc2DoubleC X53 hx hown (mvT hZ (own_k hw 33 rfl)) (g := (mkF m 58 #[.val (.int p1), .val (.int p2), .val (.int p3), .val (.int p4), .val (.long (((p1 &&& (1023 : Int32)) + (1 : Int32)).toInt64)), .second, .val (.int (p3 &&& (15 : Int32))), .val (.double (FP.l2d ((1 : Int64) <<< ((p3 &&& (15 : Int32)).toInt64 &&& 63)))), .second, .val (.ref b39), .val (.double (FP.ddiv (FP.dmul (4636737291354636288 : UInt64) (FP.dsub (FP.ddiv (FP.l2d (((p1 &&& (1023 : Int32)) + (1 : Int32)).toInt64)) (FP.l2d ((1 : Int64) <<< ((p3 &&& (15 : Int32)).toInt64 &&& 63)))) (0 : UInt64))) (0 : UInt64))), .second, .unset, .unset] [(.double (FP.ddiv (FP.dmul (4636737291354636288 : UInt64) (FP.dsub (FP.ddiv (FP.l2d (((p1 &&& (1023 : Int32)) + (1 : Int32)).toInt64)) (FP.l2d ((1 : Int64) <<< ((p3 &&& (15 : Int32)).toInt64 &&& 63)))) (0 : UInt64))) (0 : UInt64)))])) rfl (hb hby at_58)) ?_
    refine own_st (T' := T53) (g' := (mkF m 70 #[.val (.int p1), .val (.int p2), .val (.int p3), .val (.int p4), .val (.long (((p1 &&& (1023 : Int32)) + (1 : Int32)).toInt64)), .second, .val (.int (p3 &&& (15 : Int32))), .val (.double (FP.l2d ((1 : Int64) <<< ((p3 &&& (15 : Int32)).toInt64 &&& 63)))), .second, .val (.ref b39), .val (.double (FP.ddiv (FP.dmul (4636737291354636288 : UInt64) (FP.dsub (FP.ddiv (FP.l2d (((p1 &&& (1023 : Int32)) + (1 : Int32)).toInt64)) (FP.l2d ((1 : Int64) <<< ((p3 &&& (15 : Int32)).toInt64 &&& 63)))) (0 : UInt64))) (0 : UInt64))), .second, .unset, .unset] [(.int (1 : Int32))])) (fun _ kt => XS.dcmpS X53.here hx rfl (hb hby at_61) rfl (by first | (rw [z4]; done) | (rw [z4]; exact dcmp_pinf' (by unfold Fl.Fin64 <;> decide) _)) (XS.ifNo X53.here hx rfl (hb hby at_62) rfl (XT.i0_le_f (by decide)) (XS.iconst X53.here hx rfl (hb hby at_65) (XS.goto X53.here hx rfl (pc0 := 66) (pc' := 70) rfl (hb hby at_66) (by decide) (by decide) kt)))) ?_
    obtain ⟨fs, hr, hrun, hended, hW, hsame⟩ := X53.leave (v := some (.int (1 : Int32))) (fun h => by rw [Bd.returns] at h; cases h)
    refine own_end (retN X53 hx (t := .boolean) Bd.returns (by simp) (hb hby at_70) hr) ⟨_, hrun, hended, _, _, rfl, ?_, ⟨_, rfl⟩, hW, hsame.mono (by decide) (by decide)⟩
    show own_lawQ Z p1 p2 p3 p4 h0 n0 _ T53.heap _
    rw [e53]
    exact ⟨rfl, N55⟩
  · -- pc 26: not (p4 &&& (3 : Int32)) = 0
    refine own_st (T' := s₁) (g' := (mkF m 71 #[.val (.int p1), .val (.int p2), .val (.int p3), .val (.int p4), .val (.long (((p1 &&& (1023 : Int32)) + (1 : Int32)).toInt64)), .second, .val (.int (p3 &&& (15 : Int32))), .val (.double (FP.l2d ((1 : Int64) <<< ((p3 &&& (15 : Int32)).toInt64 &&& 63)))), .second, .unset, .unset, .unset, .unset, .unset] [])) (fun _ kt => XS.ifYes X0.here hx rfl (pc0 := 26) (pc' := 71) rfl (hb hby at_26) rfl (XT.i0_ne_t hc38) (by decide) (by decide) kt) ?_
    refine own_st (T' := s₁) (g' := (mkF m 74 #[.val (.int p1), .val (.int p2), .val (.int p3), .val (.int p4), .val (.long (((p1 &&& (1023 : Int32)) + (1 : Int32)).toInt64)), .second, .val (.int (p3 &&& (15 : Int32))), .val (.double (FP.l2d ((1 : Int64) <<< ((p3 &&& (15 : Int32)).toInt64 &&& 63)))), .second, .unset, .unset, .unset, .unset, .unset] [(.long (100 : Int64))])) (Stand.ldc2Long X0 hx hown (mvT hZ (own_k hw 0 rfl)) (g := (mkF m 71 #[.val (.int p1), .val (.int p2), .val (.int p3), .val (.int p4), .val (.long (((p1 &&& (1023 : Int32)) + (1 : Int32)).toInt64)), .second, .val (.int (p3 &&& (15 : Int32))), .val (.double (FP.l2d ((1 : Int64) <<< ((p3 &&& (15 : Int32)).toInt64 &&& 63)))), .second, .unset, .unset, .unset, .unset, .unset] [])) rfl (hb hby at_71)) ?_
    refine own_st (T' := s₁) (g' := (mkF m 83 #[.val (.int p1), .val (.int p2), .val (.int p3), .val (.int p4), .val (.long (((p1 &&& (1023 : Int32)) + (1 : Int32)).toInt64)), .second, .val (.int (p3 &&& (15 : Int32))), .val (.double (FP.l2d ((1 : Int64) <<< ((p3 &&& (15 : Int32)).toInt64 &&& 63)))), .second, .val (.double (FP.ddiv (FP.l2d ((100 : Int64) * (((p1 &&& (1023 : Int32)) + (1 : Int32)).toInt64))) (FP.l2d ((1 : Int64) <<< ((p3 &&& (15 : Int32)).toInt64 &&& 63))))), .second, .unset, .unset, .unset] [])) (fun _ kt => XT.lload X0.here hx rfl (hb hby at_74) rfl (XT.lmul X0.here hx rfl (hb hby at_76) rfl (XS.l2dS X0.here hx rfl (hb hby at_77) rfl rfl (XS.dload X0.here hx rfl (hb hby at_78) rfl (XS.ddivS X0.here hx rfl (hb hby at_80) rfl n1 rfl (XS.dstore X0.here hx rfl (hb hby at_81) rfl (l' := #[.val (.int p1), .val (.int p2), .val (.int p3), .val (.int p4), .val (.long (((p1 &&& (1023 : Int32)) + (1 : Int32)).toInt64)), .second, .val (.int (p3 &&& (15 : Int32))), .val (.double (FP.l2d ((1 : Int64) <<< ((p3 &&& (15 : Int32)).toInt64 &&& 63)))), .second, .val (.double (FP.ddiv (FP.l2d ((100 : Int64) * (((p1 &&& (1023 : Int32)) + (1 : Int32)).toInt64))) (FP.l2d ((1 : Int64) <<< ((p3 &&& (15 : Int32)).toInt64 &&& 63))))), .second, .unset, .unset, .unset]) rfl kt)))))) ?_
    refine own_st (T' := s₁) (g' := (mkF m 86 #[.val (.int p1), .val (.int p2), .val (.int p3), .val (.int p4), .val (.long (((p1 &&& (1023 : Int32)) + (1 : Int32)).toInt64)), .second, .val (.int (p3 &&& (15 : Int32))), .val (.double (FP.l2d ((1 : Int64) <<< ((p3 &&& (15 : Int32)).toInt64 &&& 63)))), .second, .val (.double (FP.ddiv (FP.l2d ((100 : Int64) * (((p1 &&& (1023 : Int32)) + (1 : Int32)).toInt64))) (FP.l2d ((1 : Int64) <<< ((p3 &&& (15 : Int32)).toInt64 &&& 63))))), .second, .unset, .unset, .unset] [(.long (100 : Int64))])) (Stand.ldc2Long X0 hx hown (mvT hZ (own_k hw 0 rfl)) (g := (mkF m 83 #[.val (.int p1), .val (.int p2), .val (.int p3), .val (.int p4), .val (.long (((p1 &&& (1023 : Int32)) + (1 : Int32)).toInt64)), .second, .val (.int (p3 &&& (15 : Int32))), .val (.double (FP.l2d ((1 : Int64) <<< ((p3 &&& (15 : Int32)).toInt64 &&& 63)))), .second, .val (.double (FP.ddiv (FP.l2d ((100 : Int64) * (((p1 &&& (1023 : Int32)) + (1 : Int32)).toInt64))) (FP.l2d ((1 : Int64) <<< ((p3 &&& (15 : Int32)).toInt64 &&& 63))))), .second, .unset, .unset, .unset] [])) rfl (hb hby at_83)) ?_
    refine own_st (T' := s₁) (g' := (mkF m 101 #[.val (.int p1), .val (.int p2), .val (.int p3), .val (.int p4), .val (.long (((p1 &&& (1023 : Int32)) + (1 : Int32)).toInt64)), .second, .val (.int (p3 &&& (15 : Int32))), .val (.double (FP.l2d ((1 : Int64) <<< ((p3 &&& (15 : Int32)).toInt64 &&& 63)))), .second, .val (.double (FP.ddiv (FP.l2d ((100 : Int64) * (((p1 &&& (1023 : Int32)) + (1 : Int32)).toInt64))) (FP.l2d ((1 : Int64) <<< ((p3 &&& (15 : Int32)).toInt64 &&& 63))))), .second, .val (.double (FP.ddiv (FP.l2d (((100 : Int64) * (((p1 &&& (1023 : Int32)) + (1 : Int32)).toInt64)) + ((((p1 &&& (1023 : Int32)) + (1 : Int32)).toInt64) * (p2.toInt64)))) (FP.l2d ((1 : Int64) <<< ((p3 &&& (15 : Int32)).toInt64 &&& 63))))), .second, .unset] [])) (fun _ kt => XT.lload X0.here hx rfl (hb hby at_86) rfl (XT.lmul X0.here hx rfl (hb hby at_88) rfl (XT.lload X0.here hx rfl (hb hby at_89) rfl (XS.iloadN X0.here hx rfl (hb hby at_91) rfl (XT.i2l X0.here hx rfl (hb hby at_92) rfl (XT.lmul X0.here hx rfl (hb hby at_93) rfl (XT.ladd X0.here hx rfl (hb hby at_94) rfl (XS.l2dS X0.here hx rfl (hb hby at_95) rfl rfl (XS.dload X0.here hx rfl (hb hby at_96) rfl (XS.ddivS X0.here hx rfl (hb hby at_98) rfl n2 rfl (XS.dstore X0.here hx rfl (hb hby at_99) rfl (l' := #[.val (.int p1), .val (.int p2), .val (.int p3), .val (.int p4), .val (.long (((p1 &&& (1023 : Int32)) + (1 : Int32)).toInt64)), .second, .val (.int (p3 &&& (15 : Int32))), .val (.double (FP.l2d ((1 : Int64) <<< ((p3 &&& (15 : Int32)).toInt64 &&& 63)))), .second, .val (.double (FP.ddiv (FP.l2d ((100 : Int64) * (((p1 &&& (1023 : Int32)) + (1 : Int32)).toInt64))) (FP.l2d ((1 : Int64) <<< ((p3 &&& (15 : Int32)).toInt64 &&& 63))))), .second, .val (.double (FP.ddiv (FP.l2d (((100 : Int64) * (((p1 &&& (1023 : Int32)) + (1 : Int32)).toInt64)) + ((((p1 &&& (1023 : Int32)) + (1 : Int32)).toInt64) * (p2.toInt64)))) (FP.l2d ((1 : Int64) <<< ((p3 &&& (15 : Int32)).toInt64 &&& 63))))), .second, .unset]) rfl kt))))))))))) ?_
    obtain ⟨T56, h56, X56, e56, E56, A56, D56, -, st56⟩ := newO X0 hx hZ hown (own_k hw 1 rfl) (own_k hw 2 rfl) (own_k hw 3 rfl) e0 (g := (mkF m 101 #[.val (.int p1), .val (.int p2), .val (.int p3), .val (.int p4), .val (.long (((p1 &&& (1023 : Int32)) + (1 : Int32)).toInt64)), .second, .val (.int (p3 &&& (15 : Int32))), .val (.double (FP.l2d ((1 : Int64) <<< ((p3 &&& (15 : Int32)).toInt64 &&& 63)))), .second, .val (.double (FP.ddiv (FP.l2d ((100 : Int64) * (((p1 &&& (1023 : Int32)) + (1 : Int32)).toInt64))) (FP.l2d ((1 : Int64) <<< ((p3 &&& (15 : Int32)).toInt64 &&& 63))))), .second, .val (.double (FP.ddiv (FP.l2d (((100 : Int64) * (((p1 &&& (1023 : Int32)) + (1 : Int32)).toInt64)) + ((((p1 &&& (1023 : Int32)) + (1 : Int32)).toInt64) * (p2.toInt64)))) (FP.l2d ((1 : Int64) <<< ((p3 &&& (15 : Int32)).toInt64 &&& 63))))), .second, .unset] [])) rfl (hb hby at_101) (by decide) (by decide)
    obtain ⟨b56, g56⟩ : ∃ z, z = h0.size := ⟨_, rfl⟩
    rw [← g56] at A56 D56 st56
    have Z57 : n0 ≤ h56.size := Nat.le_trans Z0 E56.1
    have ge_b56 : n0 ≤ b56 := Nat.le_trans Z0 (Nat.le_of_eq g56.symm)
    have F58 : Fld Z h56 b56 "com/example/ask4/ask4/eval/Comparison" "topics" "I" (.int (0 : Int32)) := D56 (Or.inr (own_k hw 16 rfl)) (ty := .int) (by decide)
    have F59 : Fld Z h56 b56 "com/example/ask4/ask4/eval/Comparison" "mapA" "D" (.double (0 : UInt64)) := D56 (Or.inr (own_k hw 18 rfl)) (ty := .double) (by decide)
    have F60 : Fld Z h56 b56 "com/example/ask4/ask4/eval/Comparison" "mapB" "D" (.double (0 : UInt64)) := D56 (Or.inr (own_k hw 20 rfl)) (ty := .double) (by decide)
    have F61 : Fld Z h56 b56 "com/example/ask4/ask4/eval/Comparison" "test" "Lcom/example/ask4/ask4/eval/PairedTTest;" .null := D56 (Or.inr (own_k hw 22 rfl)) (ty := (.object "com/example/ask4/ask4/eval/PairedTTest")) (by decide)
    have F62 : Fld Z h56 b56 "com/example/ask4/ask4/eval/Comparison" "better" "I" (.int (0 : Int32)) := D56 (Or.inr (own_k hw 24 rfl)) (ty := .int) (by decide)
    have F63 : Fld Z h56 b56 "com/example/ask4/ask4/eval/Comparison" "worse" "I" (.int (0 : Int32)) := D56 (Or.inr (own_k hw 26 rfl)) (ty := .int) (by decide)
    refine own_st (T' := T56) (g' := (mkF m 104 #[.val (.int p1), .val (.int p2), .val (.int p3), .val (.int p4), .val (.long (((p1 &&& (1023 : Int32)) + (1 : Int32)).toInt64)), .second, .val (.int (p3 &&& (15 : Int32))), .val (.double (FP.l2d ((1 : Int64) <<< ((p3 &&& (15 : Int32)).toInt64 &&& 63)))), .second, .val (.double (FP.ddiv (FP.l2d ((100 : Int64) * (((p1 &&& (1023 : Int32)) + (1 : Int32)).toInt64))) (FP.l2d ((1 : Int64) <<< ((p3 &&& (15 : Int32)).toInt64 &&& 63))))), .second, .val (.double (FP.ddiv (FP.l2d (((100 : Int64) * (((p1 &&& (1023 : Int32)) + (1 : Int32)).toInt64)) + ((((p1 &&& (1023 : Int32)) + (1 : Int32)).toInt64) * (p2.toInt64)))) (FP.l2d ((1 : Int64) <<< ((p3 &&& (15 : Int32)).toInt64 &&& 63))))), .second, .unset] [(.ref b56)])) st56 ?_
    refine own_st (T' := T56) (g' := (mkF m 113 #[.val (.int p1), .val (.int p2), .val (.int p3), .val (.int p4), .val (.long (((p1 &&& (1023 : Int32)) + (1 : Int32)).toInt64)), .second, .val (.int (p3 &&& (15 : Int32))), .val (.double (FP.l2d ((1 : Int64) <<< ((p3 &&& (15 : Int32)).toInt64 &&& 63)))), .second, .val (.double (FP.ddiv (FP.l2d ((100 : Int64) * (((p1 &&& (1023 : Int32)) + (1 : Int32)).toInt64))) (FP.l2d ((1 : Int64) <<< ((p3 &&& (15 : Int32)).toInt64 &&& 63))))), .second, .val (.double (FP.ddiv (FP.l2d (((100 : Int64) * (((p1 &&& (1023 : Int32)) + (1 : Int32)).toInt64)) + ((((p1 &&& (1023 : Int32)) + (1 : Int32)).toInt64) * (p2.toInt64)))) (FP.l2d ((1 : Int64) <<< ((p3 &&& (15 : Int32)).toInt64 &&& 63))))), .second, .unset] [(.int (0 : Int32)), (.int (0 : Int32)), .null, (.double (FP.ddiv (FP.l2d (((100 : Int64) * (((p1 &&& (1023 : Int32)) + (1 : Int32)).toInt64)) + ((((p1 &&& (1023 : Int32)) + (1 : Int32)).toInt64) * (p2.toInt64)))) (FP.l2d ((1 : Int64) <<< ((p3 &&& (15 : Int32)).toInt64 &&& 63))))), (.double (FP.ddiv (FP.l2d ((100 : Int64) * (((p1 &&& (1023 : Int32)) + (1 : Int32)).toInt64))) (FP.l2d ((1 : Int64) <<< ((p3 &&& (15 : Int32)).toInt64 &&& 63))))), (.int (1 : Int32)), (.ref b56), (.ref b56)])) (fun _ kt => XS.dup X56.here hx rfl (hb hby at_104) rfl rfl (XS.iconst X56.here hx rfl (hb hby at_105) (XS.dload X56.here hx rfl (hb hby at_106) rfl (XS.dload X56.here hx rfl (hb hby at_108) rfl (XS.aconstNull X56.here hx rfl (hb hby at_110) (XS.iconst X56.here hx rfl (hb hby at_111) (XS.iconst X56.here hx rfl (hb hby at_112) kt))))))) ?_
    obtain ⟨_, _, ⟨T64, L64, k64, n64⟩, -, X64, ⟨Lc64, hQ64, l64, y64, z64⟩, st64⟩ := X56.specialBack hx (y := (⟨"com/example/ask4/ask4/eval/Comparison", "<init>", "(IDDLcom/example/ask4/ask4/eval/PairedTTest;II)V"⟩ : MethodName)) rfl hown (mvT hZ (own_k hw 4 rfl)) (mvT hZ (own_k hw 5 rfl)) (mvT hZ (own_k hw 6 rfl)) (by decide) (backOf (W := 1) (own_r2 l Z a0 hw [] b56 (1 : Int32) (FP.ddiv (FP.l2d ((100 : Int64) * (((p1 &&& (1023 : Int32)) + (1 : Int32)).toInt64))) (FP.l2d ((1 : Int64) <<< ((p3 &&& (15 : Int32)).toInt64 &&& 63)))) (FP.ddiv (FP.l2d (((100 : Int64) * (((p1 &&& (1023 : Int32)) + (1 : Int32)).toInt64)) + ((((p1 &&& (1023 : Int32)) + (1 : Int32)).toInt64) * (p2.toInt64)))) (FP.l2d ((1 : Int64) <<< ((p3 &&& (15 : Int32)).toInt64 &&& 63)))) (0 : Int32) (0 : Int32) h56 n0 Z57 A56 ge_b56 F58 F59 F60 F61 F62 F63) hZ (own_k hw 6 rfl) (own_k hw 3 rfl) (by decide) (by decide)) (g := (mkF m 113 #[.val (.int p1), .val (.int p2), .val (.int p3), .val (.int p4), .val (.long (((p1 &&& (1023 : Int32)) + (1 : Int32)).toInt64)), .second, .val (.int (p3 &&& (15 : Int32))), .val (.double (FP.l2d ((1 : Int64) <<< ((p3 &&& (15 : Int32)).toInt64 &&& 63)))), .second, .val (.double (FP.ddiv (FP.l2d ((100 : Int64) * (((p1 &&& (1023 : Int32)) + (1 : Int32)).toInt64))) (FP.l2d ((1 : Int64) <<< ((p3 &&& (15 : Int32)).toInt64 &&& 63))))), .second, .val (.double (FP.ddiv (FP.l2d (((100 : Int64) * (((p1 &&& (1023 : Int32)) + (1 : Int32)).toInt64)) + ((((p1 &&& (1023 : Int32)) + (1 : Int32)).toInt64) * (p2.toInt64)))) (FP.l2d ((1 : Int64) <<< ((p3 &&& (15 : Int32)).toInt64 &&& 63))))), .second, .unset] [(.int (0 : Int32)), (.int (0 : Int32)), .null, (.double (FP.ddiv (FP.l2d (((100 : Int64) * (((p1 &&& (1023 : Int32)) + (1 : Int32)).toInt64)) + ((((p1 &&& (1023 : Int32)) + (1 : Int32)).toInt64) * (p2.toInt64)))) (FP.l2d ((1 : Int64) <<< ((p3 &&& (15 : Int32)).toInt64 &&& 63))))), (.double (FP.ddiv (FP.l2d ((100 : Int64) * (((p1 &&& (1023 : Int32)) + (1 : Int32)).toInt64))) (FP.l2d ((1 : Int64) <<< ((p3 &&& (15 : Int32)).toInt64 &&& 63))))), (.int (1 : Int32)), (.ref b56), (.ref b56)])) rfl hml.symm (Steps.refl _) (a := b56) (argsL := [(.int (1 : Int32)), (.double (FP.ddiv (FP.l2d ((100 : Int64) * (((p1 &&& (1023 : Int32)) + (1 : Int32)).toInt64))) (FP.l2d ((1 : Int64) <<< ((p3 &&& (15 : Int32)).toInt64 &&& 63))))), (.double (FP.ddiv (FP.l2d (((100 : Int64) * (((p1 &&& (1023 : Int32)) + (1 : Int32)).toInt64)) + ((((p1 &&& (1023 : Int32)) + (1 : Int32)).toInt64) * (p2.toInt64)))) (FP.l2d ((1 : Int64) <<< ((p3 &&& (15 : Int32)).toInt64 &&& 63))))), .null, (.int (0 : Int32)), (.int (0 : Int32))]) (rest := [(.ref b56)]) (lenOf own_pd2 rfl) rfl (by show 2 * 0 + _ ≤ _; exact Nat.le_of_eq rfl) (hb hby at_113) (fun _ _ => ⟨rfl, e56, (by decide : 1 + 0 ≤ 16), (by decide : 6 + 0 ≤ 128)⟩)
    dsimp only [Pt.U, Pt.locs, Pt.cells, Pt.slots] at X64 l64 y64 z64 st64 hQ64
    subst l64 y64 z64
    obtain ⟨rfl, N64, K64_, P65, P66, P67⟩ := hQ64
    have N68 := Fr.app N0 N64
    have Z69 : n0 ≤ T64.heap.size := Nat.le_trans Z57 K64_.1
    refine own_tr (T' := T64) (g' := (mkF m 116 #[.val (.int p1), .val (.int p2), .val (.int p3), .val (.int p4), .val (.long (((p1 &&& (1023 : Int32)) + (1 : Int32)).toInt64)), .second, .val (.int (p3 &&& (15 : Int32))), .val (.double (FP.l2d ((1 : Int64) <<< ((p3 &&& (15 : Int32)).toInt64 &&& 63)))), .second, .val (.double (FP.ddiv (FP.l2d ((100 : Int64) * (((p1 &&& (1023 : Int32)) + (1 : Int32)).toInt64))) (FP.l2d ((1 : Int64) <<< ((p3 &&& (15 : Int32)).toInt64 &&& 63))))), .second, .val (.double (FP.ddiv (FP.l2d (((100 : Int64) * (((p1 &&& (1023 : Int32)) + (1 : Int32)).toInt64)) + ((((p1 &&& (1023 : Int32)) + (1 : Int32)).toInt64) * (p2.toInt64)))) (FP.l2d ((1 : Int64) <<< ((p3 &&& (15 : Int32)).toInt64 &&& 63))))), .second, .unset] [(.ref b56)])) st64 ?_
    refine own_st (T' := T64) (g' := (mkF m 120 #[.val (.int p1), .val (.int p2), .val (.int p3), .val (.int p4), .val (.long (((p1 &&& (1023 : Int32)) + (1 : Int32)).toInt64)), .second, .val (.int (p3 &&& (15 : Int32))), .val (.double (FP.l2d ((1 : Int64) <<< ((p3 &&& (15 : Int32)).toInt64 &&& 63)))), .second, .val (.double (FP.ddiv (FP.l2d ((100 : Int64) * (((p1 &&& (1023 : Int32)) + (1 : Int32)).toInt64))) (FP.l2d ((1 : Int64) <<< ((p3 &&& (15 : Int32)).toInt64 &&& 63))))), .second, .val (.double (FP.ddiv (FP.l2d (((100 : Int64) * (((p1 &&& (1023 : Int32)) + (1 : Int32)).toInt64)) + ((((p1 &&& (1023 : Int32)) + (1 : Int32)).toInt64) * (p2.toInt64)))) (FP.l2d ((1 : Int64) <<< ((p3 &&& (15 : Int32)).toInt64 &&& 63))))), .second, .val (.ref b56)] [(.ref b56)])) (fun _ kt => XS.astore X64.here hx rfl (hb hby at_116) rfl rfl (l' := #[.val (.int p1), .val (.int p2), .val (.int p3), .val (.int p4), .val (.long (((p1 &&& (1023 : Int32)) + (1 : Int32)).toInt64)), .second, .val (.int (p3 &&& (15 : Int32))), .val (.double (FP.l2d ((1 : Int64) <<< ((p3 &&& (15 : Int32)).toInt64 &&& 63)))), .second, .val (.double (FP.ddiv (FP.l2d ((100 : Int64) * (((p1 &&& (1023 : Int32)) + (1 : Int32)).toInt64))) (FP.l2d ((1 : Int64) <<< ((p3 &&& (15 : Int32)).toInt64 &&& 63))))), .second, .val (.double (FP.ddiv (FP.l2d (((100 : Int64) * (((p1 &&& (1023 : Int32)) + (1 : Int32)).toInt64)) + ((((p1 &&& (1023 : Int32)) + (1 : Int32)).toInt64) * (p2.toInt64)))) (FP.l2d ((1 : Int64) <<< ((p3 &&& (15 : Int32)).toInt64 &&& 63))))), .second, .val (.ref b56)]) rfl (XS.aload X64.here hx rfl (hb hby at_118) rfl rfl kt)) ?_
    obtain ⟨cq71, kq71, qa71, qb71, qc71⟩ := isOf hZ rfl P65
    obtain ⟨_, _, ⟨T70, L70, k70, n70⟩, -, X70, ⟨Lc70, hQ70, l70, y70, z70⟩, st70⟩ := X64.virtualBack hx (y := (⟨"com/example/ask4/ask4/eval/Comparison", "changePercent", "()D"⟩ : MethodName)) (z := (⟨"com/example/ask4/ask4/eval/Comparison", "changePercent", "()D"⟩ : MethodName)) hown (mvT hZ (own_k hw 27 rfl)) (mvT hZ (own_k hw 28 rfl)) (notFace_of_selects (args := #[]) (mvT hZ (own_k hw 30 rfl))) (mvT hZ (own_k hw 30 rfl)) (mvT hZ (own_k hw 29 rfl)) (by decide) (backOf (W := 0) (own_cp l Z a0 hw [] b56 (FP.ddiv (FP.l2d ((100 : Int64) * (((p1 &&& (1023 : Int32)) + (1 : Int32)).toInt64))) (FP.l2d ((1 : Int64) <<< ((p3 &&& (15 : Int32)).toInt64 &&& 63)))) (FP.ddiv (FP.l2d (((100 : Int64) * (((p1 &&& (1023 : Int32)) + (1 : Int32)).toInt64)) + ((((p1 &&& (1023 : Int32)) + (1 : Int32)).toInt64) * (p2.toInt64)))) (FP.l2d ((1 : Int64) <<< ((p3 &&& (15 : Int32)).toInt64 &&& 63)))) T64.heap n0 Z69 P66 P67 n3 n4 n5) hZ (own_k hw 31 rfl) (own_k hw 3 rfl) (by decide) (by decide)) qa71 qc71 (g := (mkF m 120 #[.val (.int p1), .val (.int p2), .val (.int p3), .val (.int p4), .val (.long (((p1 &&& (1023 : Int32)) + (1 : Int32)).toInt64)), .second, .val (.int (p3 &&& (15 : Int32))), .val (.double (FP.l2d ((1 : Int64) <<< ((p3 &&& (15 : Int32)).toInt64 &&& 63)))), .second, .val (.double (FP.ddiv (FP.l2d ((100 : Int64) * (((p1 &&& (1023 : Int32)) + (1 : Int32)).toInt64))) (FP.l2d ((1 : Int64) <<< ((p3 &&& (15 : Int32)).toInt64 &&& 63))))), .second, .val (.double (FP.ddiv (FP.l2d (((100 : Int64) * (((p1 &&& (1023 : Int32)) + (1 : Int32)).toInt64)) + ((((p1 &&& (1023 : Int32)) + (1 : Int32)).toInt64) * (p2.toInt64)))) (FP.l2d ((1 : Int64) <<< ((p3 &&& (15 : Int32)).toInt64 &&& 63))))), .second, .val (.ref b56)] [(.ref b56)])) rfl hml.symm (Steps.refl _) (argsL := []) (rest := []) (lenOf own_pd3 rfl) rfl (by show 2 * 0 + _ ≤ _; exact Nat.le_of_eq rfl) (hb hby at_120) (fun _ _ => ⟨rfl, rfl, (by decide : 1 + 0 ≤ 16), (by decide : 6 + 0 ≤ 128)⟩)
    dsimp only [Pt.U, Pt.locs, Pt.cells, Pt.slots] at X70 l70 y70 z70 st70 hQ70
    subst l70 y70 z70
    obtain ⟨rfl, N70, e70⟩ := hQ70
    have N72 := Fr.app N68 N70
    refine own_tr (T' := T70) (g' := (mkF m 123 #[.val (.int p1), .val (.int p2), .val (.int p3), .val (.int p4), .val (.long (((p1 &&& (1023 : Int32)) + (1 : Int32)).toInt64)), .second, .val (.int (p3 &&& (15 : Int32))), .val (.double (FP.l2d ((1 : Int64) <<< ((p3 &&& (15 : Int32)).toInt64 &&& 63)))), .second, .val (.double (FP.ddiv (FP.l2d ((100 : Int64) * (((p1 &&& (1023 : Int32)) + (1 : Int32)).toInt64))) (FP.l2d ((1 : Int64) <<< ((p3 &&& (15 : Int32)).toInt64 &&& 63))))), .second, .val (.double (FP.ddiv (FP.l2d (((100 : Int64) * (((p1 &&& (1023 : Int32)) + (1 : Int32)).toInt64)) + ((((p1 &&& (1023 : Int32)) + (1 : Int32)).toInt64) * (p2.toInt64)))) (FP.l2d ((1 : Int64) <<< ((p3 &&& (15 : Int32)).toInt64 &&& 63))))), .second, .val (.ref b56)] [(.double (FP.ddiv (FP.dmul (4636737291354636288 : UInt64) (FP.dsub (FP.ddiv (FP.l2d (((100 : Int64) * (((p1 &&& (1023 : Int32)) + (1 : Int32)).toInt64)) + ((((p1 &&& (1023 : Int32)) + (1 : Int32)).toInt64) * (p2.toInt64)))) (FP.l2d ((1 : Int64) <<< ((p3 &&& (15 : Int32)).toInt64 &&& 63)))) (FP.ddiv (FP.l2d ((100 : Int64) * (((p1 &&& (1023 : Int32)) + (1 : Int32)).toInt64))) (FP.l2d ((1 : Int64) <<< ((p3 &&& (15 : Int32)).toInt64 &&& 63)))))) (FP.ddiv (FP.l2d ((100 : Int64) * (((p1 &&& (1023 : Int32)) + (1 : Int32)).toInt64))) (FP.l2d ((1 : Int64) <<< ((p3 &&& (15 : Int32)).toInt64 &&& 63))))))])) st70 ?_
    refine own_st (T' := T70) (g' := (mkF m 134 #[.val (.int p1), .val (.int p2), .val (.int p3), .val (.int p4), .val (.long (((p1 &&& (1023 : Int32)) + (1 : Int32)).toInt64)), .second, .val (.int (p3 &&& (15 : Int32))), .val (.double (FP.l2d ((1 : Int64) <<< ((p3 &&& (15 : Int32)).toInt64 &&& 63)))), .second, .val (.double (FP.ddiv (FP.l2d ((100 : Int64) * (((p1 &&& (1023 : Int32)) + (1 : Int32)).toInt64))) (FP.l2d ((1 : Int64) <<< ((p3 &&& (15 : Int32)).toInt64 &&& 63))))), .second, .val (.double (FP.ddiv (FP.l2d (((100 : Int64) * (((p1 &&& (1023 : Int32)) + (1 : Int32)).toInt64)) + ((((p1 &&& (1023 : Int32)) + (1 : Int32)).toInt64) * (p2.toInt64)))) (FP.l2d ((1 : Int64) <<< ((p3 &&& (15 : Int32)).toInt64 &&& 63))))), .second, .val (.ref b56)] [(.int (1 : Int32))])) (fun _ kt => XS.iloadN X70.here hx rfl (hb hby at_123) rfl (XS.i2dS X70.here hx rfl (hb hby at_124) rfl rfl (XS.dcmpS X70.here hx rfl (hb hby at_125) rfl n6 (XS.ifNo X70.here hx rfl (hb hby at_126) rfl (XT.i0_ne_f (by decide)) (XS.iconst X70.here hx rfl (hb hby at_129) (XS.goto X70.here hx rfl (pc0 := 130) (pc' := 134) rfl (hb hby at_130) (by decide) (by decide) kt)))))) ?_
    obtain ⟨fs, hr, hrun, hended, hW, hsame⟩ := X70.leave (v := some (.int (1 : Int32))) (fun h => by rw [Bd.returns] at h; cases h)
    refine own_end (retN X70 hx (t := .boolean) Bd.returns (by simp) (hb hby at_134) hr) ⟨_, hrun, hended, _, _, rfl, ?_, ⟨_, rfl⟩, hW, hsame.mono (by decide) (by decide)⟩
    show own_lawQ Z p1 p2 p3 p4 h0 n0 _ T70.heap _
    rw [e70]
    exact ⟨rfl, N72⟩
set_option maxRecDepth 65536 in
set_option maxHeartbeats 40000000 in
theorem comes_1 {Post : Tables → Env → Array Value → State → Outcome → State → Prop} (hpost : ∀ tb e args s v u, (limb_1_1.after args s (.returned v) u = true ∧ limb_1_2.after args s (.returned v) u = true ∧ True) → FrameEnd s (.returned v) u (Jvm.fieldLocs frame_1_writes args s ++ Jvm.arrayLocs frame_1_arrays args s ++ Jvm.staticLocs frame_1_statics s) 16 128 → Post tb e args s (.returned v) u) :
    ArmFor flags0 classFile x code maxLocals ret World_1 tables_1 room_1 Calls_1 rest_1 Pre_1 Post := by
  intro l hfl _ _ p e ha hc hk s m args below hf hA hF happ hP
  obtain ⟨hcalls, hrest, hpre⟩ := hP
  obtain ⟨-, -, -, hnamed, -, -, -, hat⟩ := (Spec.applies_iff hf).mp happ
  obtain ⟨hg, hn⟩ := and_e (Cond.before_iff.mp (show (Jvm.Cond.and given_1 narrow_1).before args s = true from hpre))
  obtain ⟨g0, hg⟩ := and_e hg
  obtain ⟨g1, hg⟩ := and_e hg
  obtain ⟨g2, hg⟩ := and_e hg
  obtain ⟨g3, hg⟩ := and_e hg
  obtain ⟨w0, w1, w2, w3, rfl⟩ : ∃ w0 w1 w2 w3 : Value, args = #[w0, w1, w2, w3] := by
    have hs : args.size = 4 := by simpa [Cond.value, given_1] using g0
    obtain ⟨L⟩ := args
    match L, hs with
    | [w0, w1, w2, w3], _ => exact ⟨w0, w1, w2, w3, rfl⟩
  have hw := fun d (hd : d ∈ tables_1) => atoms_spec (ws := Jvm.Cond.code x code maxLocals ret :: tables_1) hat d (List.mem_cons_of_mem _ hd)
  have hfit : Fit s := fun {y c} hc i hi => by
    obtain ⟨ha, rfl⟩ := Array.getElem?_eq_some_iff.mp hc
    have q := List.all_eq_true.mp ((Array.all_eq_true_iff_forall_mem.mp hF) _ (Array.getElem_mem ha)) i (List.mem_range.mpr hi)
    simpa [Array.getElem?_eq_getElem hi] using q
  obtain ⟨i0, e0⟩ := is_v g1
  obtain rfl : w0 = (.int i0) := Option.some.inj e0
  obtain ⟨i1, e1⟩ := is_v g2
  obtain rfl : w1 = (.int i1) := Option.some.inj e1
  obtain ⟨i2, e2⟩ := is_v g3
  obtain rfl : w2 = (.int i2) := Option.some.inj e2
  obtain ⟨i3, e3⟩ := is_v hg
  obtain rfl : w3 = (.int i3) := Option.some.inj e3
  obtain ⟨n, o, h1, h2, h3, _, L, rfl, ⟨rfl, N⟩, hq⟩ := own_law l s _ hw tables_1 i0 i1 i2 i3 s.heap s.heap.size (Nat.le_refl _)  p e ha hc hk s m _ below hf ((Spec.applies_iff_loose hf).mp happ).1 ⟨rfl, State.Warmed39.refl s, rfl⟩ trivial
  refine ⟨n, _, h1, h2, h3, hpost _ _ _ _ _ _ ⟨Cond.after_iff.mpr rfl, Cond.after_iff.mpr (eq_i res_at (Term.int_eval (1)) rfl), trivial⟩ ⟨hq.1, hq.2.1, (hq.2.2.sift fun y hy => Or.inr (N y hy)).mono (by decide) (by decide)⟩⟩
theorem main_1_1 : Claimed_1_1 := comes_1 fun _ _ _ _ _ _ h hF => ⟨h.1, hF⟩
theorem main_1_2 : Claimed_1_2 := comes_1 fun _ _ _ _ _ _ h hF => ⟨h.2.1, hF⟩
end Jvm.Pilot.@@N@@
namespace Jvm.Pilot.@@N@@
open Jvm Jvm.ClassFile Sem Op Lib Jvm.Free Jvm.Stand Jvm.Pilot.@@N@@.Jvm.D
/-! MADE BY PROGRAM (witnessworld.py) out of the Statement's table words and the real class files: 10 classes; the members and pool entries that the words name. The judged class is class 1, her method 1. -/
namespace start1
open Jvm.ClassFile
def u (s : String) : CpInfo := .utf8 (stringToUtf16 s)
/-- a pool by its gaps: so many unusable entries, then the entry; so many at the end -/
def gap : Nat → List CpInfo → List CpInfo
  | 0, r => r
  | n + 1, r => .unusable :: gap n r
def poolList (es : List (Nat × CpInfo)) (last : Nat) : List CpInfo := es.foldr (fun e r => gap e.1 (e.2 :: r)) (gap last [])
def pool (es : List (Nat × CpInfo)) (last : Nat) : Array CpInfo := ⟨poolList es last⟩
def fileOf (pool : Array CpInfo) (this : Nat) (attrs : Array Attribute := #[]) (ms : Array MethodInfo := #[]) (fl : Nat := 33) (sup : Nat := 0) (ifs : Array Nat := #[]) (fds : Array FieldInfo := #[]) : ClassFile where
  minorVersion := 0
  majorVersion := 65
  constantPool := pool
  accessFlags := fl
  thisClass := this
  superClass := sup
  interfaces := ifs
  fields := fds
  methods := ms
  attributes := attrs
def plain (name : String) (sup : Option ClassId) : Class where
  name := name
  kind := .ordinary
  loader := none
  accessFlags := 33
  super := sup
  interfaces := #[]
  cf := none
  fields := #[]
  methods := #[]
  instanceTypes := #[]
  staticTypes := #[]
  resolved := #[]
  callSites := []
  init := .initialized
  statics := none
  mirror := none

def pool0 : Array CpInfo := pool [(5, u "<init>"), (0, u "()V"), (1, .class_ 10), (1, u "java/lang/Object")] 113

def k0c0 : Code := { maxStack := 0, maxLocals := 1, code := object_method_1_code, exceptionTable := #[], attributes := #[] }
def k0m0 : Method := { name := "<init>", desc := "()V", sig := { parameters := [], returnType := none }, accessFlags := 1, code := some k0c0 }
/-- java/lang/Object -/
def k0 : Class := { plain "java/lang/Object" none with
  accessFlags := 33
  interfaces := #[]
  cf := some (fileOf pool0 8 #[] #[{ accessFlags := 1, nameIndex := 5, descriptorIndex := 6, attributes := #[] }] 33 0 #[] #[])
  fields := #[]
  methods := #[k0m0]
  instanceTypes := #[]
  staticTypes := #[]
  resolved := Array.replicate 124 none
  statics := none }

def pool1 : Array CpInfo := pool [(2, .class_ 4), (1, u "java/lang/Object"), (0, u "<init>"), (0, u "()V"), (0, .class_ 8), (0, u "com/example/ask4/ask4/eval/Comparison"), (0, .methodref 7 10), (0, .nameAndType 5 11), (0, u "(IDDLcom/example/ask4/ask4/eval/PairedTTest;II)V"), (0, .methodref 7 13), (0, .nameAndType 14 15), (0, u "changePercent"), (0, u "()D"), (0, .double 9214871658872686752), (1, .long 100), (1, .class_ 21), (0, u "com/example/ask4/ask4/eval/ComparisonChangePercentPinLaw"), (2, u "law"), (0, u "(IIII)Z")] 3

def k1m0 : Method := { name := "<init>", desc := "()V", sig := { parameters := [], returnType := none }, accessFlags := 1, code := none }
def k1c1 : Code := { maxStack := 10, maxLocals := 14, code := code, exceptionTable := #[], attributes := #[] }
def k1m1 : Method := { name := "law", desc := "(IIII)Z", sig := { parameters := [.int, .int, .int, .int], returnType := some .boolean }, accessFlags := 9, code := some k1c1 }
/-- com/example/ask4/ask4/eval/ComparisonChangePercentPinLaw -/
def k1 : Class := { plain "com/example/ask4/ask4/eval/ComparisonChangePercentPinLaw" (some 0) with
  accessFlags := 49
  interfaces := #[]
  cf := some (fileOf pool1 20 #[] #[{ accessFlags := 1, nameIndex := 5, descriptorIndex := 6, attributes := #[] }, { accessFlags := 9, nameIndex := 24, descriptorIndex := 25, attributes := #[] }] 49 2 #[] #[])
  fields := #[]
  methods := #[k1m0, k1m1]
  instanceTypes := #[]
  staticTypes := #[]
  resolved := Array.replicate 29 none
  statics := none }

def pool2 : Array CpInfo := pool [(1, .methodref 2 3), (0, .class_ 4), (0, .nameAndType 5 6), (0, u "java/lang/Object"), (0, u "<init>"), (0, u "()V"), (0, .class_ 8), (0, u "java/lang/Record")] 13

def k2c0 : Code := { maxStack := 1, maxLocals := 1, code := jdk_30_method_1_code, exceptionTable := #[], attributes := #[] }
def k2m0 : Method := { name := "<init>", desc := "()V", sig := { parameters := [], returnType := none }, accessFlags := 4, code := some k2c0 }
/-- java/lang/Record -/
def k2 : Class := { plain "java/lang/Record" (some 0) with
  accessFlags := 1057
  interfaces := #[]
  cf := some (fileOf pool2 7 #[] #[{ accessFlags := 4, nameIndex := 5, descriptorIndex := 6, attributes := #[] }] 1057 2 #[] #[])
  fields := #[]
  methods := #[k2m0]
  instanceTypes := #[]
  staticTypes := #[]
  resolved := Array.replicate 22 none
  statics := none }

def pool3 : Array CpInfo := pool [(1, .methodref 2 3), (0, .class_ 4), (0, .nameAndType 5 6), (0, u "java/lang/Record"), (0, u "<init>"), (0, u "()V"), (0, .fieldref 8 9), (0, .class_ 10), (0, .nameAndType 11 12), (0, u "com/example/ask4/ask4/eval/Comparison"), (0, u "topics"), (0, u "I"), (0, .fieldref 8 14), (0, .nameAndType 15 16), (0, u "mapA"), (0, u "D"), (0, .fieldref 8 18), (0, .nameAndType 19 16), (0, u "mapB"), (0, .fieldref 8 21), (0, .nameAndType 22 23), (0, u "test"), (0, u "Lcom/example/ask4/ask4/eval/PairedTTest;"), (0, .fieldref 8 25), (0, .nameAndType 26 12), (0, u "better"), (0, .fieldref 8 28), (0, .nameAndType 29 12), (0, u "worse"), (56, u "()D"), (22, u "(IDDLcom/example/ask4/ask4/eval/PairedTTest;II)V"), (3, .double 4636737291354636288), (37, u "EQUAL"), (11, u "changePercent")] 46

def k3c0 : Code := { maxStack := 3, maxLocals := 9, code := prog_4_method_1_code, exceptionTable := #[], attributes := #[] }
def k3m0 : Method := { name := "<init>", desc := "(IDDLcom/example/ask4/ask4/eval/PairedTTest;II)V", sig := { parameters := [.int, .double, .double, (.object "com/example/ask4/ask4/eval/PairedTTest"), .int, .int], returnType := none }, accessFlags := 1, code := some k3c0 }
def k3c1 : Code := { maxStack := 6, maxLocals := 1, code := prog_4_method_4_code, exceptionTable := #[], attributes := #[] }
def k3m1 : Method := { name := "changePercent", desc := "()D", sig := { parameters := [], returnType := some .double }, accessFlags := 1, code := some k3c1 }
/-- com/example/ask4/ask4/eval/Comparison -/
def k3 : Class := { plain "com/example/ask4/ask4/eval/Comparison" (some 2) with
  accessFlags := 49
  interfaces := #[]
  cf := some (fileOf pool3 8 #[] #[{ accessFlags := 1, nameIndex := 5, descriptorIndex := 109, attributes := #[] }, { accessFlags := 1, nameIndex := 163, descriptorIndex := 86, attributes := #[] }] 49 2 #[] #[{ accessFlags := 18, nameIndex := 11, descriptorIndex := 12, attributes := #[] }, { accessFlags := 18, nameIndex := 15, descriptorIndex := 16, attributes := #[] }, { accessFlags := 18, nameIndex := 19, descriptorIndex := 16, attributes := #[] }, { accessFlags := 18, nameIndex := 22, descriptorIndex := 23, attributes := #[] }, { accessFlags := 18, nameIndex := 26, descriptorIndex := 12, attributes := #[] }, { accessFlags := 18, nameIndex := 29, descriptorIndex := 12, attributes := #[] }, { accessFlags := 25, nameIndex := 151, descriptorIndex := 16, attributes := #[] }])
  fields := #[{ name := "topics", type := .int, accessFlags := 18, slot := 0, constantValue := 0 }, { name := "mapA", type := .double, accessFlags := 18, slot := 1, constantValue := 0 }, { name := "mapB", type := .double, accessFlags := 18, slot := 2, constantValue := 0 }, { name := "test", type := (.object "com/example/ask4/ask4/eval/PairedTTest"), accessFlags := 18, slot := 3, constantValue := 0 }, { name := "better", type := .int, accessFlags := 18, slot := 4, constantValue := 0 }, { name := "worse", type := .int, accessFlags := 18, slot := 5, constantValue := 0 }, { name := "EQUAL", type := .double, accessFlags := 25, slot := 0, constantValue := 0 }]
  methods := #[k3m0, k3m1]
  instanceTypes := #[.int, .double, .double, (.object "com/example/ask4/ask4/eval/PairedTTest"), .int, .int]
  staticTypes := #[.double]
  resolved := Array.replicate 210 none
  statics := none }

def pool4 : Array CpInfo := pool [(1, u "java/lang/Cloneable"), (0, .class_ 1), (0, u "java/lang/Object"), (0, .class_ 3)] 3

/-- java/lang/Cloneable -/
def k4 : Class := { plain "java/lang/Cloneable" (some 0) with
  accessFlags := 1537
  interfaces := #[]
  cf := some (fileOf pool4 2 #[] #[] 1537 4 #[] #[])
  fields := #[]
  methods := #[]
  instanceTypes := #[]
  staticTypes := #[]
  resolved := Array.replicate 8 none
  statics := none }

def pool5 : Array CpInfo := pool [(1, u "java/io/Serializable"), (0, .class_ 1), (0, u "java/lang/Object"), (0, .class_ 3)] 3

/-- java/io/Serializable -/
def k5 : Class := { plain "java/io/Serializable" (some 0) with
  accessFlags := 1537
  interfaces := #[]
  cf := some (fileOf pool5 2 #[] #[] 1537 4 #[] #[])
  fields := #[]
  methods := #[]
  instanceTypes := #[]
  staticTypes := #[]
  resolved := Array.replicate 8 none
  statics := none }

/-- the primitive byte -/
def k6 : Class := { plain "byte" none with kind := .primitive 'B', accessFlags := 0x411 }
/-- [B -/
def k7 : Class := { plain "[B" (some 0) with kind := .array 6 .byte, interfaces := #[4, 5], accessFlags := 1041 }

/-- the primitive int -/
def k8 : Class := { plain "int" none with kind := .primitive 'I', accessFlags := 0x411 }
/-- [I -/
def k9 : Class := { plain "[I" (some 0) with kind := .array 8 .int, interfaces := #[4, 5], accessFlags := 1041 }

def heap : Heap := #[]
def classes : Array Class := #[k0, k1, k2, k3, k4, k5, k6, k7, k8, k9]
def interned : List (Array UInt16 × Addr) := []
def slotsUsed : Nat := 0
def theMethod : MethodId := ⟨1, 1⟩
def args0 : Array Value := #[.int 5, .int 5, .int 5, .int 5]
def aboutOver (below : List Frame) : State where
  vm := { classes := classes, interned := interned.toArray }
  heap := heap
  slotsUsed := slotsUsed
  threads := #[{ frames := .invoking theMethod args0 :: below }]
def below0 : List Frame := [.native { method := ⟨0, 0⟩, args := #[] }]
def about1 : State := aboutOver below0
def p0 : Program := .bare "" "" ""
def e0 : Env := launch0.env 0 0 0
theorem w_frames : about1.frames = Frame.invoking theMethod args0 :: below0 := rfl
set_option maxRecDepth 65536 in
theorem w_args : argsFit about1.vm theMethod args0 = true := by decide +kernel
set_option maxRecDepth 65536 in
theorem w_heap : heapFits about1 = true := by decide +kernel
set_option maxRecDepth 65536 in
theorem w_runnable : about1.curStatus? = some .runnable := by decide +kernel
set_option maxRecDepth 65536 in
theorem w_alone : about1.alone = true := by decide +kernel
set_option maxRecDepth 65536 in
theorem w_named : about1.methodNamed? x = some theMethod := by decide +kernel
set_option maxRecDepth 65536 in
theorem w_hears : about1.hears theMethod below0 = true := by decide +kernel
set_option maxRecDepth 65536 in
theorem w_ripe : about1.ripe theMethod args0 below0 = true := by decide +kernel
theorem w_running : about1.status = .running := rfl
set_option maxRecDepth 65536 in
theorem w_room : about1.hasRoom e0.platform room_1 = true :=
  launch0.hasRoom_least _ room_1 (by decide +kernel) (by decide +kernel) (by decide +kernel) (by decide +kernel) (by decide +kernel) (by decide +kernel)
theorem allAtoms_all (ts : List Jvm.Cond) (a : Array Jvm.Value) (st : Jvm.State) : (allAtoms ts).before a st = ts.all (fun c => c.before a st) := by
  induction ts with
  | nil => rfl
  | cons c t ih =>
    show (Jvm.Cond.and c (allAtoms t)).before a st = _
    rw [Jvm.Cond.before_and, ih, List.all_cons]
def words1 : List Jvm.Cond := Jvm.Cond.code x code maxLocals ret :: tables_1
/-- a 'code' word, met by the world's own term for the bytes: nothing is compared byte by byte -/
theorem code_word {y : MethodName} {bytes : ByteArray} {mx : Nat} {rt : Option FieldType} {a : Array Value} {s : State} {m : MethodId} {meth : Method} {c : Code} (h1 : s.methodNamed? y = some m) (h2 : s.vm.method? m = some meth) (h3 : meth.code = some c) (h4 : c.code = bytes)
    (h5 : (c.maxLocals == mx && c.exceptionTable.isEmpty && decide (c.maxStack ≤ mostOperands) && decide (meth.sig.returnType = rt) && !meth.locks && decide (parseMethodDescriptor y.desc = some meth.sig)) = true) : (Jvm.Cond.code y bytes mx rt).before a s = true := by
  simp only [Bool.and_eq_true, beq_iff_eq, Bool.not_eq_true', decide_eq_true_eq] at h5
  obtain ⟨⟨⟨⟨⟨g1, g2⟩, g3⟩, g4⟩, g5⟩, g6⟩ := h5
  simp [Cond.before, Cond.holds, Cond.value, h1, h2, h3, h4, g1, g2, g3, g4, g5, g6]
def isCode : Jvm.Cond → Bool
  | .code _ _ _ _ => true
  | _ => false
theorem all_split {L : List Jvm.Cond} {P : Jvm.Cond → Bool} (h1 : L.all (fun c => isCode c || P c) = true) (h2 : ∀ c ∈ L.filter isCode, P c = true) : L.all P = true := by
  refine List.all_eq_true.mpr fun c hc => ?_
  have h := List.all_eq_true.mp h1 c hc
  rcases Bool.eq_false_or_eq_true (isCode c) with hi | hi
  · exact h2 c (List.mem_filter.mpr ⟨hc, hi⟩)
  · simpa [hi] using h
set_option maxRecDepth 65536 in
theorem w_c0 : (Jvm.Cond.code x code maxLocals ret).before args0 about1 = true := code_word (m := ⟨1, 1⟩) (meth := k1m1) (c := k1c1) (by decide +kernel) rfl rfl rfl (by decide +kernel)
set_option maxRecDepth 65536 in
theorem w_c1 : (Jvm.Cond.code ({ cls := "com/example/ask4/ask4/eval/Comparison", name := "<init>", desc := "(IDDLcom/example/ask4/ask4/eval/PairedTTest;II)V" } : Jvm.MethodName) prog_4_method_1_code (9 : Nat) (Option.none : Option Jvm.ClassFile.FieldType)).before args0 about1 = true := code_word (m := ⟨3, 0⟩) (meth := k3m0) (c := k3c0) (by decide +kernel) rfl rfl rfl (by decide +kernel)
set_option maxRecDepth 65536 in
theorem w_c2 : (Jvm.Cond.code ({ cls := "java/lang/Record", name := "<init>", desc := "()V" } : Jvm.MethodName) jdk_30_method_1_code (1 : Nat) (Option.none : Option Jvm.ClassFile.FieldType)).before args0 about1 = true := code_word (m := ⟨2, 0⟩) (meth := k2m0) (c := k2c0) (by decide +kernel) rfl rfl rfl (by decide +kernel)
set_option maxRecDepth 65536 in
theorem w_c3 : (Jvm.Cond.code ({ cls := "java/lang/Object", name := "<init>", desc := "()V" } : Jvm.MethodName) object_method_1_code (1 : Nat) (Option.none : Option Jvm.ClassFile.FieldType)).before args0 about1 = true := code_word (m := ⟨0, 0⟩) (meth := k0m0) (c := k0c0) (by decide +kernel) rfl rfl rfl (by decide +kernel)
set_option maxRecDepth 65536 in
theorem w_c4 : (Jvm.Cond.code ({ cls := "com/example/ask4/ask4/eval/Comparison", name := "changePercent", desc := "()D" } : Jvm.MethodName) prog_4_method_4_code (1 : Nat) (Option.some Jvm.ClassFile.FieldType.double)).before args0 about1 = true := code_word (m := ⟨3, 1⟩) (meth := k3m1) (c := k3c1) (by decide +kernel) rfl rfl rfl (by decide +kernel)
def codes1 : List Jvm.Cond := [Jvm.Cond.code x code maxLocals ret, Jvm.Cond.code ({ cls := "com/example/ask4/ask4/eval/Comparison", name := "<init>", desc := "(IDDLcom/example/ask4/ask4/eval/PairedTTest;II)V" } : Jvm.MethodName) prog_4_method_1_code (9 : Nat) (Option.none : Option Jvm.ClassFile.FieldType), Jvm.Cond.code ({ cls := "java/lang/Record", name := "<init>", desc := "()V" } : Jvm.MethodName) jdk_30_method_1_code (1 : Nat) (Option.none : Option Jvm.ClassFile.FieldType), Jvm.Cond.code ({ cls := "java/lang/Object", name := "<init>", desc := "()V" } : Jvm.MethodName) object_method_1_code (1 : Nat) (Option.none : Option Jvm.ClassFile.FieldType), Jvm.Cond.code ({ cls := "com/example/ask4/ask4/eval/Comparison", name := "changePercent", desc := "()D" } : Jvm.MethodName) prog_4_method_4_code (1 : Nat) (Option.some Jvm.ClassFile.FieldType.double)]
set_option maxRecDepth 65536 in
theorem codes_eq : words1.filter isCode = codes1 := rfl
theorem w_codes : ∀ c ∈ words1.filter isCode, c.before args0 about1 = true := by
  rw [codes_eq]
  intro c hc
  simp only [codes1, List.mem_cons, List.not_mem_nil, or_false] at hc
  rcases hc with rfl | rfl | rfl | rfl | rfl
  · exact w_c0
  · exact w_c1
  · exact w_c2
  · exact w_c3
  · exact w_c4
set_option maxRecDepth 65536 in
theorem w_t1 : (words1.take 24).all (fun c => isCode c || c.before args0 about1) = true := by decide +kernel
set_option maxRecDepth 65536 in
theorem w_t2 : (words1.drop 24).all (fun c => isCode c || c.before args0 about1) = true := by decide +kernel
theorem w_tables : (allAtoms (Jvm.Cond.code x code maxLocals ret :: tables_1)).before args0 about1 = true := by
  rw [allAtoms_all]
  show words1.all (fun c => c.before args0 about1) = true
  refine all_split ?_ w_codes
  rw [← List.take_append_drop 24 words1, List.all_append, w_t1, w_t2]
  rfl
set_option maxRecDepth 65536 in
theorem w_case : (Jvm.Cond.and given_1 narrow_1).before args0 about1 = true := by decide +kernel
theorem w_applies : (headSpec (Jvm.Cond.code x code maxLocals ret :: tables_1) room_1).applies x e0.platform about1 = true :=
  (Spec.applies_iff w_frames).mpr ⟨w_running, w_runnable, w_alone, w_named, w_hears, w_ripe, w_room, w_tables⟩
theorem atStart : AtStart classFile x code maxLocals ret World_1 tables_1 room_1 Calls_1 rest_1 Pre_1 launch0 p0 e0 about1 theMethod args0 below0 :=
  ⟨lists_1, trivial, launch0.admits_env _ _ _, launch0.least_env, fairChoices_fair.cas, fairChoices_fair.clock, w_frames, w_args, w_heap, w_applies, trivial, trivial, w_case⟩
end start1
theorem witness_1 : WitnessClaimed_1 := ⟨start1.p0, start1.e0, start1.about1, start1.theMethod, start1.args0, start1.below0, start1.atStart⟩
end Jvm.Pilot.@@N@@
