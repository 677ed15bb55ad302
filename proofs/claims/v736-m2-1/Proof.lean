import JvmDerived
import JvmDerived.Pilot.@@N@@Statement
import JvmDerived.Pilot.@@N@@Code
set_option linter.unusedVariables false
set_option linter.unusedSimpArgs false
namespace Jvm.Pilot.@@N@@
open Jvm Jvm.ClassFile Sem Op Lib Jvm.Free Jvm.Stand Jvm.LawKit Jvm.RoadKit Bundle Jvm.Pilot.@@N@@.Jvm.D
theorem own_k {Z : State} {a0 : Array Value} (hw : ∀ d ∈ tables_1, d.before a0 Z = true) {d : Jvm.Cond} (i : Nat) (h : tables_1[i]? = some d) : d.before a0 Z = true := hw d (List.mem_of_getElem? h)
theorem own_nn32 {n : Nat} (h : n < 2147483648) : ¬ Int32.ofNat n < 0 := by
  rw [Int32.lt_iff_toInt_lt, Int32.toInt_ofNat_of_lt (by omega), show (0 : Int32).toInt = 0 from rfl]
  omega
/-- from here the run ends as F says -/
def own_G (p : Program) (e : Env) (below : List Frame) (T : State) (g : JFrame) (F : State → Prop) : Prop := ∃ s₂, Steps p.tables e below (T.setTop g) s₂ ∧ F s₂
theorem own_st {p : Program} {e : Env} {below : List Frame} {T T' : State} {g g' : JFrame} {F : State → Prop} (h : ∀ target, Steps p.tables e below (T'.setTop g') target → Steps p.tables e below (T.setTop g) target) (k : own_G p e below T' g' F) : own_G p e below T g F := by
  obtain ⟨s2, a, b⟩ := k
  exact ⟨s2, h _ a, b⟩
theorem own_tr {p : Program} {e : Env} {below : List Frame} {T T' : State} {g g' : JFrame} {F : State → Prop} (h : Steps p.tables e below (T.setTop g) (T'.setTop g')) (k : own_G p e below T' g' F) : own_G p e below T g F := by
  obtain ⟨s2, a, b⟩ := k
  exact ⟨s2, h.trans a, b⟩
theorem own_end {p : Program} {e : Env} {below : List Frame} {T s2 : State} {g : JFrame} {F : State → Prop} (h : Steps p.tables e below (T.setTop g) s2) (k : F s2) : own_G p e below T g F := ⟨s2, h, k⟩
theorem own_join {α : Type} {p : Program} {e : Env} {below : List Frame} {T : State} {g : JFrame} {gj : α → JFrame} {P : α → Prop} {F : State → Prop} (k : ∀ q, P q → own_G p e below T (gj q) F) (h : (∀ q, P q → own_G p e below T (gj q) F) → own_G p e below T g F) : own_G p e below T g F := h k
abbrev own_E (s : State) (below : List Frame) (R : Room) (Q : Option Value → Heap → List Loc → Prop) : State → Prop := fun s₂ => ∃ o, s₂.status = .running ∧ Ended s₂ below o ∧ ∃ v L, o = .returned v ∧ Q v s₂.heap L ∧ FrameEnd s o s₂ L R.cells R.slots
abbrev own_EndW (s : State) (below : List Frame) (R : Room) (Q : Option Value → Heap → List Loc → Prop) : State → Prop := fun s₂ => ∃ o, s₂.status = .running ∧ Ended s₂ below o ∧ ∃ v L, o = .returned v ∧ Q v s₂.heap L ∧ ReturnedEndW s o s₂ L R.cells R.slots
abbrev own_EndH (Z : State) (EL : List (String × Nat)) (s : State) (below : List Frame) (R : Room) (Q : Option Value → Heap → List Loc → Prop) : State → Prop := fun s₂ => ∃ o, s₂.status = .running ∧ Ended s₂ below o ∧ ∃ v L, o = .returned v ∧ Q v s₂.heap L ∧ CHr Z EL s.vm s.heap s₂.vm s₂.heap ∧ ReturnedEndW s o s₂ L R.cells R.slots
abbrev own_M (l : Launch) (y : MethodName) (bs : ByteArray) (ml : Nat) (rt : Option FieldType) (ws : List Jvm.Cond) (R : Room) (as' : Array Value) (Z : State) (h0 : Heap) (Q : Option Value → Heap → List Loc → Prop) : Prop :=
  MetFree l y (head1 (Jvm.Cond.code y bs ml rt :: ws) R) (fun av U => av = as' ∧ Z.Warmed39 U.vm ∧ U.heap = h0) (fun _ _ _ _ _ => True) (fun _ U o U' => ∃ v L, o = .returned v ∧ Q v U'.heap L ∧ FrameEnd U o U' L R.cells R.slots)
abbrev own_MW (l : Launch) (y : MethodName) (bs : ByteArray) (ml : Nat) (rt : Option FieldType) (ws : List Jvm.Cond) (R : Room) (as' : Array Value) (Z : State) (h0 : Heap) (Q : Option Value → Heap → List Loc → Prop) : Prop :=
  MetFree l y (head1 (Jvm.Cond.code y bs ml rt :: ws) R) (fun av U => av = as' ∧ Z.Warmed39 U.vm ∧ U.heap = h0) (fun _ _ _ _ _ => True) (fun _ U o U' => ∃ v L, o = .returned v ∧ Q v U'.heap L ∧ ReturnedEndW U o U' L R.cells R.slots)
abbrev own_MH (EL : List (String × Nat)) (l : Launch) (y : MethodName) (bs : ByteArray) (ml : Nat) (rt : Option FieldType) (ws : List Jvm.Cond) (R : Room) (as' : Array Value) (Z : State) (h0 : Heap) (Q : Option Value → Heap → List Loc → Prop) : Prop :=
  MetFree l y (head1 (Jvm.Cond.code y bs ml rt :: ws) R) (fun av U => av = as' ∧ Z.Warmed39 U.vm ∧ U.heap = h0 ∧ CHv Z EL U.vm h0) (fun _ _ _ _ _ => True) (fun _ U o U' => ∃ v L, o = .returned v ∧ Q v U'.heap L ∧ CHr Z EL U.vm U.heap U'.vm U'.heap ∧ ReturnedEndW U o U' L R.cells R.slots)
theorem own_go {l : Launch} {y : MethodName} {bs : ByteArray} {ml : Nat} {rt : Option FieldType} {ws : List Jvm.Cond} {R : Room} {as' : Array Value} {Z : State} {h0 : Heap} {Q : Option Value → Heap → List Loc → Prop} (hpn : plainFor y = true) {ff : MethodId → JFrame} (hff : ∀ m, entryFrame m as' ml = ff m)
    (body : ∀ p e s m below meth c s₁, BodyLoose p l y (head1 (Jvm.Cond.code y bs ml rt :: ws) R) bs ml rt e s m as' below meth c s₁ → p.tables.exec = Jvm.exec → c.code = bs → c.maxLocals = ml → Z.Warmed39 s.vm → s.heap = h0 → s.vm.findClass y.cls = some m.cls → meth.name = y.name → Stand p l e R s m as' below meth c s₁ [] 0 0 → s₁.heap = h0 → own_G p e below s₁ (ff m) (own_E s below R Q)) : own_M l y bs ml rt ws R as' Z h0 Q := by
  refine MetFree.of_bodySF hpn hisR ?_
  intro p e s m args below meth c s₁ Bd hml0 hP hK
  obtain ⟨rfl, hZ, hh⟩ := hP
  obtain ⟨s2, g1, o, g2⟩ := body p e s m below meth c s₁ Bd Bd.exec Bd.bytes hml0 hZ hh (findClass_of_methodNamed Bd.named) (name_of_methodNamed Bd.named Bd.method).1 (Stand.of_body Bd) (by rw [← hh, Bd.state]; rfl)
  exact ⟨s2, o, castTop (hff m) g1, g2⟩
theorem own_goW {l : Launch} {y : MethodName} {bs : ByteArray} {ml : Nat} {rt : Option FieldType} {ws : List Jvm.Cond} {R : Room} {as' : Array Value} {Z : State} {h0 : Heap} {Q : Option Value → Heap → List Loc → Prop} (hpn : plainFor y = true) {ff : MethodId → JFrame} (hff : ∀ m, entryFrame m as' ml = ff m)
    (body : ∀ p e s m below meth c s₁, BodyLoose p l y (head1 (Jvm.Cond.code y bs ml rt :: ws) R) bs ml rt e s m as' below meth c s₁ → p.tables.exec = Jvm.exec → c.code = bs → c.maxLocals = ml → Z.Warmed39 s.vm → s.heap = h0 → s.vm.findClass y.cls = some m.cls → meth.name = y.name → Stand p l e R (s.setVm s.vm) m as' below meth c s₁ [] 0 0 → s₁.heap = h0 → s.Since s.vm h0.size → own_G p e below s₁ (ff m) (own_EndW s below R Q)) : own_MW l y bs ml rt ws R as' Z h0 Q := by
  refine MetFree.of_bodySF hpn hisR ?_
  intro p e s m args below meth c s₁ Bd hml0 hP hK
  obtain ⟨rfl, hZ, hh⟩ := hP
  obtain ⟨s2, g1, o, g2⟩ := body p e s m below meth c s₁ Bd Bd.exec Bd.bytes hml0 hZ hh (findClass_of_methodNamed Bd.named) (name_of_methodNamed Bd.named Bd.method).1 (Stand.of_body Bd) (by rw [← hh, Bd.state]; rfl) ((State.WarmedH.refl s).since _)
  exact ⟨s2, o, castTop (hff m) g1, g2⟩
theorem own_goH {EL : List (String × Nat)} {l : Launch} {y : MethodName} {bs : ByteArray} {ml : Nat} {rt : Option FieldType} {ws : List Jvm.Cond} {R : Room} {as' : Array Value} {Z : State} {h0 : Heap} {Q : Option Value → Heap → List Loc → Prop} (hpn : plainFor y = true) {ff : MethodId → JFrame} (hff : ∀ m, entryFrame m as' ml = ff m)
    (body : ∀ p e s m below meth c s₁, BodyLoose p l y (head1 (Jvm.Cond.code y bs ml rt :: ws) R) bs ml rt e s m as' below meth c s₁ → p.tables.exec = Jvm.exec → c.code = bs → c.maxLocals = ml → Z.Warmed39 s.vm → s.heap = h0 → s.vm.findClass y.cls = some m.cls → meth.name = y.name → Stand p l e R (s.setVm s.vm) m as' below meth c s₁ [] 0 0 → s₁.heap = h0 → s.Since s.vm h0.size → CHr Z EL s.vm h0 s.vm h0 → own_G p e below s₁ (ff m) (own_EndH Z EL s below R Q)) : own_MH EL l y bs ml rt ws R as' Z h0 Q := by
  refine MetFree.of_bodySF hpn hisR ?_
  intro p e s m args below meth c s₁ Bd hml0 hP hK
  obtain ⟨rfl, hZ, hh, hCH⟩ := hP
  obtain ⟨s2, g1, o, g2⟩ := body p e s m below meth c s₁ Bd Bd.exec Bd.bytes hml0 hZ hh (findClass_of_methodNamed Bd.named) (name_of_methodNamed Bd.named Bd.method).1 (Stand.of_body Bd) (by rw [← hh, Bd.state]; rfl) ((State.WarmedH.refl s).since _) (CHr.refl hCH)
  exact ⟨s2, o, castTop (hff m) g1, g2⟩
theorem own_pop2 {tb : Tables} [Ours tb] {e : Env} {below : List Frame} {T target : State} {m : MethodId} {c : Code} {g : JFrame} (h : At T m c below) (hx : tb.exec = Jvm.exec) (hg : g.method = m) {x : Value} {rest : List Value} (hd : decode c.code g.pc = .ok (.pop2, 1)) (hs : g.stack = x :: rest) (hc : x.category = 2)
    (hr : Steps tb e below (T.setTop { g with pc := g.pc + 1, stack := rest }) target) : Steps tb e below (T.setTop g) target := by
  subst hg
  jvm_step h [h.top, hx, hd, hs, hc]
  exact hr
section Own
variable {p : Program} {l : Launch} {e : Env} {R : Room} {s : State} {m : MethodId} {args : Array Value} {below : List Frame} {meth : Method} {c : Code} {T : State} {locs : List Loc} {cells slots : Nat} {Z : State} {h h' : Heap} {a : Addr} {k : ClassId} {ty : FieldType} {z j : Int32} {vs : List Value} {d v : Value} {g : JFrame} {rest : List Value}
theorem own_joinT {α : Type} {gj : α → JFrame} {P : α → Prop} {F : State → Prop} (X : Stand p l e R s m args below meth c T locs cells slots) (eT : T.heap = h)
    (k : ∀ T' q, P q → Stand p l e R s m args below meth c T' locs cells slots → T'.heap = h → own_G p e below T' (gj q) F) (r : (∀ T' q, P q → Stand p l e R s m args below meth c T' locs cells slots → T'.heap = h → own_G p e below T' (gj q) F) → own_G p e below T g F) : own_G p e below T g F := r k
theorem own_loop {α : Type} {gj : α → JFrame} {P : Nat → α → Prop} {F : State → Prop} (X : Stand p l e R s m args below meth c T locs cells slots) (eT : T.heap = h)
    (k : ∀ n, (∀ i, i < n → ∀ T' q, P i q → Stand p l e R s m args below meth c T' locs cells slots → T'.heap = h → own_G p e below T' (gj q) F) → ∀ T' q, P n q → Stand p l e R s m args below meth c T' locs cells slots → T'.heap = h → own_G p e below T' (gj q) F)
    (r : (∀ n T' q, P n q → Stand p l e R s m args below meth c T' locs cells slots → T'.heap = h → own_G p e below T' (gj q) F) → own_G p e below T g F) : own_G p e below T g F :=
  r fun n => Nat.strongRecOn n fun n ih => k n ih
theorem own_joinH {α : Type} {gj : α → JFrame} {P : List Loc → Heap → α → Prop} {F : State → Prop} {cells' slots' : Nat} (X : Stand p l e R s m args below meth c T locs cells slots)
    (k : ∀ T' L h' q, P L h' q → Stand p l e R s m args below meth c T' L cells' slots' → T'.heap = h' → own_G p e below T' (gj q) F) (r : (∀ T' L h' q, P L h' q → Stand p l e R s m args below meth c T' L cells' slots' → T'.heap = h' → own_G p e below T' (gj q) F) → own_G p e below T g F) : own_G p e below T g F := r k
theorem own_joinHV {α : Type} {gj : α → JFrame} {P : Vm → Nat → List Loc → Heap → α → Prop} {F : State → Prop} {cells' slots' : Nat} {vm0 : Vm} (X : Stand p l e R (s.setVm vm0) m args below meth c T locs cells slots)
    (k : ∀ vm1 k1 T' L h' q, P vm1 k1 L h' q → Stand p l e R (s.setVm vm1) m args below meth c T' L cells' slots' → T'.heap = h' → own_G p e below T' (gj q) F) (r : (∀ vm1 k1 T' L h' q, P vm1 k1 L h' q → Stand p l e R (s.setVm vm1) m args below meth c T' L cells' slots' → T'.heap = h' → own_G p e below T' (gj q) F) → own_G p e below T g F) : own_G p e below T g F := r k
theorem own_alen (X : Stand p l e R s m args below meth c T locs cells slots) (hx : p.tables.exec = Jvm.exec) (hZ : Z.Warmed39 s.vm) (eT : T.heap = h) (F : Arv Z h a k ty z vs d) (hg : g.method = m) (hs : g.stack = .ref a :: rest) (hd : decode c.code g.pc = .ok (.arraylength, 1)) :
    ∀ target, Steps p.tables e below (T.setTop { g with pc := g.pc + 1, stack := .int z :: rest }) target → Steps p.tables e below (T.setTop g) target := by
  obtain ⟨cl, A, -, S, M, -⟩ := F
  intro target hr
  refine X.arraylength hx (cell := cl) (by rw [eT]; exact A.1) (State.isArrayOf_alike hZ.alike A.2.1) hg hs hd target ?_
  rw [len_of S M]; exact hr
theorem own_ial (X : Stand p l e R s m args below meth c T locs cells slots) (hx : p.tables.exec = Jvm.exec) (hZ : Z.Warmed39 s.vm) (eT : T.heap = h) (F : Arv Z h a k .int z vs d) (hj : ¬ j < 0 ∧ j < z) (hv : vs.getD j.toNatClampNeg d = v) (hg : g.method = m) (hs : g.stack = .int j :: .ref a :: rest) (hd : decode c.code g.pc = .ok (.iaload, 1)) :
    ∀ target, Steps p.tables e below (T.setTop { g with pc := g.pc + 1, stack := v :: rest }) target → Steps p.tables e below (T.setTop g) target := by
  obtain ⟨cl, A, -, S, M, H, -⟩ := F
  intro target hr
  exact X.iaload hx (by rw [eT]; exact A.1) (State.isArrayOf_alike hZ.alike A.2.1) A.2.2 (inb_of S hj) (H.at (inb_of S hj) hv) hg hs hd target hr
theorem own_cal (X : Stand p l e R s m args below meth c T locs cells slots) (hx : p.tables.exec = Jvm.exec) (hZ : Z.Warmed39 s.vm) (eT : T.heap = h) (F : Arv Z h a k .char z vs d) (hj : ¬ j < 0 ∧ j < z) (hv : vs.getD j.toNatClampNeg d = v) (hg : g.method = m) (hs : g.stack = .int j :: .ref a :: rest) (hd : decode c.code g.pc = .ok (.caload, 1)) :
    ∀ target, Steps p.tables e below (T.setTop { g with pc := g.pc + 1, stack := v :: rest }) target → Steps p.tables e below (T.setTop g) target := by
  obtain ⟨cl, A, -, S, M, H, -⟩ := F
  intro target hr
  exact X.caload hx (by rw [eT]; exact A.1) (State.isArrayOf_alike hZ.alike A.2.1) A.2.2 (inb_of S hj) (H.at (inb_of S hj) hv) hg hs hd target hr
theorem own_bal (X : Stand p l e R s m args below meth c T locs cells slots) (hx : p.tables.exec = Jvm.exec) (hZ : Z.Warmed39 s.vm) (eT : T.heap = h) (F : Arv Z h a k .byte z vs d) (hj : ¬ j < 0 ∧ j < z) (hv : vs.getD j.toNatClampNeg d = v) (hg : g.method = m) (hs : g.stack = .int j :: .ref a :: rest) (hd : decode c.code g.pc = .ok (.baload, 1)) :
    ∀ target, Steps p.tables e below (T.setTop { g with pc := g.pc + 1, stack := v :: rest }) target → Steps p.tables e below (T.setTop g) target := by
  obtain ⟨cl, A, -, S, M, H, -⟩ := F
  intro target hr
  exact X.baloadBytes hx (by rw [eT]; exact A.1) (State.isArrayOf_alike hZ.alike A.2.1) A.2.2 (inb_of S hj) (H.at (inb_of S hj) hv) hg hs hd target hr
theorem own_lal (X : Stand p l e R s m args below meth c T locs cells slots) (hx : p.tables.exec = Jvm.exec) (hZ : Z.Warmed39 s.vm) (eT : T.heap = h) (F : Arv Z h a k .long z vs d) (hj : ¬ j < 0 ∧ j < z) (hv : vs.getD j.toNatClampNeg d = v) (hg : g.method = m) (hs : g.stack = .int j :: .ref a :: rest) (hd : decode c.code g.pc = .ok (.laload, 1)) :
    ∀ target, Steps p.tables e below (T.setTop { g with pc := g.pc + 1, stack := v :: rest }) target → Steps p.tables e below (T.setTop g) target := by
  obtain ⟨cl, A, -, S, M, H, -⟩ := F
  intro target hr
  exact X.laload hx (by rw [eT]; exact A.1) (State.isArrayOf_alike hZ.alike A.2.1) A.2.2 (inb_of S hj) (H.at (inb_of S hj) hv) hg hs hd target hr
theorem own_dal (X : Stand p l e R s m args below meth c T locs cells slots) (hx : p.tables.exec = Jvm.exec) (hZ : Z.Warmed39 s.vm) (eT : T.heap = h) (F : Arv Z h a k .double z vs d) (hj : ¬ j < 0 ∧ j < z) (hv : vs.getD j.toNatClampNeg d = v) (hg : g.method = m) (hs : g.stack = .int j :: .ref a :: rest) (hd : decode c.code g.pc = .ok (.daload, 1)) :
    ∀ target, Steps p.tables e below (T.setTop { g with pc := g.pc + 1, stack := v :: rest }) target → Steps p.tables e below (T.setTop g) target := by
  obtain ⟨cl, A, -, S, M, H, -⟩ := F
  intro target hr
  exact X.daload hx (by rw [eT]; exact A.1) (State.isArrayOf_alike hZ.alike A.2.1) A.2.2 (inb_of S hj) (H.at (inb_of S hj) hv) hg hs hd target hr
theorem own_aal (X : Stand p l e R s m args below meth c T locs cells slots) (hx : p.tables.exec = Jvm.exec) (hZ : Z.Warmed39 s.vm) (eT : T.heap = h) (F : Arv Z h a k ty z vs d) (hty : ty.isReference = true) (hj : ¬ j < 0 ∧ j < z) (hv : vs.getD j.toNatClampNeg d = v) (hg : g.method = m) (hs : g.stack = .int j :: .ref a :: rest) (hd : decode c.code g.pc = .ok (.aaload, 1)) :
    ∀ target, Steps p.tables e below (T.setTop { g with pc := g.pc + 1, stack := v :: rest }) target → Steps p.tables e below (T.setTop g) target := by
  obtain ⟨cl, A, -, S, M, H, -⟩ := F
  intro target hr
  exact X.aaload hx (by rw [eT]; exact A.1) (State.isArrayOf_alike hZ.alike A.2.1) hty A.2.2 (inb_of S hj) (H.at (inb_of S hj) hv) hg hs hd target hr
theorem own_ist (X : Stand p l e R s m args below meth c T locs cells slots) (hx : p.tables.exec = Jvm.exec) (hZ : Z.Warmed39 s.vm) (eT : T.heap = h) (F : Arv Z h a k .int z vs d) (hj : ¬ j < 0 ∧ j < z) {i : Nat} (hi : j.toNatClampNeg = i) (hl : i < vs.length) {x : Int32} (hg : g.method = m) (hs : g.stack = .int x :: .int j :: .ref a :: rest) (hd : decode c.code g.pc = .ok (.iastore, 1)) :
    ∃ T' h', Stand p l e R s m args below meth c T' (locs ++ [⟨a, j.toNatClampNeg⟩]) cells slots ∧ T'.heap = h' ∧ Wr h h' a j.toNatClampNeg (.int x) ∧ Arv Z h' a k .int z (vs.set i (.int x)) d ∧ ∀ target, Steps p.tables e below (T'.setTop { g with pc := g.pc + 1, stack := rest }) target → Steps p.tables e below (T.setTop g) target := by
  obtain ⟨cl, A, q, S, M, H, G⟩ := F
  obtain ⟨T', h', X', e', W, st⟩ := stI X hx hZ eT A (inb_of S hj) hg hs hd
  exact ⟨T', h', X', e', W, Arv.set A q S M H G rfl W i hi hl, st⟩
theorem own_lst (X : Stand p l e R s m args below meth c T locs cells slots) (hx : p.tables.exec = Jvm.exec) (hZ : Z.Warmed39 s.vm) (eT : T.heap = h) (F : Arv Z h a k .long z vs d) (hj : ¬ j < 0 ∧ j < z) {i : Nat} (hi : j.toNatClampNeg = i) (hl : i < vs.length) {x : Int64} (hg : g.method = m) (hs : g.stack = .long x :: .int j :: .ref a :: rest) (hd : decode c.code g.pc = .ok (.lastore, 1)) :
    ∃ T' h', Stand p l e R s m args below meth c T' (locs ++ [⟨a, j.toNatClampNeg⟩]) cells slots ∧ T'.heap = h' ∧ Wr h h' a j.toNatClampNeg (.long x) ∧ Arv Z h' a k .long z (vs.set i (.long x)) d ∧ ∀ target, Steps p.tables e below (T'.setTop { g with pc := g.pc + 1, stack := rest }) target → Steps p.tables e below (T.setTop g) target := by
  obtain ⟨cl, A, q, S, M, H, G⟩ := F
  obtain ⟨T', h', X', e', W, st⟩ := stJ X hx hZ eT A (inb_of S hj) hg hs hd
  exact ⟨T', h', X', e', W, Arv.set A q S M H G rfl W i hi hl, st⟩
theorem own_dst (X : Stand p l e R s m args below meth c T locs cells slots) (hx : p.tables.exec = Jvm.exec) (hZ : Z.Warmed39 s.vm) (eT : T.heap = h) (F : Arv Z h a k .double z vs d) (hj : ¬ j < 0 ∧ j < z) {i : Nat} (hi : j.toNatClampNeg = i) (hl : i < vs.length) {x : UInt64} (hg : g.method = m) (hs : g.stack = .double x :: .int j :: .ref a :: rest) (hd : decode c.code g.pc = .ok (.dastore, 1)) :
    ∃ T' h', Stand p l e R s m args below meth c T' (locs ++ [⟨a, j.toNatClampNeg⟩]) cells slots ∧ T'.heap = h' ∧ Wr h h' a j.toNatClampNeg (.double x) ∧ Arv Z h' a k .double z (vs.set i (.double x)) d ∧ ∀ target, Steps p.tables e below (T'.setTop { g with pc := g.pc + 1, stack := rest }) target → Steps p.tables e below (T.setTop g) target := by
  obtain ⟨cl, A, q, S, M, H, G⟩ := F
  obtain ⟨T', h', X', e', W, st⟩ := stD X hx hZ eT A (inb_of S hj) hg hs hd
  exact ⟨T', h', X', e', W, Arv.set A q S M H G rfl W i hi hl, st⟩
theorem own_cst (X : Stand p l e R s m args below meth c T locs cells slots) (hx : p.tables.exec = Jvm.exec) (hZ : Z.Warmed39 s.vm) (eT : T.heap = h) (F : Arv Z h a k .char z vs d) (hj : ¬ j < 0 ∧ j < z) {i : Nat} (hi : j.toNatClampNeg = i) (hl : i < vs.length) {x y : Int32} (hn : nar .char x = y) (hg : g.method = m) (hs : g.stack = .int x :: .int j :: .ref a :: rest) (hd : decode c.code g.pc = .ok (.castore, 1)) :
    ∃ T' h', Stand p l e R s m args below meth c T' (locs ++ [⟨a, j.toNatClampNeg⟩]) cells slots ∧ T'.heap = h' ∧ Wr h h' a j.toNatClampNeg (.int y) ∧ Arv Z h' a k .char z (vs.set i (.int y)) d ∧ ∀ target, Steps p.tables e below (T'.setTop { g with pc := g.pc + 1, stack := rest }) target → Steps p.tables e below (T.setTop g) target := by
  obtain ⟨cl, A, q, S, M, H, G⟩ := F
  obtain ⟨T', h', X', e', W, st⟩ := stC X hx hZ eT A (inb_of S hj) hg hs hd
  rw [hn] at W
  exact ⟨T', h', X', e', W, Arv.set A q S M H G (by rw [← hn]; exact fits_nar_char x) W i hi hl, st⟩
theorem own_bst (X : Stand p l e R s m args below meth c T locs cells slots) (hx : p.tables.exec = Jvm.exec) (hZ : Z.Warmed39 s.vm) (eT : T.heap = h) (F : Arv Z h a k .byte z vs d) (hj : ¬ j < 0 ∧ j < z) {i : Nat} (hi : j.toNatClampNeg = i) (hl : i < vs.length) {x y : Int32} (hn : nar .byte x = y) (hg : g.method = m) (hs : g.stack = .int x :: .int j :: .ref a :: rest) (hd : decode c.code g.pc = .ok (.bastore, 1)) :
    ∃ T' h', Stand p l e R s m args below meth c T' (locs ++ [⟨a, j.toNatClampNeg⟩]) cells slots ∧ T'.heap = h' ∧ Wr h h' a j.toNatClampNeg (.int y) ∧ Arv Z h' a k .byte z (vs.set i (.int y)) d ∧ ∀ target, Steps p.tables e below (T'.setTop { g with pc := g.pc + 1, stack := rest }) target → Steps p.tables e below (T.setTop g) target := by
  obtain ⟨cl, A, q, S, M, H, G⟩ := F
  obtain ⟨T', h', X', e', W, st⟩ := stB X hx hZ eT A (inb_of S hj) hg hs hd
  rw [hn] at W
  exact ⟨T', h', X', e', W, Arv.set A q S M H G (by rw [← hn]; exact fits_nar_byte x) W i hi hl, st⟩
theorem own_ast (X : Stand p l e R s m args below meth c T locs cells slots) (hx : p.tables.exec = Jvm.exec) (hZ : Z.Warmed39 s.vm) (eT : T.heap = h) (F : Arv Z h a k ty z vs d) (hty : ty.isReference = true) (hj : ¬ j < 0 ∧ j < z) {i : Nat} (hi : j.toNatClampNeg = i) (hl : i < vs.length) (hv : fits ty v = true) (Q : Sto Z h a v) (hg : g.method = m) (hs : g.stack = v :: .int j :: .ref a :: rest) (hd : decode c.code g.pc = .ok (.aastore, 1)) :
    ∃ T' h', Stand p l e R s m args below meth c T' (locs ++ [⟨a, j.toNatClampNeg⟩]) cells slots ∧ T'.heap = h' ∧ Wr h h' a j.toNatClampNeg v ∧ Arv Z h' a k ty z (vs.set i v) d ∧ ∀ target, Steps p.tables e below (T'.setTop { g with pc := g.pc + 1, stack := rest }) target → Steps p.tables e below (T.setTop g) target := by
  obtain ⟨cl, A, q, S, M, H, G⟩ := F
  obtain ⟨T', h', X', e', W, st⟩ := stR X hx hZ eT A (inb_of S hj) hty Q hg hs hd
  exact ⟨T', h', X', e', W, Arv.set A q S M H G hv W i hi hl, st⟩
theorem own_retJ (X : Stand p l e R s m args below meth c T locs cells slots) (hx : p.tables.exec = Jvm.exec) {pc : Nat} {Ls : Array Slot} {w : Int64} (hret : meth.sig.returnType = some .long) (hd : decode c.code pc = .ok (.lreturn, 1)) {fs : List Frame}
    (hl : ∀ (f : JFrame) (acts : List Action), f.method = m → f.locked = none → f.entered = [] → (doReturn e (T.setTop f) acts (some (.long w))).1 = T.setFrames fs) : Steps p.tables e below (T.setTop (mkF m pc Ls (.long w :: rest))) (T.setFrames fs) :=
  retOut X hx hret rfl (Or.inr (Or.inl ⟨rfl, rfl, w, rfl⟩)) hd hl
theorem own_retD (X : Stand p l e R s m args below meth c T locs cells slots) (hx : p.tables.exec = Jvm.exec) {pc : Nat} {Ls : Array Slot} {w : UInt64} (hret : meth.sig.returnType = some .double) (hd : decode c.code pc = .ok (.dreturn, 1)) {fs : List Frame}
    (hl : ∀ (f : JFrame) (acts : List Action), f.method = m → f.locked = none → f.entered = [] → (doReturn e (T.setTop f) acts (some (.double w))).1 = T.setFrames fs) : Steps p.tables e below (T.setTop (mkF m pc Ls (.double w :: rest))) (T.setFrames fs) :=
  retOut X hx hret rfl (Or.inr (Or.inr (Or.inl ⟨rfl, rfl, w, rfl⟩))) hd hl
theorem own_retI (X : Stand p l e R s m args below meth c T locs cells slots) (hx : p.tables.exec = Jvm.exec) {pc : Nat} {Ls : Array Slot} {w : Int32} (hret : meth.sig.returnType = some .int) (hd : decode c.code pc = .ok (.ireturn, 1)) {fs : List Frame}
    (hl : ∀ (f : JFrame) (acts : List Action), f.method = m → f.locked = none → f.entered = [] → (doReturn e (T.setTop f) acts (some (.int w))).1 = T.setFrames fs) : Steps p.tables e below (T.setTop (mkF m pc Ls (.int w :: rest))) (T.setFrames fs) :=
  retOut X hx hret rfl (Or.inl ⟨rfl, Or.inl rfl, w, rfl⟩) hd hl
theorem own_retA (X : Stand p l e R s m args below meth c T locs cells slots) (hx : p.tables.exec = Jvm.exec) {pc : Nat} {Ls : Array Slot} {w : Value} {t : FieldType} (hret : meth.sig.returnType = some t) (ht : t.isReference = true) (hn : narrow t w = w) (hw : w.isRef = true) (hd : decode c.code pc = .ok (.areturn, 1)) {fs : List Frame}
    (hl : ∀ (f : JFrame) (acts : List Action), f.method = m → f.locked = none → f.entered = [] → (doReturn e (T.setTop f) acts (some w)).1 = T.setFrames fs) : Steps p.tables e below (T.setTop (mkF m pc Ls (w :: rest))) (T.setFrames fs) :=
  retOut X hx hret hn (Or.inr (Or.inr (Or.inr (Or.inr ⟨rfl, ht, hw⟩)))) hd hl
end Own
theorem d2_0 : decode jdk_30_method_1_code 0 = .ok (.aload_n 0, 1) := by decide +kernel
theorem d2_1 : decode jdk_30_method_1_code 1 = .ok (.invokespecial 1, 3) := by decide +kernel
theorem d2_4 : decode jdk_30_method_1_code 4 = .ok (.return_, 1) := by decide +kernel
set_option maxHeartbeats 4000000 in
theorem own_ef1 (m : MethodId) (x0 : Addr) : entryFrame m #[(.ref x0)] 1 = mkF m 0 #[.val (.ref x0)] [] := by first | (simp [entryFrame, mkF, argsToLocals, Value.category]; done) | rfl
def own_r1Q (Z : State) (a : Addr) (h0 : Heap) (n0 : Nat) (v : Option Value) (h : Heap) (L : List Loc) : Prop := v = none ∧ Fr n0 L ∧ h = h0
theorem own_pn1 : plainName "java/lang/Record" = true := by first | (simp [plainName, overriddenIn]; done) | decide +kernel
abbrev own_r1R : Room := { frames := 1, cells := 0, slots := 0, locals := 12 }
set_option maxRecDepth 65536 in
set_option maxHeartbeats 40000000 in
theorem own_r1 (l : Launch) (Z : State) (a0 : Array Value) (hw : ∀ d ∈ tables_1, d.before a0 Z = true) (ws : List Jvm.Cond) (a : Addr) (h0 : Heap) (n0 : Nat) (Z0 : n0 ≤ h0.size)  :
    own_M l (⟨"java/lang/Record", "<init>", "()V"⟩ : MethodName) jdk_30_method_1_code 1 none ws own_r1R #[(.ref a)] Z h0 (own_r1Q Z a h0 n0) := by
  refine own_go (plainFor_of_name own_pn1) (fun m => own_ef1 m a ) ?_
  intro p e s m below meth c s₁ Bd hx hby hml hZ hh hown hnm X0 e0
  have N0 := Fr.nil n0
  refine own_st (T' := s₁) (g' := (mkF m 1 #[.val (.ref a)] [(.ref a)])) (fun _ kt => XS.aloadN X0.here hx rfl (hb hby d2_0) rfl rfl kt) ?_
  obtain ⟨T1, X1, e1, st1⟩ := initO X0 hx hZ hown (own_k hw 11 rfl) (own_k hw 12 rfl) (own_k hw 13 rfl) e0 (g := (mkF m 1 #[.val (.ref a)] [(.ref a)])) rfl hml.symm rfl (hb hby d2_1) (by decide) (W := 0) (by show 2 * 0 + _ ≤ _; exact Nat.le_of_eq rfl) (by decide)
  refine own_st (T' := T1) (g' := (mkF m 4 #[.val (.ref a)] [])) st1 ?_
  obtain ⟨fs, hr, hrun, hended, hW, hsame⟩ := X1.leave (v := none) (fun _ => rfl)
  refine own_end (X1.returnOut hx Bd.returns (hb hby d2_4) hr) ⟨_, hrun, hended, _, _, rfl, ?_, ⟨_, rfl⟩, hW, hsame.mono (by decide) (by decide)⟩
  show own_r1Q Z a h0 n0 _ T1.heap _
  rw [e1]
  exact ⟨rfl, N0, rfl⟩
theorem d1_0 : decode prog_8_method_1_code 0 = .ok (.aload_n 0, 1) := by decide +kernel
theorem d1_1 : decode prog_8_method_1_code 1 = .ok (.invokespecial 1, 3) := by decide +kernel
theorem own_pd1 : parseMethodDescriptor "()V" = some ⟨[], none⟩ := by decide +kernel
theorem d1_4 : decode prog_8_method_1_code 4 = .ok (.aload_n 0, 1) := by decide +kernel
theorem d1_5 : decode prog_8_method_1_code 5 = .ok (.dload_n 1, 1) := by decide +kernel
theorem d1_6 : decode prog_8_method_1_code 6 = .ok (.putfield 7, 3) := by decide +kernel
theorem d1_9 : decode prog_8_method_1_code 9 = .ok (.aload_n 0, 1) := by decide +kernel
theorem d1_10 : decode prog_8_method_1_code 10 = .ok (.iload_n 3, 1) := by decide +kernel
theorem d1_11 : decode prog_8_method_1_code 11 = .ok (.putfield 13, 3) := by decide +kernel
theorem d1_14 : decode prog_8_method_1_code 14 = .ok (.aload_n 0, 1) := by decide +kernel
theorem d1_15 : decode prog_8_method_1_code 15 = .ok (.dload 4, 2) := by decide +kernel
theorem d1_17 : decode prog_8_method_1_code 17 = .ok (.putfield 17, 3) := by decide +kernel
theorem d1_20 : decode prog_8_method_1_code 20 = .ok (.return_, 1) := by decide +kernel
set_option maxHeartbeats 4000000 in
theorem own_ef2 (m : MethodId) (x0 : Addr) (x1 : UInt64) (x2 : Int32) (x3 : UInt64) : entryFrame m #[(.ref x0), (.double x1), (.int x2), (.double x3)] 6 = mkF m 0 #[.val (.ref x0), .val (.double x1), .second, .val (.int x2), .val (.double x3), .second] [] := by first | (simp [entryFrame, mkF, argsToLocals, Value.category]; done) | rfl
def own_r2Q (Z : State) (a : Addr) (u1 : UInt64) (u2 : Int32) (u3 : UInt64) (h0 : Heap) (n0 : Nat) (v : Option Value) (h : Heap) (L : List Loc) : Prop := v = none ∧ Fr n0 L ∧ Keep h0 h [a] ∧ (Exa Z h a "com/example/ask4/ask4/eval/PairedTTest")
theorem own_pn2 : plainName "com/example/ask4/ask4/eval/PairedTTest" = true := by first | (simp [plainName, overriddenIn]; done) | decide +kernel
abbrev own_r2R : Room := { frames := 2, cells := 0, slots := 0, locals := 24 }
set_option maxRecDepth 65536 in
set_option maxHeartbeats 40000000 in
theorem own_r2 (l : Launch) (Z : State) (a0 : Array Value) (hw : ∀ d ∈ tables_1, d.before a0 Z = true) (ws : List Jvm.Cond) (a : Addr) (u1 : UInt64) (u2 : Int32) (u3 : UInt64) (h0 : Heap) (n0 : Nat) (Z0 : n0 ≤ h0.size) (pr1 : Exa Z h0 a "com/example/ask4/ask4/eval/PairedTTest") (pr2 : Fld Z h0 a "com/example/ask4/ask4/eval/PairedTTest" "t" "D" (.double (0 : UInt64))) (pr3 : Fld Z h0 a "com/example/ask4/ask4/eval/PairedTTest" "df" "I" (.int (0 : Int32))) (pr4 : Fld Z h0 a "com/example/ask4/ask4/eval/PairedTTest" "p" "D" (.double (0 : UInt64))) (pr5 : n0 ≤ a) :
    own_M l (⟨"com/example/ask4/ask4/eval/PairedTTest", "<init>", "(DID)V"⟩ : MethodName) prog_8_method_1_code 6 none ws own_r2R #[(.ref a), (.double u1), (.int u2), (.double u3)] Z h0 (own_r2Q Z a u1 u2 u3 h0 n0) := by
  refine own_go (plainFor_of_name own_pn2) (fun m => own_ef2 m a u1 u2 u3 ) ?_
  intro p e s m below meth c s₁ Bd hx hby hml hZ hh hown hnm X0 e0
  have N0 := Fr.nil n0
  have K0 : Keep h0 h0 [a] := Keep.refl h0 _
  refine own_st (T' := s₁) (g' := (mkF m 1 #[.val (.ref a), .val (.double u1), .second, .val (.int u2), .val (.double u3), .second] [(.ref a)])) (fun _ kt => XS.aloadN X0.here hx rfl (hb hby d1_0) rfl rfl kt) ?_
  obtain ⟨_, _, ⟨T2, L2, k2, n2⟩, -, X2, ⟨Lc2, hQ2, l2, y2, z2⟩, st2⟩ := X0.specialBack hx (y := (⟨"java/lang/Record", "<init>", "()V"⟩ : MethodName)) rfl hown (mvT hZ (own_k hw 6 rfl)) (mvT hZ (own_k hw 7 rfl)) (mvT hZ (own_k hw 10 rfl)) (by decide) (backOf (W := 0) (own_r1 l Z a0 hw [] a h0 n0 Z0 ) hZ (own_k hw 10 rfl) (own_k hw 9 rfl) (by decide) (by decide)) (g := (mkF m 1 #[.val (.ref a), .val (.double u1), .second, .val (.int u2), .val (.double u3), .second] [(.ref a)])) rfl hml.symm (Steps.refl _) (a := a) (argsL := []) (rest := []) (lenOf own_pd1 rfl) rfl (by show 2 * 0 + _ ≤ _; exact Nat.le_of_eq rfl) (hb hby d1_1) (fun _ _ => ⟨rfl, e0, (by decide : 0 + 0 ≤ 0), (by decide : 0 + 0 ≤ 0)⟩)
  dsimp only [Pt.U, Pt.locs, Pt.cells, Pt.slots] at X2 l2 y2 z2 st2 hQ2
  subst l2 y2 z2
  obtain ⟨rfl, N2, e2⟩ := hQ2
  have N3 := Fr.app N0 N2
  refine own_tr (T' := T2) (g' := (mkF m 4 #[.val (.ref a), .val (.double u1), .second, .val (.int u2), .val (.double u3), .second] [])) st2 ?_
  refine own_st (T' := T2) (g' := (mkF m 6 #[.val (.ref a), .val (.double u1), .second, .val (.int u2), .val (.double u3), .second] [(.double u1), (.ref a)])) (fun _ kt => XS.aloadN X2.here hx rfl (hb hby d1_4) rfl rfl (XS.dloadN X2.here hx rfl (hb hby d1_5) rfl kt)) ?_
  obtain ⟨T4, h4, X4, e4, W4, st4⟩ := putF X2 hx hZ hown (host := "") (Or.inl (own_k hw 14 rfl)) Via.refl e2 pr2 pr1 (Or.inr ⟨(own_k hw 15 rfl), rfl, hnm⟩) (own_k hw 1 rfl) (ty := .double) (by decide) rfl rfl (g := (mkF m 6 #[.val (.ref a), .val (.double u1), .second, .val (.int u2), .val (.double u3), .second] [(.double u1), (.ref a)])) rfl rfl (hb hby d1_6)
  have N4 := Fr.snoc X4 N3 pr5
  have Z5 : n0 ≤ h4.size := Nat.le_trans Z0 (Nat.le_of_eq (Wr.size W4).symm)
  have K5 : Keep h0 h4 [a] := (Keep.wr K0 W4 (Or.inl (List.mem_of_getElem? (i := 0) rfl)))
  have F6 : Fld Z h4 a "com/example/ask4/ask4/eval/PairedTTest" "t" "D" (.double u1) := Fld.same W4 pr2
  refine own_st (T' := T4) (g' := (mkF m 9 #[.val (.ref a), .val (.double u1), .second, .val (.int u2), .val (.double u3), .second] [])) st4 ?_
  refine own_st (T' := T4) (g' := (mkF m 11 #[.val (.ref a), .val (.double u1), .second, .val (.int u2), .val (.double u3), .second] [(.int u2), (.ref a)])) (fun _ kt => XS.aloadN X4.here hx rfl (hb hby d1_9) rfl rfl (XS.iloadN X4.here hx rfl (hb hby d1_10) rfl kt)) ?_
  have F7 : Fld Z h4 a "com/example/ask4/ask4/eval/PairedTTest" "df" "I" (.int (0 : Int32)) := (Fld.other W4 pr3 (Or.inr (slot_ne (Or.inr (own_k hw 17 rfl)) (Or.inr (own_k hw 15 rfl)) (by decide) (t := .int) (t' := .double) (by decide) (by decide))))
  have F8 : Exa Z h4 a "com/example/ask4/ask4/eval/PairedTTest" := (Exa.wr W4 pr1)
  obtain ⟨T9, h9, X9, e9, W9, st9⟩ := putF X4 hx hZ hown (host := "") (Or.inl (own_k hw 16 rfl)) Via.refl e4 F7 F8 (Or.inr ⟨(own_k hw 17 rfl), rfl, hnm⟩) (own_k hw 1 rfl) (ty := .int) (by decide) rfl rfl (g := (mkF m 11 #[.val (.ref a), .val (.double u1), .second, .val (.int u2), .val (.double u3), .second] [(.int u2), (.ref a)])) rfl rfl (hb hby d1_11)
  have N9 := Fr.snoc X9 N4 pr5
  have Z10 : n0 ≤ h9.size := Nat.le_trans Z5 (Nat.le_of_eq (Wr.size W9).symm)
  have K10 : Keep h0 h9 [a] := (Keep.wr K5 W9 (Or.inl (List.mem_of_getElem? (i := 0) rfl)))
  have F11 : Fld Z h9 a "com/example/ask4/ask4/eval/PairedTTest" "df" "I" (.int u2) := Fld.same W9 F7
  refine own_st (T' := T9) (g' := (mkF m 14 #[.val (.ref a), .val (.double u1), .second, .val (.int u2), .val (.double u3), .second] [])) st9 ?_
  refine own_st (T' := T9) (g' := (mkF m 17 #[.val (.ref a), .val (.double u1), .second, .val (.int u2), .val (.double u3), .second] [(.double u3), (.ref a)])) (fun _ kt => XS.aloadN X9.here hx rfl (hb hby d1_14) rfl rfl (XS.dload X9.here hx rfl (hb hby d1_15) rfl kt)) ?_
  have F12 : Fld Z h9 a "com/example/ask4/ask4/eval/PairedTTest" "p" "D" (.double (0 : UInt64)) := (Fld.other W9 (Fld.other W4 pr4 (Or.inr (slot_ne (Or.inr (own_k hw 19 rfl)) (Or.inr (own_k hw 15 rfl)) (by decide) (t := .double) (t' := .double) (by decide) (by decide)))) (Or.inr (slot_ne (Or.inr (own_k hw 19 rfl)) (Or.inr (own_k hw 17 rfl)) (by decide) (t := .double) (t' := .int) (by decide) (by decide))))
  have F13 : Exa Z h9 a "com/example/ask4/ask4/eval/PairedTTest" := (Exa.wr W9 F8)
  obtain ⟨T14, h14, X14, e14, W14, st14⟩ := putF X9 hx hZ hown (host := "") (Or.inl (own_k hw 18 rfl)) Via.refl e9 F12 F13 (Or.inr ⟨(own_k hw 19 rfl), rfl, hnm⟩) (own_k hw 1 rfl) (ty := .double) (by decide) rfl rfl (g := (mkF m 17 #[.val (.ref a), .val (.double u1), .second, .val (.int u2), .val (.double u3), .second] [(.double u3), (.ref a)])) rfl rfl (hb hby d1_17)
  have N14 := Fr.snoc X14 N9 pr5
  have Z15 : n0 ≤ h14.size := Nat.le_trans Z10 (Nat.le_of_eq (Wr.size W14).symm)
  have K15 : Keep h0 h14 [a] := (Keep.wr K10 W14 (Or.inl (List.mem_of_getElem? (i := 0) rfl)))
  have F16 : Fld Z h14 a "com/example/ask4/ask4/eval/PairedTTest" "p" "D" (.double u3) := Fld.same W14 F12
  refine own_st (T' := T14) (g' := (mkF m 20 #[.val (.ref a), .val (.double u1), .second, .val (.int u2), .val (.double u3), .second] [])) st14 ?_
  obtain ⟨fs, hr, hrun, hended, hW, hsame⟩ := X14.leave (v := none) (fun _ => rfl)
  refine own_end (X14.returnOut hx Bd.returns (hb hby d1_20) hr) ⟨_, hrun, hended, _, _, rfl, ?_, ⟨_, rfl⟩, hW, hsame.mono (by decide) (by decide)⟩
  have F17 : Exa Z h14 a "com/example/ask4/ask4/eval/PairedTTest" := (Exa.wr W14 F13)
  show own_r2Q Z a u1 u2 u3 h0 n0 _ T14.heap _
  rw [e14]
  exact ⟨rfl, N14, K15, F17⟩
theorem d4_0 : decode prog_4_method_1_code 0 = .ok (.aload_n 0, 1) := by decide +kernel
theorem d4_1 : decode prog_4_method_1_code 1 = .ok (.invokespecial 1, 3) := by decide +kernel
theorem d4_4 : decode prog_4_method_1_code 4 = .ok (.aload_n 0, 1) := by decide +kernel
theorem d4_5 : decode prog_4_method_1_code 5 = .ok (.iload_n 1, 1) := by decide +kernel
theorem d4_6 : decode prog_4_method_1_code 6 = .ok (.putfield 7, 3) := by decide +kernel
theorem d4_9 : decode prog_4_method_1_code 9 = .ok (.aload_n 0, 1) := by decide +kernel
theorem d4_10 : decode prog_4_method_1_code 10 = .ok (.dload_n 2, 1) := by decide +kernel
theorem d4_11 : decode prog_4_method_1_code 11 = .ok (.putfield 13, 3) := by decide +kernel
theorem d4_14 : decode prog_4_method_1_code 14 = .ok (.aload_n 0, 1) := by decide +kernel
theorem d4_15 : decode prog_4_method_1_code 15 = .ok (.dload 4, 2) := by decide +kernel
theorem d4_17 : decode prog_4_method_1_code 17 = .ok (.putfield 17, 3) := by decide +kernel
theorem d4_20 : decode prog_4_method_1_code 20 = .ok (.aload_n 0, 1) := by decide +kernel
theorem d4_21 : decode prog_4_method_1_code 21 = .ok (.aload 6, 2) := by decide +kernel
theorem d4_23 : decode prog_4_method_1_code 23 = .ok (.putfield 20, 3) := by decide +kernel
theorem d4_26 : decode prog_4_method_1_code 26 = .ok (.aload_n 0, 1) := by decide +kernel
theorem d4_27 : decode prog_4_method_1_code 27 = .ok (.iload 7, 2) := by decide +kernel
theorem d4_29 : decode prog_4_method_1_code 29 = .ok (.putfield 24, 3) := by decide +kernel
theorem d4_32 : decode prog_4_method_1_code 32 = .ok (.aload_n 0, 1) := by decide +kernel
theorem d4_33 : decode prog_4_method_1_code 33 = .ok (.iload 8, 2) := by decide +kernel
theorem d4_35 : decode prog_4_method_1_code 35 = .ok (.putfield 27, 3) := by decide +kernel
theorem d4_38 : decode prog_4_method_1_code 38 = .ok (.return_, 1) := by decide +kernel
set_option maxHeartbeats 4000000 in
theorem own_ef3 (m : MethodId) (x0 : Addr) (x1 : Int32) (x2 : UInt64) (x3 : UInt64) (x4 : Addr) (x5 : Int32) (x6 : Int32) : entryFrame m #[(.ref x0), (.int x1), (.double x2), (.double x3), (.ref x4), (.int x5), (.int x6)] 9 = mkF m 0 #[.val (.ref x0), .val (.int x1), .val (.double x2), .second, .val (.double x3), .second, .val (.ref x4), .val (.int x5), .val (.int x6)] [] := by first | (simp [entryFrame, mkF, argsToLocals, Value.category]; done) | rfl
def own_r3Q (Z : State) (a : Addr) (u1 : Int32) (u2 : UInt64) (u3 : UInt64) (u4 : Addr) (u5 : Int32) (u6 : Int32) (h0 : Heap) (n0 : Nat) (v : Option Value) (h : Heap) (L : List Loc) : Prop := v = none ∧ Fr n0 L ∧ Keep h0 h [a] ∧ (Exa Z h a "com/example/ask4/ask4/eval/Comparison") ∧ (Fld Z h a "com/example/ask4/ask4/eval/Comparison" "topics" "I" (.int u1)) ∧ (Fld Z h a "com/example/ask4/ask4/eval/Comparison" "better" "I" (.int u5)) ∧ (Fld Z h a "com/example/ask4/ask4/eval/Comparison" "worse" "I" (.int u6))
theorem own_pn3 : plainName "com/example/ask4/ask4/eval/Comparison" = true := by first | (simp [plainName, overriddenIn]; done) | decide +kernel
abbrev own_r3R : Room := { frames := 2, cells := 0, slots := 0, locals := 24 }
set_option maxRecDepth 65536 in
set_option maxHeartbeats 40000000 in
theorem own_r3 (l : Launch) (Z : State) (a0 : Array Value) (hw : ∀ d ∈ tables_1, d.before a0 Z = true) (ws : List Jvm.Cond) (a : Addr) (u1 : Int32) (u2 : UInt64) (u3 : UInt64) (u4 : Addr) (u5 : Int32) (u6 : Int32) (h0 : Heap) (n0 : Nat) (Z0 : n0 ≤ h0.size) (pr1 : Exa Z h0 a "com/example/ask4/ask4/eval/Comparison") (pr2 : n0 ≤ a) (pr3 : Fld Z h0 a "com/example/ask4/ask4/eval/Comparison" "topics" "I" (.int (0 : Int32))) (pr4 : Fld Z h0 a "com/example/ask4/ask4/eval/Comparison" "mapA" "D" (.double (0 : UInt64))) (pr5 : Fld Z h0 a "com/example/ask4/ask4/eval/Comparison" "mapB" "D" (.double (0 : UInt64))) (pr6 : Fld Z h0 a "com/example/ask4/ask4/eval/Comparison" "test" "Lcom/example/ask4/ask4/eval/PairedTTest;" .null) (pr7 : Fld Z h0 a "com/example/ask4/ask4/eval/Comparison" "better" "I" (.int (0 : Int32))) (pr8 : Fld Z h0 a "com/example/ask4/ask4/eval/Comparison" "worse" "I" (.int (0 : Int32))) :
    own_M l (⟨"com/example/ask4/ask4/eval/Comparison", "<init>", "(IDDLcom/example/ask4/ask4/eval/PairedTTest;II)V"⟩ : MethodName) prog_4_method_1_code 9 none ws own_r3R #[(.ref a), (.int u1), (.double u2), (.double u3), (.ref u4), (.int u5), (.int u6)] Z h0 (own_r3Q Z a u1 u2 u3 u4 u5 u6 h0 n0) := by
  refine own_go (plainFor_of_name own_pn3) (fun m => own_ef3 m a u1 u2 u3 u4 u5 u6 ) ?_
  intro p e s m below meth c s₁ Bd hx hby hml hZ hh hown hnm X0 e0
  have N0 := Fr.nil n0
  have K0 : Keep h0 h0 [a] := Keep.refl h0 _
  refine own_st (T' := s₁) (g' := (mkF m 1 #[.val (.ref a), .val (.int u1), .val (.double u2), .second, .val (.double u3), .second, .val (.ref u4), .val (.int u5), .val (.int u6)] [(.ref a)])) (fun _ kt => XS.aloadN X0.here hx rfl (hb hby d4_0) rfl rfl kt) ?_
  obtain ⟨_, _, ⟨T18, L18, k18, n18⟩, -, X18, ⟨Lc18, hQ18, l18, y18, z18⟩, st18⟩ := X0.specialBack hx (y := (⟨"java/lang/Record", "<init>", "()V"⟩ : MethodName)) rfl hown (mvT hZ (own_k hw 26 rfl)) (mvT hZ (own_k hw 7 rfl)) (mvT hZ (own_k hw 10 rfl)) (by decide) (backOf (W := 0) (own_r1 l Z a0 hw [] a h0 n0 Z0 ) hZ (own_k hw 10 rfl) (own_k hw 9 rfl) (by decide) (by decide)) (g := (mkF m 1 #[.val (.ref a), .val (.int u1), .val (.double u2), .second, .val (.double u3), .second, .val (.ref u4), .val (.int u5), .val (.int u6)] [(.ref a)])) rfl hml.symm (Steps.refl _) (a := a) (argsL := []) (rest := []) (lenOf own_pd1 rfl) rfl (by show 2 * 0 + _ ≤ _; exact Nat.le_of_eq rfl) (hb hby d4_1) (fun _ _ => ⟨rfl, e0, (by decide : 0 + 0 ≤ 0), (by decide : 0 + 0 ≤ 0)⟩)
  dsimp only [Pt.U, Pt.locs, Pt.cells, Pt.slots] at X18 l18 y18 z18 st18 hQ18
  subst l18 y18 z18
  obtain ⟨rfl, N18, e18⟩ := hQ18
  have N19 := Fr.app N0 N18
  refine own_tr (T' := T18) (g' := (mkF m 4 #[.val (.ref a), .val (.int u1), .val (.double u2), .second, .val (.double u3), .second, .val (.ref u4), .val (.int u5), .val (.int u6)] [])) st18 ?_
  refine own_st (T' := T18) (g' := (mkF m 6 #[.val (.ref a), .val (.int u1), .val (.double u2), .second, .val (.double u3), .second, .val (.ref u4), .val (.int u5), .val (.int u6)] [(.int u1), (.ref a)])) (fun _ kt => XS.aloadN X18.here hx rfl (hb hby d4_4) rfl rfl (XS.iloadN X18.here hx rfl (hb hby d4_5) rfl kt)) ?_
  obtain ⟨T20, h20, X20, e20, W20, st20⟩ := putF X18 hx hZ hown (host := "") (Or.inl (own_k hw 27 rfl)) Via.refl e18 pr3 pr1 (Or.inr ⟨(own_k hw 28 rfl), rfl, hnm⟩) (own_k hw 21 rfl) (ty := .int) (by decide) rfl rfl (g := (mkF m 6 #[.val (.ref a), .val (.int u1), .val (.double u2), .second, .val (.double u3), .second, .val (.ref u4), .val (.int u5), .val (.int u6)] [(.int u1), (.ref a)])) rfl rfl (hb hby d4_6)
  have N20 := Fr.snoc X20 N19 pr2
  have Z21 : n0 ≤ h20.size := Nat.le_trans Z0 (Nat.le_of_eq (Wr.size W20).symm)
  have K21 : Keep h0 h20 [a] := (Keep.wr K0 W20 (Or.inl (List.mem_of_getElem? (i := 0) rfl)))
  have F22 : Fld Z h20 a "com/example/ask4/ask4/eval/Comparison" "topics" "I" (.int u1) := Fld.same W20 pr3
  refine own_st (T' := T20) (g' := (mkF m 9 #[.val (.ref a), .val (.int u1), .val (.double u2), .second, .val (.double u3), .second, .val (.ref u4), .val (.int u5), .val (.int u6)] [])) st20 ?_
  refine own_st (T' := T20) (g' := (mkF m 11 #[.val (.ref a), .val (.int u1), .val (.double u2), .second, .val (.double u3), .second, .val (.ref u4), .val (.int u5), .val (.int u6)] [(.double u2), (.ref a)])) (fun _ kt => XS.aloadN X20.here hx rfl (hb hby d4_9) rfl rfl (XS.dloadN X20.here hx rfl (hb hby d4_10) rfl kt)) ?_
  have F23 : Fld Z h20 a "com/example/ask4/ask4/eval/Comparison" "mapA" "D" (.double (0 : UInt64)) := (Fld.other W20 pr4 (Or.inr (slot_ne (Or.inr (own_k hw 30 rfl)) (Or.inr (own_k hw 28 rfl)) (by decide) (t := .double) (t' := .int) (by decide) (by decide))))
  have F24 : Exa Z h20 a "com/example/ask4/ask4/eval/Comparison" := (Exa.wr W20 pr1)
  obtain ⟨T25, h25, X25, e25, W25, st25⟩ := putF X20 hx hZ hown (host := "") (Or.inl (own_k hw 29 rfl)) Via.refl e20 F23 F24 (Or.inr ⟨(own_k hw 30 rfl), rfl, hnm⟩) (own_k hw 21 rfl) (ty := .double) (by decide) rfl rfl (g := (mkF m 11 #[.val (.ref a), .val (.int u1), .val (.double u2), .second, .val (.double u3), .second, .val (.ref u4), .val (.int u5), .val (.int u6)] [(.double u2), (.ref a)])) rfl rfl (hb hby d4_11)
  have N25 := Fr.snoc X25 N20 pr2
  have Z26 : n0 ≤ h25.size := Nat.le_trans Z21 (Nat.le_of_eq (Wr.size W25).symm)
  have K26 : Keep h0 h25 [a] := (Keep.wr K21 W25 (Or.inl (List.mem_of_getElem? (i := 0) rfl)))
  have F27 : Fld Z h25 a "com/example/ask4/ask4/eval/Comparison" "mapA" "D" (.double u2) := Fld.same W25 F23
  refine own_st (T' := T25) (g' := (mkF m 14 #[.val (.ref a), .val (.int u1), .val (.double u2), .second, .val (.double u3), .second, .val (.ref u4), .val (.int u5), .val (.int u6)] [])) st25 ?_
  refine own_st (T' := T25) (g' := (mkF m 17 #[.val (.ref a), .val (.int u1), .val (.double u2), .second, .val (.double u3), .second, .val (.ref u4), .val (.int u5), .val (.int u6)] [(.double u3), (.ref a)])) (fun _ kt => XS.aloadN X25.here hx rfl (hb hby d4_14) rfl rfl (XS.dload X25.here hx rfl (hb hby d4_15) rfl kt)) ?_
  have F28 : Fld Z h25 a "com/example/ask4/ask4/eval/Comparison" "mapB" "D" (.double (0 : UInt64)) := (Fld.other W25 (Fld.other W20 pr5 (Or.inr (slot_ne (Or.inr (own_k hw 32 rfl)) (Or.inr (own_k hw 28 rfl)) (by decide) (t := .double) (t' := .int) (by decide) (by decide)))) (Or.inr (slot_ne (Or.inr (own_k hw 32 rfl)) (Or.inr (own_k hw 30 rfl)) (by decide) (t := .double) (t' := .double) (by decide) (by decide))))
  have F29 : Exa Z h25 a "com/example/ask4/ask4/eval/Comparison" := (Exa.wr W25 F24)
  obtain ⟨T30, h30, X30, e30, W30, st30⟩ := putF X25 hx hZ hown (host := "") (Or.inl (own_k hw 31 rfl)) Via.refl e25 F28 F29 (Or.inr ⟨(own_k hw 32 rfl), rfl, hnm⟩) (own_k hw 21 rfl) (ty := .double) (by decide) rfl rfl (g := (mkF m 17 #[.val (.ref a), .val (.int u1), .val (.double u2), .second, .val (.double u3), .second, .val (.ref u4), .val (.int u5), .val (.int u6)] [(.double u3), (.ref a)])) rfl rfl (hb hby d4_17)
  have N30 := Fr.snoc X30 N25 pr2
  have Z31 : n0 ≤ h30.size := Nat.le_trans Z26 (Nat.le_of_eq (Wr.size W30).symm)
  have K31 : Keep h0 h30 [a] := (Keep.wr K26 W30 (Or.inl (List.mem_of_getElem? (i := 0) rfl)))
  have F32 : Fld Z h30 a "com/example/ask4/ask4/eval/Comparison" "mapB" "D" (.double u3) := Fld.same W30 F28
  refine own_st (T' := T30) (g' := (mkF m 20 #[.val (.ref a), .val (.int u1), .val (.double u2), .second, .val (.double u3), .second, .val (.ref u4), .val (.int u5), .val (.int u6)] [])) st30 ?_
  refine own_st (T' := T30) (g' := (mkF m 23 #[.val (.ref a), .val (.int u1), .val (.double u2), .second, .val (.double u3), .second, .val (.ref u4), .val (.int u5), .val (.int u6)] [(.ref u4), (.ref a)])) (fun _ kt => XS.aloadN X30.here hx rfl (hb hby d4_20) rfl rfl (XS.aload X30.here hx rfl (hb hby d4_21) rfl rfl kt)) ?_
  have F33 : Fld Z h30 a "com/example/ask4/ask4/eval/Comparison" "test" "Lcom/example/ask4/ask4/eval/PairedTTest;" .null := (Fld.other W30 (Fld.other W25 (Fld.other W20 pr6 (Or.inr (slot_ne (Or.inr (own_k hw 34 rfl)) (Or.inr (own_k hw 28 rfl)) (by decide) (t := (.object "com/example/ask4/ask4/eval/PairedTTest")) (t' := .int) (by decide) (by decide)))) (Or.inr (slot_ne (Or.inr (own_k hw 34 rfl)) (Or.inr (own_k hw 30 rfl)) (by decide) (t := (.object "com/example/ask4/ask4/eval/PairedTTest")) (t' := .double) (by decide) (by decide)))) (Or.inr (slot_ne (Or.inr (own_k hw 34 rfl)) (Or.inr (own_k hw 32 rfl)) (by decide) (t := (.object "com/example/ask4/ask4/eval/PairedTTest")) (t' := .double) (by decide) (by decide))))
  have F34 : Exa Z h30 a "com/example/ask4/ask4/eval/Comparison" := (Exa.wr W30 F29)
  obtain ⟨T35, h35, X35, e35, W35, st35⟩ := putF X30 hx hZ hown (host := "") (Or.inl (own_k hw 33 rfl)) Via.refl e30 F33 F34 (Or.inr ⟨(own_k hw 34 rfl), rfl, hnm⟩) (own_k hw 21 rfl) (ty := (.object "com/example/ask4/ask4/eval/PairedTTest")) (by decide) rfl rfl (g := (mkF m 23 #[.val (.ref a), .val (.int u1), .val (.double u2), .second, .val (.double u3), .second, .val (.ref u4), .val (.int u5), .val (.int u6)] [(.ref u4), (.ref a)])) rfl rfl (hb hby d4_23)
  have N35 := Fr.snoc X35 N30 pr2
  have Z36 : n0 ≤ h35.size := Nat.le_trans Z31 (Nat.le_of_eq (Wr.size W35).symm)
  have K36 : Keep h0 h35 [a] := (Keep.wr K31 W35 (Or.inl (List.mem_of_getElem? (i := 0) rfl)))
  have F37 : Fld Z h35 a "com/example/ask4/ask4/eval/Comparison" "test" "Lcom/example/ask4/ask4/eval/PairedTTest;" (.ref u4) := Fld.same W35 F33
  refine own_st (T' := T35) (g' := (mkF m 26 #[.val (.ref a), .val (.int u1), .val (.double u2), .second, .val (.double u3), .second, .val (.ref u4), .val (.int u5), .val (.int u6)] [])) st35 ?_
  refine own_st (T' := T35) (g' := (mkF m 29 #[.val (.ref a), .val (.int u1), .val (.double u2), .second, .val (.double u3), .second, .val (.ref u4), .val (.int u5), .val (.int u6)] [(.int u5), (.ref a)])) (fun _ kt => XS.aloadN X35.here hx rfl (hb hby d4_26) rfl rfl (XS.iload X35.here hx rfl (hb hby d4_27) rfl kt)) ?_
  have F38 : Fld Z h35 a "com/example/ask4/ask4/eval/Comparison" "better" "I" (.int (0 : Int32)) := (Fld.other W35 (Fld.other W30 (Fld.other W25 (Fld.other W20 pr7 (Or.inr (slot_ne (Or.inr (own_k hw 36 rfl)) (Or.inr (own_k hw 28 rfl)) (by decide) (t := .int) (t' := .int) (by decide) (by decide)))) (Or.inr (slot_ne (Or.inr (own_k hw 36 rfl)) (Or.inr (own_k hw 30 rfl)) (by decide) (t := .int) (t' := .double) (by decide) (by decide)))) (Or.inr (slot_ne (Or.inr (own_k hw 36 rfl)) (Or.inr (own_k hw 32 rfl)) (by decide) (t := .int) (t' := .double) (by decide) (by decide)))) (Or.inr (slot_ne (Or.inr (own_k hw 36 rfl)) (Or.inr (own_k hw 34 rfl)) (by decide) (t := .int) (t' := (.object "com/example/ask4/ask4/eval/PairedTTest")) (by decide) (by decide))))
  have F39 : Exa Z h35 a "com/example/ask4/ask4/eval/Comparison" := (Exa.wr W35 F34)
  obtain ⟨T40, h40, X40, e40, W40, st40⟩ := putF X35 hx hZ hown (host := "") (Or.inl (own_k hw 35 rfl)) Via.refl e35 F38 F39 (Or.inr ⟨(own_k hw 36 rfl), rfl, hnm⟩) (own_k hw 21 rfl) (ty := .int) (by decide) rfl rfl (g := (mkF m 29 #[.val (.ref a), .val (.int u1), .val (.double u2), .second, .val (.double u3), .second, .val (.ref u4), .val (.int u5), .val (.int u6)] [(.int u5), (.ref a)])) rfl rfl (hb hby d4_29)
  have N40 := Fr.snoc X40 N35 pr2
  have Z41 : n0 ≤ h40.size := Nat.le_trans Z36 (Nat.le_of_eq (Wr.size W40).symm)
  have K41 : Keep h0 h40 [a] := (Keep.wr K36 W40 (Or.inl (List.mem_of_getElem? (i := 0) rfl)))
  have F42 : Fld Z h40 a "com/example/ask4/ask4/eval/Comparison" "better" "I" (.int u5) := Fld.same W40 F38
  refine own_st (T' := T40) (g' := (mkF m 32 #[.val (.ref a), .val (.int u1), .val (.double u2), .second, .val (.double u3), .second, .val (.ref u4), .val (.int u5), .val (.int u6)] [])) st40 ?_
  refine own_st (T' := T40) (g' := (mkF m 35 #[.val (.ref a), .val (.int u1), .val (.double u2), .second, .val (.double u3), .second, .val (.ref u4), .val (.int u5), .val (.int u6)] [(.int u6), (.ref a)])) (fun _ kt => XS.aloadN X40.here hx rfl (hb hby d4_32) rfl rfl (XS.iload X40.here hx rfl (hb hby d4_33) rfl kt)) ?_
  have F43 : Fld Z h40 a "com/example/ask4/ask4/eval/Comparison" "worse" "I" (.int (0 : Int32)) := (Fld.other W40 (Fld.other W35 (Fld.other W30 (Fld.other W25 (Fld.other W20 pr8 (Or.inr (slot_ne (Or.inr (own_k hw 38 rfl)) (Or.inr (own_k hw 28 rfl)) (by decide) (t := .int) (t' := .int) (by decide) (by decide)))) (Or.inr (slot_ne (Or.inr (own_k hw 38 rfl)) (Or.inr (own_k hw 30 rfl)) (by decide) (t := .int) (t' := .double) (by decide) (by decide)))) (Or.inr (slot_ne (Or.inr (own_k hw 38 rfl)) (Or.inr (own_k hw 32 rfl)) (by decide) (t := .int) (t' := .double) (by decide) (by decide)))) (Or.inr (slot_ne (Or.inr (own_k hw 38 rfl)) (Or.inr (own_k hw 34 rfl)) (by decide) (t := .int) (t' := (.object "com/example/ask4/ask4/eval/PairedTTest")) (by decide) (by decide)))) (Or.inr (slot_ne (Or.inr (own_k hw 38 rfl)) (Or.inr (own_k hw 36 rfl)) (by decide) (t := .int) (t' := .int) (by decide) (by decide))))
  have F44 : Exa Z h40 a "com/example/ask4/ask4/eval/Comparison" := (Exa.wr W40 F39)
  obtain ⟨T45, h45, X45, e45, W45, st45⟩ := putF X40 hx hZ hown (host := "") (Or.inl (own_k hw 37 rfl)) Via.refl e40 F43 F44 (Or.inr ⟨(own_k hw 38 rfl), rfl, hnm⟩) (own_k hw 21 rfl) (ty := .int) (by decide) rfl rfl (g := (mkF m 35 #[.val (.ref a), .val (.int u1), .val (.double u2), .second, .val (.double u3), .second, .val (.ref u4), .val (.int u5), .val (.int u6)] [(.int u6), (.ref a)])) rfl rfl (hb hby d4_35)
  have N45 := Fr.snoc X45 N40 pr2
  have Z46 : n0 ≤ h45.size := Nat.le_trans Z41 (Nat.le_of_eq (Wr.size W45).symm)
  have K46 : Keep h0 h45 [a] := (Keep.wr K41 W45 (Or.inl (List.mem_of_getElem? (i := 0) rfl)))
  have F47 : Fld Z h45 a "com/example/ask4/ask4/eval/Comparison" "worse" "I" (.int u6) := Fld.same W45 F43
  refine own_st (T' := T45) (g' := (mkF m 38 #[.val (.ref a), .val (.int u1), .val (.double u2), .second, .val (.double u3), .second, .val (.ref u4), .val (.int u5), .val (.int u6)] [])) st45 ?_
  obtain ⟨fs, hr, hrun, hended, hW, hsame⟩ := X45.leave (v := none) (fun _ => rfl)
  refine own_end (X45.returnOut hx Bd.returns (hb hby d4_38) hr) ⟨_, hrun, hended, _, _, rfl, ?_, ⟨_, rfl⟩, hW, hsame.mono (by decide) (by decide)⟩
  have F48 : Exa Z h45 a "com/example/ask4/ask4/eval/Comparison" := (Exa.wr W45 F44)
  have F49 : Fld Z h45 a "com/example/ask4/ask4/eval/Comparison" "topics" "I" (.int u1) := (Fld.other W45 (Fld.other W40 (Fld.other W35 (Fld.other W30 (Fld.other W25 F22 (Or.inr (slot_ne (Or.inr (own_k hw 28 rfl)) (Or.inr (own_k hw 30 rfl)) (by decide) (t := .int) (t' := .double) (by decide) (by decide)))) (Or.inr (slot_ne (Or.inr (own_k hw 28 rfl)) (Or.inr (own_k hw 32 rfl)) (by decide) (t := .int) (t' := .double) (by decide) (by decide)))) (Or.inr (slot_ne (Or.inr (own_k hw 28 rfl)) (Or.inr (own_k hw 34 rfl)) (by decide) (t := .int) (t' := (.object "com/example/ask4/ask4/eval/PairedTTest")) (by decide) (by decide)))) (Or.inr (slot_ne (Or.inr (own_k hw 28 rfl)) (Or.inr (own_k hw 36 rfl)) (by decide) (t := .int) (t' := .int) (by decide) (by decide)))) (Or.inr (slot_ne (Or.inr (own_k hw 28 rfl)) (Or.inr (own_k hw 38 rfl)) (by decide) (t := .int) (t' := .int) (by decide) (by decide))))
  have F50 : Fld Z h45 a "com/example/ask4/ask4/eval/Comparison" "better" "I" (.int u5) := (Fld.other W45 F42 (Or.inr (slot_ne (Or.inr (own_k hw 36 rfl)) (Or.inr (own_k hw 38 rfl)) (by decide) (t := .int) (t' := .int) (by decide) (by decide))))
  show own_r3Q Z a u1 u2 u3 u4 u5 u6 h0 n0 _ T45.heap _
  rw [e45]
  exact ⟨rfl, N45, K46, F48, F49, F50, F47⟩
theorem d5_0 : decode prog_4_method_3_code 0 = .ok (.aload_n 0, 1) := by decide +kernel
theorem d5_1 : decode prog_4_method_3_code 1 = .ok (.getfield 7, 3) := by decide +kernel
theorem d5_4 : decode prog_4_method_3_code 4 = .ok (.aload_n 0, 1) := by decide +kernel
theorem d5_5 : decode prog_4_method_3_code 5 = .ok (.getfield 24, 3) := by decide +kernel
theorem d5_8 : decode prog_4_method_3_code 8 = .ok (.isub, 1) := by decide +kernel
theorem d5_9 : decode prog_4_method_3_code 9 = .ok (.aload_n 0, 1) := by decide +kernel
theorem d5_10 : decode prog_4_method_3_code 10 = .ok (.getfield 27, 3) := by decide +kernel
theorem d5_13 : decode prog_4_method_3_code 13 = .ok (.isub, 1) := by decide +kernel
theorem d5_14 : decode prog_4_method_3_code 14 = .ok (.ireturn, 1) := by decide +kernel
def own_r4Q (Z : State) (a : Addr) (u1 : Int32) (u5 : Int32) (u6 : Int32) (h0 : Heap) (n0 : Nat) (v : Option Value) (h : Heap) (L : List Loc) : Prop := v = some (.int ((u1 - u5) - u6)) ∧ Fr n0 L ∧ h = h0
abbrev own_r4R : Room := { frames := 0, cells := 0, slots := 0, locals := 0 }
set_option maxRecDepth 65536 in
set_option maxHeartbeats 40000000 in
theorem own_r4 (l : Launch) (Z : State) (a0 : Array Value) (hw : ∀ d ∈ tables_1, d.before a0 Z = true) (ws : List Jvm.Cond) (a : Addr) (u1 : Int32) (u5 : Int32) (u6 : Int32) (h0 : Heap) (n0 : Nat) (Z0 : n0 ≤ h0.size) (pr1 : Fld Z h0 a "com/example/ask4/ask4/eval/Comparison" "topics" "I" (.int u1)) (pr2 : Fld Z h0 a "com/example/ask4/ask4/eval/Comparison" "better" "I" (.int u5)) (pr3 : Fld Z h0 a "com/example/ask4/ask4/eval/Comparison" "worse" "I" (.int u6)) :
    own_M l (⟨"com/example/ask4/ask4/eval/Comparison", "equal", "()I"⟩ : MethodName) prog_4_method_3_code 1 (some .int) ws own_r4R #[(.ref a)] Z h0 (own_r4Q Z a u1 u5 u6 h0 n0) := by
  refine own_go (plainFor_of_name own_pn3) (fun m => own_ef1 m a ) ?_
  intro p e s m below meth c s₁ Bd hx hby hml hZ hh hown hnm X0 e0
  have N0 := Fr.nil n0
  refine own_st (T' := s₁) (g' := (mkF m 1 #[.val (.ref a)] [(.ref a)])) (fun _ kt => XS.aloadN X0.here hx rfl (hb hby d5_0) rfl rfl kt) ?_
  obtain ⟨T51, X51, e51, st51⟩ := getF X0 hx hZ hown (host := "") (Or.inl (own_k hw 27 rfl)) Via.refl e0 pr1 (g := (mkF m 1 #[.val (.ref a)] [(.ref a)])) rfl rfl (hb hby d5_1)
  refine own_st (T' := T51) (g' := (mkF m 4 #[.val (.ref a)] [(.int u1)])) st51 ?_
  refine own_st (T' := T51) (g' := (mkF m 5 #[.val (.ref a)] [(.ref a), (.int u1)])) (fun _ kt => XS.aloadN X51.here hx rfl (hb hby d5_4) rfl rfl kt) ?_
  obtain ⟨T52, X52, e52, st52⟩ := getF X51 hx hZ hown (host := "") (Or.inl (own_k hw 35 rfl)) Via.refl e51 pr2 (g := (mkF m 5 #[.val (.ref a)] [(.ref a), (.int u1)])) rfl rfl (hb hby d5_5)
  refine own_st (T' := T52) (g' := (mkF m 8 #[.val (.ref a)] [(.int u5), (.int u1)])) st52 ?_
  refine own_st (T' := T52) (g' := (mkF m 10 #[.val (.ref a)] [(.ref a), (.int (u1 - u5))])) (fun _ kt => XS.isub X52.here hx rfl (hb hby d5_8) rfl (XS.aloadN X52.here hx rfl (hb hby d5_9) rfl rfl kt)) ?_
  obtain ⟨T53, X53, e53, st53⟩ := getF X52 hx hZ hown (host := "") (Or.inl (own_k hw 37 rfl)) Via.refl e52 pr3 (g := (mkF m 10 #[.val (.ref a)] [(.ref a), (.int (u1 - u5))])) rfl rfl (hb hby d5_10)
  refine own_st (T' := T53) (g' := (mkF m 13 #[.val (.ref a)] [(.int u6), (.int (u1 - u5))])) st53 ?_
  refine own_st (T' := T53) (g' := (mkF m 14 #[.val (.ref a)] [(.int ((u1 - u5) - u6))])) (fun _ kt => XS.isub X53.here hx rfl (hb hby d5_13) rfl kt) ?_
  obtain ⟨fs, hr, hrun, hended, hW, hsame⟩ := X53.leave (v := some (.int ((u1 - u5) - u6))) (fun h => by rw [Bd.returns] at h; cases h)
  refine own_end (own_retI X53 hx Bd.returns (hb hby d5_14) hr) ⟨_, hrun, hended, _, _, rfl, ?_, ⟨_, rfl⟩, hW, hsame.mono (by decide) (by decide)⟩
  show own_r4Q Z a u1 u5 u6 h0 n0 _ T53.heap _
  rw [e53]
  exact ⟨rfl, N0, rfl⟩
theorem own_l1 (t b w : Int32) : t - b - w + b + w = t := by
  rw [← Int32.toInt_inj]
  simp only [Int32.toInt_add, Int32.toInt_sub]
  have := t.toInt_lt; have := t.le_toInt
  simp only [Int.bmod_def] at *
  omega
theorem own_l2 {t b w : Int32} (hb : ¬ b < 0) (hw : ¬ w < 0) (h : ¬ t.toInt64 < b.toInt64 + w.toInt64) : ¬ (t - b - w) < 0 ∧ ¬ t < (t - b - w) := by
  simp only [Int32.lt_iff_toInt_lt, Int64.lt_iff_toInt_lt, Int64.toInt_add, Int32.toInt_toInt64, Int32.toInt_sub, show (0 : Int32).toInt = 0 from rfl] at *
  have := t.toInt_lt; have := t.le_toInt; have := b.toInt_lt; have := b.le_toInt; have := w.toInt_lt; have := w.le_toInt
  simp only [Int.bmod_def] at *
  constructor <;> omega
theorem own_pd2 : parseMethodDescriptor "(DID)V" = some ⟨[.double, .int, .double], none⟩ := by decide +kernel
theorem own_pd3 : parseMethodDescriptor "(IDDLcom/example/ask4/ask4/eval/PairedTTest;II)V" = some ⟨[.int, .double, .double, (.object "com/example/ask4/ask4/eval/PairedTTest"), .int, .int], none⟩ := by decide +kernel
theorem own_pd4 : parseMethodDescriptor "()I" = some ⟨[], some .int⟩ := by decide +kernel
set_option maxHeartbeats 4000000 in
theorem own_ef4 (m : MethodId) (x0 : Int32) (x1 : Int32) (x2 : Int32) (x3 : Int32) (x4 : Int32) : entryFrame m #[(.int x0), (.int x1), (.int x2), (.int x3), (.int x4)] 11 = mkF m 0 #[.val (.int x0), .val (.int x1), .val (.int x2), .val (.int x3), .val (.int x4), .unset, .unset, .unset, .unset, .unset, .unset] [] := by first | (simp [entryFrame, mkF, argsToLocals, Value.category]; done) | rfl
def own_lawQ (Z : State) (p1 : Int32) (p2 : Int32) (p3 : Int32) (p4 : Int32) (p5 : Int32) (h0 : Heap) (n0 : Nat) (v : Option Value) (h : Heap) (L : List Loc) : Prop := v = some (.int (1 : Int32)) ∧ Fr n0 L
theorem own_pn4 : plainName "com/example/ask4/ask4/eval/ComparisonEqualPinLaw" = true := by first | (simp [plainName, overriddenIn]; done) | decide +kernel
set_option maxRecDepth 65536 in
set_option maxHeartbeats 40000000 in
theorem own_law (l : Launch) (Z : State) (a0 : Array Value) (hw : ∀ d ∈ tables_1, d.before a0 Z = true) (ws : List Jvm.Cond) (p1 : Int32) (p2 : Int32) (p3 : Int32) (p4 : Int32) (p5 : Int32) (h0 : Heap) (n0 : Nat) (Z0 : n0 ≤ h0.size)  :
    own_M l x code maxLocals ret ws room_1 #[(.int p1), (.int p2), (.int p3), (.int p4), (.int p5)] Z h0 (own_lawQ Z p1 p2 p3 p4 p5 h0 n0) := by
  refine own_go (plainFor_of_name own_pn4) (fun m => own_ef4 m p1 p2 p3 p4 p5 ) ?_
  intro p e s m below meth c s₁ Bd hx hby hml hZ hh hown hnm X0 e0
  have N0 := Fr.nil n0
  obtain ⟨T54, h54, X54, e54, E54, A54, D54, -, st54⟩ := newO X0 hx hZ hown (own_k hw 0 rfl) (own_k hw 1 rfl) (own_k hw 2 rfl) e0 (g := (mkF m 0 #[.val (.int p1), .val (.int p2), .val (.int p3), .val (.int p4), .val (.int p5), .unset, .unset, .unset, .unset, .unset, .unset] [])) rfl (hb hby at_0) (by decide) (by decide)
  obtain ⟨b54, g54⟩ : ∃ z, z = h0.size := ⟨_, rfl⟩
  rw [← g54] at A54 D54 st54
  have Z55 : n0 ≤ h54.size := Nat.le_trans Z0 E54.1
  have ge_b54 : n0 ≤ b54 := Nat.le_trans Z0 (Nat.le_of_eq g54.symm)
  have F56 : Fld Z h54 b54 "com/example/ask4/ask4/eval/PairedTTest" "t" "D" (.double (0 : UInt64)) := D54 (Or.inr (own_k hw 15 rfl)) (ty := .double) (by decide)
  have F57 : Fld Z h54 b54 "com/example/ask4/ask4/eval/PairedTTest" "df" "I" (.int (0 : Int32)) := D54 (Or.inr (own_k hw 17 rfl)) (ty := .int) (by decide)
  have F58 : Fld Z h54 b54 "com/example/ask4/ask4/eval/PairedTTest" "p" "D" (.double (0 : UInt64)) := D54 (Or.inr (own_k hw 19 rfl)) (ty := .double) (by decide)
  refine own_st (T' := T54) (g' := (mkF m 3 #[.val (.int p1), .val (.int p2), .val (.int p3), .val (.int p4), .val (.int p5), .unset, .unset, .unset, .unset, .unset, .unset] [(.ref b54)])) st54 ?_
  refine own_st (T' := T54) (g' := (mkF m 7 #[.val (.int p1), .val (.int p2), .val (.int p3), .val (.int p4), .val (.int p5), .unset, .unset, .unset, .unset, .unset, .unset] [(.double (0 : UInt64)), (.int (0 : Int32)), (.double (0 : UInt64)), (.ref b54), (.ref b54)])) (fun _ kt => XS.dup X54.here hx rfl (hb hby at_3) rfl rfl (XS.dconst0 X54.here hx rfl (hb hby at_4) rfl (XS.iconst X54.here hx rfl (hb hby at_5) (XS.dconst0 X54.here hx rfl (hb hby at_6) rfl kt)))) ?_
  obtain ⟨_, _, ⟨T59, L59, k59, n59⟩, -, X59, ⟨Lc59, hQ59, l59, y59, z59⟩, st59⟩ := X54.specialBack hx (y := (⟨"com/example/ask4/ask4/eval/PairedTTest", "<init>", "(DID)V"⟩ : MethodName)) rfl hown (mvT hZ (own_k hw 3 rfl)) (mvT hZ (own_k hw 4 rfl)) (mvT hZ (own_k hw 5 rfl)) (by decide) (backOf (W := 1) (own_r2 l Z a0 hw [] b54 (0 : UInt64) (0 : Int32) (0 : UInt64) h54 n0 Z55 A54 F56 F57 F58 ge_b54) hZ (own_k hw 5 rfl) (own_k hw 2 rfl) (by decide) (by decide)) (g := (mkF m 7 #[.val (.int p1), .val (.int p2), .val (.int p3), .val (.int p4), .val (.int p5), .unset, .unset, .unset, .unset, .unset, .unset] [(.double (0 : UInt64)), (.int (0 : Int32)), (.double (0 : UInt64)), (.ref b54), (.ref b54)])) rfl hml.symm (Steps.refl _) (a := b54) (argsL := [(.double (0 : UInt64)), (.int (0 : Int32)), (.double (0 : UInt64))]) (rest := [(.ref b54)]) (lenOf own_pd2 rfl) rfl (by show 2 * 0 + _ ≤ _; exact Nat.le_of_eq rfl) (hb hby at_7) (fun _ _ => ⟨rfl, e54, (by decide : 1 + 0 ≤ 16), (by decide : 3 + 0 ≤ 128)⟩)
  dsimp only [Pt.U, Pt.locs, Pt.cells, Pt.slots] at X59 l59 y59 z59 st59 hQ59
  subst l59 y59 z59
  obtain ⟨rfl, N59, K59_, P60⟩ := hQ59
  have N61 := Fr.app N0 N59
  have Z62 : n0 ≤ T59.heap.size := Nat.le_trans Z55 K59_.1
  refine own_tr (T' := T59) (g' := (mkF m 10 #[.val (.int p1), .val (.int p2), .val (.int p3), .val (.int p4), .val (.int p5), .unset, .unset, .unset, .unset, .unset, .unset] [(.ref b54)])) st59 ?_
  refine own_st (T' := T59) (g' := (mkF m 12 #[.val (.int p1), .val (.int p2), .val (.int p3), .val (.int p4), .val (.int p5), .val (.ref b54), .unset, .unset, .unset, .unset, .unset] [])) (fun _ kt => XS.astore X59.here hx rfl (hb hby at_10) rfl rfl (l' := #[.val (.int p1), .val (.int p2), .val (.int p3), .val (.int p4), .val (.int p5), .val (.ref b54), .unset, .unset, .unset, .unset, .unset]) rfl kt) ?_
  obtain ⟨T63, h63, X63, e63, E63, A63, D63, -, st63⟩ := newO X59 hx hZ hown (own_k hw 20 rfl) (own_k hw 21 rfl) (own_k hw 22 rfl) rfl (g := (mkF m 12 #[.val (.int p1), .val (.int p2), .val (.int p3), .val (.int p4), .val (.int p5), .val (.ref b54), .unset, .unset, .unset, .unset, .unset] [])) rfl (hb hby at_12) (by decide) (by decide)
  obtain ⟨b63, g63⟩ : ∃ z, z = T59.heap.size := ⟨_, rfl⟩
  rw [← g63] at A63 D63 st63
  have ne64 : b54 ≠ b63 := by rw [g63]; exact Nat.ne_of_lt P60.lt
  have Z65 : n0 ≤ h63.size := Nat.le_trans Z62 E63.1
  have ge_b63 : n0 ≤ b63 := Nat.le_trans Z62 (Nat.le_of_eq g63.symm)
  have F66 : Fld Z h63 b63 "com/example/ask4/ask4/eval/Comparison" "topics" "I" (.int (0 : Int32)) := D63 (Or.inr (own_k hw 28 rfl)) (ty := .int) (by decide)
  have F67 : Fld Z h63 b63 "com/example/ask4/ask4/eval/Comparison" "mapA" "D" (.double (0 : UInt64)) := D63 (Or.inr (own_k hw 30 rfl)) (ty := .double) (by decide)
  have F68 : Fld Z h63 b63 "com/example/ask4/ask4/eval/Comparison" "mapB" "D" (.double (0 : UInt64)) := D63 (Or.inr (own_k hw 32 rfl)) (ty := .double) (by decide)
  have F69 : Fld Z h63 b63 "com/example/ask4/ask4/eval/Comparison" "test" "Lcom/example/ask4/ask4/eval/PairedTTest;" .null := D63 (Or.inr (own_k hw 34 rfl)) (ty := (.object "com/example/ask4/ask4/eval/PairedTTest")) (by decide)
  have F70 : Fld Z h63 b63 "com/example/ask4/ask4/eval/Comparison" "better" "I" (.int (0 : Int32)) := D63 (Or.inr (own_k hw 36 rfl)) (ty := .int) (by decide)
  have F71 : Fld Z h63 b63 "com/example/ask4/ask4/eval/Comparison" "worse" "I" (.int (0 : Int32)) := D63 (Or.inr (own_k hw 38 rfl)) (ty := .int) (by decide)
  refine own_st (T' := T63) (g' := (mkF m 15 #[.val (.int p1), .val (.int p2), .val (.int p3), .val (.int p4), .val (.int p5), .val (.ref b54), .unset, .unset, .unset, .unset, .unset] [(.ref b63)])) st63 ?_
  refine own_st (T' := T63) (g' := (mkF m 33 #[.val (.int p1), .val (.int p2), .val (.int p3), .val (.int p4), .val (.int p5), .val (.ref b54), .unset, .unset, .unset, .unset, .unset] [(.int p2), (.ref b54), (.double (FP.i2d (p5 &&& (1023 : Int32)))), (.double (FP.i2d (p4 &&& (1023 : Int32)))), (.int p1), (.ref b63), (.ref b63)])) (fun _ kt => XS.dup X63.here hx rfl (hb hby at_15) rfl rfl (XS.iloadN X63.here hx rfl (hb hby at_16) rfl (XS.iloadN X63.here hx rfl (hb hby at_17) rfl (XS.sipush X63.here hx rfl (hb hby at_18) (XS.iand X63.here hx rfl (hb hby at_21) rfl (XS.i2dS X63.here hx rfl (hb hby at_22) rfl rfl (XS.iload X63.here hx rfl (hb hby at_23) rfl (XS.sipush X63.here hx rfl (hb hby at_25) (XS.iand X63.here hx rfl (hb hby at_28) rfl (XS.i2dS X63.here hx rfl (hb hby at_29) rfl rfl (XS.aload X63.here hx rfl (hb hby at_30) rfl rfl (XS.iloadN X63.here hx rfl (hb hby at_32) rfl kt)))))))))))) ?_
  refine own_st (T' := T63) (g' := (mkF m 34 #[.val (.int p1), .val (.int p2), .val (.int p3), .val (.int p4), .val (.int p5), .val (.ref b54), .unset, .unset, .unset, .unset, .unset] [(.int p3), (.int p2), (.ref b54), (.double (FP.i2d (p5 &&& (1023 : Int32)))), (.double (FP.i2d (p4 &&& (1023 : Int32)))), (.int p1), (.ref b63), (.ref b63)])) (fun _ kt => XS.iloadN X63.here hx rfl (hb hby at_33) rfl kt) ?_
  obtain ⟨_, _, ⟨T72, L72, k72, n72⟩, -, X72, ⟨Lc72, hQ72, l72, y72, z72⟩, st72⟩ := X63.specialBack hx (y := (⟨"com/example/ask4/ask4/eval/Comparison", "<init>", "(IDDLcom/example/ask4/ask4/eval/PairedTTest;II)V"⟩ : MethodName)) rfl hown (mvT hZ (own_k hw 23 rfl)) (mvT hZ (own_k hw 24 rfl)) (mvT hZ (own_k hw 25 rfl)) (by decide) (backOf (W := 1) (own_r3 l Z a0 hw [] b63 p1 (FP.i2d (p4 &&& (1023 : Int32))) (FP.i2d (p5 &&& (1023 : Int32))) b54 p2 p3 h63 n0 Z65 A63 ge_b63 F66 F67 F68 F69 F70 F71) hZ (own_k hw 25 rfl) (own_k hw 22 rfl) (by decide) (by decide)) (g := (mkF m 34 #[.val (.int p1), .val (.int p2), .val (.int p3), .val (.int p4), .val (.int p5), .val (.ref b54), .unset, .unset, .unset, .unset, .unset] [(.int p3), (.int p2), (.ref b54), (.double (FP.i2d (p5 &&& (1023 : Int32)))), (.double (FP.i2d (p4 &&& (1023 : Int32)))), (.int p1), (.ref b63), (.ref b63)])) rfl hml.symm (Steps.refl _) (a := b63) (argsL := [(.int p1), (.double (FP.i2d (p4 &&& (1023 : Int32)))), (.double (FP.i2d (p5 &&& (1023 : Int32)))), (.ref b54), (.int p2), (.int p3)]) (rest := [(.ref b63)]) (lenOf own_pd3 rfl) rfl (by show 2 * 0 + _ ≤ _; exact Nat.le_of_eq rfl) (hb hby at_34) (fun _ _ => ⟨rfl, e63, (by decide : 2 + 0 ≤ 16), (by decide : 9 + 0 ≤ 128)⟩)
  dsimp only [Pt.U, Pt.locs, Pt.cells, Pt.slots] at X72 l72 y72 z72 st72 hQ72
  subst l72 y72 z72
  obtain ⟨rfl, N72, K72_, P73, P74, P75, P76⟩ := hQ72
  have N77 := Fr.app N61 N72
  have Z78 : n0 ≤ T72.heap.size := Nat.le_trans Z65 K72_.1
  refine own_tr (T' := T72) (g' := (mkF m 37 #[.val (.int p1), .val (.int p2), .val (.int p3), .val (.int p4), .val (.int p5), .val (.ref b54), .unset, .unset, .unset, .unset, .unset] [(.ref b63)])) st72 ?_
  refine own_st (T' := T72) (g' := (mkF m 41 #[.val (.int p1), .val (.int p2), .val (.int p3), .val (.int p4), .val (.int p5), .val (.ref b54), .val (.ref b63), .unset, .unset, .unset, .unset] [(.ref b63)])) (fun _ kt => XS.astore X72.here hx rfl (hb hby at_37) rfl rfl (l' := #[.val (.int p1), .val (.int p2), .val (.int p3), .val (.int p4), .val (.int p5), .val (.ref b54), .val (.ref b63), .unset, .unset, .unset, .unset]) rfl (XS.aload X72.here hx rfl (hb hby at_39) rfl rfl kt)) ?_
  obtain ⟨cq80, kq80, qa80, qb80, qc80⟩ := isOf hZ rfl P73
  obtain ⟨_, _, ⟨T79, L79, k79, n79⟩, -, X79, ⟨Lc79, hQ79, l79, y79, z79⟩, st79⟩ := X72.virtualBack hx (y := (⟨"com/example/ask4/ask4/eval/Comparison", "equal", "()I"⟩ : MethodName)) (z := (⟨"com/example/ask4/ask4/eval/Comparison", "equal", "()I"⟩ : MethodName)) hown (mvT hZ (own_k hw 39 rfl)) (mvT hZ (own_k hw 40 rfl)) (notFace_of_selects (args := #[]) (mvT hZ (own_k hw 42 rfl))) (mvT hZ (own_k hw 42 rfl)) (mvT hZ (own_k hw 41 rfl)) (by decide) (backOf (W := 0) (own_r4 l Z a0 hw [] b63 p1 p2 p3 T72.heap n0 Z78 P74 P75 P76) hZ (own_k hw 43 rfl) (own_k hw 22 rfl) (by decide) (by decide)) qa80 qc80 (g := (mkF m 41 #[.val (.int p1), .val (.int p2), .val (.int p3), .val (.int p4), .val (.int p5), .val (.ref b54), .val (.ref b63), .unset, .unset, .unset, .unset] [(.ref b63)])) rfl hml.symm (Steps.refl _) (argsL := []) (rest := []) (lenOf own_pd4 rfl) rfl (by show 2 * 0 + _ ≤ _; exact Nat.le_of_eq rfl) (hb hby at_41) (fun _ _ => ⟨rfl, rfl, (by decide : 2 + 0 ≤ 16), (by decide : 9 + 0 ≤ 128)⟩)
  dsimp only [Pt.U, Pt.locs, Pt.cells, Pt.slots] at X79 l79 y79 z79 st79 hQ79
  subst l79 y79 z79
  obtain ⟨rfl, N79, e79⟩ := hQ79
  have N81 := Fr.app N77 N79
  refine own_tr (T' := T79) (g' := (mkF m 44 #[.val (.int p1), .val (.int p2), .val (.int p3), .val (.int p4), .val (.int p5), .val (.ref b54), .val (.ref b63), .unset, .unset, .unset, .unset] [(.int ((p1 - p2) - p3))])) st79 ?_
  refine own_st (T' := T79) (g' := (mkF m 64 #[.val (.int p1), .val (.int p2), .val (.int p3), .val (.int p4), .val (.int p5), .val (.ref b54), .val (.ref b63), .val (.int ((p1 - p2) - p3)), .val (.int (1 : Int32)), .unset, .unset] [(.int p2)])) (fun _ kt => XS.istore X79.here hx rfl (hb hby at_44) rfl (l' := #[.val (.int p1), .val (.int p2), .val (.int p3), .val (.int p4), .val (.int p5), .val (.ref b54), .val (.ref b63), .val (.int ((p1 - p2) - p3)), .unset, .unset, .unset]) rfl (XS.iload X79.here hx rfl (hb hby at_46) rfl (XS.iloadN X79.here hx rfl (hb hby at_48) rfl (XS.iadd X79.here hx rfl (hb hby at_49) rfl (XS.iloadN X79.here hx rfl (hb hby at_50) rfl (XS.iadd X79.here hx rfl (hb hby at_51) rfl (XS.iloadN X79.here hx rfl (hb hby at_52) rfl (XS.icmpNo X79.here hx rfl (hb hby at_53) rfl (XT.ii_ne_f (own_l1 _ _ _)) (XS.iconst X79.here hx rfl (hb hby at_56) (XS.goto X79.here hx rfl (pc0 := 57) (pc' := 61) rfl (hb hby at_57) (by decide) (by decide) (XS.istore X79.here hx rfl (hb hby at_61) rfl (l' := #[.val (.int p1), .val (.int p2), .val (.int p3), .val (.int p4), .val (.int p5), .val (.ref b54), .val (.ref b63), .val (.int ((p1 - p2) - p3)), .val (.int (1 : Int32)), .unset, .unset]) rfl (XS.iloadN X79.here hx rfl (hb hby at_63) rfl kt)))))))))))) ?_
  by_cases hc82 : p2 < 0
  · -- pc 64: p2 < 0
    refine own_st (T' := T79) (g' := (mkF m 122 #[.val (.int p1), .val (.int p2), .val (.int p3), .val (.int p4), .val (.int p5), .val (.ref b54), .val (.ref b63), .val (.int ((p1 - p2) - p3)), .val (.int (1 : Int32)), .val (.int (0 : Int32)), .val (.int (1 : Int32))] [])) (fun _ kt => XS.ifYes X79.here hx rfl (pc0 := 64) (pc' := 86) rfl (hb hby at_64) rfl (XT.i0_lt_t hc82) (by decide) (by decide) (XS.iconst X79.here hx rfl (hb hby at_86) (XS.istore X79.here hx rfl (hb hby at_87) rfl (l' := #[.val (.int p1), .val (.int p2), .val (.int p3), .val (.int p4), .val (.int p5), .val (.ref b54), .val (.ref b63), .val (.int ((p1 - p2) - p3)), .val (.int (1 : Int32)), .val (.int (0 : Int32)), .unset]) rfl (XS.iload X79.here hx rfl (hb hby at_89) rfl (XS.ifYes X79.here hx rfl (pc0 := 91) (pc' := 105) rfl (hb hby at_91) rfl (XT.i0_eq_t (by decide)) (by decide) (by decide) (XS.iconst X79.here hx rfl (hb hby at_105) (XS.goto X79.here hx rfl (pc0 := 106) (pc' := 110) rfl (hb hby at_106) (by decide) (by decide) (XS.istore X79.here hx rfl (hb hby at_110) rfl (l' := #[.val (.int p1), .val (.int p2), .val (.int p3), .val (.int p4), .val (.int p5), .val (.ref b54), .val (.ref b63), .val (.int ((p1 - p2) - p3)), .val (.int (1 : Int32)), .val (.int (0 : Int32)), .val (.int (1 : Int32))]) rfl (XS.iload X79.here hx rfl (hb hby at_112) rfl (XS.ifNo X79.here hx rfl (hb hby at_114) rfl (XT.i0_eq_f (by decide)) (XS.iload X79.here hx rfl (hb hby at_117) rfl (XS.ifNo X79.here hx rfl (hb hby at_119) rfl (XT.i0_eq_f (by decide)) kt)))))))))))) ?_
    refine own_st (T' := T79) (g' := (mkF m 127 #[.val (.int p1), .val (.int p2), .val (.int p3), .val (.int p4), .val (.int p5), .val (.ref b54), .val (.ref b63), .val (.int ((p1 - p2) - p3)), .val (.int (1 : Int32)), .val (.int (0 : Int32)), .val (.int (1 : Int32))] [(.int (1 : Int32))])) (fun _ kt => XS.iconst X79.here hx rfl (hb hby at_122) (XS.goto X79.here hx rfl (pc0 := 123) (pc' := 127) rfl (hb hby at_123) (by decide) (by decide) kt)) ?_
    obtain ⟨fs, hr, hrun, hended, hW, hsame⟩ := X79.leave (v := some (.int (1 : Int32))) (fun h => by rw [Bd.returns] at h; cases h)
    refine own_end (retN X79 hx (t := .boolean) Bd.returns (by simp) (hb hby at_127) hr) ⟨_, hrun, hended, _, _, rfl, ?_, ⟨_, rfl⟩, hW, hsame.mono (by decide) (by decide)⟩
    show own_lawQ Z p1 p2 p3 p4 p5 h0 n0 _ T79.heap _
    rw [e79]
    exact ⟨rfl, N81⟩
  · -- pc 64: not p2 < 0
    refine own_st (T' := T79) (g' := (mkF m 68 #[.val (.int p1), .val (.int p2), .val (.int p3), .val (.int p4), .val (.int p5), .val (.ref b54), .val (.ref b63), .val (.int ((p1 - p2) - p3)), .val (.int (1 : Int32)), .unset, .unset] [(.int p3)])) (fun _ kt => XS.ifNo X79.here hx rfl (hb hby at_64) rfl (XT.i0_lt_f hc82) (XS.iloadN X79.here hx rfl (hb hby at_67) rfl kt)) ?_
    by_cases hc83 : p3 < 0
    · -- pc 68: p3 < 0
      refine own_st (T' := T79) (g' := (mkF m 122 #[.val (.int p1), .val (.int p2), .val (.int p3), .val (.int p4), .val (.int p5), .val (.ref b54), .val (.ref b63), .val (.int ((p1 - p2) - p3)), .val (.int (1 : Int32)), .val (.int (0 : Int32)), .val (.int (1 : Int32))] [])) (fun _ kt => XS.ifYes X79.here hx rfl (pc0 := 68) (pc' := 86) rfl (hb hby at_68) rfl (XT.i0_lt_t hc83) (by decide) (by decide) (XS.iconst X79.here hx rfl (hb hby at_86) (XS.istore X79.here hx rfl (hb hby at_87) rfl (l' := #[.val (.int p1), .val (.int p2), .val (.int p3), .val (.int p4), .val (.int p5), .val (.ref b54), .val (.ref b63), .val (.int ((p1 - p2) - p3)), .val (.int (1 : Int32)), .val (.int (0 : Int32)), .unset]) rfl (XS.iload X79.here hx rfl (hb hby at_89) rfl (XS.ifYes X79.here hx rfl (pc0 := 91) (pc' := 105) rfl (hb hby at_91) rfl (XT.i0_eq_t (by decide)) (by decide) (by decide) (XS.iconst X79.here hx rfl (hb hby at_105) (XS.goto X79.here hx rfl (pc0 := 106) (pc' := 110) rfl (hb hby at_106) (by decide) (by decide) (XS.istore X79.here hx rfl (hb hby at_110) rfl (l' := #[.val (.int p1), .val (.int p2), .val (.int p3), .val (.int p4), .val (.int p5), .val (.ref b54), .val (.ref b63), .val (.int ((p1 - p2) - p3)), .val (.int (1 : Int32)), .val (.int (0 : Int32)), .val (.int (1 : Int32))]) rfl (XS.iload X79.here hx rfl (hb hby at_112) rfl (XS.ifNo X79.here hx rfl (hb hby at_114) rfl (XT.i0_eq_f (by decide)) (XS.iload X79.here hx rfl (hb hby at_117) rfl (XS.ifNo X79.here hx rfl (hb hby at_119) rfl (XT.i0_eq_f (by decide)) kt)))))))))))) ?_
      refine own_st (T' := T79) (g' := (mkF m 127 #[.val (.int p1), .val (.int p2), .val (.int p3), .val (.int p4), .val (.int p5), .val (.ref b54), .val (.ref b63), .val (.int ((p1 - p2) - p3)), .val (.int (1 : Int32)), .val (.int (0 : Int32)), .val (.int (1 : Int32))] [(.int (1 : Int32))])) (fun _ kt => XS.iconst X79.here hx rfl (hb hby at_122) (XS.goto X79.here hx rfl (pc0 := 123) (pc' := 127) rfl (hb hby at_123) (by decide) (by decide) kt)) ?_
      obtain ⟨fs, hr, hrun, hended, hW, hsame⟩ := X79.leave (v := some (.int (1 : Int32))) (fun h => by rw [Bd.returns] at h; cases h)
      refine own_end (retN X79 hx (t := .boolean) Bd.returns (by simp) (hb hby at_127) hr) ⟨_, hrun, hended, _, _, rfl, ?_, ⟨_, rfl⟩, hW, hsame.mono (by decide) (by decide)⟩
      show own_lawQ Z p1 p2 p3 p4 p5 h0 n0 _ T79.heap _
      rw [e79]
      exact ⟨rfl, N81⟩
    · -- pc 68: not p3 < 0
      refine own_st (T' := T79) (g' := (mkF m 79 #[.val (.int p1), .val (.int p2), .val (.int p3), .val (.int p4), .val (.int p5), .val (.ref b54), .val (.ref b63), .val (.int ((p1 - p2) - p3)), .val (.int (1 : Int32)), .unset, .unset] [(.int (XT.cmpL ((p2.toInt64) + (p3.toInt64)) (p1.toInt64)))])) (fun _ kt => XS.ifNo X79.here hx rfl (hb hby at_68) rfl (XT.i0_lt_f hc83) (XS.iloadN X79.here hx rfl (hb hby at_71) rfl (XT.i2l X79.here hx rfl (hb hby at_72) rfl (XS.iloadN X79.here hx rfl (hb hby at_73) rfl (XT.i2l X79.here hx rfl (hb hby at_74) rfl (XT.ladd X79.here hx rfl (hb hby at_75) rfl (XS.iloadN X79.here hx rfl (hb hby at_76) rfl (XT.i2l X79.here hx rfl (hb hby at_77) rfl (XT.lcmp X79.here hx rfl (hb hby at_78) rfl kt))))))))) ?_
      by_cases hc84 : (p1.toInt64) < ((p2.toInt64) + (p3.toInt64))
      · -- pc 79: (p1.toInt64) < ((p2.toInt64) + (p3.toInt64))
        refine own_st (T' := T79) (g' := (mkF m 122 #[.val (.int p1), .val (.int p2), .val (.int p3), .val (.int p4), .val (.int p5), .val (.ref b54), .val (.ref b63), .val (.int ((p1 - p2) - p3)), .val (.int (1 : Int32)), .val (.int (0 : Int32)), .val (.int (1 : Int32))] [])) (fun _ kt => XS.ifYes X79.here hx rfl (pc0 := 79) (pc' := 86) rfl (hb hby at_79) rfl (XT.ll_gt_t hc84) (by decide) (by decide) (XS.iconst X79.here hx rfl (hb hby at_86) (XS.istore X79.here hx rfl (hb hby at_87) rfl (l' := #[.val (.int p1), .val (.int p2), .val (.int p3), .val (.int p4), .val (.int p5), .val (.ref b54), .val (.ref b63), .val (.int ((p1 - p2) - p3)), .val (.int (1 : Int32)), .val (.int (0 : Int32)), .unset]) rfl (XS.iload X79.here hx rfl (hb hby at_89) rfl (XS.ifYes X79.here hx rfl (pc0 := 91) (pc' := 105) rfl (hb hby at_91) rfl (XT.i0_eq_t (by decide)) (by decide) (by decide) (XS.iconst X79.here hx rfl (hb hby at_105) (XS.goto X79.here hx rfl (pc0 := 106) (pc' := 110) rfl (hb hby at_106) (by decide) (by decide) (XS.istore X79.here hx rfl (hb hby at_110) rfl (l' := #[.val (.int p1), .val (.int p2), .val (.int p3), .val (.int p4), .val (.int p5), .val (.ref b54), .val (.ref b63), .val (.int ((p1 - p2) - p3)), .val (.int (1 : Int32)), .val (.int (0 : Int32)), .val (.int (1 : Int32))]) rfl (XS.iload X79.here hx rfl (hb hby at_112) rfl (XS.ifNo X79.here hx rfl (hb hby at_114) rfl (XT.i0_eq_f (by decide)) (XS.iload X79.here hx rfl (hb hby at_117) rfl (XS.ifNo X79.here hx rfl (hb hby at_119) rfl (XT.i0_eq_f (by decide)) kt)))))))))))) ?_
        refine own_st (T' := T79) (g' := (mkF m 127 #[.val (.int p1), .val (.int p2), .val (.int p3), .val (.int p4), .val (.int p5), .val (.ref b54), .val (.ref b63), .val (.int ((p1 - p2) - p3)), .val (.int (1 : Int32)), .val (.int (0 : Int32)), .val (.int (1 : Int32))] [(.int (1 : Int32))])) (fun _ kt => XS.iconst X79.here hx rfl (hb hby at_122) (XS.goto X79.here hx rfl (pc0 := 123) (pc' := 127) rfl (hb hby at_123) (by decide) (by decide) kt)) ?_
        obtain ⟨fs, hr, hrun, hended, hW, hsame⟩ := X79.leave (v := some (.int (1 : Int32))) (fun h => by rw [Bd.returns] at h; cases h)
        refine own_end (retN X79 hx (t := .boolean) Bd.returns (by simp) (hb hby at_127) hr) ⟨_, hrun, hended, _, _, rfl, ?_, ⟨_, rfl⟩, hW, hsame.mono (by decide) (by decide)⟩
        show own_lawQ Z p1 p2 p3 p4 p5 h0 n0 _ T79.heap _
        rw [e79]
        exact ⟨rfl, N81⟩
      · -- pc 79: not (p1.toInt64) < ((p2.toInt64) + (p3.toInt64))
        refine own_st (T' := T79) (g' := (mkF m 106 #[.val (.int p1), .val (.int p2), .val (.int p3), .val (.int p4), .val (.int p5), .val (.ref b54), .val (.ref b63), .val (.int ((p1 - p2) - p3)), .val (.int (1 : Int32)), .val (.int (1 : Int32)), .unset] [(.int (1 : Int32))])) (fun _ kt => XS.ifNo X79.here hx rfl (hb hby at_79) rfl (XT.ll_gt_f hc84) (XS.iconst X79.here hx rfl (hb hby at_82) (XS.goto X79.here hx rfl (pc0 := 83) (pc' := 87) rfl (hb hby at_83) (by decide) (by decide) (XS.istore X79.here hx rfl (hb hby at_87) rfl (l' := #[.val (.int p1), .val (.int p2), .val (.int p3), .val (.int p4), .val (.int p5), .val (.ref b54), .val (.ref b63), .val (.int ((p1 - p2) - p3)), .val (.int (1 : Int32)), .val (.int (1 : Int32)), .unset]) rfl (XS.iload X79.here hx rfl (hb hby at_89) rfl (XS.ifNo X79.here hx rfl (hb hby at_91) rfl (XT.i0_eq_f (by decide)) (XS.iload X79.here hx rfl (hb hby at_94) rfl (XS.ifNo X79.here hx rfl (hb hby at_96) rfl (XT.i0_lt_f (own_l2 hc82 hc83 hc84).1) (XS.iload X79.here hx rfl (hb hby at_99) rfl (XS.iloadN X79.here hx rfl (hb hby at_101) rfl (XS.icmpNo X79.here hx rfl (hb hby at_102) rfl (XT.ii_gt_f (own_l2 hc82 hc83 hc84).2) (XS.iconst X79.here hx rfl (hb hby at_105) kt)))))))))))) ?_
        refine own_st (T' := T79) (g' := (mkF m 127 #[.val (.int p1), .val (.int p2), .val (.int p3), .val (.int p4), .val (.int p5), .val (.ref b54), .val (.ref b63), .val (.int ((p1 - p2) - p3)), .val (.int (1 : Int32)), .val (.int (1 : Int32)), .val (.int (1 : Int32))] [(.int (1 : Int32))])) (fun _ kt => XS.goto X79.here hx rfl (pc0 := 106) (pc' := 110) rfl (hb hby at_106) (by decide) (by decide) (XS.istore X79.here hx rfl (hb hby at_110) rfl (l' := #[.val (.int p1), .val (.int p2), .val (.int p3), .val (.int p4), .val (.int p5), .val (.ref b54), .val (.ref b63), .val (.int ((p1 - p2) - p3)), .val (.int (1 : Int32)), .val (.int (1 : Int32)), .val (.int (1 : Int32))]) rfl (XS.iload X79.here hx rfl (hb hby at_112) rfl (XS.ifNo X79.here hx rfl (hb hby at_114) rfl (XT.i0_eq_f (by decide)) (XS.iload X79.here hx rfl (hb hby at_117) rfl (XS.ifNo X79.here hx rfl (hb hby at_119) rfl (XT.i0_eq_f (by decide)) (XS.iconst X79.here hx rfl (hb hby at_122) (XS.goto X79.here hx rfl (pc0 := 123) (pc' := 127) rfl (hb hby at_123) (by decide) (by decide) kt)))))))) ?_
        obtain ⟨fs, hr, hrun, hended, hW, hsame⟩ := X79.leave (v := some (.int (1 : Int32))) (fun h => by rw [Bd.returns] at h; cases h)
        refine own_end (retN X79 hx (t := .boolean) Bd.returns (by simp) (hb hby at_127) hr) ⟨_, hrun, hended, _, _, rfl, ?_, ⟨_, rfl⟩, hW, hsame.mono (by decide) (by decide)⟩
        show own_lawQ Z p1 p2 p3 p4 p5 h0 n0 _ T79.heap _
        rw [e79]
        exact ⟨rfl, N81⟩
set_option maxRecDepth 65536 in
set_option maxHeartbeats 40000000 in
theorem comes_1 {Post : Tables → Env → Array Value → State → Outcome → State → Prop} (hpost : ∀ tb e args s v u, (limb_1_1.after args s (.returned v) u = true ∧ limb_1_2.after args s (.returned v) u = true ∧ True) → FrameEnd s (.returned v) u (Jvm.fieldLocs frame_1_writes args s ++ Jvm.arrayLocs frame_1_arrays args s ++ Jvm.staticLocs frame_1_statics s) 16 128 → Post tb e args s (.returned v) u) :
    ArmFor flags0 classFile x code maxLocals ret World_1 tables_1 room_1 Calls_1 rest_1 Pre_1 Post := by
  intro l hfl _ _ p e ha hc hk s m args below hf hA hF happ hP
  obtain ⟨hcalls, hrest, hpre⟩ := hP
  obtain ⟨-, -, -, hnamed, -, -, -, hat⟩ := (Spec.applies_iff hf).mp happ
  obtain ⟨hg, hn⟩ := and_e (Cond.before_iff.mp (show (Jvm.Cond.and given_1 narrow_1).before args s = true from hpre))
  obtain ⟨g0, hg⟩ := and_e hg
  obtain ⟨g1, hg⟩ := and_e hg
  obtain ⟨g2, hg⟩ := and_e hg
  obtain ⟨g3, hg⟩ := and_e hg
  obtain ⟨g4, hg⟩ := and_e hg
  obtain ⟨w0, w1, w2, w3, w4, rfl⟩ : ∃ w0 w1 w2 w3 w4 : Value, args = #[w0, w1, w2, w3, w4] := by
    have hs : args.size = 5 := by simpa [Cond.value, given_1] using g0
    obtain ⟨L⟩ := args
    match L, hs with
    | [w0, w1, w2, w3, w4], _ => exact ⟨w0, w1, w2, w3, w4, rfl⟩
  have hw := fun d (hd : d ∈ tables_1) => atoms_spec (ws := Jvm.Cond.code x code maxLocals ret :: tables_1) hat d (List.mem_cons_of_mem _ hd)
  have hfit : Fit s := fun {y c} hc i hi => by
    obtain ⟨ha, rfl⟩ := Array.getElem?_eq_some_iff.mp hc
    have q := List.all_eq_true.mp ((Array.all_eq_true_iff_forall_mem.mp hF) _ (Array.getElem_mem ha)) i (List.mem_range.mpr hi)
    simpa [Array.getElem?_eq_getElem hi] using q
  obtain ⟨i0, e0⟩ := is_v g1
  obtain rfl : w0 = (.int i0) := Option.some.inj e0
  obtain ⟨i1, e1⟩ := is_v g2
  obtain rfl : w1 = (.int i1) := Option.some.inj e1
  obtain ⟨i2, e2⟩ := is_v g3
  obtain rfl : w2 = (.int i2) := Option.some.inj e2
  obtain ⟨i3, e3⟩ := is_v g4
  obtain rfl : w3 = (.int i3) := Option.some.inj e3
  obtain ⟨i4, e4⟩ := is_v hg
  obtain rfl : w4 = (.int i4) := Option.some.inj e4
  obtain ⟨n, o, h1, h2, h3, _, L, rfl, ⟨rfl, N⟩, hq⟩ := own_law l s _ hw tables_1 i0 i1 i2 i3 i4 s.heap s.heap.size (Nat.le_refl _)  p e ha hc hk s m _ below hf ((Spec.applies_iff_loose hf).mp happ).1 ⟨rfl, State.Warmed39.refl s, rfl⟩ trivial
  refine ⟨n, _, h1, h2, h3, hpost _ _ _ _ _ _ ⟨Cond.after_iff.mpr rfl, Cond.after_iff.mpr (eq_i res_at (Term.int_eval (1)) rfl), trivial⟩ ⟨hq.1, hq.2.1, (hq.2.2.sift fun y hy => Or.inr (N y hy)).mono (by decide) (by decide)⟩⟩
theorem main_1_1 : Claimed_1_1 := comes_1 fun _ _ _ _ _ _ h hF => ⟨h.1, hF⟩
theorem main_1_2 : Claimed_1_2 := comes_1 fun _ _ _ _ _ _ h hF => ⟨h.2.1, hF⟩
end Jvm.Pilot.@@N@@
namespace Jvm.Pilot.@@N@@
open Jvm Jvm.ClassFile Sem Op Lib Jvm.Free Jvm.Stand Jvm.Pilot.@@N@@.Jvm.D
/-! MADE BY PROGRAM (witnessworld.py) out of the Statement's table words and the real class files: 11 classes; the members and pool entries that the words name. The judged class is class 1, her method 1. -/
namespace start1
open Jvm.ClassFile
def u (s : String) : CpInfo := .utf8 (stringToUtf16 s)
/-- a pool by its gaps: so many unusable entries, then the entry; so many at the end -/
def gap : Nat → List CpInfo → List CpInfo
  | 0, r => r
  | n + 1, r => .unusable :: gap n r
def poolList (es : List (Nat × CpInfo)) (last : Nat) : List CpInfo := es.foldr (fun e r => gap e.1 (e.2 :: r)) (gap last [])
def pool (es : List (Nat × CpInfo)) (last : Nat) : Array CpInfo := ⟨poolList es last⟩
def fileOf (pool : Array CpInfo) (this : Nat) (attrs : Array Attribute := #[]) (ms : Array MethodInfo := #[]) (fl : Nat := 33) (sup : Nat := 0) (ifs : Array Nat := #[]) (fds : Array FieldInfo := #[]) : ClassFile where
  minorVersion := 0
  majorVersion := 65
  constantPool := pool
  accessFlags := fl
  thisClass := this
  superClass := sup
  interfaces := ifs
  fields := fds
  methods := ms
  attributes := attrs
def plain (name : String) (sup : Option ClassId) : Class where
  name := name
  kind := .ordinary
  loader := none
  accessFlags := 33
  super := sup
  interfaces := #[]
  cf := none
  fields := #[]
  methods := #[]
  instanceTypes := #[]
  staticTypes := #[]
  resolved := #[]
  callSites := []
  init := .initialized
  statics := none
  mirror := none

def pool0 : Array CpInfo := pool [(5, u "<init>"), (0, u "()V"), (1, .class_ 10), (1, u "java/lang/Object")] 113

def k0c0 : Code := { maxStack := 0, maxLocals := 1, code := object_method_1_code, exceptionTable := #[], attributes := #[] }
def k0m0 : Method := { name := "<init>", desc := "()V", sig := { parameters := [], returnType := none }, accessFlags := 1, code := some k0c0 }
/-- java/lang/Object -/
def k0 : Class := { plain "java/lang/Object" none with
  accessFlags := 33
  interfaces := #[]
  cf := some (fileOf pool0 8 #[] #[{ accessFlags := 1, nameIndex := 5, descriptorIndex := 6, attributes := #[] }] 33 0 #[] #[])
  fields := #[]
  methods := #[k0m0]
  instanceTypes := #[]
  staticTypes := #[]
  resolved := Array.replicate 124 none
  statics := none }

def pool1 : Array CpInfo := pool [(2, .class_ 4), (1, u "java/lang/Object"), (0, u "<init>"), (0, u "()V"), (0, .class_ 8), (0, u "com/example/ask4/ask4/eval/PairedTTest"), (0, .methodref 7 10), (0, .nameAndType 5 11), (0, u "(DID)V"), (0, .class_ 13), (0, u "com/example/ask4/ask4/eval/Comparison"), (0, .methodref 12 15), (0, .nameAndType 5 16), (0, u "(IDDLcom/example/ask4/ask4/eval/PairedTTest;II)V"), (0, .methodref 12 18), (0, .nameAndType 19 20), (0, u "equal"), (0, u "()I"), (0, .class_ 22), (0, u "com/example/ask4/ask4/eval/ComparisonEqualPinLaw"), (2, u "law"), (0, u "(IIIII)Z")] 3

def k1m0 : Method := { name := "<init>", desc := "()V", sig := { parameters := [], returnType := none }, accessFlags := 2, code := none }
def k1c1 : Code := { maxStack := 10, maxLocals := 11, code := code, exceptionTable := #[], attributes := #[] }
def k1m1 : Method := { name := "law", desc := "(IIIII)Z", sig := { parameters := [.int, .int, .int, .int, .int], returnType := some .boolean }, accessFlags := 9, code := some k1c1 }
/-- com/example/ask4/ask4/eval/ComparisonEqualPinLaw -/
def k1 : Class := { plain "com/example/ask4/ask4/eval/ComparisonEqualPinLaw" (some 0) with
  accessFlags := 49
  interfaces := #[]
  cf := some (fileOf pool1 21 #[] #[{ accessFlags := 2, nameIndex := 5, descriptorIndex := 6, attributes := #[] }, { accessFlags := 9, nameIndex := 25, descriptorIndex := 26, attributes := #[] }] 49 2 #[] #[])
  fields := #[]
  methods := #[k1m0, k1m1]
  instanceTypes := #[]
  staticTypes := #[]
  resolved := Array.replicate 30 none
  statics := none }

def pool2 : Array CpInfo := pool [(1, .methodref 2 3), (0, .class_ 4), (0, .nameAndType 5 6), (0, u "java/lang/Object"), (0, u "<init>"), (0, u "()V"), (0, .class_ 8), (0, u "java/lang/Record")] 13

def k2c0 : Code := { maxStack := 1, maxLocals := 1, code := jdk_30_method_1_code, exceptionTable := #[], attributes := #[] }
def k2m0 : Method := { name := "<init>", desc := "()V", sig := { parameters := [], returnType := none }, accessFlags := 4, code := some k2c0 }
/-- java/lang/Record -/
def k2 : Class := { plain "java/lang/Record" (some 0) with
  accessFlags := 1057
  interfaces := #[]
  cf := some (fileOf pool2 7 #[] #[{ accessFlags := 4, nameIndex := 5, descriptorIndex := 6, attributes := #[] }] 1057 2 #[] #[])
  fields := #[]
  methods := #[k2m0]
  instanceTypes := #[]
  staticTypes := #[]
  resolved := Array.replicate 22 none
  statics := none }

def pool3 : Array CpInfo := pool [(1, .methodref 2 3), (0, .class_ 4), (0, .nameAndType 5 6), (0, u "java/lang/Record"), (0, u "<init>"), (0, u "()V"), (0, .fieldref 8 9), (0, .class_ 10), (0, .nameAndType 11 12), (0, u "com/example/ask4/ask4/eval/PairedTTest"), (0, u "t"), (0, u "D"), (0, .fieldref 8 14), (0, .nameAndType 15 16), (0, u "df"), (0, u "I"), (0, .fieldref 8 18), (0, .nameAndType 19 12), (0, u "p"), (12, u "(DID)V")] 70

def k3c0 : Code := { maxStack := 3, maxLocals := 6, code := prog_8_method_1_code, exceptionTable := #[], attributes := #[] }
def k3m0 : Method := { name := "<init>", desc := "(DID)V", sig := { parameters := [.double, .int, .double], returnType := none }, accessFlags := 1, code := some k3c0 }
/-- com/example/ask4/ask4/eval/PairedTTest -/
def k3 : Class := { plain "com/example/ask4/ask4/eval/PairedTTest" (some 2) with
  accessFlags := 49
  interfaces := #[]
  cf := some (fileOf pool3 8 #[] #[{ accessFlags := 1, nameIndex := 5, descriptorIndex := 32, attributes := #[] }] 49 2 #[] #[{ accessFlags := 18, nameIndex := 11, descriptorIndex := 12, attributes := #[] }, { accessFlags := 18, nameIndex := 15, descriptorIndex := 16, attributes := #[] }, { accessFlags := 18, nameIndex := 19, descriptorIndex := 12, attributes := #[] }])
  fields := #[{ name := "t", type := .double, accessFlags := 18, slot := 0, constantValue := 0 }, { name := "df", type := .int, accessFlags := 18, slot := 1, constantValue := 0 }, { name := "p", type := .double, accessFlags := 18, slot := 2, constantValue := 0 }]
  methods := #[k3m0]
  instanceTypes := #[.double, .int, .double]
  staticTypes := #[]
  resolved := Array.replicate 103 none
  statics := none }

def pool4 : Array CpInfo := pool [(1, .methodref 2 3), (0, .class_ 4), (0, .nameAndType 5 6), (0, u "java/lang/Record"), (0, u "<init>"), (0, u "()V"), (0, .fieldref 8 9), (0, .class_ 10), (0, .nameAndType 11 12), (0, u "com/example/ask4/ask4/eval/Comparison"), (0, u "topics"), (0, u "I"), (0, .fieldref 8 14), (0, .nameAndType 15 16), (0, u "mapA"), (0, u "D"), (0, .fieldref 8 18), (0, .nameAndType 19 16), (0, u "mapB"), (0, .fieldref 8 21), (0, .nameAndType 22 23), (0, u "test"), (0, u "Lcom/example/ask4/ask4/eval/PairedTTest;"), (0, .fieldref 8 25), (0, .nameAndType 26 12), (0, u "better"), (0, .fieldref 8 28), (0, .nameAndType 29 12), (0, u "worse"), (37, u "()I"), (41, u "(IDDLcom/example/ask4/ask4/eval/PairedTTest;II)V"), (41, u "EQUAL"), (10, u "equal")] 47

def k4c0 : Code := { maxStack := 3, maxLocals := 9, code := prog_4_method_1_code, exceptionTable := #[], attributes := #[] }
def k4m0 : Method := { name := "<init>", desc := "(IDDLcom/example/ask4/ask4/eval/PairedTTest;II)V", sig := { parameters := [.int, .double, .double, (.object "com/example/ask4/ask4/eval/PairedTTest"), .int, .int], returnType := none }, accessFlags := 1, code := some k4c0 }
def k4c1 : Code := { maxStack := 2, maxLocals := 1, code := prog_4_method_3_code, exceptionTable := #[], attributes := #[] }
def k4m1 : Method := { name := "equal", desc := "()I", sig := { parameters := [], returnType := some .int }, accessFlags := 1, code := some k4c1 }
/-- com/example/ask4/ask4/eval/Comparison -/
def k4 : Class := { plain "com/example/ask4/ask4/eval/Comparison" (some 2) with
  accessFlags := 49
  interfaces := #[]
  cf := some (fileOf pool4 8 #[] #[{ accessFlags := 1, nameIndex := 5, descriptorIndex := 109, attributes := #[] }, { accessFlags := 1, nameIndex := 162, descriptorIndex := 67, attributes := #[] }] 49 2 #[] #[{ accessFlags := 18, nameIndex := 11, descriptorIndex := 12, attributes := #[] }, { accessFlags := 18, nameIndex := 15, descriptorIndex := 16, attributes := #[] }, { accessFlags := 18, nameIndex := 19, descriptorIndex := 16, attributes := #[] }, { accessFlags := 18, nameIndex := 22, descriptorIndex := 23, attributes := #[] }, { accessFlags := 18, nameIndex := 26, descriptorIndex := 12, attributes := #[] }, { accessFlags := 18, nameIndex := 29, descriptorIndex := 12, attributes := #[] }, { accessFlags := 25, nameIndex := 151, descriptorIndex := 16, attributes := #[] }])
  fields := #[{ name := "topics", type := .int, accessFlags := 18, slot := 0, constantValue := 0 }, { name := "mapA", type := .double, accessFlags := 18, slot := 1, constantValue := 0 }, { name := "mapB", type := .double, accessFlags := 18, slot := 2, constantValue := 0 }, { name := "test", type := (.object "com/example/ask4/ask4/eval/PairedTTest"), accessFlags := 18, slot := 3, constantValue := 0 }, { name := "better", type := .int, accessFlags := 18, slot := 4, constantValue := 0 }, { name := "worse", type := .int, accessFlags := 18, slot := 5, constantValue := 0 }, { name := "EQUAL", type := .double, accessFlags := 25, slot := 0, constantValue := 0 }]
  methods := #[k4m0, k4m1]
  instanceTypes := #[.int, .double, .double, (.object "com/example/ask4/ask4/eval/PairedTTest"), .int, .int]
  staticTypes := #[.double]
  resolved := Array.replicate 210 none
  statics := none }

def pool5 : Array CpInfo := pool [(1, u "java/lang/Cloneable"), (0, .class_ 1), (0, u "java/lang/Object"), (0, .class_ 3)] 3

/-- java/lang/Cloneable -/
def k5 : Class := { plain "java/lang/Cloneable" (some 0) with
  accessFlags := 1537
  interfaces := #[]
  cf := some (fileOf pool5 2 #[] #[] 1537 4 #[] #[])
  fields := #[]
  methods := #[]
  instanceTypes := #[]
  staticTypes := #[]
  resolved := Array.replicate 8 none
  statics := none }

def pool6 : Array CpInfo := pool [(1, u "java/io/Serializable"), (0, .class_ 1), (0, u "java/lang/Object"), (0, .class_ 3)] 3

/-- java/io/Serializable -/
def k6 : Class := { plain "java/io/Serializable" (some 0) with
  accessFlags := 1537
  interfaces := #[]
  cf := some (fileOf pool6 2 #[] #[] 1537 4 #[] #[])
  fields := #[]
  methods := #[]
  instanceTypes := #[]
  staticTypes := #[]
  resolved := Array.replicate 8 none
  statics := none }

/-- the primitive byte -/
def k7 : Class := { plain "byte" none with kind := .primitive 'B', accessFlags := 0x411 }
/-- [B -/
def k8 : Class := { plain "[B" (some 0) with kind := .array 7 .byte, interfaces := #[5, 6], accessFlags := 1041 }

/-- the primitive int -/
def k9 : Class := { plain "int" none with kind := .primitive 'I', accessFlags := 0x411 }
/-- [I -/
def k10 : Class := { plain "[I" (some 0) with kind := .array 9 .int, interfaces := #[5, 6], accessFlags := 1041 }

def heap : Heap := #[]
def classes : Array Class := #[k0, k1, k2, k3, k4, k5, k6, k7, k8, k9, k10]
def interned : List (Array UInt16 × Addr) := []
def slotsUsed : Nat := 0
def theMethod : MethodId := ⟨1, 1⟩
def args0 : Array Value := #[.int 5, .int 5, .int 5, .int 5, .int 5]
def aboutOver (below : List Frame) : State where
  vm := { classes := classes, interned := interned.toArray }
  heap := heap
  slotsUsed := slotsUsed
  threads := #[{ frames := .invoking theMethod args0 :: below }]
def below0 : List Frame := [.native { method := ⟨0, 0⟩, args := #[] }]
def about1 : State := aboutOver below0
def p0 : Program := .bare "" "" ""
def e0 : Env := launch0.env 0 0 0
theorem w_frames : about1.frames = Frame.invoking theMethod args0 :: below0 := rfl
set_option maxRecDepth 65536 in
theorem w_args : argsFit about1.vm theMethod args0 = true := by decide +kernel
set_option maxRecDepth 65536 in
theorem w_heap : heapFits about1 = true := by decide +kernel
set_option maxRecDepth 65536 in
theorem w_runnable : about1.curStatus? = some .runnable := by decide +kernel
set_option maxRecDepth 65536 in
theorem w_alone : about1.alone = true := by decide +kernel
set_option maxRecDepth 65536 in
theorem w_named : about1.methodNamed? x = some theMethod := by decide +kernel
set_option maxRecDepth 65536 in
theorem w_hears : about1.hears theMethod below0 = true := by decide +kernel
set_option maxRecDepth 65536 in
theorem w_ripe : about1.ripe theMethod args0 below0 = true := by decide +kernel
theorem w_running : about1.status = .running := rfl
set_option maxRecDepth 65536 in
theorem w_room : about1.hasRoom e0.platform room_1 = true :=
  launch0.hasRoom_least _ room_1 (by decide +kernel) (by decide +kernel) (by decide +kernel) (by decide +kernel) (by decide +kernel) (by decide +kernel)
theorem allAtoms_all (ts : List Jvm.Cond) (a : Array Jvm.Value) (st : Jvm.State) : (allAtoms ts).before a st = ts.all (fun c => c.before a st) := by
  induction ts with
  | nil => rfl
  | cons c t ih =>
    show (Jvm.Cond.and c (allAtoms t)).before a st = _
    rw [Jvm.Cond.before_and, ih, List.all_cons]
def words1 : List Jvm.Cond := Jvm.Cond.code x code maxLocals ret :: tables_1
/-- a 'code' word, met by the world's own term for the bytes: nothing is compared byte by byte -/
theorem code_word {y : MethodName} {bytes : ByteArray} {mx : Nat} {rt : Option FieldType} {a : Array Value} {s : State} {m : MethodId} {meth : Method} {c : Code} (h1 : s.methodNamed? y = some m) (h2 : s.vm.method? m = some meth) (h3 : meth.code = some c) (h4 : c.code = bytes)
    (h5 : (c.maxLocals == mx && c.exceptionTable.isEmpty && decide (c.maxStack ≤ mostOperands) && decide (meth.sig.returnType = rt) && !meth.locks && decide (parseMethodDescriptor y.desc = some meth.sig)) = true) : (Jvm.Cond.code y bytes mx rt).before a s = true := by
  simp only [Bool.and_eq_true, beq_iff_eq, Bool.not_eq_true', decide_eq_true_eq] at h5
  obtain ⟨⟨⟨⟨⟨g1, g2⟩, g3⟩, g4⟩, g5⟩, g6⟩ := h5
  simp [Cond.before, Cond.holds, Cond.value, h1, h2, h3, h4, g1, g2, g3, g4, g5, g6]
def isCode : Jvm.Cond → Bool
  | .code _ _ _ _ => true
  | _ => false
theorem all_split {L : List Jvm.Cond} {P : Jvm.Cond → Bool} (h1 : L.all (fun c => isCode c || P c) = true) (h2 : ∀ c ∈ L.filter isCode, P c = true) : L.all P = true := by
  refine List.all_eq_true.mpr fun c hc => ?_
  have h := List.all_eq_true.mp h1 c hc
  rcases Bool.eq_false_or_eq_true (isCode c) with hi | hi
  · exact h2 c (List.mem_filter.mpr ⟨hc, hi⟩)
  · simpa [hi] using h
set_option maxRecDepth 65536 in
theorem w_c0 : (Jvm.Cond.code x code maxLocals ret).before args0 about1 = true := code_word (m := ⟨1, 1⟩) (meth := k1m1) (c := k1c1) (by decide +kernel) rfl rfl rfl (by decide +kernel)
set_option maxRecDepth 65536 in
theorem w_c1 : (Jvm.Cond.code ({ cls := "com/example/ask4/ask4/eval/PairedTTest", name := "<init>", desc := "(DID)V" } : Jvm.MethodName) prog_8_method_1_code (6 : Nat) (Option.none : Option Jvm.ClassFile.FieldType)).before args0 about1 = true := code_word (m := ⟨3, 0⟩) (meth := k3m0) (c := k3c0) (by decide +kernel) rfl rfl rfl (by decide +kernel)
set_option maxRecDepth 65536 in
theorem w_c2 : (Jvm.Cond.code ({ cls := "java/lang/Record", name := "<init>", desc := "()V" } : Jvm.MethodName) jdk_30_method_1_code (1 : Nat) (Option.none : Option Jvm.ClassFile.FieldType)).before args0 about1 = true := code_word (m := ⟨2, 0⟩) (meth := k2m0) (c := k2c0) (by decide +kernel) rfl rfl rfl (by decide +kernel)
set_option maxRecDepth 65536 in
theorem w_c3 : (Jvm.Cond.code ({ cls := "java/lang/Object", name := "<init>", desc := "()V" } : Jvm.MethodName) object_method_1_code (1 : Nat) (Option.none : Option Jvm.ClassFile.FieldType)).before args0 about1 = true := code_word (m := ⟨0, 0⟩) (meth := k0m0) (c := k0c0) (by decide +kernel) rfl rfl rfl (by decide +kernel)
set_option maxRecDepth 65536 in
theorem w_c4 : (Jvm.Cond.code ({ cls := "com/example/ask4/ask4/eval/Comparison", name := "<init>", desc := "(IDDLcom/example/ask4/ask4/eval/PairedTTest;II)V" } : Jvm.MethodName) prog_4_method_1_code (9 : Nat) (Option.none : Option Jvm.ClassFile.FieldType)).before args0 about1 = true := code_word (m := ⟨4, 0⟩) (meth := k4m0) (c := k4c0) (by decide +kernel) rfl rfl rfl (by decide +kernel)
set_option maxRecDepth 65536 in
theorem w_c5 : (Jvm.Cond.code ({ cls := "com/example/ask4/ask4/eval/Comparison", name := "equal", desc := "()I" } : Jvm.MethodName) prog_4_method_3_code (1 : Nat) (Option.some Jvm.ClassFile.FieldType.int)).before args0 about1 = true := code_word (m := ⟨4, 1⟩) (meth := k4m1) (c := k4c1) (by decide +kernel) rfl rfl rfl (by decide +kernel)
def codes1 : List Jvm.Cond := [Jvm.Cond.code x code maxLocals ret, Jvm.Cond.code ({ cls := "com/example/ask4/ask4/eval/PairedTTest", name := "<init>", desc := "(DID)V" } : Jvm.MethodName) prog_8_method_1_code (6 : Nat) (Option.none : Option Jvm.ClassFile.FieldType), Jvm.Cond.code ({ cls := "java/lang/Record", name := "<init>", desc := "()V" } : Jvm.MethodName) jdk_30_method_1_code (1 : Nat) (Option.none : Option Jvm.ClassFile.FieldType), Jvm.Cond.code ({ cls := "java/lang/Object", name := "<init>", desc := "()V" } : Jvm.MethodName) object_method_1_code (1 : Nat) (Option.none : Option Jvm.ClassFile.FieldType), Jvm.Cond.code ({ cls := "com/example/ask4/ask4/eval/Comparison", name := "<init>", desc := "(IDDLcom/example/ask4/ask4/eval/PairedTTest;II)V" } : Jvm.MethodName) prog_4_method_1_code (9 : Nat) (Option.none : Option Jvm.ClassFile.FieldType), Jvm.Cond.code ({ cls := "com/example/ask4/ask4/eval/Comparison", name := "equal", desc := "()I" } : Jvm.MethodName) prog_4_method_3_code (1 : Nat) (Option.some Jvm.ClassFile.FieldType.int)]
set_option maxRecDepth 65536 in
theorem codes_eq : words1.filter isCode = codes1 := rfl
theorem w_codes : ∀ c ∈ words1.filter isCode, c.before args0 about1 = true := by
  rw [codes_eq]
  intro c hc
  simp only [codes1, List.mem_cons, List.not_mem_nil, or_false] at hc
  rcases hc with rfl | rfl | rfl | rfl | rfl | rfl
  · exact w_c0
  · exact w_c1
  · exact w_c2
  · exact w_c3
  · exact w_c4
  · exact w_c5
set_option maxRecDepth 65536 in
theorem w_t1 : (words1.take 24).all (fun c => isCode c || c.before args0 about1) = true := by decide +kernel
set_option maxRecDepth 65536 in
theorem w_t2 : (words1.drop 24).all (fun c => isCode c || c.before args0 about1) = true := by decide +kernel
theorem w_tables : (allAtoms (Jvm.Cond.code x code maxLocals ret :: tables_1)).before args0 about1 = true := by
  rw [allAtoms_all]
  show words1.all (fun c => c.before args0 about1) = true
  refine all_split ?_ w_codes
  rw [← List.take_append_drop 24 words1, List.all_append, w_t1, w_t2]
  rfl
set_option maxRecDepth 65536 in
theorem w_case : (Jvm.Cond.and given_1 narrow_1).before args0 about1 = true := by decide +kernel
theorem w_applies : (headSpec (Jvm.Cond.code x code maxLocals ret :: tables_1) room_1).applies x e0.platform about1 = true :=
  (Spec.applies_iff w_frames).mpr ⟨w_running, w_runnable, w_alone, w_named, w_hears, w_ripe, w_room, w_tables⟩
theorem atStart : AtStart classFile x code maxLocals ret World_1 tables_1 room_1 Calls_1 rest_1 Pre_1 launch0 p0 e0 about1 theMethod args0 below0 :=
  ⟨lists_1, trivial, launch0.admits_env _ _ _, launch0.least_env, fairChoices_fair.cas, fairChoices_fair.clock, w_frames, w_args, w_heap, w_applies, trivial, trivial, w_case⟩
end start1
theorem witness_1 : WitnessClaimed_1 := ⟨start1.p0, start1.e0, start1.about1, start1.theMethod, start1.args0, start1.below0, start1.atStart⟩
end Jvm.Pilot.@@N@@
