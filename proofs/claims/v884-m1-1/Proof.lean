import JvmDerived
import JvmDerived.Pilot.@@N@@Statement
import JvmDerived.Pilot.@@N@@Code
set_option linter.unusedVariables false
set_option linter.unusedSimpArgs false
namespace Jvm.Pilot.@@N@@
open Jvm Jvm.ClassFile Sem Op Lib Jvm.Free Jvm.Stand Jvm.LawKit Jvm.RoadKit Bundle Jvm.Pilot.@@N@@.Jvm.D
theorem own_k {Z : State} {a0 : Array Value} (hw : ∀ d ∈ tables_1, d.before a0 Z = true) {d : Jvm.Cond} (i : Nat) (h : tables_1[i]? = some d) : d.before a0 Z = true := hw d (List.mem_of_getElem? h)
theorem own_nn32 {n : Nat} (h : n < 2147483648) : ¬ Int32.ofNat n < 0 := by
  rw [Int32.lt_iff_toInt_lt, Int32.toInt_ofNat_of_lt (by omega), show (0 : Int32).toInt = 0 from rfl]
  omega
/-- from here the run ends as F says -/
def own_G (p : Program) (e : Env) (below : List Frame) (T : State) (g : JFrame) (F : State → Prop) : Prop := ∃ s₂, Steps p.tables e below (T.setTop g) s₂ ∧ F s₂
theorem own_st {p : Program} {e : Env} {below : List Frame} {T T' : State} {g g' : JFrame} {F : State → Prop} (h : ∀ target, Steps p.tables e below (T'.setTop g') target → Steps p.tables e below (T.setTop g) target) (k : own_G p e below T' g' F) : own_G p e below T g F := by
  obtain ⟨s2, a, b⟩ := k
  exact ⟨s2, h _ a, b⟩
theorem own_tr {p : Program} {e : Env} {below : List Frame} {T T' : State} {g g' : JFrame} {F : State → Prop} (h : Steps p.tables e below (T.setTop g) (T'.setTop g')) (k : own_G p e below T' g' F) : own_G p e below T g F := by
  obtain ⟨s2, a, b⟩ := k
  exact ⟨s2, h.trans a, b⟩
theorem own_end {p : Program} {e : Env} {below : List Frame} {T s2 : State} {g : JFrame} {F : State → Prop} (h : Steps p.tables e below (T.setTop g) s2) (k : F s2) : own_G p e below T g F := ⟨s2, h, k⟩
theorem own_join {α : Type} {p : Program} {e : Env} {below : List Frame} {T : State} {g : JFrame} {gj : α → JFrame} {P : α → Prop} {F : State → Prop} (k : ∀ q, P q → own_G p e below T (gj q) F) (h : (∀ q, P q → own_G p e below T (gj q) F) → own_G p e below T g F) : own_G p e below T g F := h k
abbrev own_E (s : State) (below : List Frame) (R : Room) (Q : Option Value → Heap → List Loc → Prop) : State → Prop := fun s₂ => ∃ o, s₂.status = .running ∧ Ended s₂ below o ∧ ∃ v L, o = .returned v ∧ Q v s₂.heap L ∧ FrameEnd s o s₂ L R.cells R.slots
abbrev own_EndW (s : State) (below : List Frame) (R : Room) (Q : Option Value → Heap → List Loc → Prop) : State → Prop := fun s₂ => ∃ o, s₂.status = .running ∧ Ended s₂ below o ∧ ∃ v L, o = .returned v ∧ Q v s₂.heap L ∧ ReturnedEndW s o s₂ L R.cells R.slots
abbrev own_EndH (Z : State) (EL : List (String × Nat)) (s : State) (below : List Frame) (R : Room) (Q : Option Value → Heap → List Loc → Prop) : State → Prop := fun s₂ => ∃ o, s₂.status = .running ∧ Ended s₂ below o ∧ ∃ v L, o = .returned v ∧ Q v s₂.heap L ∧ CHr Z EL s.vm s.heap s₂.vm s₂.heap ∧ ReturnedEndW s o s₂ L R.cells R.slots
abbrev own_M (l : Launch) (y : MethodName) (bs : ByteArray) (ml : Nat) (rt : Option FieldType) (ws : List Jvm.Cond) (R : Room) (as' : Array Value) (Z : State) (h0 : Heap) (Q : Option Value → Heap → List Loc → Prop) : Prop :=
  MetFree l y (head1 (Jvm.Cond.code y bs ml rt :: ws) R) (fun av U => av = as' ∧ Z.Warmed39 U.vm ∧ U.heap = h0) (fun _ _ _ _ _ => True) (fun _ U o U' => ∃ v L, o = .returned v ∧ Q v U'.heap L ∧ FrameEnd U o U' L R.cells R.slots)
abbrev own_MW (l : Launch) (y : MethodName) (bs : ByteArray) (ml : Nat) (rt : Option FieldType) (ws : List Jvm.Cond) (R : Room) (as' : Array Value) (Z : State) (h0 : Heap) (Q : Option Value → Heap → List Loc → Prop) : Prop :=
  MetFree l y (head1 (Jvm.Cond.code y bs ml rt :: ws) R) (fun av U => av = as' ∧ Z.Warmed39 U.vm ∧ U.heap = h0) (fun _ _ _ _ _ => True) (fun _ U o U' => ∃ v L, o = .returned v ∧ Q v U'.heap L ∧ ReturnedEndW U o U' L R.cells R.slots)
abbrev own_MH (EL : List (String × Nat)) (l : Launch) (y : MethodName) (bs : ByteArray) (ml : Nat) (rt : Option FieldType) (ws : List Jvm.Cond) (R : Room) (as' : Array Value) (Z : State) (h0 : Heap) (Q : Option Value → Heap → List Loc → Prop) : Prop :=
  MetFree l y (head1 (Jvm.Cond.code y bs ml rt :: ws) R) (fun av U => av = as' ∧ Z.Warmed39 U.vm ∧ U.heap = h0 ∧ CHv Z EL U.vm h0) (fun _ _ _ _ _ => True) (fun _ U o U' => ∃ v L, o = .returned v ∧ Q v U'.heap L ∧ CHr Z EL U.vm U.heap U'.vm U'.heap ∧ ReturnedEndW U o U' L R.cells R.slots)
theorem own_go {l : Launch} {y : MethodName} {bs : ByteArray} {ml : Nat} {rt : Option FieldType} {ws : List Jvm.Cond} {R : Room} {as' : Array Value} {Z : State} {h0 : Heap} {Q : Option Value → Heap → List Loc → Prop} (hpn : plainFor y = true) {ff : MethodId → JFrame} (hff : ∀ m, entryFrame m as' ml = ff m)
    (body : ∀ p e s m below meth c s₁, BodyLoose p l y (head1 (Jvm.Cond.code y bs ml rt :: ws) R) bs ml rt e s m as' below meth c s₁ → p.tables.exec = Jvm.exec → c.code = bs → c.maxLocals = ml → Z.Warmed39 s.vm → s.heap = h0 → s.vm.findClass y.cls = some m.cls → meth.name = y.name → Stand p l e R s m as' below meth c s₁ [] 0 0 → s₁.heap = h0 → own_G p e below s₁ (ff m) (own_E s below R Q)) : own_M l y bs ml rt ws R as' Z h0 Q := by
  refine MetFree.of_bodySF hpn hisR ?_
  intro p e s m args below meth c s₁ Bd hml0 hP hK
  obtain ⟨rfl, hZ, hh⟩ := hP
  obtain ⟨s2, g1, o, g2⟩ := body p e s m below meth c s₁ Bd Bd.exec Bd.bytes hml0 hZ hh (findClass_of_methodNamed Bd.named) (name_of_methodNamed Bd.named Bd.method).1 (Stand.of_body Bd) (by rw [← hh, Bd.state]; rfl)
  exact ⟨s2, o, castTop (hff m) g1, g2⟩
theorem own_goW {l : Launch} {y : MethodName} {bs : ByteArray} {ml : Nat} {rt : Option FieldType} {ws : List Jvm.Cond} {R : Room} {as' : Array Value} {Z : State} {h0 : Heap} {Q : Option Value → Heap → List Loc → Prop} (hpn : plainFor y = true) {ff : MethodId → JFrame} (hff : ∀ m, entryFrame m as' ml = ff m)
    (body : ∀ p e s m below meth c s₁, BodyLoose p l y (head1 (Jvm.Cond.code y bs ml rt :: ws) R) bs ml rt e s m as' below meth c s₁ → p.tables.exec = Jvm.exec → c.code = bs → c.maxLocals = ml → Z.Warmed39 s.vm → s.heap = h0 → s.vm.findClass y.cls = some m.cls → meth.name = y.name → Stand p l e R (s.setVm s.vm) m as' below meth c s₁ [] 0 0 → s₁.heap = h0 → s.Since s.vm h0.size → own_G p e below s₁ (ff m) (own_EndW s below R Q)) : own_MW l y bs ml rt ws R as' Z h0 Q := by
  refine MetFree.of_bodySF hpn hisR ?_
  intro p e s m args below meth c s₁ Bd hml0 hP hK
  obtain ⟨rfl, hZ, hh⟩ := hP
  obtain ⟨s2, g1, o, g2⟩ := body p e s m below meth c s₁ Bd Bd.exec Bd.bytes hml0 hZ hh (findClass_of_methodNamed Bd.named) (name_of_methodNamed Bd.named Bd.method).1 (Stand.of_body Bd) (by rw [← hh, Bd.state]; rfl) ((State.WarmedH.refl s).since _)
  exact ⟨s2, o, castTop (hff m) g1, g2⟩
theorem own_goH {EL : List (String × Nat)} {l : Launch} {y : MethodName} {bs : ByteArray} {ml : Nat} {rt : Option FieldType} {ws : List Jvm.Cond} {R : Room} {as' : Array Value} {Z : State} {h0 : Heap} {Q : Option Value → Heap → List Loc → Prop} (hpn : plainFor y = true) {ff : MethodId → JFrame} (hff : ∀ m, entryFrame m as' ml = ff m)
    (body : ∀ p e s m below meth c s₁, BodyLoose p l y (head1 (Jvm.Cond.code y bs ml rt :: ws) R) bs ml rt e s m as' below meth c s₁ → p.tables.exec = Jvm.exec → c.code = bs → c.maxLocals = ml → Z.Warmed39 s.vm → s.heap = h0 → s.vm.findClass y.cls = some m.cls → meth.name = y.name → Stand p l e R (s.setVm s.vm) m as' below meth c s₁ [] 0 0 → s₁.heap = h0 → s.Since s.vm h0.size → CHr Z EL s.vm h0 s.vm h0 → own_G p e below s₁ (ff m) (own_EndH Z EL s below R Q)) : own_MH EL l y bs ml rt ws R as' Z h0 Q := by
  refine MetFree.of_bodySF hpn hisR ?_
  intro p e s m args below meth c s₁ Bd hml0 hP hK
  obtain ⟨rfl, hZ, hh, hCH⟩ := hP
  obtain ⟨s2, g1, o, g2⟩ := body p e s m below meth c s₁ Bd Bd.exec Bd.bytes hml0 hZ hh (findClass_of_methodNamed Bd.named) (name_of_methodNamed Bd.named Bd.method).1 (Stand.of_body Bd) (by rw [← hh, Bd.state]; rfl) ((State.WarmedH.refl s).since _) (CHr.refl hCH)
  exact ⟨s2, o, castTop (hff m) g1, g2⟩
theorem own_pop2 {tb : Tables} [Ours tb] {e : Env} {below : List Frame} {T target : State} {m : MethodId} {c : Code} {g : JFrame} (h : At T m c below) (hx : tb.exec = Jvm.exec) (hg : g.method = m) {x : Value} {rest : List Value} (hd : decode c.code g.pc = .ok (.pop2, 1)) (hs : g.stack = x :: rest) (hc : x.category = 2)
    (hr : Steps tb e below (T.setTop { g with pc := g.pc + 1, stack := rest }) target) : Steps tb e below (T.setTop g) target := by
  subst hg
  jvm_step h [h.top, hx, hd, hs, hc]
  exact hr
section Own
variable {p : Program} {l : Launch} {e : Env} {R : Room} {s : State} {m : MethodId} {args : Array Value} {below : List Frame} {meth : Method} {c : Code} {T : State} {locs : List Loc} {cells slots : Nat} {Z : State} {h h' : Heap} {a : Addr} {k : ClassId} {ty : FieldType} {z j : Int32} {vs : List Value} {d v : Value} {g : JFrame} {rest : List Value}
theorem own_joinT {α : Type} {gj : α → JFrame} {P : α → Prop} {F : State → Prop} (X : Stand p l e R s m args below meth c T locs cells slots) (eT : T.heap = h)
    (k : ∀ T' q, P q → Stand p l e R s m args below meth c T' locs cells slots → T'.heap = h → own_G p e below T' (gj q) F) (r : (∀ T' q, P q → Stand p l e R s m args below meth c T' locs cells slots → T'.heap = h → own_G p e below T' (gj q) F) → own_G p e below T g F) : own_G p e below T g F := r k
theorem own_loop {α : Type} {gj : α → JFrame} {P : Nat → α → Prop} {F : State → Prop} (X : Stand p l e R s m args below meth c T locs cells slots) (eT : T.heap = h)
    (k : ∀ n, (∀ i, i < n → ∀ T' q, P i q → Stand p l e R s m args below meth c T' locs cells slots → T'.heap = h → own_G p e below T' (gj q) F) → ∀ T' q, P n q → Stand p l e R s m args below meth c T' locs cells slots → T'.heap = h → own_G p e below T' (gj q) F)
    (r : (∀ n T' q, P n q → Stand p l e R s m args below meth c T' locs cells slots → T'.heap = h → own_G p e below T' (gj q) F) → own_G p e below T g F) : own_G p e below T g F :=
  r fun n => Nat.strongRecOn n fun n ih => k n ih
theorem own_joinH {α : Type} {gj : α → JFrame} {P : List Loc → Heap → α → Prop} {F : State → Prop} {cells' slots' : Nat} (X : Stand p l e R s m args below meth c T locs cells slots)
    (k : ∀ T' L h' q, P L h' q → Stand p l e R s m args below meth c T' L cells' slots' → T'.heap = h' → own_G p e below T' (gj q) F) (r : (∀ T' L h' q, P L h' q → Stand p l e R s m args below meth c T' L cells' slots' → T'.heap = h' → own_G p e below T' (gj q) F) → own_G p e below T g F) : own_G p e below T g F := r k
theorem own_joinHV {α : Type} {gj : α → JFrame} {P : Vm → Nat → List Loc → Heap → α → Prop} {F : State → Prop} {cells' slots' : Nat} {vm0 : Vm} (X : Stand p l e R (s.setVm vm0) m args below meth c T locs cells slots)
    (k : ∀ vm1 k1 T' L h' q, P vm1 k1 L h' q → Stand p l e R (s.setVm vm1) m args below meth c T' L cells' slots' → T'.heap = h' → own_G p e below T' (gj q) F) (r : (∀ vm1 k1 T' L h' q, P vm1 k1 L h' q → Stand p l e R (s.setVm vm1) m args below meth c T' L cells' slots' → T'.heap = h' → own_G p e below T' (gj q) F) → own_G p e below T g F) : own_G p e below T g F := r k
theorem own_alen (X : Stand p l e R s m args below meth c T locs cells slots) (hx : p.tables.exec = Jvm.exec) (hZ : Z.Warmed39 s.vm) (eT : T.heap = h) (F : Arv Z h a k ty z vs d) (hg : g.method = m) (hs : g.stack = .ref a :: rest) (hd : decode c.code g.pc = .ok (.arraylength, 1)) :
    ∀ target, Steps p.tables e below (T.setTop { g with pc := g.pc + 1, stack := .int z :: rest }) target → Steps p.tables e below (T.setTop g) target := by
  obtain ⟨cl, A, -, S, M, -⟩ := F
  intro target hr
  refine X.arraylength hx (cell := cl) (by rw [eT]; exact A.1) (State.isArrayOf_alike hZ.alike A.2.1) hg hs hd target ?_
  rw [len_of S M]; exact hr
theorem own_ial (X : Stand p l e R s m args below meth c T locs cells slots) (hx : p.tables.exec = Jvm.exec) (hZ : Z.Warmed39 s.vm) (eT : T.heap = h) (F : Arv Z h a k .int z vs d) (hj : ¬ j < 0 ∧ j < z) (hv : vs.getD j.toNatClampNeg d = v) (hg : g.method = m) (hs : g.stack = .int j :: .ref a :: rest) (hd : decode c.code g.pc = .ok (.iaload, 1)) :
    ∀ target, Steps p.tables e below (T.setTop { g with pc := g.pc + 1, stack := v :: rest }) target → Steps p.tables e below (T.setTop g) target := by
  obtain ⟨cl, A, -, S, M, H, -⟩ := F
  intro target hr
  exact X.iaload hx (by rw [eT]; exact A.1) (State.isArrayOf_alike hZ.alike A.2.1) A.2.2 (inb_of S hj) (H.at (inb_of S hj) hv) hg hs hd target hr
theorem own_cal (X : Stand p l e R s m args below meth c T locs cells slots) (hx : p.tables.exec = Jvm.exec) (hZ : Z.Warmed39 s.vm) (eT : T.heap = h) (F : Arv Z h a k .char z vs d) (hj : ¬ j < 0 ∧ j < z) (hv : vs.getD j.toNatClampNeg d = v) (hg : g.method = m) (hs : g.stack = .int j :: .ref a :: rest) (hd : decode c.code g.pc = .ok (.caload, 1)) :
    ∀ target, Steps p.tables e below (T.setTop { g with pc := g.pc + 1, stack := v :: rest }) target → Steps p.tables e below (T.setTop g) target := by
  obtain ⟨cl, A, -, S, M, H, -⟩ := F
  intro target hr
  exact X.caload hx (by rw [eT]; exact A.1) (State.isArrayOf_alike hZ.alike A.2.1) A.2.2 (inb_of S hj) (H.at (inb_of S hj) hv) hg hs hd target hr
theorem own_bal (X : Stand p l e R s m args below meth c T locs cells slots) (hx : p.tables.exec = Jvm.exec) (hZ : Z.Warmed39 s.vm) (eT : T.heap = h) (F : Arv Z h a k .byte z vs d) (hj : ¬ j < 0 ∧ j < z) (hv : vs.getD j.toNatClampNeg d = v) (hg : g.method = m) (hs : g.stack = .int j :: .ref a :: rest) (hd : decode c.code g.pc = .ok (.baload, 1)) :
    ∀ target, Steps p.tables e below (T.setTop { g with pc := g.pc + 1, stack := v :: rest }) target → Steps p.tables e below (T.setTop g) target := by
  obtain ⟨cl, A, -, S, M, H, -⟩ := F
  intro target hr
  exact X.baloadBytes hx (by rw [eT]; exact A.1) (State.isArrayOf_alike hZ.alike A.2.1) A.2.2 (inb_of S hj) (H.at (inb_of S hj) hv) hg hs hd target hr
theorem own_lal (X : Stand p l e R s m args below meth c T locs cells slots) (hx : p.tables.exec = Jvm.exec) (hZ : Z.Warmed39 s.vm) (eT : T.heap = h) (F : Arv Z h a k .long z vs d) (hj : ¬ j < 0 ∧ j < z) (hv : vs.getD j.toNatClampNeg d = v) (hg : g.method = m) (hs : g.stack = .int j :: .ref a :: rest) (hd : decode c.code g.pc = .ok (.laload, 1)) :
    ∀ target, Steps p.tables e below (T.setTop { g with pc := g.pc + 1, stack := v :: rest }) target → Steps p.tables e below (T.setTop g) target := by
  obtain ⟨cl, A, -, S, M, H, -⟩ := F
  intro target hr
  exact X.laload hx (by rw [eT]; exact A.1) (State.isArrayOf_alike hZ.alike A.2.1) A.2.2 (inb_of S hj) (H.at (inb_of S hj) hv) hg hs hd target hr
theorem own_dal (X : Stand p l e R s m args below meth c T locs cells slots) (hx : p.tables.exec = Jvm.exec) (hZ : Z.Warmed39 s.vm) (eT : T.heap = h) (F : Arv Z h a k .double z vs d) (hj : ¬ j < 0 ∧ j < z) (hv : vs.getD j.toNatClampNeg d = v) (hg : g.method = m) (hs : g.stack = .int j :: .ref a :: rest) (hd : decode c.code g.pc = .ok (.daload, 1)) :
    ∀ target, Steps p.tables e below (T.setTop { g with pc := g.pc + 1, stack := v :: rest }) target → Steps p.tables e below (T.setTop g) target := by
  obtain ⟨cl, A, -, S, M, H, -⟩ := F
  intro target hr
  exact X.daload hx (by rw [eT]; exact A.1) (State.isArrayOf_alike hZ.alike A.2.1) A.2.2 (inb_of S hj) (H.at (inb_of S hj) hv) hg hs hd target hr
theorem own_aal (X : Stand p l e R s m args below meth c T locs cells slots) (hx : p.tables.exec = Jvm.exec) (hZ : Z.Warmed39 s.vm) (eT : T.heap = h) (F : Arv Z h a k ty z vs d) (hty : ty.isReference = true) (hj : ¬ j < 0 ∧ j < z) (hv : vs.getD j.toNatClampNeg d = v) (hg : g.method = m) (hs : g.stack = .int j :: .ref a :: rest) (hd : decode c.code g.pc = .ok (.aaload, 1)) :
    ∀ target, Steps p.tables e below (T.setTop { g with pc := g.pc + 1, stack := v :: rest }) target → Steps p.tables e below (T.setTop g) target := by
  obtain ⟨cl, A, -, S, M, H, -⟩ := F
  intro target hr
  exact X.aaload hx (by rw [eT]; exact A.1) (State.isArrayOf_alike hZ.alike A.2.1) hty A.2.2 (inb_of S hj) (H.at (inb_of S hj) hv) hg hs hd target hr
theorem own_ist (X : Stand p l e R s m args below meth c T locs cells slots) (hx : p.tables.exec = Jvm.exec) (hZ : Z.Warmed39 s.vm) (eT : T.heap = h) (F : Arv Z h a k .int z vs d) (hj : ¬ j < 0 ∧ j < z) {i : Nat} (hi : j.toNatClampNeg = i) (hl : i < vs.length) {x : Int32} (hg : g.method = m) (hs : g.stack = .int x :: .int j :: .ref a :: rest) (hd : decode c.code g.pc = .ok (.iastore, 1)) :
    ∃ T' h', Stand p l e R s m args below meth c T' (locs ++ [⟨a, j.toNatClampNeg⟩]) cells slots ∧ T'.heap = h' ∧ Wr h h' a j.toNatClampNeg (.int x) ∧ Arv Z h' a k .int z (vs.set i (.int x)) d ∧ ∀ target, Steps p.tables e below (T'.setTop { g with pc := g.pc + 1, stack := rest }) target → Steps p.tables e below (T.setTop g) target := by
  obtain ⟨cl, A, q, S, M, H, G⟩ := F
  obtain ⟨T', h', X', e', W, st⟩ := stI X hx hZ eT A (inb_of S hj) hg hs hd
  exact ⟨T', h', X', e', W, Arv.set A q S M H G rfl W i hi hl, st⟩
theorem own_lst (X : Stand p l e R s m args below meth c T locs cells slots) (hx : p.tables.exec = Jvm.exec) (hZ : Z.Warmed39 s.vm) (eT : T.heap = h) (F : Arv Z h a k .long z vs d) (hj : ¬ j < 0 ∧ j < z) {i : Nat} (hi : j.toNatClampNeg = i) (hl : i < vs.length) {x : Int64} (hg : g.method = m) (hs : g.stack = .long x :: .int j :: .ref a :: rest) (hd : decode c.code g.pc = .ok (.lastore, 1)) :
    ∃ T' h', Stand p l e R s m args below meth c T' (locs ++ [⟨a, j.toNatClampNeg⟩]) cells slots ∧ T'.heap = h' ∧ Wr h h' a j.toNatClampNeg (.long x) ∧ Arv Z h' a k .long z (vs.set i (.long x)) d ∧ ∀ target, Steps p.tables e below (T'.setTop { g with pc := g.pc + 1, stack := rest }) target → Steps p.tables e below (T.setTop g) target := by
  obtain ⟨cl, A, q, S, M, H, G⟩ := F
  obtain ⟨T', h', X', e', W, st⟩ := stJ X hx hZ eT A (inb_of S hj) hg hs hd
  exact ⟨T', h', X', e', W, Arv.set A q S M H G rfl W i hi hl, st⟩
theorem own_dst (X : Stand p l e R s m args below meth c T locs cells slots) (hx : p.tables.exec = Jvm.exec) (hZ : Z.Warmed39 s.vm) (eT : T.heap = h) (F : Arv Z h a k .double z vs d) (hj : ¬ j < 0 ∧ j < z) {i : Nat} (hi : j.toNatClampNeg = i) (hl : i < vs.length) {x : UInt64} (hg : g.method = m) (hs : g.stack = .double x :: .int j :: .ref a :: rest) (hd : decode c.code g.pc = .ok (.dastore, 1)) :
    ∃ T' h', Stand p l e R s m args below meth c T' (locs ++ [⟨a, j.toNatClampNeg⟩]) cells slots ∧ T'.heap = h' ∧ Wr h h' a j.toNatClampNeg (.double x) ∧ Arv Z h' a k .double z (vs.set i (.double x)) d ∧ ∀ target, Steps p.tables e below (T'.setTop { g with pc := g.pc + 1, stack := rest }) target → Steps p.tables e below (T.setTop g) target := by
  obtain ⟨cl, A, q, S, M, H, G⟩ := F
  obtain ⟨T', h', X', e', W, st⟩ := stD X hx hZ eT A (inb_of S hj) hg hs hd
  exact ⟨T', h', X', e', W, Arv.set A q S M H G rfl W i hi hl, st⟩
theorem own_cst (X : Stand p l e R s m args below meth c T locs cells slots) (hx : p.tables.exec = Jvm.exec) (hZ : Z.Warmed39 s.vm) (eT : T.heap = h) (F : Arv Z h a k .char z vs d) (hj : ¬ j < 0 ∧ j < z) {i : Nat} (hi : j.toNatClampNeg = i) (hl : i < vs.length) {x y : Int32} (hn : nar .char x = y) (hg : g.method = m) (hs : g.stack = .int x :: .int j :: .ref a :: rest) (hd : decode c.code g.pc = .ok (.castore, 1)) :
    ∃ T' h', Stand p l e R s m args below meth c T' (locs ++ [⟨a, j.toNatClampNeg⟩]) cells slots ∧ T'.heap = h' ∧ Wr h h' a j.toNatClampNeg (.int y) ∧ Arv Z h' a k .char z (vs.set i (.int y)) d ∧ ∀ target, Steps p.tables e below (T'.setTop { g with pc := g.pc + 1, stack := rest }) target → Steps p.tables e below (T.setTop g) target := by
  obtain ⟨cl, A, q, S, M, H, G⟩ := F
  obtain ⟨T', h', X', e', W, st⟩ := stC X hx hZ eT A (inb_of S hj) hg hs hd
  rw [hn] at W
  exact ⟨T', h', X', e', W, Arv.set A q S M H G (by rw [← hn]; exact fits_nar_char x) W i hi hl, st⟩
theorem own_bst (X : Stand p l e R s m args below meth c T locs cells slots) (hx : p.tables.exec = Jvm.exec) (hZ : Z.Warmed39 s.vm) (eT : T.heap = h) (F : Arv Z h a k .byte z vs d) (hj : ¬ j < 0 ∧ j < z) {i : Nat} (hi : j.toNatClampNeg = i) (hl : i < vs.length) {x y : Int32} (hn : nar .byte x = y) (hg : g.method = m) (hs : g.stack = .int x :: .int j :: .ref a :: rest) (hd : decode c.code g.pc = .ok (.bastore, 1)) :
    ∃ T' h', Stand p l e R s m args below meth c T' (locs ++ [⟨a, j.toNatClampNeg⟩]) cells slots ∧ T'.heap = h' ∧ Wr h h' a j.toNatClampNeg (.int y) ∧ Arv Z h' a k .byte z (vs.set i (.int y)) d ∧ ∀ target, Steps p.tables e below (T'.setTop { g with pc := g.pc + 1, stack := rest }) target → Steps p.tables e below (T.setTop g) target := by
  obtain ⟨cl, A, q, S, M, H, G⟩ := F
  obtain ⟨T', h', X', e', W, st⟩ := stB X hx hZ eT A (inb_of S hj) hg hs hd
  rw [hn] at W
  exact ⟨T', h', X', e', W, Arv.set A q S M H G (by rw [← hn]; exact fits_nar_byte x) W i hi hl, st⟩
theorem own_ast (X : Stand p l e R s m args below meth c T locs cells slots) (hx : p.tables.exec = Jvm.exec) (hZ : Z.Warmed39 s.vm) (eT : T.heap = h) (F : Arv Z h a k ty z vs d) (hty : ty.isReference = true) (hj : ¬ j < 0 ∧ j < z) {i : Nat} (hi : j.toNatClampNeg = i) (hl : i < vs.length) (hv : fits ty v = true) (Q : Sto Z h a v) (hg : g.method = m) (hs : g.stack = v :: .int j :: .ref a :: rest) (hd : decode c.code g.pc = .ok (.aastore, 1)) :
    ∃ T' h', Stand p l e R s m args below meth c T' (locs ++ [⟨a, j.toNatClampNeg⟩]) cells slots ∧ T'.heap = h' ∧ Wr h h' a j.toNatClampNeg v ∧ Arv Z h' a k ty z (vs.set i v) d ∧ ∀ target, Steps p.tables e below (T'.setTop { g with pc := g.pc + 1, stack := rest }) target → Steps p.tables e below (T.setTop g) target := by
  obtain ⟨cl, A, q, S, M, H, G⟩ := F
  obtain ⟨T', h', X', e', W, st⟩ := stR X hx hZ eT A (inb_of S hj) hty Q hg hs hd
  exact ⟨T', h', X', e', W, Arv.set A q S M H G hv W i hi hl, st⟩
theorem own_retJ (X : Stand p l e R s m args below meth c T locs cells slots) (hx : p.tables.exec = Jvm.exec) {pc : Nat} {Ls : Array Slot} {w : Int64} (hret : meth.sig.returnType = some .long) (hd : decode c.code pc = .ok (.lreturn, 1)) {fs : List Frame}
    (hl : ∀ (f : JFrame) (acts : List Action), f.method = m → f.locked = none → f.entered = [] → (doReturn e (T.setTop f) acts (some (.long w))).1 = T.setFrames fs) : Steps p.tables e below (T.setTop (mkF m pc Ls (.long w :: rest))) (T.setFrames fs) :=
  retOut X hx hret rfl (Or.inr (Or.inl ⟨rfl, rfl, w, rfl⟩)) hd hl
theorem own_retD (X : Stand p l e R s m args below meth c T locs cells slots) (hx : p.tables.exec = Jvm.exec) {pc : Nat} {Ls : Array Slot} {w : UInt64} (hret : meth.sig.returnType = some .double) (hd : decode c.code pc = .ok (.dreturn, 1)) {fs : List Frame}
    (hl : ∀ (f : JFrame) (acts : List Action), f.method = m → f.locked = none → f.entered = [] → (doReturn e (T.setTop f) acts (some (.double w))).1 = T.setFrames fs) : Steps p.tables e below (T.setTop (mkF m pc Ls (.double w :: rest))) (T.setFrames fs) :=
  retOut X hx hret rfl (Or.inr (Or.inr (Or.inl ⟨rfl, rfl, w, rfl⟩))) hd hl
theorem own_retI (X : Stand p l e R s m args below meth c T locs cells slots) (hx : p.tables.exec = Jvm.exec) {pc : Nat} {Ls : Array Slot} {w : Int32} (hret : meth.sig.returnType = some .int) (hd : decode c.code pc = .ok (.ireturn, 1)) {fs : List Frame}
    (hl : ∀ (f : JFrame) (acts : List Action), f.method = m → f.locked = none → f.entered = [] → (doReturn e (T.setTop f) acts (some (.int w))).1 = T.setFrames fs) : Steps p.tables e below (T.setTop (mkF m pc Ls (.int w :: rest))) (T.setFrames fs) :=
  retOut X hx hret rfl (Or.inl ⟨rfl, Or.inl rfl, w, rfl⟩) hd hl
theorem own_retA (X : Stand p l e R s m args below meth c T locs cells slots) (hx : p.tables.exec = Jvm.exec) {pc : Nat} {Ls : Array Slot} {w : Value} {t : FieldType} (hret : meth.sig.returnType = some t) (ht : t.isReference = true) (hn : narrow t w = w) (hw : w.isRef = true) (hd : decode c.code pc = .ok (.areturn, 1)) {fs : List Frame}
    (hl : ∀ (f : JFrame) (acts : List Action), f.method = m → f.locked = none → f.entered = [] → (doReturn e (T.setTop f) acts (some w)).1 = T.setFrames fs) : Steps p.tables e below (T.setTop (mkF m pc Ls (w :: rest))) (T.setFrames fs) :=
  retOut X hx hret hn (Or.inr (Or.inr (Or.inr (Or.inr ⟨rfl, ht, hw⟩)))) hd hl
end Own
theorem own_eqv {args : Array Value} {s : State} {t : Term} {n : Int32} {v : Value} (h : Cond.value args s none s [] (.eq t (.int n)) = some true) (e : t.eval args s none [] s = some v) : v = .int n := by
  simp only [Cond.value] at h
  rw [e, Term.int_eval] at h
  cases v <;> simp_all
def own_bet1 (v c ov oc : Int32) : Int32 := if v < ov ∨ (v = ov ∧ c < oc) then 1 else 0
def own_bet2 (v c ov oc : Int32) : Int32 := if c < oc ∨ (c = oc ∧ v < ov) then 1 else 0
theorem own_b1t {v c ov oc : Int32} (h : v < ov ∨ (v = ov ∧ c < oc)) : (1 : Int32) = own_bet1 v c ov oc := by simp [own_bet1, h]
theorem own_b1f {v c ov oc : Int32} (h : ¬ (v < ov ∨ (v = ov ∧ c < oc))) : (0 : Int32) = own_bet1 v c ov oc := by rw [own_bet1, if_neg h]
theorem own_b2t {v c ov oc : Int32} (h : c < oc ∨ (c = oc ∧ v < ov)) : (1 : Int32) = own_bet2 v c ov oc := by simp [own_bet2, h]
theorem own_b2f {v c ov oc : Int32} (h : ¬ (c < oc ∨ (c = oc ∧ v < ov))) : (0 : Int32) = own_bet2 v c ov oc := by rw [own_bet2, if_neg h]
theorem own_b53 (c : Int32) : B53 c.toInt64 := by
  have := c.toInt_lt; have := c.le_toInt
  constructor <;> rw [Int32.toInt_toInt64] <;> omega
theorem own_dc (c d : Int32) (o : CmpOp) : cmpValue (FP.dcmp (FP.i2d c) (FP.i2d d)) o = XT.cmpL c.toInt64 d.toInt64 := by
  rw [i2d_w, i2d_w, dcmpV_w (own_b53 c) (own_b53 d)]; rfl
theorem d1_0 : decode prog_17_method_6_code 0 = .ok (.aload_n 0, 1) := by decide +kernel
theorem d1_1 : decode prog_17_method_6_code 1 = .ok (.getstatic 3, 3) := by decide +kernel
theorem d1_4 : decode prog_17_method_6_code 4 = .ok (.if_acmp .ne 21, 3) := by decide +kernel
theorem d1_7 : decode prog_17_method_6_code 7 = .ok (.iload_n 1, 1) := by decide +kernel
theorem d1_8 : decode prog_17_method_6_code 8 = .ok (.iload 4, 2) := by decide +kernel
theorem d1_10 : decode prog_17_method_6_code 10 = .ok (.if_icmp .eq 15, 3) := by decide +kernel
theorem d1_25 : decode prog_17_method_6_code 25 = .ok (.dload_n 2, 1) := by decide +kernel
theorem d1_26 : decode prog_17_method_6_code 26 = .ok (.dload 5, 2) := by decide +kernel
theorem d1_28 : decode prog_17_method_6_code 28 = .ok (.dcmp .l, 1) := by decide +kernel
theorem d1_29 : decode prog_17_method_6_code 29 = .ok (.ifCond .eq 16, 3) := by decide +kernel
theorem d1_45 : decode prog_17_method_6_code 45 = .ok (.iload_n 1, 1) := by decide +kernel
theorem d1_46 : decode prog_17_method_6_code 46 = .ok (.iload 4, 2) := by decide +kernel
theorem d1_48 : decode prog_17_method_6_code 48 = .ok (.if_icmp .ge 7, 3) := by decide +kernel
theorem d1_51 : decode prog_17_method_6_code 51 = .ok (.iconst 1, 1) := by decide +kernel
theorem d1_52 : decode prog_17_method_6_code 52 = .ok (.goto 4, 3) := by decide +kernel
theorem d1_56 : decode prog_17_method_6_code 56 = .ok (.ireturn, 1) := by decide +kernel
theorem d1_55 : decode prog_17_method_6_code 55 = .ok (.iconst 0, 1) := by decide +kernel
theorem d1_32 : decode prog_17_method_6_code 32 = .ok (.dload_n 2, 1) := by decide +kernel
theorem d1_33 : decode prog_17_method_6_code 33 = .ok (.dload 5, 2) := by decide +kernel
theorem d1_35 : decode prog_17_method_6_code 35 = .ok (.dcmp .g, 1) := by decide +kernel
theorem d1_36 : decode prog_17_method_6_code 36 = .ok (.ifCond .ge 7, 3) := by decide +kernel
theorem d1_39 : decode prog_17_method_6_code 39 = .ok (.iconst 1, 1) := by decide +kernel
theorem d1_40 : decode prog_17_method_6_code 40 = .ok (.goto 4, 3) := by decide +kernel
theorem d1_44 : decode prog_17_method_6_code 44 = .ok (.ireturn, 1) := by decide +kernel
theorem d1_43 : decode prog_17_method_6_code 43 = .ok (.iconst 0, 1) := by decide +kernel
theorem d1_13 : decode prog_17_method_6_code 13 = .ok (.iload_n 1, 1) := by decide +kernel
theorem d1_14 : decode prog_17_method_6_code 14 = .ok (.iload 4, 2) := by decide +kernel
theorem d1_16 : decode prog_17_method_6_code 16 = .ok (.if_icmp .ge 7, 3) := by decide +kernel
theorem d1_19 : decode prog_17_method_6_code 19 = .ok (.iconst 1, 1) := by decide +kernel
theorem d1_20 : decode prog_17_method_6_code 20 = .ok (.goto 4, 3) := by decide +kernel
theorem d1_24 : decode prog_17_method_6_code 24 = .ok (.ireturn, 1) := by decide +kernel
theorem d1_23 : decode prog_17_method_6_code 23 = .ok (.iconst 0, 1) := by decide +kernel
set_option maxHeartbeats 4000000 in
theorem own_ef1 (m : MethodId) (x0 : Addr) (x1 : Int32) (x2 : UInt64) (x3 : Int32) (x4 : UInt64) : entryFrame m #[(.ref x0), (.int x1), (.double x2), (.int x3), (.double x4)] 7 = mkF m 0 #[.val (.ref x0), .val (.int x1), .val (.double x2), .second, .val (.int x3), .val (.double x4), .second] [] := by first | (simp [entryFrame, mkF, argsToLocals, Value.category]; done) | rfl
def own_rVQ (Z : State) (vv : Addr) (u1 : Int32) (c1 : Int32) (u2 : Int32) (c2 : Int32) (h0 : Heap) (n0 : Nat) (v : Option Value) (h : Heap) (L : List Loc) : Prop := v = some (.int (own_bet1 u1 c1 u2 c2)) ∧ Fr n0 L ∧ h = h0
theorem own_pn1 : plainName "com/example/tourwerk/tourwerk/problem/Objective" = true := by first | (simp [plainName, overriddenIn]; done) | decide +kernel
abbrev own_rVR : Room := { frames := 0, cells := 0, slots := 0, locals := 0 }
set_option maxRecDepth 65536 in
set_option maxHeartbeats 40000000 in
theorem own_rV (l : Launch) (Z : State) (a0 : Array Value) (hw : ∀ d ∈ tables_1, d.before a0 Z = true) (ws : List Jvm.Cond) (vv : Addr) (u1 : Int32) (c1 : Int32) (u2 : Int32) (c2 : Int32) (h0 : Heap) (n0 : Nat) (Z0 : n0 ≤ h0.size) (pr1 : Old Z n0 h0) (pr2 : Sta Z Z.heap "com/example/tourwerk/tourwerk/problem/Objective" "VEHICLES_THEN_COST" "Lcom/example/tourwerk/tourwerk/problem/Objective;" (.ref vv)) :
    own_M l (⟨"com/example/tourwerk/tourwerk/problem/Objective", "better", "(IDID)Z"⟩ : MethodName) prog_17_method_6_code 7 (some .boolean) ws own_rVR #[(.ref vv), (.int u1), (.double (FP.i2d c1)), (.int u2), (.double (FP.i2d c2))] Z h0 (own_rVQ Z vv u1 c1 u2 c2 h0 n0) := by
  refine own_go (plainFor_of_name own_pn1) (fun m => own_ef1 m vv u1 (FP.i2d c1) u2 (FP.i2d c2) ) ?_
  intro p e s m below meth c s₁ Bd hx hby hml hZ hh hown hnm X0 e0
  have N0 := Fr.nil n0
  refine own_st (T' := s₁) (g' := (mkF m 1 #[.val (.ref vv), .val (.int u1), .val (.double (FP.i2d c1)), .second, .val (.int u2), .val (.double (FP.i2d c2)), .second] [(.ref vv)])) (fun _ kt => XS.aloadN X0.here hx rfl (hb hby d1_0) rfl rfl kt) ?_
  obtain ⟨T1, X1, e1, st1⟩ := getS2 X0 hx hZ hown (host := "") (Or.inl (own_k hw 8 rfl)) Via.refl e0 (Sta.ext pr1.2 pr2) (g := (mkF m 1 #[.val (.ref vv), .val (.int u1), .val (.double (FP.i2d c1)), .second, .val (.int u2), .val (.double (FP.i2d c2)), .second] [(.ref vv)])) rfl (hb hby d1_1)
  refine own_st (T' := T1) (g' := (mkF m 4 #[.val (.ref vv), .val (.int u1), .val (.double (FP.i2d c1)), .second, .val (.int u2), .val (.double (FP.i2d c2)), .second] [(.ref vv), (.ref vv)])) st1 ?_
  refine own_st (T' := T1) (g' := (mkF m 10 #[.val (.ref vv), .val (.int u1), .val (.double (FP.i2d c1)), .second, .val (.int u2), .val (.double (FP.i2d c2)), .second] [(.int u2), (.int u1)])) (fun _ kt => XT.acmpNo X1.here hx rfl (hb hby d1_4) rfl rfl rfl (XT.aa_ne_f rfl) (XS.iloadN X1.here hx rfl (hb hby d1_7) rfl (XS.iload X1.here hx rfl (hb hby d1_8) rfl kt))) ?_
  by_cases hc2 : u1 = u2
  · -- pc 10: u1 = u2
    refine own_st (T' := T1) (g' := (mkF m 29 #[.val (.ref vv), .val (.int u1), .val (.double (FP.i2d c1)), .second, .val (.int u2), .val (.double (FP.i2d c2)), .second] [(.int (XT.cmpL c1.toInt64 c2.toInt64))])) (fun _ kt => XS.icmpYes X1.here hx rfl (pc0 := 10) (pc' := 25) rfl (hb hby d1_10) rfl (XT.ii_eq_t hc2) (by decide) (by decide) (XS.dloadN X1.here hx rfl (hb hby d1_25) rfl (XS.dload X1.here hx rfl (hb hby d1_26) rfl (XS.dcmpS X1.here hx rfl (hb hby d1_28) rfl (own_dc _ _ _) kt)))) ?_
    by_cases hc3 : c1.toInt64 = c2.toInt64
    · -- pc 29: c1.toInt64 = c2.toInt64
      refine own_st (T' := T1) (g' := (mkF m 48 #[.val (.ref vv), .val (.int u1), .val (.double (FP.i2d c1)), .second, .val (.int u2), .val (.double (FP.i2d c2)), .second] [(.int u2), (.int u1)])) (fun _ kt => XS.ifYes X1.here hx rfl (pc0 := 29) (pc' := 45) rfl (hb hby d1_29) rfl (XT.ll_eq_t hc3) (by decide) (by decide) (XS.iloadN X1.here hx rfl (hb hby d1_45) rfl (XS.iload X1.here hx rfl (hb hby d1_46) rfl kt))) ?_
      by_cases hc4 : u1 < u2
      · -- pc 48: u1 < u2
        refine own_st (T' := T1) (g' := (mkF m 56 #[.val (.ref vv), .val (.int u1), .val (.double (FP.i2d c1)), .second, .val (.int u2), .val (.double (FP.i2d c2)), .second] [(.int (1 : Int32))])) (fun _ kt => XS.icmpNo X1.here hx rfl (hb hby d1_48) rfl (XT.ii_ge_f hc4) (XS.iconst X1.here hx rfl (hb hby d1_51) (XS.goto X1.here hx rfl (pc0 := 52) (pc' := 56) rfl (hb hby d1_52) (by decide) (by decide) kt))) ?_
        obtain ⟨fs, hr, hrun, hended, hW, hsame⟩ := X1.leave (v := some (.int (1 : Int32))) (fun h => by rw [Bd.returns] at h; cases h)
        refine own_end (retN X1 hx (t := .boolean) Bd.returns (by simp) (hb hby d1_56) hr) ⟨_, hrun, hended, _, _, rfl, ?_, ⟨_, rfl⟩, hW, hsame.mono (by decide) (by decide)⟩
        show own_rVQ Z vv u1 c1 u2 c2 h0 n0 _ T1.heap _
        rw [e1]
        exact ⟨(congrArg (fun z => some (Value.int z)) (own_b1t (by revert hc2 hc3 hc4; simp only [Int32.lt_iff_toInt_lt, Int64.lt_iff_toInt_lt, ← Int32.toInt_inj, ← Int64.toInt_inj, Int32.toInt_toInt64]; intros; omega))), N0, rfl⟩
      · -- pc 48: not u1 < u2
        refine own_st (T' := T1) (g' := (mkF m 56 #[.val (.ref vv), .val (.int u1), .val (.double (FP.i2d c1)), .second, .val (.int u2), .val (.double (FP.i2d c2)), .second] [(.int (0 : Int32))])) (fun _ kt => XS.icmpYes X1.here hx rfl (pc0 := 48) (pc' := 55) rfl (hb hby d1_48) rfl (XT.ii_ge_t hc4) (by decide) (by decide) (XS.iconst X1.here hx rfl (hb hby d1_55) kt)) ?_
        obtain ⟨fs, hr, hrun, hended, hW, hsame⟩ := X1.leave (v := some (.int (0 : Int32))) (fun h => by rw [Bd.returns] at h; cases h)
        refine own_end (retN X1 hx (t := .boolean) Bd.returns (by simp) (hb hby d1_56) hr) ⟨_, hrun, hended, _, _, rfl, ?_, ⟨_, rfl⟩, hW, hsame.mono (by decide) (by decide)⟩
        show own_rVQ Z vv u1 c1 u2 c2 h0 n0 _ T1.heap _
        rw [e1]
        exact ⟨(congrArg (fun z => some (Value.int z)) (own_b1f (by revert hc2 hc3 hc4; simp only [Int32.lt_iff_toInt_lt, Int64.lt_iff_toInt_lt, ← Int32.toInt_inj, ← Int64.toInt_inj, Int32.toInt_toInt64]; intros; omega))), N0, rfl⟩
    · -- pc 29: not c1.toInt64 = c2.toInt64
      refine own_st (T' := T1) (g' := (mkF m 36 #[.val (.ref vv), .val (.int u1), .val (.double (FP.i2d c1)), .second, .val (.int u2), .val (.double (FP.i2d c2)), .second] [(.int (XT.cmpL c1.toInt64 c2.toInt64))])) (fun _ kt => XS.ifNo X1.here hx rfl (hb hby d1_29) rfl (XT.ll_eq_f hc3) (XS.dloadN X1.here hx rfl (hb hby d1_32) rfl (XS.dload X1.here hx rfl (hb hby d1_33) rfl (XS.dcmpS X1.here hx rfl (hb hby d1_35) rfl (own_dc _ _ _) kt)))) ?_
      by_cases hc5 : c1.toInt64 < c2.toInt64
      · -- pc 36: c1.toInt64 < c2.toInt64
        refine own_st (T' := T1) (g' := (mkF m 44 #[.val (.ref vv), .val (.int u1), .val (.double (FP.i2d c1)), .second, .val (.int u2), .val (.double (FP.i2d c2)), .second] [(.int (1 : Int32))])) (fun _ kt => XS.ifNo X1.here hx rfl (hb hby d1_36) rfl (XT.ll_ge_f hc5) (XS.iconst X1.here hx rfl (hb hby d1_39) (XS.goto X1.here hx rfl (pc0 := 40) (pc' := 44) rfl (hb hby d1_40) (by decide) (by decide) kt))) ?_
        obtain ⟨fs, hr, hrun, hended, hW, hsame⟩ := X1.leave (v := some (.int (1 : Int32))) (fun h => by rw [Bd.returns] at h; cases h)
        refine own_end (retN X1 hx (t := .boolean) Bd.returns (by simp) (hb hby d1_44) hr) ⟨_, hrun, hended, _, _, rfl, ?_, ⟨_, rfl⟩, hW, hsame.mono (by decide) (by decide)⟩
        show own_rVQ Z vv u1 c1 u2 c2 h0 n0 _ T1.heap _
        rw [e1]
        exact ⟨(congrArg (fun z => some (Value.int z)) (own_b1t (by revert hc2 hc3 hc5; simp only [Int32.lt_iff_toInt_lt, Int64.lt_iff_toInt_lt, ← Int32.toInt_inj, ← Int64.toInt_inj, Int32.toInt_toInt64]; intros; omega))), N0, rfl⟩
      · -- pc 36: not c1.toInt64 < c2.toInt64
        refine own_st (T' := T1) (g' := (mkF m 44 #[.val (.ref vv), .val (.int u1), .val (.double (FP.i2d c1)), .second, .val (.int u2), .val (.double (FP.i2d c2)), .second] [(.int (0 : Int32))])) (fun _ kt => XS.ifYes X1.here hx rfl (pc0 := 36) (pc' := 43) rfl (hb hby d1_36) rfl (XT.ll_ge_t hc5) (by decide) (by decide) (XS.iconst X1.here hx rfl (hb hby d1_43) kt)) ?_
        obtain ⟨fs, hr, hrun, hended, hW, hsame⟩ := X1.leave (v := some (.int (0 : Int32))) (fun h => by rw [Bd.returns] at h; cases h)
        refine own_end (retN X1 hx (t := .boolean) Bd.returns (by simp) (hb hby d1_44) hr) ⟨_, hrun, hended, _, _, rfl, ?_, ⟨_, rfl⟩, hW, hsame.mono (by decide) (by decide)⟩
        show own_rVQ Z vv u1 c1 u2 c2 h0 n0 _ T1.heap _
        rw [e1]
        exact ⟨(congrArg (fun z => some (Value.int z)) (own_b1f (by revert hc2 hc3 hc5; simp only [Int32.lt_iff_toInt_lt, Int64.lt_iff_toInt_lt, ← Int32.toInt_inj, ← Int64.toInt_inj, Int32.toInt_toInt64]; intros; omega))), N0, rfl⟩
  · -- pc 10: not u1 = u2
    refine own_st (T' := T1) (g' := (mkF m 16 #[.val (.ref vv), .val (.int u1), .val (.double (FP.i2d c1)), .second, .val (.int u2), .val (.double (FP.i2d c2)), .second] [(.int u2), (.int u1)])) (fun _ kt => XS.icmpNo X1.here hx rfl (hb hby d1_10) rfl (XT.ii_eq_f hc2) (XS.iloadN X1.here hx rfl (hb hby d1_13) rfl (XS.iload X1.here hx rfl (hb hby d1_14) rfl kt))) ?_
    by_cases hc6 : u1 < u2
    · -- pc 16: u1 < u2
      refine own_st (T' := T1) (g' := (mkF m 24 #[.val (.ref vv), .val (.int u1), .val (.double (FP.i2d c1)), .second, .val (.int u2), .val (.double (FP.i2d c2)), .second] [(.int (1 : Int32))])) (fun _ kt => XS.icmpNo X1.here hx rfl (hb hby d1_16) rfl (XT.ii_ge_f hc6) (XS.iconst X1.here hx rfl (hb hby d1_19) (XS.goto X1.here hx rfl (pc0 := 20) (pc' := 24) rfl (hb hby d1_20) (by decide) (by decide) kt))) ?_
      obtain ⟨fs, hr, hrun, hended, hW, hsame⟩ := X1.leave (v := some (.int (1 : Int32))) (fun h => by rw [Bd.returns] at h; cases h)
      refine own_end (retN X1 hx (t := .boolean) Bd.returns (by simp) (hb hby d1_24) hr) ⟨_, hrun, hended, _, _, rfl, ?_, ⟨_, rfl⟩, hW, hsame.mono (by decide) (by decide)⟩
      show own_rVQ Z vv u1 c1 u2 c2 h0 n0 _ T1.heap _
      rw [e1]
      exact ⟨(congrArg (fun z => some (Value.int z)) (own_b1t (by revert hc2 hc6; simp only [Int32.lt_iff_toInt_lt, Int64.lt_iff_toInt_lt, ← Int32.toInt_inj, ← Int64.toInt_inj, Int32.toInt_toInt64]; intros; omega))), N0, rfl⟩
    · -- pc 16: not u1 < u2
      refine own_st (T' := T1) (g' := (mkF m 24 #[.val (.ref vv), .val (.int u1), .val (.double (FP.i2d c1)), .second, .val (.int u2), .val (.double (FP.i2d c2)), .second] [(.int (0 : Int32))])) (fun _ kt => XS.icmpYes X1.here hx rfl (pc0 := 16) (pc' := 23) rfl (hb hby d1_16) rfl (XT.ii_ge_t hc6) (by decide) (by decide) (XS.iconst X1.here hx rfl (hb hby d1_23) kt)) ?_
      obtain ⟨fs, hr, hrun, hended, hW, hsame⟩ := X1.leave (v := some (.int (0 : Int32))) (fun h => by rw [Bd.returns] at h; cases h)
      refine own_end (retN X1 hx (t := .boolean) Bd.returns (by simp) (hb hby d1_24) hr) ⟨_, hrun, hended, _, _, rfl, ?_, ⟨_, rfl⟩, hW, hsame.mono (by decide) (by decide)⟩
      show own_rVQ Z vv u1 c1 u2 c2 h0 n0 _ T1.heap _
      rw [e1]
      exact ⟨(congrArg (fun z => some (Value.int z)) (own_b1f (by revert hc2 hc6; simp only [Int32.lt_iff_toInt_lt, Int64.lt_iff_toInt_lt, ← Int32.toInt_inj, ← Int64.toInt_inj, Int32.toInt_toInt64]; intros; omega))), N0, rfl⟩
def own_rCQ (Z : State) (vv : Addr) (o : Addr) (u1 : Int32) (c1 : Int32) (u2 : Int32) (c2 : Int32) (h0 : Heap) (n0 : Nat) (v : Option Value) (h : Heap) (L : List Loc) : Prop := v = some (.int (own_bet2 u1 c1 u2 c2)) ∧ Fr n0 L ∧ h = h0
abbrev own_rCR : Room := { frames := 0, cells := 0, slots := 0, locals := 0 }
set_option maxRecDepth 65536 in
set_option maxHeartbeats 40000000 in
theorem own_rC (l : Launch) (Z : State) (a0 : Array Value) (hw : ∀ d ∈ tables_1, d.before a0 Z = true) (ws : List Jvm.Cond) (vv : Addr) (o : Addr) (u1 : Int32) (c1 : Int32) (u2 : Int32) (c2 : Int32) (h0 : Heap) (n0 : Nat) (Z0 : n0 ≤ h0.size) (pr1 : Old Z n0 h0) (pr2 : Sta Z Z.heap "com/example/tourwerk/tourwerk/problem/Objective" "VEHICLES_THEN_COST" "Lcom/example/tourwerk/tourwerk/problem/Objective;" (.ref vv)) (pr3 : o ≠ vv) :
    own_M l (⟨"com/example/tourwerk/tourwerk/problem/Objective", "better", "(IDID)Z"⟩ : MethodName) prog_17_method_6_code 7 (some .boolean) ws own_rCR #[(.ref o), (.int u1), (.double (FP.i2d c1)), (.int u2), (.double (FP.i2d c2))] Z h0 (own_rCQ Z vv o u1 c1 u2 c2 h0 n0) := by
  refine own_go (plainFor_of_name own_pn1) (fun m => own_ef1 m o u1 (FP.i2d c1) u2 (FP.i2d c2) ) ?_
  intro p e s m below meth c s₁ Bd hx hby hml hZ hh hown hnm X0 e0
  have N0 := Fr.nil n0
  refine own_st (T' := s₁) (g' := (mkF m 1 #[.val (.ref o), .val (.int u1), .val (.double (FP.i2d c1)), .second, .val (.int u2), .val (.double (FP.i2d c2)), .second] [(.ref o)])) (fun _ kt => XS.aloadN X0.here hx rfl (hb hby d1_0) rfl rfl kt) ?_
  obtain ⟨T7, X7, e7, st7⟩ := getS2 X0 hx hZ hown (host := "") (Or.inl (own_k hw 8 rfl)) Via.refl e0 (Sta.ext pr1.2 pr2) (g := (mkF m 1 #[.val (.ref o), .val (.int u1), .val (.double (FP.i2d c1)), .second, .val (.int u2), .val (.double (FP.i2d c2)), .second] [(.ref o)])) rfl (hb hby d1_1)
  refine own_st (T' := T7) (g' := (mkF m 4 #[.val (.ref o), .val (.int u1), .val (.double (FP.i2d c1)), .second, .val (.int u2), .val (.double (FP.i2d c2)), .second] [(.ref vv), (.ref o)])) st7 ?_
  refine own_st (T' := T7) (g' := (mkF m 29 #[.val (.ref o), .val (.int u1), .val (.double (FP.i2d c1)), .second, .val (.int u2), .val (.double (FP.i2d c2)), .second] [(.int (XT.cmpL c1.toInt64 c2.toInt64))])) (fun _ kt => XT.acmpYes X7.here hx rfl (pc0 := 4) (pc' := 25) rfl (hb hby d1_4) rfl rfl rfl (XT.aa_ne_t (fun q => pr3 (by injection q))) (by decide) (by decide) (XS.dloadN X7.here hx rfl (hb hby d1_25) rfl (XS.dload X7.here hx rfl (hb hby d1_26) rfl (XS.dcmpS X7.here hx rfl (hb hby d1_28) rfl (own_dc _ _ _) kt)))) ?_
  by_cases hc8 : c1.toInt64 = c2.toInt64
  · -- pc 29: c1.toInt64 = c2.toInt64
    refine own_st (T' := T7) (g' := (mkF m 48 #[.val (.ref o), .val (.int u1), .val (.double (FP.i2d c1)), .second, .val (.int u2), .val (.double (FP.i2d c2)), .second] [(.int u2), (.int u1)])) (fun _ kt => XS.ifYes X7.here hx rfl (pc0 := 29) (pc' := 45) rfl (hb hby d1_29) rfl (XT.ll_eq_t hc8) (by decide) (by decide) (XS.iloadN X7.here hx rfl (hb hby d1_45) rfl (XS.iload X7.here hx rfl (hb hby d1_46) rfl kt))) ?_
    by_cases hc9 : u1 < u2
    · -- pc 48: u1 < u2
      refine own_st (T' := T7) (g' := (mkF m 56 #[.val (.ref o), .val (.int u1), .val (.double (FP.i2d c1)), .second, .val (.int u2), .val (.double (FP.i2d c2)), .second] [(.int (1 : Int32))])) (fun _ kt => XS.icmpNo X7.here hx rfl (hb hby d1_48) rfl (XT.ii_ge_f hc9) (XS.iconst X7.here hx rfl (hb hby d1_51) (XS.goto X7.here hx rfl (pc0 := 52) (pc' := 56) rfl (hb hby d1_52) (by decide) (by decide) kt))) ?_
      obtain ⟨fs, hr, hrun, hended, hW, hsame⟩ := X7.leave (v := some (.int (1 : Int32))) (fun h => by rw [Bd.returns] at h; cases h)
      refine own_end (retN X7 hx (t := .boolean) Bd.returns (by simp) (hb hby d1_56) hr) ⟨_, hrun, hended, _, _, rfl, ?_, ⟨_, rfl⟩, hW, hsame.mono (by decide) (by decide)⟩
      show own_rCQ Z vv o u1 c1 u2 c2 h0 n0 _ T7.heap _
      rw [e7]
      exact ⟨(congrArg (fun z => some (Value.int z)) (own_b2t (by revert hc8 hc9; simp only [Int32.lt_iff_toInt_lt, Int64.lt_iff_toInt_lt, ← Int32.toInt_inj, ← Int64.toInt_inj, Int32.toInt_toInt64]; intros; omega))), N0, rfl⟩
    · -- pc 48: not u1 < u2
      refine own_st (T' := T7) (g' := (mkF m 56 #[.val (.ref o), .val (.int u1), .val (.double (FP.i2d c1)), .second, .val (.int u2), .val (.double (FP.i2d c2)), .second] [(.int (0 : Int32))])) (fun _ kt => XS.icmpYes X7.here hx rfl (pc0 := 48) (pc' := 55) rfl (hb hby d1_48) rfl (XT.ii_ge_t hc9) (by decide) (by decide) (XS.iconst X7.here hx rfl (hb hby d1_55) kt)) ?_
      obtain ⟨fs, hr, hrun, hended, hW, hsame⟩ := X7.leave (v := some (.int (0 : Int32))) (fun h => by rw [Bd.returns] at h; cases h)
      refine own_end (retN X7 hx (t := .boolean) Bd.returns (by simp) (hb hby d1_56) hr) ⟨_, hrun, hended, _, _, rfl, ?_, ⟨_, rfl⟩, hW, hsame.mono (by decide) (by decide)⟩
      show own_rCQ Z vv o u1 c1 u2 c2 h0 n0 _ T7.heap _
      rw [e7]
      exact ⟨(congrArg (fun z => some (Value.int z)) (own_b2f (by revert hc8 hc9; simp only [Int32.lt_iff_toInt_lt, Int64.lt_iff_toInt_lt, ← Int32.toInt_inj, ← Int64.toInt_inj, Int32.toInt_toInt64]; intros; omega))), N0, rfl⟩
  · -- pc 29: not c1.toInt64 = c2.toInt64
    refine own_st (T' := T7) (g' := (mkF m 36 #[.val (.ref o), .val (.int u1), .val (.double (FP.i2d c1)), .second, .val (.int u2), .val (.double (FP.i2d c2)), .second] [(.int (XT.cmpL c1.toInt64 c2.toInt64))])) (fun _ kt => XS.ifNo X7.here hx rfl (hb hby d1_29) rfl (XT.ll_eq_f hc8) (XS.dloadN X7.here hx rfl (hb hby d1_32) rfl (XS.dload X7.here hx rfl (hb hby d1_33) rfl (XS.dcmpS X7.here hx rfl (hb hby d1_35) rfl (own_dc _ _ _) kt)))) ?_
    by_cases hc10 : c1.toInt64 < c2.toInt64
    · -- pc 36: c1.toInt64 < c2.toInt64
      refine own_st (T' := T7) (g' := (mkF m 44 #[.val (.ref o), .val (.int u1), .val (.double (FP.i2d c1)), .second, .val (.int u2), .val (.double (FP.i2d c2)), .second] [(.int (1 : Int32))])) (fun _ kt => XS.ifNo X7.here hx rfl (hb hby d1_36) rfl (XT.ll_ge_f hc10) (XS.iconst X7.here hx rfl (hb hby d1_39) (XS.goto X7.here hx rfl (pc0 := 40) (pc' := 44) rfl (hb hby d1_40) (by decide) (by decide) kt))) ?_
      obtain ⟨fs, hr, hrun, hended, hW, hsame⟩ := X7.leave (v := some (.int (1 : Int32))) (fun h => by rw [Bd.returns] at h; cases h)
      refine own_end (retN X7 hx (t := .boolean) Bd.returns (by simp) (hb hby d1_44) hr) ⟨_, hrun, hended, _, _, rfl, ?_, ⟨_, rfl⟩, hW, hsame.mono (by decide) (by decide)⟩
      show own_rCQ Z vv o u1 c1 u2 c2 h0 n0 _ T7.heap _
      rw [e7]
      exact ⟨(congrArg (fun z => some (Value.int z)) (own_b2t (by revert hc8 hc10; simp only [Int32.lt_iff_toInt_lt, Int64.lt_iff_toInt_lt, ← Int32.toInt_inj, ← Int64.toInt_inj, Int32.toInt_toInt64]; intros; omega))), N0, rfl⟩
    · -- pc 36: not c1.toInt64 < c2.toInt64
      refine own_st (T' := T7) (g' := (mkF m 44 #[.val (.ref o), .val (.int u1), .val (.double (FP.i2d c1)), .second, .val (.int u2), .val (.double (FP.i2d c2)), .second] [(.int (0 : Int32))])) (fun _ kt => XS.ifYes X7.here hx rfl (pc0 := 36) (pc' := 43) rfl (hb hby d1_36) rfl (XT.ll_ge_t hc10) (by decide) (by decide) (XS.iconst X7.here hx rfl (hb hby d1_43) kt)) ?_
      obtain ⟨fs, hr, hrun, hended, hW, hsame⟩ := X7.leave (v := some (.int (0 : Int32))) (fun h => by rw [Bd.returns] at h; cases h)
      refine own_end (retN X7 hx (t := .boolean) Bd.returns (by simp) (hb hby d1_44) hr) ⟨_, hrun, hended, _, _, rfl, ?_, ⟨_, rfl⟩, hW, hsame.mono (by decide) (by decide)⟩
      show own_rCQ Z vv o u1 c1 u2 c2 h0 n0 _ T7.heap _
      rw [e7]
      exact ⟨(congrArg (fun z => some (Value.int z)) (own_b2f (by revert hc8 hc10; simp only [Int32.lt_iff_toInt_lt, Int64.lt_iff_toInt_lt, ← Int32.toInt_inj, ← Int64.toInt_inj, Int32.toInt_toInt64]; intros; omega))), N0, rfl⟩
theorem own_pd1 : parseMethodDescriptor "(IDID)Z" = some ⟨[.int, .double, .int, .double], some .boolean⟩ := by decide +kernel
set_option maxHeartbeats 4000000 in
theorem own_ef2 (m : MethodId) (x0 : Int32) (x1 : Int32) (x2 : Int32) (x3 : Int32) (x4 : Int32) : entryFrame m #[(.int x0), (.int x1), (.int x2), (.int x3), (.int x4)] 13 = mkF m 0 #[.val (.int x0), .val (.int x1), .val (.int x2), .val (.int x3), .val (.int x4), .unset, .unset, .unset, .unset, .unset, .unset, .unset, .unset] [] := by first | (simp [entryFrame, mkF, argsToLocals, Value.category]; done) | rfl
def own_lawQ (Z : State) (p1 : Int32) (p2 : Int32) (p3 : Int32) (p4 : Int32) (p5 : Int32) (vv : Addr) (cc : Addr) (h0 : Heap) (n0 : Nat) (v : Option Value) (h : Heap) (L : List Loc) : Prop := v = some (.int (1 : Int32)) ∧ Fr n0 L
theorem own_pn2 : plainName "com/example/tourwerk/tourwerk/problem/ObjectiveBetterPinLaw" = true := by first | (simp [plainName, overriddenIn]; done) | decide +kernel
set_option maxRecDepth 65536 in
set_option maxHeartbeats 40000000 in
theorem own_law (l : Launch) (Z : State) (a0 : Array Value) (hw : ∀ d ∈ tables_1, d.before a0 Z = true) (ws : List Jvm.Cond) (p1 : Int32) (p2 : Int32) (p3 : Int32) (p4 : Int32) (p5 : Int32) (vv : Addr) (cc : Addr) (h0 : Heap) (n0 : Nat) (Z0 : n0 ≤ h0.size) (pr1 : Old Z n0 h0) (pr2 : Sta Z Z.heap "com/example/tourwerk/tourwerk/problem/Objective" "VEHICLES_THEN_COST" "Lcom/example/tourwerk/tourwerk/problem/Objective;" (.ref vv)) (pr3 : Sta Z Z.heap "com/example/tourwerk/tourwerk/problem/Objective" "COST" "Lcom/example/tourwerk/tourwerk/problem/Objective;" (.ref cc)) (pr4 : Exa Z h0 vv "com/example/tourwerk/tourwerk/problem/Objective") (pr5 : Exa Z h0 cc "com/example/tourwerk/tourwerk/problem/Objective") (pr6 : cc ≠ vv) :
    own_M l x code maxLocals ret ws room_1 #[(.int p1), (.int p2), (.int p3), (.int p4), (.int p5)] Z h0 (own_lawQ Z p1 p2 p3 p4 p5 vv cc h0 n0) := by
  refine own_go (plainFor_of_name own_pn2) (fun m => own_ef2 m p1 p2 p3 p4 p5 ) ?_
  intro p e s m below meth c s₁ Bd hx hby hml hZ hh hown hnm X0 e0
  have N0 := Fr.nil n0
  refine own_st (T' := s₁) (g' := (mkF m 3 #[.val (.int p1), .val (.int p2), .val (.int p3), .val (.int p4), .val (.int p5), .unset, .unset, .unset, .unset, .unset, .unset, .unset, .unset] [(.int (p1 &&& (1 : Int32)))])) (fun _ kt => XS.iloadN X0.here hx rfl (hb hby at_0) rfl (XS.iconst X0.here hx rfl (hb hby at_1) (XS.iand X0.here hx rfl (hb hby at_2) rfl kt))) ?_
  by_cases hc11 : (p1 &&& (1 : Int32)) = 0
  · -- pc 3: (p1 &&& (1 : Int32)) = 0
    refine own_st (T' := s₁) (g' := (mkF m 6 #[.val (.int p1), .val (.int p2), .val (.int p3), .val (.int p4), .val (.int p5), .unset, .unset, .unset, .unset, .unset, .unset, .unset, .unset] [])) (fun _ kt => XS.ifNo X0.here hx rfl (hb hby at_3) rfl (XT.i0_ne_f hc11) kt) ?_
    obtain ⟨T12, X12, e12, st12⟩ := getS2 X0 hx hZ hown (host := "") (Or.inl (own_k hw 0 rfl)) Via.refl e0 (Sta.ext pr1.2 pr2) (g := (mkF m 6 #[.val (.int p1), .val (.int p2), .val (.int p3), .val (.int p4), .val (.int p5), .unset, .unset, .unset, .unset, .unset, .unset, .unset, .unset] [])) rfl (hb hby at_6)
    refine own_st (T' := T12) (g' := (mkF m 9 #[.val (.int p1), .val (.int p2), .val (.int p3), .val (.int p4), .val (.int p5), .unset, .unset, .unset, .unset, .unset, .unset, .unset, .unset] [(.ref vv)])) st12 ?_
    refine own_st (T' := T12) (g' := (mkF m 17 #[.val (.int p1), .val (.int p2), .val (.int p3), .val (.int p4), .val (.int p5), .val (.ref vv), .unset, .unset, .unset, .unset, .unset, .unset, .unset] [])) (fun _ kt => XS.goto X12.here hx rfl (pc0 := 9) (pc' := 15) rfl (hb hby at_9) (by decide) (by decide) (XS.astore X12.here hx rfl (hb hby at_15) rfl rfl (l' := #[.val (.int p1), .val (.int p2), .val (.int p3), .val (.int p4), .val (.int p5), .val (.ref vv), .unset, .unset, .unset, .unset, .unset, .unset, .unset]) rfl kt)) ?_
    refine own_join (α := Int32) (gj := fun q => (mkF m 28 #[.val (.int p1), .val (.int p2), .val (.int p3), .val (.int p4), .val (.int p5), .val (.ref vv), .unset, .unset, .unset, .unset, .unset, .unset, .unset] [(.int q)])) (P := fun q => True) ?_ (fun J13 => ?_)
    · rintro ov hj13
      try dsimp only
      refine own_st (T' := T12) (g' := (mkF m 30 #[.val (.int p1), .val (.int p2), .val (.int p3), .val (.int p4), .val (.int p5), .val (.ref vv), .val (.int ov), .unset, .unset, .unset, .unset, .unset, .unset] [])) (fun _ kt => XS.istore X12.here hx rfl (hb hby at_28) rfl (l' := #[.val (.int p1), .val (.int p2), .val (.int p3), .val (.int p4), .val (.int p5), .val (.ref vv), .val (.int ov), .unset, .unset, .unset, .unset, .unset, .unset]) rfl kt) ?_
      refine own_join (α := Int32) (gj := fun q => (mkF m 42 #[.val (.int p1), .val (.int p2), .val (.int p3), .val (.int p4), .val (.int p5), .val (.ref vv), .val (.int ov), .unset, .unset, .unset, .unset, .unset, .unset] [(.int q)])) (P := fun q => True) ?_ (fun J14 => ?_)
      · rintro oc hj14
        try dsimp only
        refine own_st (T' := T12) (g' := (mkF m 59 #[.val (.int p1), .val (.int p2), .val (.int p3), .val (.int p4), .val (.int p5), .val (.ref vv), .val (.int ov), .val (.int oc), .val (.double (FP.i2d p4)), .second, .val (.double (FP.i2d oc)), .second, .unset] [])) (fun _ kt => XS.istore X12.here hx rfl (hb hby at_42) rfl (l' := #[.val (.int p1), .val (.int p2), .val (.int p3), .val (.int p4), .val (.int p5), .val (.ref vv), .val (.int ov), .val (.int oc), .unset, .unset, .unset, .unset, .unset]) rfl (XS.iloadN X12.here hx rfl (hb hby at_44) rfl (XS.i2dS X12.here hx rfl (hb hby at_45) rfl rfl (XS.dstore X12.here hx rfl (hb hby at_46) rfl (l' := #[.val (.int p1), .val (.int p2), .val (.int p3), .val (.int p4), .val (.int p5), .val (.ref vv), .val (.int ov), .val (.int oc), .val (.double (FP.i2d p4)), .second, .unset, .unset, .unset]) rfl (XS.iload X12.here hx rfl (hb hby at_48) rfl (XS.i2dS X12.here hx rfl (hb hby at_50) rfl rfl (XS.dstore X12.here hx rfl (hb hby at_51) rfl (l' := #[.val (.int p1), .val (.int p2), .val (.int p3), .val (.int p4), .val (.int p5), .val (.ref vv), .val (.int ov), .val (.int oc), .val (.double (FP.i2d p4)), .second, .val (.double (FP.i2d oc)), .second, .unset]) rfl (XS.iloadN X12.here hx rfl (hb hby at_53) rfl (XS.iconst X12.here hx rfl (hb hby at_54) (XS.iand X12.here hx rfl (hb hby at_55) rfl (XS.ifNo X12.here hx rfl (hb hby at_56) rfl (XT.i0_ne_f hc11) kt))))))))))) ?_
        refine own_join (α := Int32) (gj := fun q => (mkF m 112 #[.val (.int p1), .val (.int p2), .val (.int p3), .val (.int p4), .val (.int p5), .val (.ref vv), .val (.int ov), .val (.int oc), .val (.double (FP.i2d p4)), .second, .val (.double (FP.i2d oc)), .second, .val (.int q)] [])) (P := fun q => q = own_bet1 p2 p4 ov oc) ?_ (fun J15 => ?_)
        · rintro ex hj15
          try dsimp only at hj15 ⊢
          refine own_st (T' := T12) (g' := (mkF m 121 #[.val (.int p1), .val (.int p2), .val (.int p3), .val (.int p4), .val (.int p5), .val (.ref vv), .val (.int ov), .val (.int oc), .val (.double (FP.i2d p4)), .second, .val (.double (FP.i2d oc)), .second, .val (.int ex)] [(.double (FP.i2d oc)), (.int ov), (.double (FP.i2d p4)), (.int p2), (.ref vv)])) (fun _ kt => XS.aload X12.here hx rfl (hb hby at_112) rfl rfl (XS.iloadN X12.here hx rfl (hb hby at_114) rfl (XS.dload X12.here hx rfl (hb hby at_115) rfl (XS.iload X12.here hx rfl (hb hby at_117) rfl (XS.dload X12.here hx rfl (hb hby at_119) rfl kt))))) ?_
          obtain ⟨cq17, kq17, qa17, qb17, qc17⟩ := isOf hZ e12 pr4
          obtain ⟨_, _, ⟨T16, L16, k16, n16⟩, -, X16, ⟨Lc16, hQ16, l16, y16, z16⟩, st16⟩ := X12.virtualBack hx (y := (⟨"com/example/tourwerk/tourwerk/problem/Objective", "better", "(IDID)Z"⟩ : MethodName)) (z := (⟨"com/example/tourwerk/tourwerk/problem/Objective", "better", "(IDID)Z"⟩ : MethodName)) hown (mvT hZ (own_k hw 3 rfl)) (mvT hZ (own_k hw 4 rfl)) (notFace_of_selects (args := #[]) (mvT hZ (own_k hw 6 rfl))) (mvT hZ (own_k hw 6 rfl)) (mvT hZ (own_k hw 5 rfl)) (by decide) (backOf (W := 0) (own_rV l Z a0 hw [] vv p2 p4 ov oc h0 n0 Z0 pr1 pr2) hZ (own_k hw 7 rfl) (own_k hw 1 rfl) (by decide) (by decide)) qa17 qc17 (g := (mkF m 121 #[.val (.int p1), .val (.int p2), .val (.int p3), .val (.int p4), .val (.int p5), .val (.ref vv), .val (.int ov), .val (.int oc), .val (.double (FP.i2d p4)), .second, .val (.double (FP.i2d oc)), .second, .val (.int ex)] [(.double (FP.i2d oc)), (.int ov), (.double (FP.i2d p4)), (.int p2), (.ref vv)])) rfl hml.symm (Steps.refl _) (argsL := [(.int p2), (.double (FP.i2d p4)), (.int ov), (.double (FP.i2d oc))]) (rest := []) (lenOf own_pd1 rfl) rfl (by show 2 * 0 + _ ≤ _; exact Nat.le_of_eq rfl) (hb hby at_121) (fun _ _ => ⟨rfl, e12, (by decide : 0 + 0 ≤ 0), (by decide : 0 + 0 ≤ 0)⟩)
          dsimp only [Pt.U, Pt.locs, Pt.cells, Pt.slots] at X16 l16 y16 z16 st16 hQ16
          subst l16 y16 z16
          obtain ⟨rfl, N16, e16⟩ := hQ16
          have N18 := Fr.app N0 N16
          refine own_tr (T' := T16) (g' := (mkF m 124 #[.val (.int p1), .val (.int p2), .val (.int p3), .val (.int p4), .val (.int p5), .val (.ref vv), .val (.int ov), .val (.int oc), .val (.double (FP.i2d p4)), .second, .val (.double (FP.i2d oc)), .second, .val (.int ex)] [(.int (own_bet1 p2 p4 ov oc))])) st16 ?_
          refine own_st (T' := T16) (g' := (mkF m 134 #[.val (.int p1), .val (.int p2), .val (.int p3), .val (.int p4), .val (.int p5), .val (.ref vv), .val (.int ov), .val (.int oc), .val (.double (FP.i2d p4)), .second, .val (.double (FP.i2d oc)), .second, .val (.int ex)] [(.int (1 : Int32))])) (fun _ kt => XS.iload X16.here hx rfl (hb hby at_124) rfl (XS.icmpNo X16.here hx rfl (hb hby at_126) rfl (XT.ii_ne_f hj15.symm) (XS.iconst X16.here hx rfl (hb hby at_129) (XS.goto X16.here hx rfl (pc0 := 130) (pc' := 134) rfl (hb hby at_130) (by decide) (by decide) kt)))) ?_
          obtain ⟨fs, hr, hrun, hended, hW, hsame⟩ := X16.leave (v := some (.int (1 : Int32))) (fun h => by rw [Bd.returns] at h; cases h)
          refine own_end (retN X16 hx (t := .boolean) Bd.returns (by simp) (hb hby at_134) hr) ⟨_, hrun, hended, _, _, rfl, ?_, ⟨_, rfl⟩, hW, hsame.mono (by decide) (by decide)⟩
          show own_lawQ Z p1 p2 p3 p4 p5 vv cc h0 n0 _ T16.heap _
          rw [e16]
          exact ⟨rfl, N18⟩
        ·
          refine own_st (T' := T12) (g' := (mkF m 62 #[.val (.int p1), .val (.int p2), .val (.int p3), .val (.int p4), .val (.int p5), .val (.ref vv), .val (.int ov), .val (.int oc), .val (.double (FP.i2d p4)), .second, .val (.double (FP.i2d oc)), .second, .unset] [(.int ov), (.int p2)])) (fun _ kt => XS.iloadN X12.here hx rfl (hb hby at_59) rfl (XS.iload X12.here hx rfl (hb hby at_60) rfl kt)) ?_
          by_cases hc19 : p2 < ov
          · -- pc 62: p2 < ov
            refine own_st (T' := T12) (g' := (mkF m 112 #[.val (.int p1), .val (.int p2), .val (.int p3), .val (.int p4), .val (.int p5), .val (.ref vv), .val (.int ov), .val (.int oc), .val (.double (FP.i2d p4)), .second, .val (.double (FP.i2d oc)), .second, .val (.int (1 : Int32))] [])) (fun _ kt => XS.icmpYes X12.here hx rfl (pc0 := 62) (pc' := 77) rfl (hb hby at_62) rfl (XT.ii_lt_t hc19) (by decide) (by decide) (XS.iconst X12.here hx rfl (hb hby at_77) (XS.goto X12.here hx rfl (pc0 := 78) (pc' := 82) rfl (hb hby at_78) (by decide) (by decide) (XS.istore X12.here hx rfl (hb hby at_82) rfl (l' := #[.val (.int p1), .val (.int p2), .val (.int p3), .val (.int p4), .val (.int p5), .val (.ref vv), .val (.int ov), .val (.int oc), .val (.double (FP.i2d p4)), .second, .val (.double (FP.i2d oc)), .second, .val (.int (1 : Int32))]) rfl (XS.goto X12.here hx rfl (pc0 := 84) (pc' := 112) rfl (hb hby at_84) (by decide) (by decide) kt))))) ?_
            exact J15 (1 : Int32) (own_b1t (by revert hc19; simp only [Int32.lt_iff_toInt_lt, Int64.lt_iff_toInt_lt, ← Int32.toInt_inj, ← Int64.toInt_inj, Int32.toInt_toInt64]; intros; omega))
          · -- pc 62: not p2 < ov
            refine own_st (T' := T12) (g' := (mkF m 68 #[.val (.int p1), .val (.int p2), .val (.int p3), .val (.int p4), .val (.int p5), .val (.ref vv), .val (.int ov), .val (.int oc), .val (.double (FP.i2d p4)), .second, .val (.double (FP.i2d oc)), .second, .unset] [(.int ov), (.int p2)])) (fun _ kt => XS.icmpNo X12.here hx rfl (hb hby at_62) rfl (XT.ii_lt_f hc19) (XS.iloadN X12.here hx rfl (hb hby at_65) rfl (XS.iload X12.here hx rfl (hb hby at_66) rfl kt))) ?_
            by_cases hc20 : p2 = ov
            · -- pc 68: p2 = ov
              refine own_st (T' := T12) (g' := (mkF m 74 #[.val (.int p1), .val (.int p2), .val (.int p3), .val (.int p4), .val (.int p5), .val (.ref vv), .val (.int ov), .val (.int oc), .val (.double (FP.i2d p4)), .second, .val (.double (FP.i2d oc)), .second, .unset] [(.int oc), (.int p4)])) (fun _ kt => XS.icmpNo X12.here hx rfl (hb hby at_68) rfl (XT.ii_ne_f hc20) (XS.iloadN X12.here hx rfl (hb hby at_71) rfl (XS.iload X12.here hx rfl (hb hby at_72) rfl kt))) ?_
              by_cases hc21 : p4 < oc
              · -- pc 74: p4 < oc
                refine own_st (T' := T12) (g' := (mkF m 112 #[.val (.int p1), .val (.int p2), .val (.int p3), .val (.int p4), .val (.int p5), .val (.ref vv), .val (.int ov), .val (.int oc), .val (.double (FP.i2d p4)), .second, .val (.double (FP.i2d oc)), .second, .val (.int (1 : Int32))] [])) (fun _ kt => XS.icmpNo X12.here hx rfl (hb hby at_74) rfl (XT.ii_ge_f hc21) (XS.iconst X12.here hx rfl (hb hby at_77) (XS.goto X12.here hx rfl (pc0 := 78) (pc' := 82) rfl (hb hby at_78) (by decide) (by decide) (XS.istore X12.here hx rfl (hb hby at_82) rfl (l' := #[.val (.int p1), .val (.int p2), .val (.int p3), .val (.int p4), .val (.int p5), .val (.ref vv), .val (.int ov), .val (.int oc), .val (.double (FP.i2d p4)), .second, .val (.double (FP.i2d oc)), .second, .val (.int (1 : Int32))]) rfl (XS.goto X12.here hx rfl (pc0 := 84) (pc' := 112) rfl (hb hby at_84) (by decide) (by decide) kt))))) ?_
                exact J15 (1 : Int32) (own_b1t (by revert hc19 hc20 hc21; simp only [Int32.lt_iff_toInt_lt, Int64.lt_iff_toInt_lt, ← Int32.toInt_inj, ← Int64.toInt_inj, Int32.toInt_toInt64]; intros; omega))
              · -- pc 74: not p4 < oc
                refine own_st (T' := T12) (g' := (mkF m 112 #[.val (.int p1), .val (.int p2), .val (.int p3), .val (.int p4), .val (.int p5), .val (.ref vv), .val (.int ov), .val (.int oc), .val (.double (FP.i2d p4)), .second, .val (.double (FP.i2d oc)), .second, .val (.int (0 : Int32))] [])) (fun _ kt => XS.icmpYes X12.here hx rfl (pc0 := 74) (pc' := 81) rfl (hb hby at_74) rfl (XT.ii_ge_t hc21) (by decide) (by decide) (XS.iconst X12.here hx rfl (hb hby at_81) (XS.istore X12.here hx rfl (hb hby at_82) rfl (l' := #[.val (.int p1), .val (.int p2), .val (.int p3), .val (.int p4), .val (.int p5), .val (.ref vv), .val (.int ov), .val (.int oc), .val (.double (FP.i2d p4)), .second, .val (.double (FP.i2d oc)), .second, .val (.int (0 : Int32))]) rfl (XS.goto X12.here hx rfl (pc0 := 84) (pc' := 112) rfl (hb hby at_84) (by decide) (by decide) kt)))) ?_
                exact J15 (0 : Int32) (own_b1f (by revert hc19 hc20 hc21; simp only [Int32.lt_iff_toInt_lt, Int64.lt_iff_toInt_lt, ← Int32.toInt_inj, ← Int64.toInt_inj, Int32.toInt_toInt64]; intros; omega))
            · -- pc 68: not p2 = ov
              refine own_st (T' := T12) (g' := (mkF m 112 #[.val (.int p1), .val (.int p2), .val (.int p3), .val (.int p4), .val (.int p5), .val (.ref vv), .val (.int ov), .val (.int oc), .val (.double (FP.i2d p4)), .second, .val (.double (FP.i2d oc)), .second, .val (.int (0 : Int32))] [])) (fun _ kt => XS.icmpYes X12.here hx rfl (pc0 := 68) (pc' := 81) rfl (hb hby at_68) rfl (XT.ii_ne_t hc20) (by decide) (by decide) (XS.iconst X12.here hx rfl (hb hby at_81) (XS.istore X12.here hx rfl (hb hby at_82) rfl (l' := #[.val (.int p1), .val (.int p2), .val (.int p3), .val (.int p4), .val (.int p5), .val (.ref vv), .val (.int ov), .val (.int oc), .val (.double (FP.i2d p4)), .second, .val (.double (FP.i2d oc)), .second, .val (.int (0 : Int32))]) rfl (XS.goto X12.here hx rfl (pc0 := 84) (pc' := 112) rfl (hb hby at_84) (by decide) (by decide) kt)))) ?_
              exact J15 (0 : Int32) (own_b1f (by revert hc19 hc20; simp only [Int32.lt_iff_toInt_lt, Int64.lt_iff_toInt_lt, ← Int32.toInt_inj, ← Int64.toInt_inj, Int32.toInt_toInt64]; intros; omega))
      ·
        refine own_st (T' := T12) (g' := (mkF m 33 #[.val (.int p1), .val (.int p2), .val (.int p3), .val (.int p4), .val (.int p5), .val (.ref vv), .val (.int ov), .unset, .unset, .unset, .unset, .unset, .unset] [(.int (p1 &&& (4 : Int32)))])) (fun _ kt => XS.iloadN X12.here hx rfl (hb hby at_30) rfl (XS.iconst X12.here hx rfl (hb hby at_31) (XS.iand X12.here hx rfl (hb hby at_32) rfl kt))) ?_
        by_cases hc22 : (p1 &&& (4 : Int32)) = 0
        · -- pc 33: (p1 &&& (4 : Int32)) = 0
          refine own_st (T' := T12) (g' := (mkF m 42 #[.val (.int p1), .val (.int p2), .val (.int p3), .val (.int p4), .val (.int p5), .val (.ref vv), .val (.int ov), .unset, .unset, .unset, .unset, .unset, .unset] [(.int p5)])) (fun _ kt => XS.ifYes X12.here hx rfl (pc0 := 33) (pc' := 40) rfl (hb hby at_33) rfl (XT.i0_eq_t hc22) (by decide) (by decide) (XS.iload X12.here hx rfl (hb hby at_40) rfl kt)) ?_
          exact J14 p5 trivial
        · -- pc 33: not (p1 &&& (4 : Int32)) = 0
          refine own_st (T' := T12) (g' := (mkF m 42 #[.val (.int p1), .val (.int p2), .val (.int p3), .val (.int p4), .val (.int p5), .val (.ref vv), .val (.int ov), .unset, .unset, .unset, .unset, .unset, .unset] [(.int p4)])) (fun _ kt => XS.ifNo X12.here hx rfl (hb hby at_33) rfl (XT.i0_eq_f hc22) (XS.iloadN X12.here hx rfl (hb hby at_36) rfl (XS.goto X12.here hx rfl (pc0 := 37) (pc' := 42) rfl (hb hby at_37) (by decide) (by decide) kt))) ?_
          exact J14 p4 trivial
    ·
      refine own_st (T' := T12) (g' := (mkF m 20 #[.val (.int p1), .val (.int p2), .val (.int p3), .val (.int p4), .val (.int p5), .val (.ref vv), .unset, .unset, .unset, .unset, .unset, .unset, .unset] [(.int (p1 &&& (2 : Int32)))])) (fun _ kt => XS.iloadN X12.here hx rfl (hb hby at_17) rfl (XS.iconst X12.here hx rfl (hb hby at_18) (XS.iand X12.here hx rfl (hb hby at_19) rfl kt))) ?_
      by_cases hc23 : (p1 &&& (2 : Int32)) = 0
      · -- pc 20: (p1 &&& (2 : Int32)) = 0
        refine own_st (T' := T12) (g' := (mkF m 28 #[.val (.int p1), .val (.int p2), .val (.int p3), .val (.int p4), .val (.int p5), .val (.ref vv), .unset, .unset, .unset, .unset, .unset, .unset, .unset] [(.int p3)])) (fun _ kt => XS.ifYes X12.here hx rfl (pc0 := 20) (pc' := 27) rfl (hb hby at_20) rfl (XT.i0_eq_t hc23) (by decide) (by decide) (XS.iloadN X12.here hx rfl (hb hby at_27) rfl kt)) ?_
        exact J13 p3 trivial
      · -- pc 20: not (p1 &&& (2 : Int32)) = 0
        refine own_st (T' := T12) (g' := (mkF m 28 #[.val (.int p1), .val (.int p2), .val (.int p3), .val (.int p4), .val (.int p5), .val (.ref vv), .unset, .unset, .unset, .unset, .unset, .unset, .unset] [(.int p2)])) (fun _ kt => XS.ifNo X12.here hx rfl (hb hby at_20) rfl (XT.i0_eq_f hc23) (XS.iloadN X12.here hx rfl (hb hby at_23) rfl (XS.goto X12.here hx rfl (pc0 := 24) (pc' := 28) rfl (hb hby at_24) (by decide) (by decide) kt))) ?_
        exact J13 p2 trivial
  · -- pc 3: not (p1 &&& (1 : Int32)) = 0
    refine own_st (T' := s₁) (g' := (mkF m 12 #[.val (.int p1), .val (.int p2), .val (.int p3), .val (.int p4), .val (.int p5), .unset, .unset, .unset, .unset, .unset, .unset, .unset, .unset] [])) (fun _ kt => XS.ifYes X0.here hx rfl (pc0 := 3) (pc' := 12) rfl (hb hby at_3) rfl (XT.i0_ne_t hc11) (by decide) (by decide) kt) ?_
    obtain ⟨T24, X24, e24, st24⟩ := getS2 X0 hx hZ hown (host := "") (Or.inl (own_k hw 9 rfl)) Via.refl e0 (Sta.ext pr1.2 pr3) (g := (mkF m 12 #[.val (.int p1), .val (.int p2), .val (.int p3), .val (.int p4), .val (.int p5), .unset, .unset, .unset, .unset, .unset, .unset, .unset, .unset] [])) rfl (hb hby at_12)
    refine own_st (T' := T24) (g' := (mkF m 15 #[.val (.int p1), .val (.int p2), .val (.int p3), .val (.int p4), .val (.int p5), .unset, .unset, .unset, .unset, .unset, .unset, .unset, .unset] [(.ref cc)])) st24 ?_
    refine own_st (T' := T24) (g' := (mkF m 17 #[.val (.int p1), .val (.int p2), .val (.int p3), .val (.int p4), .val (.int p5), .val (.ref cc), .unset, .unset, .unset, .unset, .unset, .unset, .unset] [])) (fun _ kt => XS.astore X24.here hx rfl (hb hby at_15) rfl rfl (l' := #[.val (.int p1), .val (.int p2), .val (.int p3), .val (.int p4), .val (.int p5), .val (.ref cc), .unset, .unset, .unset, .unset, .unset, .unset, .unset]) rfl kt) ?_
    refine own_join (α := Int32) (gj := fun q => (mkF m 28 #[.val (.int p1), .val (.int p2), .val (.int p3), .val (.int p4), .val (.int p5), .val (.ref cc), .unset, .unset, .unset, .unset, .unset, .unset, .unset] [(.int q)])) (P := fun q => True) ?_ (fun J25 => ?_)
    · rintro ov hj25
      try dsimp only
      refine own_st (T' := T24) (g' := (mkF m 30 #[.val (.int p1), .val (.int p2), .val (.int p3), .val (.int p4), .val (.int p5), .val (.ref cc), .val (.int ov), .unset, .unset, .unset, .unset, .unset, .unset] [])) (fun _ kt => XS.istore X24.here hx rfl (hb hby at_28) rfl (l' := #[.val (.int p1), .val (.int p2), .val (.int p3), .val (.int p4), .val (.int p5), .val (.ref cc), .val (.int ov), .unset, .unset, .unset, .unset, .unset, .unset]) rfl kt) ?_
      refine own_join (α := Int32) (gj := fun q => (mkF m 42 #[.val (.int p1), .val (.int p2), .val (.int p3), .val (.int p4), .val (.int p5), .val (.ref cc), .val (.int ov), .unset, .unset, .unset, .unset, .unset, .unset] [(.int q)])) (P := fun q => True) ?_ (fun J26 => ?_)
      · rintro oc hj26
        try dsimp only
        refine own_st (T' := T24) (g' := (mkF m 87 #[.val (.int p1), .val (.int p2), .val (.int p3), .val (.int p4), .val (.int p5), .val (.ref cc), .val (.int ov), .val (.int oc), .val (.double (FP.i2d p4)), .second, .val (.double (FP.i2d oc)), .second, .unset] [])) (fun _ kt => XS.istore X24.here hx rfl (hb hby at_42) rfl (l' := #[.val (.int p1), .val (.int p2), .val (.int p3), .val (.int p4), .val (.int p5), .val (.ref cc), .val (.int ov), .val (.int oc), .unset, .unset, .unset, .unset, .unset]) rfl (XS.iloadN X24.here hx rfl (hb hby at_44) rfl (XS.i2dS X24.here hx rfl (hb hby at_45) rfl rfl (XS.dstore X24.here hx rfl (hb hby at_46) rfl (l' := #[.val (.int p1), .val (.int p2), .val (.int p3), .val (.int p4), .val (.int p5), .val (.ref cc), .val (.int ov), .val (.int oc), .val (.double (FP.i2d p4)), .second, .unset, .unset, .unset]) rfl (XS.iload X24.here hx rfl (hb hby at_48) rfl (XS.i2dS X24.here hx rfl (hb hby at_50) rfl rfl (XS.dstore X24.here hx rfl (hb hby at_51) rfl (l' := #[.val (.int p1), .val (.int p2), .val (.int p3), .val (.int p4), .val (.int p5), .val (.ref cc), .val (.int ov), .val (.int oc), .val (.double (FP.i2d p4)), .second, .val (.double (FP.i2d oc)), .second, .unset]) rfl (XS.iloadN X24.here hx rfl (hb hby at_53) rfl (XS.iconst X24.here hx rfl (hb hby at_54) (XS.iand X24.here hx rfl (hb hby at_55) rfl (XS.ifYes X24.here hx rfl (pc0 := 56) (pc' := 87) rfl (hb hby at_56) rfl (XT.i0_ne_t hc11) (by decide) (by decide) kt))))))))))) ?_
        refine own_join (α := Int32) (gj := fun q => (mkF m 112 #[.val (.int p1), .val (.int p2), .val (.int p3), .val (.int p4), .val (.int p5), .val (.ref cc), .val (.int ov), .val (.int oc), .val (.double (FP.i2d p4)), .second, .val (.double (FP.i2d oc)), .second, .val (.int q)] [])) (P := fun q => q = own_bet2 p2 p4 ov oc) ?_ (fun J27 => ?_)
        · rintro ex hj27
          try dsimp only at hj27 ⊢
          refine own_st (T' := T24) (g' := (mkF m 121 #[.val (.int p1), .val (.int p2), .val (.int p3), .val (.int p4), .val (.int p5), .val (.ref cc), .val (.int ov), .val (.int oc), .val (.double (FP.i2d p4)), .second, .val (.double (FP.i2d oc)), .second, .val (.int ex)] [(.double (FP.i2d oc)), (.int ov), (.double (FP.i2d p4)), (.int p2), (.ref cc)])) (fun _ kt => XS.aload X24.here hx rfl (hb hby at_112) rfl rfl (XS.iloadN X24.here hx rfl (hb hby at_114) rfl (XS.dload X24.here hx rfl (hb hby at_115) rfl (XS.iload X24.here hx rfl (hb hby at_117) rfl (XS.dload X24.here hx rfl (hb hby at_119) rfl kt))))) ?_
          obtain ⟨cq29, kq29, qa29, qb29, qc29⟩ := isOf hZ e24 pr5
          obtain ⟨_, _, ⟨T28, L28, k28, n28⟩, -, X28, ⟨Lc28, hQ28, l28, y28, z28⟩, st28⟩ := X24.virtualBack hx (y := (⟨"com/example/tourwerk/tourwerk/problem/Objective", "better", "(IDID)Z"⟩ : MethodName)) (z := (⟨"com/example/tourwerk/tourwerk/problem/Objective", "better", "(IDID)Z"⟩ : MethodName)) hown (mvT hZ (own_k hw 3 rfl)) (mvT hZ (own_k hw 4 rfl)) (notFace_of_selects (args := #[]) (mvT hZ (own_k hw 6 rfl))) (mvT hZ (own_k hw 6 rfl)) (mvT hZ (own_k hw 5 rfl)) (by decide) (backOf (W := 0) (own_rC l Z a0 hw [] vv cc p2 p4 ov oc h0 n0 Z0 pr1 pr2 pr6) hZ (own_k hw 7 rfl) (own_k hw 1 rfl) (by decide) (by decide)) qa29 qc29 (g := (mkF m 121 #[.val (.int p1), .val (.int p2), .val (.int p3), .val (.int p4), .val (.int p5), .val (.ref cc), .val (.int ov), .val (.int oc), .val (.double (FP.i2d p4)), .second, .val (.double (FP.i2d oc)), .second, .val (.int ex)] [(.double (FP.i2d oc)), (.int ov), (.double (FP.i2d p4)), (.int p2), (.ref cc)])) rfl hml.symm (Steps.refl _) (argsL := [(.int p2), (.double (FP.i2d p4)), (.int ov), (.double (FP.i2d oc))]) (rest := []) (lenOf own_pd1 rfl) rfl (by show 2 * 0 + _ ≤ _; exact Nat.le_of_eq rfl) (hb hby at_121) (fun _ _ => ⟨rfl, e24, (by decide : 0 + 0 ≤ 0), (by decide : 0 + 0 ≤ 0)⟩)
          dsimp only [Pt.U, Pt.locs, Pt.cells, Pt.slots] at X28 l28 y28 z28 st28 hQ28
          subst l28 y28 z28
          obtain ⟨rfl, N28, e28⟩ := hQ28
          have N30 := Fr.app N0 N28
          refine own_tr (T' := T28) (g' := (mkF m 124 #[.val (.int p1), .val (.int p2), .val (.int p3), .val (.int p4), .val (.int p5), .val (.ref cc), .val (.int ov), .val (.int oc), .val (.double (FP.i2d p4)), .second, .val (.double (FP.i2d oc)), .second, .val (.int ex)] [(.int (own_bet2 p2 p4 ov oc))])) st28 ?_
          refine own_st (T' := T28) (g' := (mkF m 134 #[.val (.int p1), .val (.int p2), .val (.int p3), .val (.int p4), .val (.int p5), .val (.ref cc), .val (.int ov), .val (.int oc), .val (.double (FP.i2d p4)), .second, .val (.double (FP.i2d oc)), .second, .val (.int ex)] [(.int (1 : Int32))])) (fun _ kt => XS.iload X28.here hx rfl (hb hby at_124) rfl (XS.icmpNo X28.here hx rfl (hb hby at_126) rfl (XT.ii_ne_f hj27.symm) (XS.iconst X28.here hx rfl (hb hby at_129) (XS.goto X28.here hx rfl (pc0 := 130) (pc' := 134) rfl (hb hby at_130) (by decide) (by decide) kt)))) ?_
          obtain ⟨fs, hr, hrun, hended, hW, hsame⟩ := X28.leave (v := some (.int (1 : Int32))) (fun h => by rw [Bd.returns] at h; cases h)
          refine own_end (retN X28 hx (t := .boolean) Bd.returns (by simp) (hb hby at_134) hr) ⟨_, hrun, hended, _, _, rfl, ?_, ⟨_, rfl⟩, hW, hsame.mono (by decide) (by decide)⟩
          show own_lawQ Z p1 p2 p3 p4 p5 vv cc h0 n0 _ T28.heap _
          rw [e28]
          exact ⟨rfl, N30⟩
        ·
          refine own_st (T' := T24) (g' := (mkF m 90 #[.val (.int p1), .val (.int p2), .val (.int p3), .val (.int p4), .val (.int p5), .val (.ref cc), .val (.int ov), .val (.int oc), .val (.double (FP.i2d p4)), .second, .val (.double (FP.i2d oc)), .second, .unset] [(.int oc), (.int p4)])) (fun _ kt => XS.iloadN X24.here hx rfl (hb hby at_87) rfl (XS.iload X24.here hx rfl (hb hby at_88) rfl kt)) ?_
          by_cases hc31 : p4 < oc
          · -- pc 90: p4 < oc
            refine own_st (T' := T24) (g' := (mkF m 112 #[.val (.int p1), .val (.int p2), .val (.int p3), .val (.int p4), .val (.int p5), .val (.ref cc), .val (.int ov), .val (.int oc), .val (.double (FP.i2d p4)), .second, .val (.double (FP.i2d oc)), .second, .val (.int (1 : Int32))] [])) (fun _ kt => XS.icmpYes X24.here hx rfl (pc0 := 90) (pc' := 105) rfl (hb hby at_90) rfl (XT.ii_lt_t hc31) (by decide) (by decide) (XS.iconst X24.here hx rfl (hb hby at_105) (XS.goto X24.here hx rfl (pc0 := 106) (pc' := 110) rfl (hb hby at_106) (by decide) (by decide) (XS.istore X24.here hx rfl (hb hby at_110) rfl (l' := #[.val (.int p1), .val (.int p2), .val (.int p3), .val (.int p4), .val (.int p5), .val (.ref cc), .val (.int ov), .val (.int oc), .val (.double (FP.i2d p4)), .second, .val (.double (FP.i2d oc)), .second, .val (.int (1 : Int32))]) rfl kt)))) ?_
            exact J27 (1 : Int32) (own_b2t (by revert hc31; simp only [Int32.lt_iff_toInt_lt, Int64.lt_iff_toInt_lt, ← Int32.toInt_inj, ← Int64.toInt_inj, Int32.toInt_toInt64]; intros; omega))
          · -- pc 90: not p4 < oc
            refine own_st (T' := T24) (g' := (mkF m 96 #[.val (.int p1), .val (.int p2), .val (.int p3), .val (.int p4), .val (.int p5), .val (.ref cc), .val (.int ov), .val (.int oc), .val (.double (FP.i2d p4)), .second, .val (.double (FP.i2d oc)), .second, .unset] [(.int oc), (.int p4)])) (fun _ kt => XS.icmpNo X24.here hx rfl (hb hby at_90) rfl (XT.ii_lt_f hc31) (XS.iloadN X24.here hx rfl (hb hby at_93) rfl (XS.iload X24.here hx rfl (hb hby at_94) rfl kt))) ?_
            by_cases hc32 : p4 = oc
            · -- pc 96: p4 = oc
              refine own_st (T' := T24) (g' := (mkF m 102 #[.val (.int p1), .val (.int p2), .val (.int p3), .val (.int p4), .val (.int p5), .val (.ref cc), .val (.int ov), .val (.int oc), .val (.double (FP.i2d p4)), .second, .val (.double (FP.i2d oc)), .second, .unset] [(.int ov), (.int p2)])) (fun _ kt => XS.icmpNo X24.here hx rfl (hb hby at_96) rfl (XT.ii_ne_f hc32) (XS.iloadN X24.here hx rfl (hb hby at_99) rfl (XS.iload X24.here hx rfl (hb hby at_100) rfl kt))) ?_
              by_cases hc33 : p2 < ov
              · -- pc 102: p2 < ov
                refine own_st (T' := T24) (g' := (mkF m 112 #[.val (.int p1), .val (.int p2), .val (.int p3), .val (.int p4), .val (.int p5), .val (.ref cc), .val (.int ov), .val (.int oc), .val (.double (FP.i2d p4)), .second, .val (.double (FP.i2d oc)), .second, .val (.int (1 : Int32))] [])) (fun _ kt => XS.icmpNo X24.here hx rfl (hb hby at_102) rfl (XT.ii_ge_f hc33) (XS.iconst X24.here hx rfl (hb hby at_105) (XS.goto X24.here hx rfl (pc0 := 106) (pc' := 110) rfl (hb hby at_106) (by decide) (by decide) (XS.istore X24.here hx rfl (hb hby at_110) rfl (l' := #[.val (.int p1), .val (.int p2), .val (.int p3), .val (.int p4), .val (.int p5), .val (.ref cc), .val (.int ov), .val (.int oc), .val (.double (FP.i2d p4)), .second, .val (.double (FP.i2d oc)), .second, .val (.int (1 : Int32))]) rfl kt)))) ?_
                exact J27 (1 : Int32) (own_b2t (by revert hc31 hc32 hc33; simp only [Int32.lt_iff_toInt_lt, Int64.lt_iff_toInt_lt, ← Int32.toInt_inj, ← Int64.toInt_inj, Int32.toInt_toInt64]; intros; omega))
              · -- pc 102: not p2 < ov
                refine own_st (T' := T24) (g' := (mkF m 112 #[.val (.int p1), .val (.int p2), .val (.int p3), .val (.int p4), .val (.int p5), .val (.ref cc), .val (.int ov), .val (.int oc), .val (.double (FP.i2d p4)), .second, .val (.double (FP.i2d oc)), .second, .val (.int (0 : Int32))] [])) (fun _ kt => XS.icmpYes X24.here hx rfl (pc0 := 102) (pc' := 109) rfl (hb hby at_102) rfl (XT.ii_ge_t hc33) (by decide) (by decide) (XS.iconst X24.here hx rfl (hb hby at_109) (XS.istore X24.here hx rfl (hb hby at_110) rfl (l' := #[.val (.int p1), .val (.int p2), .val (.int p3), .val (.int p4), .val (.int p5), .val (.ref cc), .val (.int ov), .val (.int oc), .val (.double (FP.i2d p4)), .second, .val (.double (FP.i2d oc)), .second, .val (.int (0 : Int32))]) rfl kt))) ?_
                exact J27 (0 : Int32) (own_b2f (by revert hc31 hc32 hc33; simp only [Int32.lt_iff_toInt_lt, Int64.lt_iff_toInt_lt, ← Int32.toInt_inj, ← Int64.toInt_inj, Int32.toInt_toInt64]; intros; omega))
            · -- pc 96: not p4 = oc
              refine own_st (T' := T24) (g' := (mkF m 112 #[.val (.int p1), .val (.int p2), .val (.int p3), .val (.int p4), .val (.int p5), .val (.ref cc), .val (.int ov), .val (.int oc), .val (.double (FP.i2d p4)), .second, .val (.double (FP.i2d oc)), .second, .val (.int (0 : Int32))] [])) (fun _ kt => XS.icmpYes X24.here hx rfl (pc0 := 96) (pc' := 109) rfl (hb hby at_96) rfl (XT.ii_ne_t hc32) (by decide) (by decide) (XS.iconst X24.here hx rfl (hb hby at_109) (XS.istore X24.here hx rfl (hb hby at_110) rfl (l' := #[.val (.int p1), .val (.int p2), .val (.int p3), .val (.int p4), .val (.int p5), .val (.ref cc), .val (.int ov), .val (.int oc), .val (.double (FP.i2d p4)), .second, .val (.double (FP.i2d oc)), .second, .val (.int (0 : Int32))]) rfl kt))) ?_
              exact J27 (0 : Int32) (own_b2f (by revert hc31 hc32; simp only [Int32.lt_iff_toInt_lt, Int64.lt_iff_toInt_lt, ← Int32.toInt_inj, ← Int64.toInt_inj, Int32.toInt_toInt64]; intros; omega))
      ·
        refine own_st (T' := T24) (g' := (mkF m 33 #[.val (.int p1), .val (.int p2), .val (.int p3), .val (.int p4), .val (.int p5), .val (.ref cc), .val (.int ov), .unset, .unset, .unset, .unset, .unset, .unset] [(.int (p1 &&& (4 : Int32)))])) (fun _ kt => XS.iloadN X24.here hx rfl (hb hby at_30) rfl (XS.iconst X24.here hx rfl (hb hby at_31) (XS.iand X24.here hx rfl (hb hby at_32) rfl kt))) ?_
        by_cases hc34 : (p1 &&& (4 : Int32)) = 0
        · -- pc 33: (p1 &&& (4 : Int32)) = 0
          refine own_st (T' := T24) (g' := (mkF m 42 #[.val (.int p1), .val (.int p2), .val (.int p3), .val (.int p4), .val (.int p5), .val (.ref cc), .val (.int ov), .unset, .unset, .unset, .unset, .unset, .unset] [(.int p5)])) (fun _ kt => XS.ifYes X24.here hx rfl (pc0 := 33) (pc' := 40) rfl (hb hby at_33) rfl (XT.i0_eq_t hc34) (by decide) (by decide) (XS.iload X24.here hx rfl (hb hby at_40) rfl kt)) ?_
          exact J26 p5 trivial
        · -- pc 33: not (p1 &&& (4 : Int32)) = 0
          refine own_st (T' := T24) (g' := (mkF m 42 #[.val (.int p1), .val (.int p2), .val (.int p3), .val (.int p4), .val (.int p5), .val (.ref cc), .val (.int ov), .unset, .unset, .unset, .unset, .unset, .unset] [(.int p4)])) (fun _ kt => XS.ifNo X24.here hx rfl (hb hby at_33) rfl (XT.i0_eq_f hc34) (XS.iloadN X24.here hx rfl (hb hby at_36) rfl (XS.goto X24.here hx rfl (pc0 := 37) (pc' := 42) rfl (hb hby at_37) (by decide) (by decide) kt))) ?_
          exact J26 p4 trivial
    ·
      refine own_st (T' := T24) (g' := (mkF m 20 #[.val (.int p1), .val (.int p2), .val (.int p3), .val (.int p4), .val (.int p5), .val (.ref cc), .unset, .unset, .unset, .unset, .unset, .unset, .unset] [(.int (p1 &&& (2 : Int32)))])) (fun _ kt => XS.iloadN X24.here hx rfl (hb hby at_17) rfl (XS.iconst X24.here hx rfl (hb hby at_18) (XS.iand X24.here hx rfl (hb hby at_19) rfl kt))) ?_
      by_cases hc35 : (p1 &&& (2 : Int32)) = 0
      · -- pc 20: (p1 &&& (2 : Int32)) = 0
        refine own_st (T' := T24) (g' := (mkF m 28 #[.val (.int p1), .val (.int p2), .val (.int p3), .val (.int p4), .val (.int p5), .val (.ref cc), .unset, .unset, .unset, .unset, .unset, .unset, .unset] [(.int p3)])) (fun _ kt => XS.ifYes X24.here hx rfl (pc0 := 20) (pc' := 27) rfl (hb hby at_20) rfl (XT.i0_eq_t hc35) (by decide) (by decide) (XS.iloadN X24.here hx rfl (hb hby at_27) rfl kt)) ?_
        exact J25 p3 trivial
      · -- pc 20: not (p1 &&& (2 : Int32)) = 0
        refine own_st (T' := T24) (g' := (mkF m 28 #[.val (.int p1), .val (.int p2), .val (.int p3), .val (.int p4), .val (.int p5), .val (.ref cc), .unset, .unset, .unset, .unset, .unset, .unset, .unset] [(.int p2)])) (fun _ kt => XS.ifNo X24.here hx rfl (hb hby at_20) rfl (XT.i0_eq_f hc35) (XS.iloadN X24.here hx rfl (hb hby at_23) rfl (XS.goto X24.here hx rfl (pc0 := 24) (pc' := 28) rfl (hb hby at_24) (by decide) (by decide) kt))) ?_
        exact J25 p2 trivial
set_option maxRecDepth 65536 in
set_option maxHeartbeats 40000000 in
theorem comes_1 {Post : Tables → Env → Array Value → State → Outcome → State → Prop} (hpost : ∀ tb e args s v u, (limb_1_1.after args s (.returned v) u = true ∧ limb_1_2.after args s (.returned v) u = true ∧ True) → FrameEnd s (.returned v) u (Jvm.fieldLocs frame_1_writes args s ++ Jvm.arrayLocs frame_1_arrays args s ++ Jvm.staticLocs frame_1_statics s) 0 0 → Post tb e args s (.returned v) u) :
    ArmFor flags0 classFile x code maxLocals ret World_1 tables_1 room_1 Calls_1 rest_1 Pre_1 Post := by
  intro l hfl _ _ p e ha hc hk s m args below hf hA hF happ hP
  obtain ⟨hcalls, hrest, hpre⟩ := hP
  obtain ⟨-, -, -, hnamed, -, -, -, hat⟩ := (Spec.applies_iff hf).mp happ
  obtain ⟨hg, hn⟩ := and_e (Cond.before_iff.mp (show (Jvm.Cond.and given_1 narrow_1).before args s = true from hpre))
  obtain ⟨g0, hg⟩ := and_e hg
  obtain ⟨g1, hg⟩ := and_e hg
  obtain ⟨g2, hg⟩ := and_e hg
  obtain ⟨g3, hg⟩ := and_e hg
  obtain ⟨g4, hg⟩ := and_e hg
  obtain ⟨w0, w1, w2, w3, w4, rfl⟩ : ∃ w0 w1 w2 w3 w4 : Value, args = #[w0, w1, w2, w3, w4] := by
    have hs : args.size = 5 := by simpa [Cond.value, given_1] using g0
    obtain ⟨L⟩ := args
    match L, hs with
    | [w0, w1, w2, w3, w4], _ => exact ⟨w0, w1, w2, w3, w4, rfl⟩
  have hw := fun d (hd : d ∈ tables_1) => atoms_spec (ws := Jvm.Cond.code x code maxLocals ret :: tables_1) hat d (List.mem_cons_of_mem _ hd)
  have hfit : Fit s := fun {y c} hc i hi => by
    obtain ⟨ha, rfl⟩ := Array.getElem?_eq_some_iff.mp hc
    have q := List.all_eq_true.mp ((Array.all_eq_true_iff_forall_mem.mp hF) _ (Array.getElem_mem ha)) i (List.mem_range.mpr hi)
    simpa [Array.getElem?_eq_getElem hi] using q
  obtain ⟨i0, e0⟩ := is_v g1
  obtain rfl : w0 = (.int i0) := Option.some.inj e0
  obtain ⟨i1, e1⟩ := is_v g2
  obtain rfl : w1 = (.int i1) := Option.some.inj e1
  obtain ⟨i2, e2⟩ := is_v g3
  obtain rfl : w2 = (.int i2) := Option.some.inj e2
  obtain ⟨i3, e3⟩ := is_v g4
  obtain rfl : w3 = (.int i3) := Option.some.inj e3
  obtain ⟨i4, e4⟩ := is_v hg
  obtain rfl : w4 = (.int i4) := Option.some.inj e4
  obtain ⟨y1, hn⟩ := and_e hn
  obtain ⟨y2, hn⟩ := and_e hn
  obtain ⟨y3, y4⟩ := and_e hn
  obtain ⟨vv, ev⟩ := exa_v y1
  obtain ⟨cc, ec⟩ := exa_v y2
  have S1 : Sta s s.heap "com/example/tourwerk/tourwerk/problem/Objective" "VEHICLES_THEN_COST" "Lcom/example/tourwerk/tourwerk/problem/Objective;" (.ref vv) := Sta.start ev (Or.inr ⟨hw _ (List.mem_of_getElem? (i := 1) rfl), hw _ (List.mem_of_getElem? (i := 2) rfl)⟩)
  have S2 : Sta s s.heap "com/example/tourwerk/tourwerk/problem/Objective" "COST" "Lcom/example/tourwerk/tourwerk/problem/Objective;" (.ref cc) := Sta.start ec (Or.inr ⟨hw _ (List.mem_of_getElem? (i := 1) rfl), hw _ (List.mem_of_getElem? (i := 10) rfl)⟩)
  have E1 := Exa.start ev y1
  have E2 := Exa.start ec y2
  have ne : cc ≠ vv := by
    rintro rfl
    have f3 := fld_at (C := "java/lang/Enum") (n := "ordinal") (dd := "I") ec
    have f4 := fld_at (C := "java/lang/Enum") (n := "ordinal") (dd := "I") ev
    obtain ⟨x1, x2, q1, q2, -, -⟩ := cmp_v (Or.inl y3)
    have r1 := own_eqv y3 q1
    have r2 := own_eqv y4 (f4.trans (f3.symm.trans q1))
    rw [r1] at r2
    exact absurd r2 (by decide)
  obtain ⟨n, o, h1, h2, h3, _, L, rfl, ⟨rfl, N⟩, hq⟩ := own_law l s _ hw tables_1 i0 i1 i2 i3 i4 vv cc s.heap s.heap.size (Nat.le_refl _) (Old.start s) S1 S2 E1 E2 ne p e ha hc hk s m _ below hf ((Spec.applies_iff_loose hf).mp happ).1 ⟨rfl, State.Warmed39.refl s, rfl⟩ trivial
  refine ⟨n, _, h1, h2, h3, hpost _ _ _ _ _ _ ⟨Cond.after_iff.mpr rfl, Cond.after_iff.mpr (eq_i res_at (Term.int_eval (1)) rfl), trivial⟩ ⟨hq.1, hq.2.1, (hq.2.2.sift fun y hy => Or.inr (N y hy)).mono (by decide) (by decide)⟩⟩
theorem main_1_1 : Claimed_1_1 := comes_1 fun _ _ _ _ _ _ h hF => ⟨h.1, hF⟩
theorem main_1_2 : Claimed_1_2 := comes_1 fun _ _ _ _ _ _ h hF => ⟨h.2.1, hF⟩
end Jvm.Pilot.@@N@@
namespace Jvm.Pilot.@@N@@
open Jvm Jvm.ClassFile Sem Op Lib Jvm.Free Jvm.Stand Jvm.Pilot.@@N@@.Jvm.D
/-! MADE BY PROGRAM (witnessworld.py) out of the Statement's table words and the real class files: 12 classes; the members and pool entries that the words name. The judged class is class 1, her method 1. -/
namespace start1
open Jvm.ClassFile
def u (s : String) : CpInfo := .utf8 (stringToUtf16 s)
/-- a pool by its gaps: so many unusable entries, then the entry; so many at the end -/
def gap : Nat → List CpInfo → List CpInfo
  | 0, r => r
  | n + 1, r => .unusable :: gap n r
def poolList (es : List (Nat × CpInfo)) (last : Nat) : List CpInfo := es.foldr (fun e r => gap e.1 (e.2 :: r)) (gap last [])
def pool (es : List (Nat × CpInfo)) (last : Nat) : Array CpInfo := ⟨poolList es last⟩
def fileOf (pool : Array CpInfo) (this : Nat) (attrs : Array Attribute := #[]) (ms : Array MethodInfo := #[]) (fl : Nat := 33) (sup : Nat := 0) (ifs : Array Nat := #[]) (fds : Array FieldInfo := #[]) : ClassFile where
  minorVersion := 0
  majorVersion := 65
  constantPool := pool
  accessFlags := fl
  thisClass := this
  superClass := sup
  interfaces := ifs
  fields := fds
  methods := ms
  attributes := attrs
def plain (name : String) (sup : Option ClassId) : Class where
  name := name
  kind := .ordinary
  loader := none
  accessFlags := 33
  super := sup
  interfaces := #[]
  cf := none
  fields := #[]
  methods := #[]
  instanceTypes := #[]
  staticTypes := #[]
  resolved := #[]
  callSites := []
  init := .initialized
  statics := none
  mirror := none

def pool0 : Array CpInfo := pool [(5, u "<init>"), (0, u "()V"), (1, .class_ 10), (1, u "java/lang/Object")] 113

def k0m0 : Method := { name := "<init>", desc := "()V", sig := { parameters := [], returnType := none }, accessFlags := 1, code := none }
/-- java/lang/Object -/
def k0 : Class := { plain "java/lang/Object" none with
  accessFlags := 33
  interfaces := #[]
  cf := some (fileOf pool0 8 #[] #[{ accessFlags := 1, nameIndex := 5, descriptorIndex := 6, attributes := #[] }] 33 0 #[] #[])
  fields := #[]
  methods := #[k0m0]
  instanceTypes := #[]
  staticTypes := #[]
  resolved := Array.replicate 124 none
  statics := none }

def pool1 : Array CpInfo := pool [(2, .class_ 4), (1, u "java/lang/Object"), (0, u "<init>"), (0, u "()V"), (0, .fieldref 8 9), (0, .class_ 10), (0, .nameAndType 11 12), (0, u "com/example/tourwerk/tourwerk/problem/Objective"), (0, u "VEHICLES_THEN_COST"), (0, u "Lcom/example/tourwerk/tourwerk/problem/Objective;"), (0, .fieldref 8 14), (0, .nameAndType 15 12), (0, u "COST"), (0, .methodref 8 17), (0, .nameAndType 18 19), (0, u "better"), (0, u "(IDID)Z"), (0, .class_ 21), (0, u "com/example/tourwerk/tourwerk/problem/ObjectiveBetterPinLaw"), (2, u "law"), (0, u "(IIIII)Z")] 3

def k1m0 : Method := { name := "<init>", desc := "()V", sig := { parameters := [], returnType := none }, accessFlags := 1, code := none }
def k1c1 : Code := { maxStack := 7, maxLocals := 13, code := code, exceptionTable := #[], attributes := #[] }
def k1m1 : Method := { name := "law", desc := "(IIIII)Z", sig := { parameters := [.int, .int, .int, .int, .int], returnType := some .boolean }, accessFlags := 9, code := some k1c1 }
/-- com/example/tourwerk/tourwerk/problem/ObjectiveBetterPinLaw -/
def k1 : Class := { plain "com/example/tourwerk/tourwerk/problem/ObjectiveBetterPinLaw" (some 0) with
  accessFlags := 49
  interfaces := #[]
  cf := some (fileOf pool1 20 #[] #[{ accessFlags := 1, nameIndex := 5, descriptorIndex := 6, attributes := #[] }, { accessFlags := 9, nameIndex := 24, descriptorIndex := 25, attributes := #[] }] 49 2 #[] #[])
  fields := #[]
  methods := #[k1m0, k1m1]
  instanceTypes := #[]
  staticTypes := #[]
  resolved := Array.replicate 29 none
  statics := none }

def pool2 : Array CpInfo := pool [(1, .class_ 2), (0, u "java/lang/constant/Constable"), (0, .class_ 4), (0, u "java/lang/Object")] 6

/-- java/lang/constant/Constable -/
def k2 : Class := { plain "java/lang/constant/Constable" (some 0) with
  accessFlags := 1537
  interfaces := #[]
  cf := some (fileOf pool2 1 #[] #[] 1537 3 #[] #[])
  fields := #[]
  methods := #[]
  instanceTypes := #[]
  staticTypes := #[]
  resolved := Array.replicate 11 none
  statics := none }

def pool3 : Array CpInfo := pool [(1, .class_ 2), (0, u "java/lang/Comparable"), (0, .class_ 4), (0, u "java/lang/Object")] 7

/-- java/lang/Comparable -/
def k3 : Class := { plain "java/lang/Comparable" (some 0) with
  accessFlags := 1537
  interfaces := #[]
  cf := some (fileOf pool3 1 #[] #[] 1537 3 #[] #[])
  fields := #[]
  methods := #[]
  instanceTypes := #[]
  staticTypes := #[]
  resolved := Array.replicate 12 none
  statics := none }

def pool4 : Array CpInfo := pool [(1, .class_ 2), (0, u "java/io/Serializable"), (0, .class_ 4), (0, u "java/lang/Object")] 2

/-- java/io/Serializable -/
def k4 : Class := { plain "java/io/Serializable" (some 0) with
  accessFlags := 1537
  interfaces := #[]
  cf := some (fileOf pool4 1 #[] #[] 1537 3 #[] #[])
  fields := #[]
  methods := #[]
  instanceTypes := #[]
  staticTypes := #[]
  resolved := Array.replicate 7 none
  statics := none }

def pool5 : Array CpInfo := pool [(2, .class_ 4), (1, u "java/lang/Enum"), (0, u "name"), (0, u "Ljava/lang/String;"), (2, u "ordinal"), (0, u "I"), (1, .class_ 14), (1, u "java/lang/Object"), (4, u "hash"), (86, .class_ 108), (1, u "java/lang/Enum$EnumDesc"), (2, .class_ 112), (0, u "java/lang/constant/Constable"), (0, .class_ 114), (0, u "java/lang/Comparable"), (0, .class_ 116), (0, u "java/io/Serializable")] 87

/-- java/lang/Enum -/
def k5 : Class := { plain "java/lang/Enum" (some 0) with
  accessFlags := 1057
  interfaces := #[2, 3, 4]
  cf := some (fileOf pool5 2 #[.nestMembers #[106]] #[] 1057 12 #[111, 113, 115] #[{ accessFlags := 18, nameIndex := 5, descriptorIndex := 6, attributes := #[] }, { accessFlags := 18, nameIndex := 9, descriptorIndex := 10, attributes := #[] }, { accessFlags := 2, nameIndex := 19, descriptorIndex := 10, attributes := #[] }])
  fields := #[{ name := "name", type := (.object "java/lang/String"), accessFlags := 18, slot := 0, constantValue := 0 }, { name := "ordinal", type := .int, accessFlags := 18, slot := 1, constantValue := 0 }, { name := "hash", type := .int, accessFlags := 2, slot := 2, constantValue := 0 }]
  methods := #[]
  instanceTypes := #[(.object "java/lang/String"), .int, .int]
  staticTypes := #[]
  resolved := Array.replicate 204 none
  statics := none }

def pool6 : Array CpInfo := pool [(1, .class_ 2), (0, u "com/example/tourwerk/tourwerk/problem/Objective"), (0, .fieldref 1 4), (0, .nameAndType 5 6), (0, u "VEHICLES_THEN_COST"), (0, u "Lcom/example/tourwerk/tourwerk/problem/Objective;"), (2, u "COST"), (2, u "$VALUES"), (0, u "[Lcom/example/tourwerk/tourwerk/problem/Objective;"), (6, .class_ 22), (1, u "java/lang/Enum"), (8, u "_label"), (0, u "Ljava/lang/String;"), (51, u "better"), (0, u "(IDID)Z")] 28

def k6c0 : Code := { maxStack := 4, maxLocals := 7, code := prog_17_method_6_code, exceptionTable := #[], attributes := #[] }
def k6m0 : Method := { name := "better", desc := "(IDID)Z", sig := { parameters := [.int, .double, .int, .double], returnType := some .boolean }, accessFlags := 1, code := some k6c0 }
/-- com/example/tourwerk/tourwerk/problem/Objective -/
def k6 : Class := { plain "com/example/tourwerk/tourwerk/problem/Objective" (some 5) with
  accessFlags := 16433
  interfaces := #[]
  cf := some (fileOf pool6 1 #[] #[{ accessFlags := 1, nameIndex := 84, descriptorIndex := 85, attributes := #[] }] 16433 20 #[] #[{ accessFlags := 16409, nameIndex := 5, descriptorIndex := 6, attributes := #[] }, { accessFlags := 16409, nameIndex := 9, descriptorIndex := 6, attributes := #[] }, { accessFlags := 18, nameIndex := 31, descriptorIndex := 32, attributes := #[] }, { accessFlags := 4122, nameIndex := 12, descriptorIndex := 13, attributes := #[] }])
  fields := #[{ name := "VEHICLES_THEN_COST", type := (.object "com/example/tourwerk/tourwerk/problem/Objective"), accessFlags := 16409, slot := 0, constantValue := 0 }, { name := "COST", type := (.object "com/example/tourwerk/tourwerk/problem/Objective"), accessFlags := 16409, slot := 1, constantValue := 0 }, { name := "_label", type := (.object "java/lang/String"), accessFlags := 18, slot := 3, constantValue := 0 }, { name := "$VALUES", type := (.array (.object "com/example/tourwerk/tourwerk/problem/Objective")), accessFlags := 4122, slot := 2, constantValue := 0 }]
  methods := #[k6m0]
  instanceTypes := #[(.object "java/lang/String"), .int, .int, (.object "java/lang/String")]
  staticTypes := #[(.object "com/example/tourwerk/tourwerk/problem/Objective"), (.object "com/example/tourwerk/tourwerk/problem/Objective"), (.array (.object "com/example/tourwerk/tourwerk/problem/Objective"))]
  resolved := Array.replicate 114 none
  statics := some 0 }

def pool7 : Array CpInfo := pool [(1, u "java/lang/Cloneable"), (0, .class_ 1), (0, u "java/lang/Object"), (0, .class_ 3)] 3

/-- java/lang/Cloneable -/
def k7 : Class := { plain "java/lang/Cloneable" (some 0) with
  accessFlags := 1537
  interfaces := #[]
  cf := some (fileOf pool7 2 #[] #[] 1537 4 #[] #[])
  fields := #[]
  methods := #[]
  instanceTypes := #[]
  staticTypes := #[]
  resolved := Array.replicate 8 none
  statics := none }

/-- the primitive byte -/
def k8 : Class := { plain "byte" none with kind := .primitive 'B', accessFlags := 0x411 }
/-- [B -/
def k9 : Class := { plain "[B" (some 0) with kind := .array 8 .byte, interfaces := #[7, 4], accessFlags := 1041 }

/-- the primitive int -/
def k10 : Class := { plain "int" none with kind := .primitive 'I', accessFlags := 0x411 }
/-- [I -/
def k11 : Class := { plain "[I" (some 0) with kind := .array 10 .int, interfaces := #[7, 4], accessFlags := 1041 }

def heap : Heap := #[{ cls := 6, slots := #[.ref 1, .ref 2, .null], vm := .statics 6 },
  { cls := 6, slots := #[.null, .int 0, .int 0, .null], vm := .none },
  { cls := 6, slots := #[.null, .int 1, .int 0, .null], vm := .none }]
def classes : Array Class := #[k0, k1, k2, k3, k4, k5, k6, k7, k8, k9, k10, k11]
def interned : List (Array UInt16 × Addr) := []
def slotsUsed : Nat := 11
def theMethod : MethodId := ⟨1, 1⟩
def args0 : Array Value := #[.int 5, .int 5, .int 5, .int 5, .int 5]
def aboutOver (below : List Frame) : State where
  vm := { classes := classes, interned := interned.toArray }
  heap := heap
  slotsUsed := slotsUsed
  threads := #[{ frames := .invoking theMethod args0 :: below }]
def below0 : List Frame := [.native { method := ⟨0, 0⟩, args := #[] }]
def about1 : State := aboutOver below0
def p0 : Program := .bare "" "" ""
def e0 : Env := launch0.env 0 0 0
theorem w_frames : about1.frames = Frame.invoking theMethod args0 :: below0 := rfl
set_option maxRecDepth 65536 in
theorem w_args : argsFit about1.vm theMethod args0 = true := by decide +kernel
set_option maxRecDepth 65536 in
theorem w_heap : heapFits about1 = true := by decide +kernel
set_option maxRecDepth 65536 in
theorem w_runnable : about1.curStatus? = some .runnable := by decide +kernel
set_option maxRecDepth 65536 in
theorem w_alone : about1.alone = true := by decide +kernel
set_option maxRecDepth 65536 in
theorem w_named : about1.methodNamed? x = some theMethod := by decide +kernel
set_option maxRecDepth 65536 in
theorem w_hears : about1.hears theMethod below0 = true := by decide +kernel
set_option maxRecDepth 65536 in
theorem w_ripe : about1.ripe theMethod args0 below0 = true := by decide +kernel
theorem w_running : about1.status = .running := rfl
set_option maxRecDepth 65536 in
theorem w_room : about1.hasRoom e0.platform room_1 = true :=
  launch0.hasRoom_least _ room_1 (by decide +kernel) (by decide +kernel) (by decide +kernel) (by decide +kernel) (by decide +kernel) (by decide +kernel)
theorem allAtoms_all (ts : List Jvm.Cond) (a : Array Jvm.Value) (st : Jvm.State) : (allAtoms ts).before a st = ts.all (fun c => c.before a st) := by
  induction ts with
  | nil => rfl
  | cons c t ih =>
    show (Jvm.Cond.and c (allAtoms t)).before a st = _
    rw [Jvm.Cond.before_and, ih, List.all_cons]
def words1 : List Jvm.Cond := Jvm.Cond.code x code maxLocals ret :: tables_1
/-- a 'code' word, met by the world's own term for the bytes: nothing is compared byte by byte -/
theorem code_word {y : MethodName} {bytes : ByteArray} {mx : Nat} {rt : Option FieldType} {a : Array Value} {s : State} {m : MethodId} {meth : Method} {c : Code} (h1 : s.methodNamed? y = some m) (h2 : s.vm.method? m = some meth) (h3 : meth.code = some c) (h4 : c.code = bytes)
    (h5 : (c.maxLocals == mx && c.exceptionTable.isEmpty && decide (c.maxStack ≤ mostOperands) && decide (meth.sig.returnType = rt) && !meth.locks && decide (parseMethodDescriptor y.desc = some meth.sig)) = true) : (Jvm.Cond.code y bytes mx rt).before a s = true := by
  simp only [Bool.and_eq_true, beq_iff_eq, Bool.not_eq_true', decide_eq_true_eq] at h5
  obtain ⟨⟨⟨⟨⟨g1, g2⟩, g3⟩, g4⟩, g5⟩, g6⟩ := h5
  simp [Cond.before, Cond.holds, Cond.value, h1, h2, h3, h4, g1, g2, g3, g4, g5, g6]
def isCode : Jvm.Cond → Bool
  | .code _ _ _ _ => true
  | _ => false
theorem all_split {L : List Jvm.Cond} {P : Jvm.Cond → Bool} (h1 : L.all (fun c => isCode c || P c) = true) (h2 : ∀ c ∈ L.filter isCode, P c = true) : L.all P = true := by
  refine List.all_eq_true.mpr fun c hc => ?_
  have h := List.all_eq_true.mp h1 c hc
  rcases Bool.eq_false_or_eq_true (isCode c) with hi | hi
  · exact h2 c (List.mem_filter.mpr ⟨hc, hi⟩)
  · simpa [hi] using h
set_option maxRecDepth 65536 in
theorem w_c0 : (Jvm.Cond.code x code maxLocals ret).before args0 about1 = true := code_word (m := ⟨1, 1⟩) (meth := k1m1) (c := k1c1) (by decide +kernel) rfl rfl rfl (by decide +kernel)
set_option maxRecDepth 65536 in
theorem w_c1 : (Jvm.Cond.code ({ cls := "com/example/tourwerk/tourwerk/problem/Objective", name := "better", desc := "(IDID)Z" } : Jvm.MethodName) prog_17_method_6_code (7 : Nat) (Option.some Jvm.ClassFile.FieldType.boolean)).before args0 about1 = true := code_word (m := ⟨6, 0⟩) (meth := k6m0) (c := k6c0) (by decide +kernel) rfl rfl rfl (by decide +kernel)
def codes1 : List Jvm.Cond := [Jvm.Cond.code x code maxLocals ret, Jvm.Cond.code ({ cls := "com/example/tourwerk/tourwerk/problem/Objective", name := "better", desc := "(IDID)Z" } : Jvm.MethodName) prog_17_method_6_code (7 : Nat) (Option.some Jvm.ClassFile.FieldType.boolean)]
set_option maxRecDepth 65536 in
theorem codes_eq : words1.filter isCode = codes1 := rfl
theorem w_codes : ∀ c ∈ words1.filter isCode, c.before args0 about1 = true := by
  rw [codes_eq]
  intro c hc
  simp only [codes1, List.mem_cons, List.not_mem_nil, or_false] at hc
  rcases hc with rfl | rfl
  · exact w_c0
  · exact w_c1
set_option maxRecDepth 65536 in
theorem w_t1 : words1.all (fun c => isCode c || c.before args0 about1) = true := by decide +kernel
theorem w_tables : (allAtoms (Jvm.Cond.code x code maxLocals ret :: tables_1)).before args0 about1 = true := by
  rw [allAtoms_all]
  show words1.all (fun c => c.before args0 about1) = true
  refine all_split ?_ w_codes
  rw [w_t1]
set_option maxRecDepth 65536 in
theorem w_case : (Jvm.Cond.and given_1 narrow_1).before args0 about1 = true := by decide +kernel
theorem w_applies : (headSpec (Jvm.Cond.code x code maxLocals ret :: tables_1) room_1).applies x e0.platform about1 = true :=
  (Spec.applies_iff w_frames).mpr ⟨w_running, w_runnable, w_alone, w_named, w_hears, w_ripe, w_room, w_tables⟩
theorem atStart : AtStart classFile x code maxLocals ret World_1 tables_1 room_1 Calls_1 rest_1 Pre_1 launch0 p0 e0 about1 theMethod args0 below0 :=
  ⟨lists_1, trivial, launch0.admits_env _ _ _, launch0.least_env, fairChoices_fair.cas, fairChoices_fair.clock, w_frames, w_args, w_heap, w_applies, trivial, trivial, w_case⟩
end start1
theorem witness_1 : WitnessClaimed_1 := ⟨start1.p0, start1.e0, start1.about1, start1.theMethod, start1.args0, start1.below0, start1.atStart⟩
end Jvm.Pilot.@@N@@
